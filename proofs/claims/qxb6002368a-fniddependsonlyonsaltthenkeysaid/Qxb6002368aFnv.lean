/-
  SEAT b6002368a. The hand-written FNV: zzNewFnv (10), (*zzFnv).Write (37), (*zzFnv).Sum (36).
-/
import Derived.Test.Qxb6002368aRec
namespace Go.Proofs.Qxb6002368a
open Go.RowKit

theorem newFnv (w : World) : Calls Try.prog 10 #[] w fun e w' => e = .returned (.iface 40 (.pointer (some ⟨w.heap.size, 0, none⟩))) ∧ w' = w.alloc (.cells #[.int .u64 14695981039346656037] 43) := by
  go_enter Try.func10, Try.ntmps10
  go_wp2
  go_ret
  exact ⟨rfl, rfl⟩

/-- One byte more. -/
def stepF (x : Int) (b : UInt8) : Int := IntKind.u64.wrap (bits BinOp.xor IntKind.u64 x (IntKind.u64.wrap b.toNat) * 1099511628211)
/-- The state x lies at block f. -/
def Fnv (f : Nat) (x : Int) (w : World) : Prop := w.heap[f]? = some (.cells #[.int .u64 x] 43 (0, 0))
theorem Fnv.set {f : Nat} {x : Int} {w : World} (h : Fnv f x w) (y : Int) : Fnv f y (w.setCell ⟨f, 0, none⟩ (.int .u64 y)) := by
  unfold Fnv at h ⊢
  simp [World.setCell, Array.getElem?_modify, h]
theorem Fnv.cell {f : Nat} {x : Int} {w : World} (h : Fnv f x w) : w.cell? ⟨f, 0, none⟩ = some (.int .u64 x) := by rw [Lib.cell_of_heap h]; rfl
theorem Fnv.frozen {f : Nat} {x : Int} {w : World} (h : Fnv f x w) : w.frozen? ⟨f, 0, none⟩ = false := Lib.frozen_of_heap h 0
theorem Fnv.later {f : Nat} {x : Int} {w w' : World} (h : Fnv f x w) (hb : w'.heap[f]? = w.heap[f]?) : Fnv f x w' := hb.trans h
theorem Src.set {f : Nat} {ad : Addr} {l : List UInt8} {w : World} (h : Src ad l w) (hne : ad.block ≠ f) (u : Value) : Src ad l (w.setCell ⟨f, 0, none⟩ u) := by
  intro j v hv
  have e : (ad.add j).block = ad.block := by unfold Addr.add; split <;> rfl
  rw [World.cell?_of_block (a := ad.add j) (Below.heap_setCell w ⟨f, 0, none⟩ u _ (by rw [e]; exact hne))]
  exact h j v hv
theorem take_snoc {α : Type} (l : List α) {k : Nat} (h : k < l.length) : l.take (k + 1) = l.take k ++ [l[k]] := List.take_succ_eq_append_getElem h

set_option maxHeartbeats 1000000 in
theorem fnvWrite (B f : Nat) (h : Int) (l : List UInt8) (ad : Addr) (c : Nat) (w : World) (hB : B ≤ f) (hf : Fnv f h w) (hs : Src ad l w) (hl : l.length ≤ 4194304) (hne : ad.block ≠ f) :
    Calls Try.prog 37 #[.pointer (some ⟨f, 0, none⟩), .slice (some ad) l.length c] w fun e w' => e = .returned (.tuple #[.int .i64 l.length, .nilIface]) ∧ Fnv f (l.foldl stepF h) w' ∧ Below B w w' := by
  go_enter Try.func37, Try.ntmps37
  go_wp2
  go_loopw [6] (fun i wr => ∃ k : Nat, k ≤ l.length ∧ i = .int .i64 k ∧ Fnv f ((l.take k).foldl stepF h) wr ∧ Src ad l wr ∧ Below B w wr) (fun i _ => l.length - (intOf i).toNat)
  case atStart => exact ⟨0, Nat.zero_le _, rfl, hf, hs, Below.refl _ _⟩
  case round =>
    obtain ⟨k, hk, rfl, hx, hr, hbe⟩ := hrel
    by_cases hlt : k < l.length
    · obtain ⟨b, hb⟩ : ∃ b, b = l[k] := ⟨_, rfl⟩
      have c1 : wr.cell? (ad.add k) = some (.int .u8 b.toNat) := hr k _ (by simp [Lib.byteCells, hlt, hb])
      have i1 : (k : Int) < (l.length : Int) := by omega
      have ht := take_snoc l hlt
      rw [← hb] at ht
      have HF : Hid ((l.take (k + 1)).foldl stepF h = stepF ((l.take k).foldl stepF h) b) := by
        show _ = _
        rw [ht, List.foldl_append]
        rfl
      clear ht hb
      generalize (l.take k).foldl stepF h = x at hx HF
      have c0 := hx.cell
      have z0 := hx.frozen
      go_wp2
      go_region
      obtain ⟨y, hy⟩ : ∃ y, y = bits BinOp.xor IntKind.u64 x (IntKind.u64.wrap b.toNat) := ⟨_, rfl⟩
      rw [← hy]
      have hx2 : Fnv f y (wr.setCell ⟨f, 0, none⟩ (.int .u64 y)).drew := hx.set y
      have hr2 : Src ad l (wr.setCell ⟨f, 0, none⟩ (.int .u64 y)).drew := hr.set hne (.int .u64 y)
      have hbe2 := (hbe.setCell (p := ⟨f, 0, none⟩) hB (.int .u64 y)).drew
      obtain ⟨w2, hw2⟩ : ∃ w2, w2 = (wr.setCell ⟨f, 0, none⟩ (.int .u64 y)).drew := ⟨_, rfl⟩
      rw [← hw2] at hx2 hr2 hbe2 ⊢
      have HY : Hid (y = bits BinOp.xor IntKind.u64 x (IntKind.u64.wrap b.toNat)) := hy
      clear hw2 hy c0 c1 z0
      have c0 := hx2.cell
      have z0 := hx2.frozen
      go_wp2
      go_roundw
      case rel =>
        refine ⟨k + 1, by omega, by go_num, ?_, hr2.set hne _, hbe2.setCell (p := ⟨f, 0, none⟩) hB _⟩
        rw [HF.out, stepF, ← HY.out]
        exact hx2.set _
      case measure => simp [intOf]; omega
    · have hge : l.length = k := by omega
      subst hge
      rw [List.take_length] at hx
      go_wp2
      go_ret2
      exact ⟨rfl, hx, hbe⟩

/-- The digest's byte number k. -/
def sumByte (x : Int) (k : Nat) : UInt8 := UInt8.ofNat (x / 2 ^ ((7 - k) * 8) % 256).toNat
theorem sumByte_val (x : Int) (k : Nat) : ((sumByte x k).toNat : Int) = x / 2 ^ ((7 - k) * 8) % 256 := by
  unfold sumByte
  generalize x / 2 ^ ((7 - k) * 8) = y
  have h0 : 0 ≤ y % 256 := Int.emod_nonneg _ (by decide)
  have h1 : y % 256 < 256 := Int.emod_lt_of_pos _ (by decide)
  generalize y % 256 = z at h0 h1
  obtain ⟨n, rfl⟩ := Int.eq_ofNat_of_zero_le h0
  rw [Int.toNat_natCast, UInt8.toNat_ofNat_of_lt' (by show n < 256; omega)]
def sums (x : Int) (k : Nat) : List UInt8 := (List.range k).map (sumByte x)
theorem sums_length (x : Int) (k : Nat) : (sums x k).length = k := by simp [sums]
theorem sums_step (x : Int) (k : Nat) : Lib.byteCells (sums x (k + 1)) = Lib.byteCells (sums x k) ++ [.int .u8 (x / 2 ^ ((7 - k) * 8) % 256)] := by
  unfold sums
  rw [List.range_succ, List.map_append, Lib.byteCells_append, ← sumByte_val]
  rfl

set_option maxHeartbeats 1000000 in
theorem fnvSum (B f : Nat) (x : Int) (w : World) (hB : B ≤ w.heap.size) (hf : Fnv f x w) :
    Calls Try.prog 36 #[.pointer (some ⟨f, 0, none⟩), .slice none 0 0] w fun e w' => Gives B (sums x 8) e w' ∧ Below B w w' := by
  obtain ⟨i0, hi, hz0, hz1, hz2⟩ := info_parts Try.info5
  have hlt := (Array.getElem?_eq_some_iff.mp hf).1
  go_enter Try.func36, Try.ntmps36
  go_wp2
  go_loopw [1, 5] (fun v i wr => ∃ k : Nat, k ≤ 8 ∧ i = .int .i64 (7 - (k : Int)) ∧ wr.ownsRow B 5 1 v k (Lib.byteCells (sums x k)) ∧ v.ownBlock ≠ some f ∧ Fnv f x wr ∧ Below B w wr) (fun _ i _ => (intOf i + 1).toNat)
  case atStart => exact ⟨0, Nat.zero_le _, rfl, World.ownsRow_nil _ _ _ _, by simp [Value.ownBlock], hf, Below.refl _ _⟩
  case round =>
    obtain ⟨k, hk, rfl, ho, hne, hx, hbe⟩ := hrel
    by_cases hlt : k < 8
    · have i1 : (0 : Int) ≤ 7 - (k : Int) := by omega
      have c0 := hx.cell
      have HS : Hid (Lib.byteCells (sums x (k + 1)) = Lib.byteCells (sums x k) ++ [.int .u8 (x / 2 ^ ((7 - k) * 8) % 256)]) := sums_step x k
      go_wp2_with (at_builtin; refine wpList_append_own_at _ rfl _ _ 35 rfl B 5 i0 (.int .u8 0) 1 1 Try.underlying35 hi hz0 hz1 hz2 rfl (by decide) _ k _ rfl (ho.alloc _) ⟨wr.heap.size, 0, none⟩ 1 1 [.int .u8 (x / 2 ^ ((7 - k) * 8) % 256)] rfl rfl (cell_one_new _ _ _) (by intro u hu; simp at hu; subst hu; rfl) (by unfold maxLen; omega) (by omega) (Nat.le_trans hB (Nat.le_trans hbe.size (by simp))) ?_; intro v' w1 ho1 hg1 _ hob)
      have hfl := (Array.getElem?_eq_some_iff.mp hx).1
      have hx1 : Fnv f x w1 := by
        refine (hx.later (Below.heap_alloc wr _ f hfl)).later (hg1.block f ?_ (fun e => hne e.symm))
        exact Nat.lt_of_lt_of_le hfl (by simp)
      have hbe1 : Below B w w1 := (hbe.alloc (Nat.le_trans hB hbe.size) _).grown hg1 (Nat.le_trans hB (Nat.le_trans hbe.size (by simp))) (fun j hj => (ho.lt j hj).1)
      have hne1 : v'.ownBlock ≠ some f := by
        rcases hob with e | e
        · rw [e]; exact hne
        · rw [e]
          intro e
          have := Option.some.inj e
          simp at this
          omega
      go_roundw
      case rel =>
        refine ⟨k + 1, by omega, by go_num, ?_, hne1, hx1, hbe1⟩
        rw [HS.out]
        exact ho1
      case measure => simp [intOf]; omega
    · have hge : k = 8 := by omega
      subst hge
      go_wp2
      go_ret
      exact ⟨⟨_, rfl, by rw [sums_length]; exact ho⟩, hbe⟩

end Go.Proofs.Qxb6002368a
