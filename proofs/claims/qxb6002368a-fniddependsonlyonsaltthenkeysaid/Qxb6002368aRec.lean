/-
  SEAT b6002368a. The recorder: zzNewRecorder (9), (*zzRecorder).Write (32), (*zzRecorder).Sum (31), and what is common to both makers.
-/
import Derived.Test.Qxb6002368aRows
import Derived.WalkKit
import Derived.WalkSpells
import Derived.WalkLawsBesides
import Derived.Maps.AppendAt
import Derived.Laws.AppendOwnNone
import Derived.Laws.IdiomStrings
import Derived.Lib.FrozenHead
import Derived.Lib.Builder
import Derived.Stop.Asserts
namespace Go.Proofs.Qxb6002368a
open Go.RowKit

theorem Try.info5 : (Try.prog.info? 5).map (fun i => (i.zero, i.size, i.bytes)) = some (some (.int .u8 0), 1, 1) := by kernel_rfl

theorem newRec (w : World) : Calls Try.prog 9 #[] w fun e w' => e = .returned (.iface 37 (.pointer (some ⟨w.heap.size, 0, none⟩))) ∧ w' = w.alloc (.cells #[.slice none 0 0] 39) := by
  go_enter Try.func9, Try.ntmps9
  go_wp2
  go_ret
  exact ⟨rfl, rfl⟩

/-- The bytes l lie behind ad. -/
def Src (ad : Addr) (l : List UInt8) (w : World) : Prop := ∀ j u, (Lib.byteCells l)[j]? = some u → w.cell? (ad.add j) = some u
theorem byteCells_one (l : List UInt8) : ∀ u ∈ Lib.byteCells l, u.oneCell' = true := by
  intro u hu
  obtain ⟨b, _, rfl⟩ := List.mem_map.mp hu
  rfl

theorem own_slice {w : World} {B e q n : Nat} {v : Value} {xs : List Value} (h : w.ownsRow B e q v n xs) : ∃ a k c, v = .slice a k c := by
  rcases h.2 with ⟨rfl, _⟩ | ⟨g, cap, cur, rfl, _⟩
  · exact ⟨_, _, _, rfl⟩
  · exact ⟨_, _, _, rfl⟩
theorem own_setCell {w : World} {B e q n : Nat} {v : Value} {xs : List Value} (h : w.ownsRow B e q v n xs) {p : Addr} (hp : v.ownBlock ≠ some p.block) (u : Value) : (w.setCell p u).ownsRow B e q v n xs := by
  refine ⟨h.1, ?_⟩
  rcases h.2 with h | ⟨g, cap, cur, rfl, hB, hg, r⟩
  · exact Or.inl h
  · refine Or.inr ⟨g, cap, cur, rfl, hB, ?_, r⟩
    rw [Below.heap_setCell w p u g (by intro e; exact hp (by rw [← e]; rfl))]
    exact hg

/-- The recorder at block r has been fed l. -/
def Rec (B r : Nat) (l : List UInt8) (w : World) : Prop :=
  B ≤ r ∧ ∃ v, w.heap[r]? = some (.cells #[v] 39 (0, 0)) ∧ w.ownsRow B 5 1 v l.length (Lib.byteCells l) ∧ v.ownBlock ≠ some r

theorem rec_fresh (w : World) : Rec w.heap.size w.heap.size [] (w.alloc (.cells #[.slice none 0 0] 39)) :=
  ⟨Nat.le_refl _, _, Array.getElem?_push_size, World.ownsRow_nil _ _ _ _, by simp [Value.ownBlock]⟩
theorem Rec.alloc {B r : Nat} {l : List UInt8} {w : World} (h : Rec B r l w) (o : Obj) : Rec B r l (w.alloc o) := by
  obtain ⟨hB, v, hh, ho, hne⟩ := h
  refine ⟨hB, v, ?_, ho.alloc o, hne⟩
  rw [Below.heap_alloc w o r (Array.getElem?_eq_some_iff.mp hh).1]
  exact hh
theorem Rec.drew {B r : Nat} {l : List UInt8} {w : World} (h : Rec B r l w) : Rec B r l w.drew := h

set_option maxHeartbeats 1000000 in
theorem recWrite (B r : Nat) (l l2 : List UInt8) (ad : Addr) (c : Nat) (w : World) (h : Rec B r l w) (hs : Src ad l2 w) (hB : B ≤ w.heap.size) (hl : l.length + l2.length ≤ 4194304) :
    Calls Try.prog 32 #[.pointer (some ⟨r, 0, none⟩), .slice (some ad) l2.length c] w fun e w' => e = .returned (.tuple #[.int .i64 l2.length, .nilIface]) ∧ Rec B r (l ++ l2) w' ∧ Below B w w' := by
  obtain ⟨i0, hi, hz0, hz1, hz2⟩ := info_parts Try.info5
  obtain ⟨hBr, v, hh, ho, hne⟩ := h
  have c0 : w.cell? ⟨r, 0, none⟩ = some v := by rw [Lib.cell_of_heap hh]; rfl
  go_enter Try.func32, Try.ntmps32
  go_wp2_with (at_builtin; refine wpList_append_own_at _ rfl _ _ 35 rfl B 5 i0 (.int .u8 0) 1 1 Try.underlying35 hi hz0 hz1 hz2 rfl (by decide) v l.length _ rfl ho ad l2.length c (Lib.byteCells l2) rfl (by rw [Lib.byteCells_length, Nat.mul_one]) hs (byteCells_one l2) (by unfold maxLen; omega) (by omega) hB ?_; intro v' w1 ho1 hg1 _ hob; obtain ⟨a', k', c', rfl⟩ := own_slice ho1; have hr1 := (hg1.block r (Array.getElem?_eq_some_iff.mp hh).1 (by intro e; exact hne e.symm)).trans hh; have c1 : w1.cell? ⟨r, 0, none⟩ = some v := (by rw [Lib.cell_of_heap hr1]; rfl); have z1 := Lib.frozen_of_heap hr1 0)
  go_ret2
  have hrlt := (Array.getElem?_eq_some_iff.mp hh).1
  have hne' : (Value.slice a' k' c').ownBlock ≠ some r := by
    rcases hob with e | e
    · rw [e]; exact hne
    · rw [e]
      intro e
      have := Option.some.inj e
      omega
  refine ⟨rfl, ⟨hBr, .slice a' k' c', ?_, ?_, hne'⟩, ?_⟩
  · simp [World.setCell, Array.getElem?_modify, hr1]
  · have := own_setCell ho1 (p := ⟨r, 0, none⟩) hne' (.slice a' k' c')
    rw [List.length_append, Lib.byteCells_append]
    exact this
  · exact ((Below.refl B w).grown hg1 hB (fun k hk => (ho.lt k hk).1)).setCell (p := ⟨r, 0, none⟩) hBr _

/-- A row of bytes, handed back. -/
def Gives (B : Nat) (l : List UInt8) (e : Ending) (w : World) : Prop := ∃ v, e = .returned v ∧ w.ownsRow B 5 1 v l.length (Lib.byteCells l)

set_option maxHeartbeats 1000000 in
theorem recSum (B r : Nat) (l : List UInt8) (w : World) (h : Rec B r l w) (hB : B ≤ w.heap.size) (hl : l.length ≤ 4194304) :
    Calls Try.prog 31 #[.pointer (some ⟨r, 0, none⟩), .slice none 0 0] w fun e w' => Gives B l e w' ∧ Below B w w' := by
  obtain ⟨i0, hi, hz0, hz1, hz2⟩ := info_parts Try.info5
  obtain ⟨hBr, v, hh, ho, hne⟩ := h
  have c0 : w.cell? ⟨r, 0, none⟩ = some v := by rw [Lib.cell_of_heap hh]; rfl
  have hnil := World.ownsRow_nil w B 5 1
  rcases ho.2 with ⟨rfl, h0⟩ | ⟨g, cap, cur, rfl, hg⟩
  · go_enter Try.func31, Try.ntmps31
    go_wp2_with (at_builtin; refine wpList_append_own_none rfl _ _ 35 rfl B 5 i0 1 Try.underlying35 hi (.slice none 0 0) 0 [] rfl hnil rfl ?_)
    go_ret
    exact ⟨⟨_, rfl, ho⟩, Below.refl _ _⟩
  · have hs := ho.cells (g := g) rfl
    go_enter Try.func31, Try.ntmps31
    go_wp2_with (at_builtin; refine wpList_append_own_at _ rfl _ _ 35 rfl B 5 i0 (.int .u8 0) 1 1 Try.underlying35 hi hz0 hz1 hz2 rfl (by decide) (.slice none 0 0) 0 [] rfl hnil ⟨g, 0, none⟩ l.length cap (Lib.byteCells l) rfl (by rw [Lib.byteCells_length, Nat.mul_one]) hs (byteCells_one l) (by unfold maxLen; omega) (by omega) hB ?_; intro v' w1 ho1 hg1 _ hob)
    go_ret
    refine ⟨⟨_, rfl, ?_⟩, (Below.refl B w).grown hg1 hB (fun k hk => by simp [Value.ownBlock] at hk)⟩
    rw [Nat.zero_add, List.nil_append] at ho1
    exact ho1

/-! ### what is common -/
theorem nil_conv (w : World) : (convert 35 9 (.slice none 0 0)).run Try.prog w = .ok (.string ⟨[].toArray⟩) w := by kernel_rfl
theorem conv_row {B : Nat} {v : Value} {l : List UInt8} {w : World} (h : w.ownsRow B 5 1 v l.length (Lib.byteCells l)) : (convert 35 9 v).run Try.prog w = .ok (.string ⟨l.toArray⟩) w := by
  have hc := fun g => h.cells (g := g)
  rcases h.2 with ⟨rfl, h0⟩ | ⟨g, cap, cur, rfl, hg⟩
  · obtain rfl : l = [] := List.length_eq_zero_iff.mp h0
    exact nil_conv w
  · refine run_convert_bytes_back w 35 9 5 ⟨g, 0, none⟩ cap l Try.underlying35 Try.underlying5 Try.underlying9 (fun j hj => ?_)
    exact hc g rfl j _ (by simp [Lib.byteCells, hj])

/-- '[]byte(s)': what lies in the new block. -/
theorem src_new (s : ByteArray) (cap : Nat) (w : World) (fr : Nat × Nat) : Src ⟨w.heap.size, 0, none⟩ s.data.toList (w.alloc (.cells (bytesRow s cap) 5 fr)) := by
  intro j u hu
  have hj : j < s.data.size := by
    have := (List.getElem?_eq_some_iff.mp hu).1
    rw [Lib.byteCells_length] at this
    simpa using this
  have e : (⟨w.heap.size, 0, none⟩ : Addr).add j = ⟨w.heap.size, j, none⟩ := by cases j <;> simp [Addr.add]
  rw [e, World.cell?_alloc_mark, bytesRow_at s cap j hj, ← hu, Lib.byteCells, List.getElem?_map, List.getElem?_eq_getElem (by simpa using hj)]
  simp

end Go.Proofs.Qxb6002368a
