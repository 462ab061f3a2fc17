/-
  SEAT b6002662a. strings.Builder AT CELL 1 OF A BLOCK OF TYPE pieces (55): copyCheck (55), Len (44), grow (56), Grow (51), WriteString (52).
-/
import Derived.Test.Qxb6002662aText
import Derived.Lib.Builder
import Derived.Lib.AppendStr
import Derived.Lib.OthersKept
import Derived.Lib.MakeNoZero
import Derived.Laws.IdiomCopy
import Derived.Laws.Externs
namespace Go.Proofs.Qxb6002662a
open Go.RowKit

theorem Try.info5 : (Try.prog.info? 5).map (fun i => (i.zero, i.size, i.bytes)) = some (some (.int .u8 0), 1, 1) := by kernel_rfl
theorem Try.size5 : (Try.prog.info? 5).map (·.size) = some 1 := by kernel_rfl
theorem Try.size53 : (Try.prog.info? 53).map (·.size) = some 2 := by kernel_rfl
theorem Try.lies53 : liesAt Try.prog Try.prog.depth 55 (7 / Try.prog.cellsOf 55) 1 53 1 = true := by kernel_rfl

/-- The builder's address, turned to the pointer without a type and back: the address as it is. -/
theorem to_up (w : World) (b : Nat) (hsh : w.shape? b = some (55, 7)) : (convert 51 68 (.pointer (some ⟨b, 1, none⟩))).run Try.prog w = .ok (.pointer (some ⟨b, 1, none⟩)) w := by
  obtain ⟨j, hj, hjs⟩ := Option.map_eq_some_iff.1 Try.size53
  simp only [convert, run_underlying Try.underlying51, run_underlying Try.underlying68, Sem.run_bind, Result.andThen]
  show Sem.run Try.prog (underlying 51 >>= _) w = _
  simp [run_underlying Try.underlying51, run_underlying Try.underlying68, Conv.seenAt, viewAt, cellsIn, hsh, sizeOf, typeInfo, hj, hjs]
theorem of_up (w : World) (b : Nat) (hsh : w.shape? b = some (55, 7)) : (convert 68 51 (.pointer (some ⟨b, 1, none⟩))).run Try.prog w = .ok (.pointer (some ⟨b, 1, none⟩)) w := by
  obtain ⟨j, hj, hjs⟩ := Option.map_eq_some_iff.1 Try.size53
  simp only [convert, run_underlying Try.underlying51, run_underlying Try.underlying68, Sem.run_bind, Result.andThen]
  show Sem.run Try.prog (underlying 68 >>= _) w = _
  simp [run_underlying Try.underlying51, run_underlying Try.underlying68, Conv.seenAt, viewAt, hsh, variablesAt, Try.lies53, sizeOf, typeInfo, hj, hjs]

/-- A block of type pieces. -/
def Blk (b : Nat) (f : ByteArray) (p v : Value) (z s e l : Int) (w : World) : Prop :=
  w.heap[b]? = some (.cells #[.string f, p, v, .int .i64 z, .int .i64 s, .int .i64 e, .int .i64 l] 55 (0, 0))

section
variable {b : Nat} {f : ByteArray} {p v : Value} {z s e l : Int} {w : World}
theorem Blk.lt (h : Blk b f p v z s e l w) : b < w.heap.size := (Array.getElem?_eq_some_iff.1 h).1
theorem Blk.shape (h : Blk b f p v z s e l w) : w.shape? b = some (55, 7) := by unfold Blk at h; simp [World.shape?, h]
theorem Blk.frozen (h : Blk b f p v z s e l w) (j : Nat) : w.frozen? ⟨b, j, none⟩ = false := Lib.frozen_of_heap h j
theorem Blk.c0 (h : Blk b f p v z s e l w) : w.cell? ⟨b, 0, none⟩ = some (.string f) := by rw [Lib.cell_of_heap h]; rfl
theorem Blk.c1 (h : Blk b f p v z s e l w) : w.cell? ⟨b, 1, none⟩ = some p := by rw [Lib.cell_of_heap h]; rfl
theorem Blk.c2 (h : Blk b f p v z s e l w) : w.cell? ⟨b, 2, none⟩ = some v := by rw [Lib.cell_of_heap h]; rfl
theorem Blk.c3 (h : Blk b f p v z s e l w) : w.cell? ⟨b, 3, none⟩ = some (.int .i64 z) := by rw [Lib.cell_of_heap h]; rfl
theorem Blk.c4 (h : Blk b f p v z s e l w) : w.cell? ⟨b, 4, none⟩ = some (.int .i64 s) := by rw [Lib.cell_of_heap h]; rfl
theorem Blk.c5 (h : Blk b f p v z s e l w) : w.cell? ⟨b, 5, none⟩ = some (.int .i64 e) := by rw [Lib.cell_of_heap h]; rfl
theorem Blk.set1 (h : Blk b f p v z s e l w) (q : Value) : Blk b f q v z s e l (w.setCell ⟨b, 1, none⟩ q) := by unfold Blk at h ⊢; simp [World.setCell, Array.getElem?_modify, h]
theorem Blk.set2 (h : Blk b f p v z s e l w) (q : Value) : Blk b f p q z s e l (w.setCell ⟨b, 2, none⟩ q) := by unfold Blk at h ⊢; simp [World.setCell, Array.getElem?_modify, h]
theorem Blk.set0 (h : Blk b f p v z s e l w) (q : ByteArray) : Blk b q p v z s e l (w.setCell ⟨b, 0, none⟩ (.string q)) := by unfold Blk at h ⊢; simp [World.setCell, Array.getElem?_modify, h]
theorem Blk.set3 (h : Blk b f p v z s e l w) (q : Int) : Blk b f p v q s e l (w.setCell ⟨b, 3, none⟩ (.int .i64 q)) := by unfold Blk at h ⊢; simp [World.setCell, Array.getElem?_modify, h]
theorem Blk.set4 (h : Blk b f p v z s e l w) (q : Int) : Blk b f p v z q e l (w.setCell ⟨b, 4, none⟩ (.int .i64 q)) := by unfold Blk at h ⊢; simp [World.setCell, Array.getElem?_modify, h]
theorem Blk.set5 (h : Blk b f p v z s e l w) (q : Int) : Blk b f p v z s q l (w.setCell ⟨b, 5, none⟩ (.int .i64 q)) := by unfold Blk at h ⊢; simp [World.setCell, Array.getElem?_modify, h]
theorem Blk.alloc (h : Blk b f p v z s e l w) (o : Obj) : Blk b f p v z s e l (w.alloc o) := (Lib.alloc_old w o b h.lt).trans h
theorem Blk.drew (h : Blk b f p v z s e l w) : Blk b f p v z s e l w.drew := h
end

/-- THE FRAME: what lay below B stands; and whatever block is not b and is no row of uint8's. -/
structure Fr (B b : Nat) (w w' : World) : Prop where
  bel : Below B w w'
  oth : Lib.OthersKept 5 (some b) w w'
theorem Fr.refl (B b : Nat) (w : World) : Fr B b w w := ⟨Below.refl _ _, Lib.OthersKept.refl _ _ _⟩
theorem Fr.trans {B b : Nat} {w1 w2 w3 : World} (h : Fr B b w1 w2) (k : Fr B b w2 w3) : Fr B b w1 w3 := ⟨h.bel.trans k.bel, h.oth.trans k.oth⟩
theorem Fr.drew {B b : Nat} {w1 w2 : World} (h : Fr B b w1 w2) : Fr B b w1 w2.drew := ⟨h.bel.drew, h.oth.drew⟩
theorem Fr.alloc {B b : Nat} {w1 w2 : World} (h : Fr B b w1 w2) (hB : B ≤ w2.heap.size) (o : Obj) : Fr B b w1 (w2.alloc o) := ⟨h.bel.alloc hB o, h.oth.alloc o⟩
theorem Fr.setCell {B b : Nat} {w1 w2 : World} (h : Fr B b w1 w2) (hB : B ≤ b) (j : Nat) (u : Value) : Fr B b w1 (w2.setCell ⟨b, j, none⟩ u) := ⟨h.bel.setCell (p := ⟨b, j, none⟩) hB u, h.oth.setCell ⟨b, j, none⟩ rfl u⟩

set_option maxHeartbeats 1000000 in
set_option maxRecDepth 100000 in
theorem copyCheck_used (b : Nat) (w : World) (h1 : w.cell? ⟨b, 1, none⟩ = some (.pointer (some ⟨b, 1, none⟩))) :
    Calls Try.prog 55 #[.pointer (some ⟨b, 1, none⟩)] w fun e w' => e = .returned (.tuple #[]) ∧ w' = w := by
  obtain ⟨j, hj, _⟩ := Option.map_eq_some_iff.1 Try.size53
  go_enter Try.func55, Try.ntmps55
  go_wp2
  rw [Lib.run_neq_ptr_same w _ Try.underlying51 hj]
  go_wp2
  go_end0
  exact ⟨rfl, rfl⟩

set_option maxHeartbeats 1000000 in
set_option maxRecDepth 100000 in
theorem copyCheck_fresh (b : Nat) (w : World) (h1 : w.cell? ⟨b, 1, none⟩ = some (.pointer none)) (hsh : w.shape? b = some (55, 7)) (hfz : w.frozen? ⟨b, 1, none⟩ = false) :
    Calls Try.prog 55 #[.pointer (some ⟨b, 1, none⟩)] w fun e w' => e = .returned (.tuple #[]) ∧ w' = w.setCell ⟨b, 1, none⟩ (.pointer (some ⟨b, 1, none⟩)) := by
  go_enter Try.func55, Try.ntmps55
  go_wp2
  rw [to_up w b hsh]
  simp only [Result.andThen]
  rw [Oper.upon_value]
  go_wp2
  rw [run_callFunc_extern Try.func57 (by kernel_rfl) (by kernel_rfl) (by kernel_rfl) (e := Extern.AbiNoEscape.same) (by kernel_rfl)]
  rw [Lib.run_noEscape]
  simp only [Result.andThen]
  rw [Oper.upon_value]
  go_wp2
  rw [of_up w b hsh]
  simp only [Result.andThen]
  rw [Oper.upon_value]
  go_wp2
  go_end0
  exact ⟨rfl, rfl⟩

/-! ### Len -/
theorem len_any (b : Nat) (ao : Option Addr) (n c : Nat) (w : World) (h2 : w.cell? ⟨b, 2, none⟩ = some (.slice ao n c)) :
    Calls Try.prog 44 #[.pointer (some ⟨b, 1, none⟩)] w fun e w' => e = .returned (.int .i64 n) ∧ w' = w := by
  go_enter Try.func44, Try.ntmps44
  go_wp2
  go_ret
  exact ⟨rfl, rfl⟩

/-! ### grow, Grow -/
/-- A pieces block whose builder has been used and holds n bytes. -/
def Used (B b : Nat) (f : ByteArray) (n : Nat) (z s e l : Int) (w : World) : Prop :=
  B ≤ b ∧ ∃ v bs, bs.length = n ∧ Blk b f (.pointer (some ⟨b, 1, none⟩)) v z s e l w ∧ w.ownsRow B 5 1 v bs.length bs

theorem Used.drew {B b : Nat} {f : ByteArray} {n : Nat} {z s e l : Int} {w : World} (h : Used B b f n z s e l w) : Used B b f n z s e l w.drew := h

/-- A NEW BUFFER LAID INTO 'buf'. -/
theorem Used.put {B b : Nat} {f : ByteArray} {z s e l : Int} {v v' : Value} {bs : List Value} {w : World} (hB : B ≤ b) (h : Blk b f (.pointer (some ⟨b, 1, none⟩)) v z s e l w) (hown : w.ownsRow B 5 1 v' bs.length bs) :
    Used B b f bs.length z s e l (w.setCell ⟨b, 2, none⟩ v') := by
  have hne := Lib.ownBlock_ne hown h (by decide)
  exact ⟨hB, v', bs, rfl, h.set2 v', hown.kept (row := some b) ⟨rfl, rfl, rfl, by simp [World.setCell], fun k _ hk => Below.heap_setCell _ _ _ _ (fun e => hk (by simp [e]))⟩ (Or.inr hne)⟩

set_option maxHeartbeats 2000000 in
set_option maxRecDepth 1000000 in
theorem grow_fresh (B b n : Nat) (f : ByteArray) (z s e l : Int) (w : World) (hB : B ≤ b) (hbk : Blk b f (.pointer (some ⟨b, 1, none⟩)) (.slice none 0 0) z s e l w) (hBw : B ≤ w.heap.size) (hn : n ≤ 281474976710656) :
    Calls Try.prog 56 #[.pointer (some ⟨b, 1, none⟩), .int .i64 n] w fun en w' => en = .returned (.tuple #[]) ∧ (Used B b f 0 z s e l w' ∧ Fr B b w w') := by
  obtain ⟨cs, hrun, hle, hmax⟩ := Lib.run_makeNoZero (P := Try.prog) w.drew #[3] 27 5 Try.underlying27 n hn
  have hw : IntKind.i64.wrap (IntKind.i64.wrap 0 + (n : Int)) = n := by
    rw [IntKind.wrap_i64, IntKind.wrap_i64]
    omega
  have hcall : (callFunc 58 #[.int .i64 n]).run Try.prog w.drew = .ok (.value (.slice (some ⟨w.drew.heap.size, 0, none⟩) n cs.size)) (w.drew.drew.drew.alloc (.cells cs 5)) := by
    rw [run_callFunc_extern Try.func58 (by kernel_rfl) (by kernel_rfl) (by kernel_rfl) (e := Extern.BytealgMakeNoZero.makeNoZero #[3] #[27]) (by kernel_rfl), hrun]
    rfl
  have c1 : w.drew.cell? ⟨b, 2, none⟩ = some (.slice none 0 0) := hbk.c2
  have c2 : (w.alloc (.cells cs 5)).cell? ⟨b, 2, none⟩ = some (.slice none 0 0) := (hbk.alloc _).c2
  have f2 : (w.alloc (.cells cs 5)).frozen? ⟨b, 2, none⟩ = false := (hbk.alloc _).frozen 2
  have hcopy : ∀ W : World, (Builtin.copy_ #[27, 27] 3 #[.slice (some ⟨w.heap.size, 0, none⟩) 0 cs.size, .slice none 0 0]).run Try.prog W = .ok (goInt 0) W :=
    fun W => run_copy_none W 27 27 3 5 _ _ 0 cs.size 0 0 Try.underlying27 Try.size5 rfl
  clear hw
  go_enter Try.func56, Try.ntmps56
  go_wp2
  have hown : (w.alloc (.cells cs 5)).ownsRow B 5 1 (.slice (some ⟨w.heap.size, 0, none⟩) 0 cs.size) ([] : List Value).length [] :=
    ⟨rfl, .inr ⟨w.heap.size, cs.size, cs, rfl, hBw, heap_alloc_new w _, Nat.zero_le _, hmax (by unfold maxLen; omega), by simp, by simp⟩⟩
  have hfin := Used.put hB (hbk.alloc (.cells cs 5)) hown
  have hbel : Fr B b w ((w.alloc (.cells cs 5)).setCell ⟨b, 2, none⟩ (.slice (some ⟨w.heap.size, 0, none⟩) 0 cs.size)) := ((Fr.refl B b w).alloc hBw _).setCell hB 2 _
  go_region
  all_goals (go_wp2; go_end0; exact ⟨rfl, hfin.drew.drew.drew, hbel.drew.drew.drew⟩)

set_option maxHeartbeats 2000000 in
set_option maxRecDepth 1000000 in
theorem Grow_fresh (B b n : Nat) (f : ByteArray) (z s e l : Int) (w : World) (hB : B ≤ b) (hbk : Blk b f (.pointer none) (.slice none 0 0) z s e l w) (hBw : B ≤ w.heap.size) (hn0 : 0 < n) (hn : n ≤ 281474976710656) :
    Calls Try.prog 51 #[.pointer (some ⟨b, 1, none⟩), .int .i64 n] w fun en w' => en = .returned (.tuple #[]) ∧ (Used B b f 0 z s e l w' ∧ Fr B b w w') := by
  have hbk1 := hbk.set1 (.pointer (some ⟨b, 1, none⟩))
  have c1 : (w.setCell ⟨b, 1, none⟩ (.pointer (some ⟨b, 1, none⟩))).cell? ⟨b, 2, none⟩ = some (.slice none 0 0) := hbk1.c2
  have hb1 : Fr B b w (w.setCell ⟨b, 1, none⟩ (.pointer (some ⟨b, 1, none⟩))) := (Fr.refl B b w).setCell hB 1 _
  have c1' : (w.setCell ⟨b, 1, none⟩ (.pointer (some ⟨b, 1, none⟩))).drew.cell? ⟨b, 2, none⟩ = some (.slice none 0 0) := c1
  have hz : B ≤ (w.setCell ⟨b, 1, none⟩ (.pointer (some ⟨b, 1, none⟩))).drew.heap.size := Nat.le_trans hBw hb1.bel.drew.size
  have HB : Hid (Blk b f (.pointer none) (.slice none 0 0) z s e l w) := hbk
  have HB1 : Hid (Blk b f (.pointer (some ⟨b, 1, none⟩)) (.slice none 0 0) z s e l (w.setCell ⟨b, 1, none⟩ (.pointer (some ⟨b, 1, none⟩)))) := hbk1
  clear hbk hbk1
  go_enter Try.func51, Try.ntmps51
  go_wp2_with (go_at_call 55; refine (copyCheck_fresh b w HB.out.c1 HB.out.shape (HB.out.frozen 1)).mono ?_; rintro e w' ⟨rfl, rfl⟩)
  go_region
  go_wp2_with (go_at_call 56; refine (grow_fresh B b n f z s e l _ hB HB1.out.drew hz hn).mono ?_; rintro e w' ⟨rfl, h1, h2⟩)
  go_end0
  exact ⟨rfl, h1, hb1.drew.trans h2⟩

/-! ### WriteString -/
/-- What an owned value's block holds. -/
theorem own_kind {w : World} {B : Nat} {v : Value} {n : Nat} {xs : List Value} (h : w.ownsRow B 5 1 v n xs) : ∀ g, v.ownBlock = some g → ∃ c fz, w.heap[g]? = some (.cells c 5 fz) := by
  intro g hg
  rcases h.2 with ⟨rfl, _⟩ | ⟨g', cap, cur, rfl, _, hgg, _⟩
  · simp [Value.ownBlock] at hg
  · simp [Value.ownBlock] at hg
    subst hg
    exact ⟨cur, (0, 0), hgg⟩

set_option maxHeartbeats 2000000 in
set_option maxRecDepth 100000 in
theorem WriteString_used (B b n : Nat) (f t : ByteArray) (z s e l : Int) (w : World) (h : Used B b f n z s e l w) (hlen : n + t.size ≤ 140737488355328) (hBw : B ≤ w.heap.size) :
    Calls Try.prog 52 #[.pointer (some ⟨b, 1, none⟩), .string t] w fun en w' => en = .returned (.tuple #[.int .i64 t.size, .nilIface]) ∧ (Used B b f (n + t.size) z s e l w' ∧ Fr B b w w') := by
  obtain ⟨i0, hi, hz0, hz1, hz2⟩ := info_parts Try.info5
  obtain ⟨hB, v, bs, rfl, hbk, hown⟩ := h
  have hne := Lib.ownBlock_ne hown hbk (by decide)
  have c1 := hbk.c1
  have c2 := hbk.c2
  have HB : Hid (Blk b f (.pointer (some ⟨b, 1, none⟩)) v z s e l w) := hbk
  clear hbk
  go_enter Try.func52, Try.ntmps52
  go_wp2_with (first
    | (go_at_call 55; refine (copyCheck_used b _ c1).mono ?_; rintro e w' ⟨rfl, rfl⟩)
    | (at_builtin; refine Lib.wpList_append_own_string _ rfl _ _ 27 9 rfl B 5 i0 Try.underlying27 Try.underlying9 hi hz0 hz1 hz2 _ _ _ rfl hown t rfl ?c3 ?c4 ?c5 ?_))
  case c3 => unfold maxLen; omega
  case c4 => omega
  case c5 => exact hBw
  intro v' w2 hown' hgrow _
  have hb2 : Blk b f (.pointer (some ⟨b, 1, none⟩)) v z s e l w2 := (hgrow.block b HB.out.lt (fun e => hne e.symm)).trans HB.out
  have d1 := hb2.c1
  have d2 := hb2.c2
  have f2 := hb2.frozen 2
  have hbel : Fr B b w' w2 := ⟨(Below.refl B w').grown hgrow hBw (fun k hk => (hown.lt k hk).1), (Lib.OthersKept.refl _ _ _).grown hgrow (own_kind hown)⟩
  have R1 := Used.put (bs := bs ++ Lib.strCells t) hB hb2 (v' := v') (by simpa [Lib.strCells_length] using hown')
  rw [List.length_append, Lib.strCells_length] at R1
  have R2 := hbel.setCell hB 2 v'
  have HR : Hid (Used B b f (bs.length + t.size) z s e l (w2.setCell ⟨b, 2, none⟩ v')) := R1
  have HR2 : Hid (Fr B b w' (w2.setCell ⟨b, 2, none⟩ v')) := R2
  obtain ⟨ao, n', cap, rfl⟩ : ∃ ao n' cap, v' = .slice ao n' cap := by
    rcases hown'.2 with ⟨hv, _⟩ | ⟨g, cap, cur, hv, _⟩
    · exact ⟨_, _, _, hv⟩
    · exact ⟨_, _, _, hv⟩
  clear hb2 R1 R2 hbel hown hown' hgrow
  go_wp2
  go_ret2
  exact ⟨rfl, HR.out, HR2.out⟩

end Go.Proofs.Qxb6002662a
