/-
  SEAT b6002662a. (*pieces).add (47) with unlimited room: a third text and more.
-/
import Derived.Test.Qxb6002662aAdd
namespace Go.Proofs.Qxb6002662a
open Go.RowKit

section
variable {B b : Nat} {f : ByteArray} {n : Nat} {z s e l : Int} {w : World}
theorem Used.c2 (h : Used B b f n z s e l w) : ∃ ao c, w.cell? ⟨b, 2, none⟩ = some (.slice ao n c) := by
  obtain ⟨_, v, bs, rfl, hbk, hown⟩ := h
  have := hbk.c2
  rcases hown.2 with ⟨hv, h0⟩ | ⟨g, cap, cur, hv, _⟩
  · exact ⟨none, 0, by rw [this, hv, h0]⟩
  · exact ⟨_, _, by rw [this, hv]⟩
theorem own_set {v : Value} {bs : List Value} {p : Value} (hbk : Blk b f p v z s e l w) (hown : w.ownsRow B 5 1 v bs.length bs) (j : Nat) (u : Value) : (w.setCell ⟨b, j, none⟩ u).ownsRow B 5 1 v bs.length bs :=
  hown.kept (row := some b) ⟨rfl, rfl, rfl, by simp [World.setCell], fun k _ hk => Below.heap_setCell _ _ _ _ (fun e => hk (by simp [e]))⟩ (Or.inr (Lib.ownBlock_ne hown hbk (by decide)))
theorem Used.set3 (h : Used B b f n z s e l w) (q : Int) : Used B b f n q s e l (w.setCell ⟨b, 3, none⟩ (.int .i64 q)) := by
  obtain ⟨hB, v, bs, hl, hbk, hown⟩ := h
  exact ⟨hB, v, bs, hl, hbk.set3 q, own_set hbk hown _ _⟩
theorem Used.set4 (h : Used B b f n z s e l w) (q : Int) : Used B b f n z q e l (w.setCell ⟨b, 4, none⟩ (.int .i64 q)) := by
  obtain ⟨hB, v, bs, hl, hbk, hown⟩ := h
  exact ⟨hB, v, bs, hl, hbk.set4 q, own_set hbk hown _ _⟩
theorem Used.set5 (h : Used B b f n z s e l w) (q : Int) : Used B b f n z s q l (w.setCell ⟨b, 5, none⟩ (.int .i64 q)) := by
  obtain ⟨hB, v, bs, hl, hbk, hown⟩ := h
  exact ⟨hB, v, bs, hl, hbk.set5 q, own_set hbk hown _ _⟩
theorem Used.alloc (h : Used B b f n z s e l w) (o : Obj) : Used B b f n z s e l (w.alloc o) := by
  obtain ⟨hB, v, bs, hl, hbk, hown⟩ := h
  exact ⟨hB, v, bs, hl, hbk.alloc o, hown.alloc o⟩
theorem Used.lt (h : Used B b f n z s e l w) : b < w.heap.size := by
  obtain ⟨hB, v, bs, hl, hbk, hown⟩ := h
  exact hbk.lt
theorem Used.cells (h : Used B b f n z s e l w) : w.cell? ⟨b, 3, none⟩ = some (.int .i64 z) ∧ w.cell? ⟨b, 4, none⟩ = some (.int .i64 s) ∧ w.cell? ⟨b, 5, none⟩ = some (.int .i64 e) ∧ ∀ j, w.frozen? ⟨b, j, none⟩ = false := by
  obtain ⟨hB, v, bs, hl, hbk, hown⟩ := h
  exact ⟨hbk.c3, hbk.c4, hbk.c5, hbk.frozen⟩
end

set_option maxHeartbeats 2000000 in
theorem add_more (B b : Nat) (f t : ByteArray) (n : Nat) (st en more : Int) (z s e l : Int) (w : World) (h : Used B b f n z s e l w) (ht : t.toList.isEmpty = false) (hf : f.toList.isEmpty = false) (hn : 0 < n) (hn1 : n ≤ 1048576)
    (hz0 : 0 ≤ z) (hz1 : z ≤ 1048576) (hs0 : 0 ≤ st) (hs1 : st ≤ 1048576) (he0 : 0 ≤ en) (he1 : en ≤ 1048576) (hts : t.size ≤ 1048576) (hBw : B ≤ w.heap.size) :
    Calls Try.prog 47 #[.pointer (some ⟨b, 0, none⟩), .agg #[.string t, .int .i32 st, .int .i32 en], .int .i64 (-1), .int .i64 more] w fun r w' => r = .returned (.tuple #[]) ∧ (∃ s' e', Used B b f (n + t.size) (z + t.size) s' e' l w') ∧ Fr B b w w' := by
  have hB := h.1
  have hlt := h.lt
  have c0 := h.c0
  obtain ⟨c3, c4, c5, fz⟩ := h.cells
  have f0 := fz 0
  have f3 := fz 3
  have f4 := fz 4
  have f5 := fz 5
  have hnn : ((n : Int) == 0) = false := by simp; omega
  have HB : Hid (Used B b f n z s e l w) := h
  clear h fz
  by_cases hse : st < en
  · by_cases hp : e = 0
    · subst hp
      go_enter Try.func47, Try.ntmps47
      go_wp2
      go_region
      go_wp2
      go_region
      go_wp2
      go_region
      go_wp2_with fail
      have X := ((((HB.out.set4 (z + st)).set5 (z + en)).set3 (z + t.size)).alloc (.cells #[.string t, .int .i32 st, .int .i32 en] 61)).drew.drew.drew
      have Y := (((((Fr.refl B b w).setCell hB 4 (.int .i64 (z + st))).setCell hB 5 (.int .i64 (z + en))).setCell hB 3 (.int .i64 (z + t.size))).alloc (by simpa [World.setCell] using hBw) (.cells #[.string t, .int .i32 st, .int .i32 en] 61)).drew.drew.drew
      obtain ⟨ao, cp, X2⟩ := X.c2
      refine (len_any b ao n cp _ X2).mono ?_
      intro r W hrW
      obtain ⟨hr, hW⟩ := hrW
      rw [← hW] at X Y
      have hbox : W.heap[w.heap.size]? = some (.cells #[.string t, .int .i32 st, .int .i32 en] 61 (0, 0)) := by rw [hW]; exact box_at (w := (((w.setCell ⟨b, 4, none⟩ (.int .i64 (z + st))).setCell ⟨b, 5, none⟩ (.int .i64 (z + en))).setCell ⟨b, 3, none⟩ (.int .i64 (z + t.size)))) (by simp [World.setCell]) _
      clear hW X2
      subst hr
      have gB : B ≤ W.heap.size := Nat.le_trans hBw Y.bel.size
      have hbox3 : W.cell? ⟨w.heap.size, 0, none⟩ = some (.string t) := by rw [Lib.cell_of_heap hbox]; rfl
      have HX : Hid (Used B b f n (z + t.size) (z + st) (z + en) l W) := X
      clear X c0 c3 c4 c5 f0 f3 f4 f5
      go_wp2_with fail
      go_region_with (go_at_call 52; refine (WriteString_used B b _ f t _ _ _ l _ HX.out.drew (by omega) gB).mono ?_; rintro r4 W4 ⟨rfl, hu4, hf4⟩)
      go_wp2
      go_end0
      exact ⟨rfl, ⟨_, _, hu4⟩, Y.drew.trans hf4⟩
    · have hp' : (e == 0) = false := by simpa using hp
      clear hp
      go_enter Try.func47, Try.ntmps47
      go_wp2
      go_region
      go_wp2
      go_region
      go_wp2_with fail
      have X := (((HB.out.set5 (z + en)).set3 (z + t.size)).alloc (.cells #[.string t, .int .i32 st, .int .i32 en] 61)).drew.drew
      have Y := ((((Fr.refl B b w).setCell hB 5 (.int .i64 (z + en))).setCell hB 3 (.int .i64 (z + t.size))).alloc (by simpa [World.setCell] using hBw) (.cells #[.string t, .int .i32 st, .int .i32 en] 61)).drew.drew
      obtain ⟨ao, cp, X2⟩ := X.c2
      refine (len_any b ao n cp _ X2).mono ?_
      intro r W hrW
      obtain ⟨hr, hW⟩ := hrW
      rw [← hW] at X Y
      have hbox : W.heap[w.heap.size]? = some (.cells #[.string t, .int .i32 st, .int .i32 en] 61 (0, 0)) := by rw [hW]; exact box_at (w := ((w.setCell ⟨b, 5, none⟩ (.int .i64 (z + en))).setCell ⟨b, 3, none⟩ (.int .i64 (z + t.size)))) (by simp [World.setCell]) _
      clear hW X2
      subst hr
      have gB : B ≤ W.heap.size := Nat.le_trans hBw Y.bel.size
      have hbox3 : W.cell? ⟨w.heap.size, 0, none⟩ = some (.string t) := by rw [Lib.cell_of_heap hbox]; rfl
      have HX : Hid (Used B b f n (z + t.size) (s) (z + en) l W) := X
      clear X c0 c3 c4 c5 f0 f3 f4 f5
      go_wp2_with fail
      go_region_with (go_at_call 52; refine (WriteString_used B b _ f t _ _ _ l _ HX.out.drew (by omega) gB).mono ?_; rintro r4 W4 ⟨rfl, hu4, hf4⟩)
      go_wp2
      go_end0
      exact ⟨rfl, ⟨_, _, hu4⟩, Y.drew.trans hf4⟩
  · skip
    go_enter Try.func47, Try.ntmps47
    go_wp2
    go_region
    go_wp2_with fail
    have X := ((HB.out.set3 (z + t.size)).alloc (.cells #[.string t, .int .i32 st, .int .i32 en] 61)).drew
    have Y := (((Fr.refl B b w).setCell hB 3 (.int .i64 (z + t.size))).alloc (by simpa [World.setCell] using hBw) (.cells #[.string t, .int .i32 st, .int .i32 en] 61)).drew
    obtain ⟨ao, cp, X2⟩ := X.c2
    refine (len_any b ao n cp _ X2).mono ?_
    intro r W hrW
    obtain ⟨hr, hW⟩ := hrW
    rw [← hW] at X Y
    have hbox : W.heap[w.heap.size]? = some (.cells #[.string t, .int .i32 st, .int .i32 en] 61 (0, 0)) := by rw [hW]; exact box_at (w := (w.setCell ⟨b, 3, none⟩ (.int .i64 (z + t.size)))) (by simp [World.setCell]) _
    clear hW X2
    subst hr
    have gB : B ≤ W.heap.size := Nat.le_trans hBw Y.bel.size
    have hbox3 : W.cell? ⟨w.heap.size, 0, none⟩ = some (.string t) := by rw [Lib.cell_of_heap hbox]; rfl
    have HX : Hid (Used B b f n (z + t.size) (s) (e) l W) := X
    clear X c0 c3 c4 c5 f0 f3 f4 f5
    go_wp2_with fail
    go_region_with (go_at_call 52; refine (WriteString_used B b _ f t _ _ _ l _ HX.out.drew (by omega) gB).mono ?_; rintro r4 W4 ⟨rfl, hu4, hf4⟩)
    go_wp2
    go_end0
    exact ⟨rfl, ⟨_, _, hu4⟩, Y.drew.trans hf4⟩

end Go.Proofs.Qxb6002662a
