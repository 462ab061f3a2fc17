/-
  SEAT b6002662a. (*pieces).add (47) with unlimited room.
-/
import Derived.Test.Qxb6002662aBuild
import Derived.Deep.RegionWith
namespace Go.Proofs.Qxb6002662a
open Go.RowKit

theorem add_empty (b : Nat) (t : ByteArray) (st en more : Int) (w : World) (ht : t.toList.isEmpty = true) :
    Calls Try.prog 47 #[.pointer (some ⟨b, 0, none⟩), .agg #[.string t, .int .i32 st, .int .i32 en], .int .i64 (-1), .int .i64 more] w fun e w' => e = .returned (.tuple #[]) ∧ w' = w.alloc (.cells #[.string t, .int .i32 st, .int .i32 en] 61) := by
  go_enter Try.func47, Try.ntmps47
  go_wp2
  exact bodyPost_ret (results_none rfl _ _ _) rfl ⟨rfl, rfl⟩

set_option maxHeartbeats 1000000 in
theorem add_first (B b : Nat) (f t : ByteArray) (st en more : Int) (z s e l : Int) (w : World) (hB : B ≤ b) (h : Blk b f (.pointer none) (.slice none 0 0) z s e l w) (ht : t.toList.isEmpty = false) (hf : f.toList.isEmpty = true)
    (hz0 : 0 ≤ z) (hz1 : z ≤ 1048576) (hs0 : 0 ≤ st) (hs1 : st ≤ 1048576) (he0 : 0 ≤ en) (he1 : en ≤ 1048576) (hts : t.size ≤ 1048576) (hBw : B ≤ w.heap.size) :
    Calls Try.prog 47 #[.pointer (some ⟨b, 0, none⟩), .agg #[.string t, .int .i32 st, .int .i32 en], .int .i64 (-1), .int .i64 more] w fun r w' => r = .returned (.tuple #[]) ∧ (∃ s' e', Blk b t (.pointer none) (.slice none 0 0) (z + t.size) s' e' l w') ∧ Fr B b w w' := by
  have hlt := h.lt
  have c0 := h.c0
  have c3 := h.c3
  have c4 := h.c4
  have c5 := h.c5
  have f0 := h.frozen 0
  have f3 := h.frozen 3
  have f4 := h.frozen 4
  have f5 := h.frozen 5
  have HB : Hid (Blk b f (.pointer none) (.slice none 0 0) z s e l w) := h
  clear h
  by_cases hse : st < en
  · by_cases hp : e = 0
    · subst hp
      go_enter Try.func47, Try.ntmps47
      go_wp2
      go_region
      go_wp2
      go_region
      go_wp2
      go_region
      go_wp2
      refine bodyPost_ret (results_none rfl _ _ _) rfl ⟨rfl, ⟨_, _, (((((HB.out.set4 _).set5 _).set3 _).set0 _).alloc _).drew.drew.drew⟩, ?_⟩
      exact ((((((Fr.refl B b w).setCell hB 4 _).setCell hB 5 _).setCell hB 3 _).setCell hB 0 _).alloc (by simpa [World.setCell] using hBw) _).drew.drew.drew
    · have hp' : (e == 0) = false := by simpa using hp
      clear hp
      go_enter Try.func47, Try.ntmps47
      go_wp2
      go_region
      go_wp2
      go_region
      go_wp2
      refine bodyPost_ret (results_none rfl _ _ _) rfl ⟨rfl, ⟨_, _, ((((HB.out.set5 _).set3 _).set0 _).alloc _).drew.drew⟩, ?_⟩
      exact (((((Fr.refl B b w).setCell hB 5 _).setCell hB 3 _).setCell hB 0 _).alloc (by simpa [World.setCell] using hBw) _).drew.drew
  · go_enter Try.func47, Try.ntmps47
    go_wp2
    go_region
    go_wp2
    refine bodyPost_ret (results_none rfl _ _ _) rfl ⟨rfl, ⟨_, _, (((HB.out.set3 _).set0 _).alloc _).drew⟩, ?_⟩
    exact ((((Fr.refl B b w).setCell hB 3 _).setCell hB 0 _).alloc (by simpa [World.setCell] using hBw) _).drew

theorem box_at {w : World} {k : Nat} (hk : w.heap.size = k) (o : Obj) : (w.alloc o).heap[k]? = some o := by
  subst hk
  exact heap_alloc_new w o

theorem Used.c0 {B b : Nat} {f : ByteArray} {n : Nat} {z s e l : Int} {w : World} (h : Used B b f n z s e l w) : w.cell? ⟨b, 0, none⟩ = some (.string f) := by
  obtain ⟨_, v, bs, _, hbk, _⟩ := h
  exact hbk.c0

/-- Grow, its number an Int. -/
theorem Grow_int (B b : Nat) (m : Int) (f : ByteArray) (z s e l : Int) (w : World) (hB : B ≤ b) (hbk : Blk b f (.pointer none) (.slice none 0 0) z s e l w) (hBw : B ≤ w.heap.size) (hn0 : 0 < m) (hn : m ≤ 281474976710656) :
    Calls Try.prog 51 #[.pointer (some ⟨b, 1, none⟩), .int .i64 m] w fun en w' => en = .returned (.tuple #[]) ∧ (Used B b f 0 z s e l w' ∧ Fr B b w w') := by
  obtain ⟨n, rfl⟩ := Int.eq_ofNat_of_zero_le (Int.le_of_lt hn0)
  exact Grow_fresh B b n f z s e l w hB hbk hBw (by omega) (by omega)

set_option maxHeartbeats 2000000 in
theorem add_second (B b : Nat) (f t : ByteArray) (st en more : Int) (z s e l : Int) (w : World) (hB : B ≤ b) (h : Blk b f (.pointer none) (.slice none 0 0) z s e l w) (ht : t.toList.isEmpty = false) (hf : f.toList.isEmpty = false)
    (hz0 : 0 ≤ z) (hz1 : z ≤ 1048576) (hs0 : 0 ≤ st) (hs1 : st ≤ 1048576) (he0 : 0 ≤ en) (he1 : en ≤ 1048576) (hts : t.size ≤ 1048576) (hts0 : 0 < t.size) (hfs : f.size ≤ 1048576) (hm0 : 0 ≤ more) (hm1 : more ≤ 65536) (hBw : B ≤ w.heap.size) :
    Calls Try.prog 47 #[.pointer (some ⟨b, 0, none⟩), .agg #[.string t, .int .i32 st, .int .i32 en], .int .i64 (-1), .int .i64 more] w fun r w' => r = .returned (.tuple #[]) ∧ (∃ s' e', Used B b f (f.size + t.size) (z + t.size) s' e' l w') ∧ Fr B b w w' := by
  have hlt := h.lt
  have c0 := h.c0
  have c3 := h.c3
  have c4 := h.c4
  have c5 := h.c5
  have f0 := h.frozen 0
  have f3 := h.frozen 3
  have f4 := h.frozen 4
  have f5 := h.frozen 5
  have HB : Hid (Blk b f (.pointer none) (.slice none 0 0) z s e l w) := h
  clear h
  have hlt0 : w.heap.size ≠ b := by omega
  have hwr : IntKind.i64.wrap (z + (t.size : Int) + more) = z + (t.size : Int) + more := by
    rw [IntKind.wrap_i64]
    omega
  by_cases hse : st < en
  · by_cases hp : e = 0
    · subst hp
      go_enter Try.func47, Try.ntmps47
      go_wp2
      go_region
      go_wp2
      go_region
      go_wp2
      go_region
      go_wp2_with fail
      have X := ((((HB.out.set4 (z + st)).set5 (z + en)).set3 (z + t.size)).alloc (.cells #[.string t, .int .i32 st, .int .i32 en] 61)).drew.drew.drew
      have Y := (((((Fr.refl B b w).setCell hB 4 (.int .i64 (z + st))).setCell hB 5 (.int .i64 (z + en))).setCell hB 3 (.int .i64 (z + t.size))).alloc (by simpa [World.setCell] using hBw) (.cells #[.string t, .int .i32 st, .int .i32 en] 61)).drew.drew.drew
      refine (len_any b none 0 0 _ X.c2).mono ?_
      intro r W hrW
      obtain ⟨hr, hW⟩ := hrW
      rw [← hW] at X Y
      have hbox : W.heap[w.heap.size]? = some (.cells #[.string t, .int .i32 st, .int .i32 en] 61 (0, 0)) := by rw [hW]; exact box_at (w := (((w.setCell ⟨b, 4, none⟩ (.int .i64 (z + st))).setCell ⟨b, 5, none⟩ (.int .i64 (z + en))).setCell ⟨b, 3, none⟩ (.int .i64 (z + t.size)))) (by simp [World.setCell]) _
      clear hW
      subst hr
      have g0 := X.c0
      have g3 := X.c3
      have gB : B ≤ W.heap.size := Nat.le_trans hBw Y.bel.size
      have HX : Hid (Blk b f (.pointer none) (.slice none 0 0) (z + t.size) (z + st) (z + en) l W) := X
      clear X c0 c3 c4 c5 f0 f3 f4 f5
      go_wp2_with fail
      go_region_with (go_at_call 51; refine (Grow_int B b _ f _ _ _ l _ hB HX.out.drew gB (by omega) (by omega)).mono ?_; rintro r2 W2 ⟨rfl, hu, hf2⟩)
      have k0 := hu.c0
      have kB : B ≤ W2.heap.size := Nat.le_trans gB hf2.bel.size
      clear g0 g3
      go_wp2_with fail
      go_region_with (go_at_call 52; refine (WriteString_used B b 0 f f _ _ _ l _ hu.drew (by omega) kB).mono ?_; rintro r3 W3 ⟨rfl, hu3, hf3⟩)
      have hbox3 : W3.cell? ⟨w.heap.size, 0, none⟩ = some (.string t) := by rw [Lib.cell_of_heap (hf3.oth _ _ (hf2.oth _ _ hbox (by simp [hlt0]) (by simp)) (by simp [hlt0]) (by simp))]; rfl
      have mB : B ≤ W3.heap.size := Nat.le_trans kB hf3.bel.size
      clear k0
      go_wp2_with fail
      go_region_with (go_at_call 52; refine (WriteString_used B b _ f t _ _ _ l _ hu3.drew (by omega) mB).mono ?_; rintro r4 W4 ⟨rfl, hu4, hf4⟩)
      go_wp2
      go_end0
      rw [Nat.zero_add] at hu4
      exact ⟨rfl, ⟨_, _, hu4⟩, ((Y.drew.trans hf2).drew.trans hf3).drew.trans hf4⟩
    · have hp' : (e == 0) = false := by simpa using hp
      clear hp
      go_enter Try.func47, Try.ntmps47
      go_wp2
      go_region
      go_wp2
      go_region
      go_wp2_with fail
      have X := (((HB.out.set5 (z + en)).set3 (z + t.size)).alloc (.cells #[.string t, .int .i32 st, .int .i32 en] 61)).drew.drew
      have Y := ((((Fr.refl B b w).setCell hB 5 (.int .i64 (z + en))).setCell hB 3 (.int .i64 (z + t.size))).alloc (by simpa [World.setCell] using hBw) (.cells #[.string t, .int .i32 st, .int .i32 en] 61)).drew.drew
      refine (len_any b none 0 0 _ X.c2).mono ?_
      intro r W hrW
      obtain ⟨hr, hW⟩ := hrW
      rw [← hW] at X Y
      have hbox : W.heap[w.heap.size]? = some (.cells #[.string t, .int .i32 st, .int .i32 en] 61 (0, 0)) := by rw [hW]; exact box_at (w := ((w.setCell ⟨b, 5, none⟩ (.int .i64 (z + en))).setCell ⟨b, 3, none⟩ (.int .i64 (z + t.size)))) (by simp [World.setCell]) _
      clear hW
      subst hr
      have g0 := X.c0
      have g3 := X.c3
      have gB : B ≤ W.heap.size := Nat.le_trans hBw Y.bel.size
      have HX : Hid (Blk b f (.pointer none) (.slice none 0 0) (z + t.size) (s) (z + en) l W) := X
      clear X c0 c3 c4 c5 f0 f3 f4 f5
      go_wp2_with fail
      go_region_with (go_at_call 51; refine (Grow_int B b _ f _ _ _ l _ hB HX.out.drew gB (by omega) (by omega)).mono ?_; rintro r2 W2 ⟨rfl, hu, hf2⟩)
      have k0 := hu.c0
      have kB : B ≤ W2.heap.size := Nat.le_trans gB hf2.bel.size
      clear g0 g3
      go_wp2_with fail
      go_region_with (go_at_call 52; refine (WriteString_used B b 0 f f _ _ _ l _ hu.drew (by omega) kB).mono ?_; rintro r3 W3 ⟨rfl, hu3, hf3⟩)
      have hbox3 : W3.cell? ⟨w.heap.size, 0, none⟩ = some (.string t) := by rw [Lib.cell_of_heap (hf3.oth _ _ (hf2.oth _ _ hbox (by simp [hlt0]) (by simp)) (by simp [hlt0]) (by simp))]; rfl
      have mB : B ≤ W3.heap.size := Nat.le_trans kB hf3.bel.size
      clear k0
      go_wp2_with fail
      go_region_with (go_at_call 52; refine (WriteString_used B b _ f t _ _ _ l _ hu3.drew (by omega) mB).mono ?_; rintro r4 W4 ⟨rfl, hu4, hf4⟩)
      go_wp2
      go_end0
      rw [Nat.zero_add] at hu4
      exact ⟨rfl, ⟨_, _, hu4⟩, ((Y.drew.trans hf2).drew.trans hf3).drew.trans hf4⟩
  · skip
    go_enter Try.func47, Try.ntmps47
    go_wp2
    go_region
    go_wp2_with fail
    have X := ((HB.out.set3 (z + t.size)).alloc (.cells #[.string t, .int .i32 st, .int .i32 en] 61)).drew
    have Y := (((Fr.refl B b w).setCell hB 3 (.int .i64 (z + t.size))).alloc (by simpa [World.setCell] using hBw) (.cells #[.string t, .int .i32 st, .int .i32 en] 61)).drew
    refine (len_any b none 0 0 _ X.c2).mono ?_
    intro r W hrW
    obtain ⟨hr, hW⟩ := hrW
    rw [← hW] at X Y
    have hbox : W.heap[w.heap.size]? = some (.cells #[.string t, .int .i32 st, .int .i32 en] 61 (0, 0)) := by rw [hW]; exact box_at (w := (w.setCell ⟨b, 3, none⟩ (.int .i64 (z + t.size)))) (by simp [World.setCell]) _
    clear hW
    subst hr
    have g0 := X.c0
    have g3 := X.c3
    have gB : B ≤ W.heap.size := Nat.le_trans hBw Y.bel.size
    have HX : Hid (Blk b f (.pointer none) (.slice none 0 0) (z + t.size) (s) (e) l W) := X
    clear X c0 c3 c4 c5 f0 f3 f4 f5
    go_wp2_with fail
    go_region_with (go_at_call 51; refine (Grow_int B b _ f _ _ _ l _ hB HX.out.drew gB (by omega) (by omega)).mono ?_; rintro r2 W2 ⟨rfl, hu, hf2⟩)
    have k0 := hu.c0
    have kB : B ≤ W2.heap.size := Nat.le_trans gB hf2.bel.size
    clear g0 g3
    go_wp2_with fail
    go_region_with (go_at_call 52; refine (WriteString_used B b 0 f f _ _ _ l _ hu.drew (by omega) kB).mono ?_; rintro r3 W3 ⟨rfl, hu3, hf3⟩)
    have hbox3 : W3.cell? ⟨w.heap.size, 0, none⟩ = some (.string t) := by rw [Lib.cell_of_heap (hf3.oth _ _ (hf2.oth _ _ hbox (by simp [hlt0]) (by simp)) (by simp [hlt0]) (by simp))]; rfl
    have mB : B ≤ W3.heap.size := Nat.le_trans kB hf3.bel.size
    clear k0
    go_wp2_with fail
    go_region_with (go_at_call 52; refine (WriteString_used B b _ f t _ _ _ l _ hu3.drew (by omega) mB).mono ?_; rintro r4 W4 ⟨rfl, hu4, hf4⟩)
    go_wp2
    go_end0
    rw [Nat.zero_add] at hu4
    exact ⟨rfl, ⟨_, _, hu4⟩, ((Y.drew.trans hf2).drew.trans hf3).drew.trans hf4⟩

end Go.Proofs.Qxb6002662a
