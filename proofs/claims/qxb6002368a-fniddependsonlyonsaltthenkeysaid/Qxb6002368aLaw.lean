/-
  SEAT b6002368a. The law's walk (3).
-/
import Derived.Test.Qxb6002368aId
import Derived.Deep.DeepCutAuto
import Derived.Deep.RegionWith
namespace Go.Proofs.Qxb6002368a
open Go.RowKit

set_option maxHeartbeats 1000000 in
set_option maxRecDepth 100000 in
theorem walk_long (a0 : Int) (a1 : ByteArray) (a2 : ByteArray) (a3 : Int) (w1 : a1.size ≤ 9223372036854775807) (w2 : a2.size ≤ 9223372036854775807) (hn : ¬ a1.size + a2.size ≤ 1048576) (w : World) :
    Calls Try.prog 3 #[.int .u8 a0, .string a1, .string a2, .int .i64 a3] w fun e w' => e = .returned (.bool true) ∧ w' = w := by
  go_enter Try.func3, Try.ntmps3
  go_wp2_with (go_at_call 5; refine (zzBytes a0 a1 a2 a3 w w1 w2).mono ?_; rintro r w' ⟨⟨b, rfl, hsz⟩, hw⟩; replace hw := hw.symm; subst hw; obtain rfl : b = false := (by cases b; rfl; exact absurd (hsz rfl) hn))
  go_ret
  exact ⟨rfl, rfl⟩

set_option maxHeartbeats 1000000 in
set_option maxRecDepth 100000 in
theorem walk_off (a0 : Int) (a1 : ByteArray) (a2 : ByteArray) (a3 : Int) (hn : a1.size + a2.size ≤ 1048576) (hc : ¬ (0 ≤ a3 ∧ a3 ≤ (a1.size : Int) + (a2.size : Int))) (w : World) :
    Calls Try.prog 3 #[.int .u8 a0, .string a1, .string a2, .int .i64 a3] w fun e w' => e = .returned (.bool true) ∧ w' = w := by
  go_enter Try.func3, Try.ntmps3
  go_wp2_with (first
    | (go_at_call 5; refine (zzBytes a0 a1 a2 a3 w (by omega) (by omega)).mono ?_; rintro r w' ⟨⟨b, rfl, hsz⟩, hw⟩; replace hw := hw.symm; subst hw; clear hsz; cases b)
    | (go_at_call 6; exfalso; omega))
  all_goals (go_ret; exact ⟨rfl, rfl⟩)

theorem three_new (w : World) (o1 o2 o3 : Obj) : Below w.heap.size w (((w.alloc o1).alloc o2).alloc o3) ∧ w.heap.size + 3 ≤ (((w.alloc o1).alloc o2).alloc o3).heap.size ∧ (((w.alloc o1).alloc o2).alloc o3).heap[w.heap.size + 1]? = some o2 ∧ (((w.alloc o1).alloc o2).alloc o3).heap[w.heap.size + 1 + 1]? = some o3 := by
  have e1 : (w.alloc o1).heap.size = w.heap.size + 1 := Array.size_push _
  have e2 : ((w.alloc o1).alloc o2).heap.size = w.heap.size + 1 + 1 := (Array.size_push _).trans (by rw [e1])
  have e3 : (((w.alloc o1).alloc o2).alloc o3).heap.size = w.heap.size + 1 + 1 + 1 := (Array.size_push _).trans (by rw [e2])
  refine ⟨(((Below.refl _ _).alloc (Nat.le_refl _) o1).alloc (by omega) o2).alloc (by omega) o3, by omega, ?_, ?_⟩
  · rw [Below.heap_alloc _ o3 _ (by omega), ← e1]
    exact Array.getElem?_push_size
  · rw [← e2]
    exact Array.getElem?_push_size

/-- The three calls of ID give one text. -/
theorem same_text {F : Value} {dig : List UInt8 → ByteArray} (hq : IsID F dig) (a1 a2 : ByteArray) (c : Nat) (hn : a1.size + a2.size ≤ 1048576) (hc : c ≤ a1.size + a2.size) : ∃ D : ByteArray,
    (∀ W : World, Calls Try.prog 7 #[.agg #[F, .string a1], .string a2] W fun e w' => e = .returned (.string D) ∧ Below W.heap.size W w') ∧
    (∀ W : World, Calls Try.prog 7 #[.agg #[F, .string ((a1 ++ a2).extract 0 c)], .string ((a1 ++ a2).extract c (a1.size + a2.size))] W fun e w' => e = .returned (.string D) ∧ Below W.heap.size W w') ∧
    (∀ W : World, Calls Try.prog 7 #[.agg #[F, .string ⟨#[]⟩], .string (a1 ++ a2)] W fun e w' => e = .returned (.string D) ∧ Below W.heap.size W w') := by
  refine ⟨dig (a1.data.toList ++ a2.data.toList), fun W => hq a1 a2 W (by omega), fun W => ?_, fun W => ?_⟩
  · have e : ((a1 ++ a2).extract 0 c).data.toList ++ ((a1 ++ a2).extract c (a1.size + a2.size)).data.toList = a1.data.toList ++ a2.data.toList := by
      have hl : (a1.data.toList ++ a2.data.toList).length = a1.size + a2.size := by rw [List.length_append]; rfl
      rw [ByteArray.data_extract, ByteArray.data_extract, ByteArray.data_append, Array.toList_extract, Array.toList_extract, Array.toList_append]
      simp only [List.extract_eq_take_drop, List.drop_zero, Nat.sub_zero]
      rw [← hl, ← List.length_drop, List.take_length, List.take_append_drop]
    have hz : ((a1 ++ a2).extract 0 c).size + ((a1 ++ a2).extract c (a1.size + a2.size)).size ≤ 4194304 := by
      rw [ByteArray.size_extract, ByteArray.size_extract, ByteArray.size_append]
      omega
    have := hq ((a1 ++ a2).extract 0 c) ((a1 ++ a2).extract c (a1.size + a2.size)) W hz
    rw [e] at this
    exact this
  · have e : (⟨#[]⟩ : ByteArray).data.toList ++ (a1 ++ a2).data.toList = a1.data.toList ++ a2.data.toList := by
      rw [ByteArray.data_append, Array.toList_append]
      rfl
    have hz : (⟨#[]⟩ : ByteArray).size + (a1 ++ a2).size ≤ 4194304 := by
      rw [ByteArray.size_append]
      show 0 + _ ≤ _
      omega
    have := hq ⟨#[]⟩ (a1 ++ a2) W hz
    rw [e] at this
    exact this

set_option maxHeartbeats 4000000 in
set_option maxRecDepth 100000 in
theorem walk_in (a0 : Int) (a1 : ByteArray) (a2 : ByteArray) (c : Nat) (h0 : 0 ≤ a0) (h1 : a0 < 256) (hn : a1.size + a2.size ≤ 1048576) (hc : c ≤ a1.size + a2.size) (w : World) :
    Calls Try.prog 3 #[.int .u8 a0, .string a1, .string a2, .int .i64 c] w fun e w' => e = .returned (.bool true) ∧ Below w.heap.size w w' := by
  have i1 : (c : Int) ≤ (a1.size : Int) + (a2.size : Int) := by omega
  have i2 : (0 : Int) ≤ (c : Int) := by omega
  go_enter Try.func3, Try.ntmps3
  go_wp2_with (first
    | (go_at_call 5; refine (zzBytes a0 a1 a2 c w (by omega) (by omega)).mono ?_; rintro r w' ⟨⟨b, rfl, hsz⟩, hw⟩; replace hw := hw.symm; subst hw; clear hsz; cases b)
    | (go_at_call 6; refine (pick a0 h0 h1 w).mono ?_; rintro r w' ⟨⟨q, dig, rfl, hq⟩, hw⟩; replace hw := hw.symm; subst hw; have hst := fun w a => run_store Try.prog w a (.func (.func q) #[] #[]) .plain rfl))
  all_goals try (go_ret; exact ⟨rfl, Below.refl _ _⟩)
  clear hst
  obtain ⟨hb3, hsz, d1, d2⟩ := three_new w (.cells #[.func (.func q) #[] #[], .string a1] 26) (.cells #[.func (.func q) #[] #[], .string ((a1 ++ a2).extract 0 c)] 26) (.cells #[.func (.func q) #[] #[], .string ⟨#[]⟩] 26)
  obtain ⟨W3, hW3⟩ : ∃ W3, W3 = ((w.alloc (.cells #[.func (.func q) #[] #[], .string a1] 26)).alloc (.cells #[.func (.func q) #[] #[], .string ((a1 ++ a2).extract 0 c)] 26)).alloc (.cells #[.func (.func q) #[] #[], .string ⟨#[]⟩] 26) := ⟨_, rfl⟩
  rw [← hW3] at hb3 hsz d1 d2 ⊢
  clear hW3
  obtain ⟨D, q1, q2, q3⟩ := same_text hq a1 a2 c hn hc
  clear hq
  refine (q1 W3).mono ?_
  rintro r1 Y1 ⟨rfl, y1⟩
  have D1 := (y1.block (w.heap.size + 1) (by omega)).trans d1
  have D2 := (y1.block (w.heap.size + 1 + 1) (by omega)).trans d2
  have g0 : Y1.cell? ⟨w.heap.size + 1, 0, none⟩ = some (.func (.func q) #[] #[]) := by rw [Lib.cell_of_heap D1]; rfl
  have g1 : Y1.cell? ⟨w.heap.size + 1, 1, none⟩ = some (.string ((a1 ++ a2).extract 0 c)) := by rw [Lib.cell_of_heap D1]; rfl
  have hb4 := hb3.trans (y1.mono hb3.size)
  have hcs : c ≤ (a1 ++ a2).size := by rw [ByteArray.size_append]; exact hc
  go_wp2
  go_region_with (go_at_call 7; refine (q2 _).mono ?_; rintro r2 Y2 ⟨rfl, y2⟩)
  have y2' : Below Y1.heap.size Y1 Y2 := (Below.refl Y1.heap.size Y1).drew.trans y2
  have D3 := (y2'.block (w.heap.size + 1 + 1) (Array.getElem?_eq_some_iff.mp D2).1).trans D2
  have g2 : Y2.cell? ⟨w.heap.size + 1 + 1, 0, none⟩ = some (.func (.func q) #[] #[]) := by rw [Lib.cell_of_heap D3]; rfl
  have g3 : Y2.cell? ⟨w.heap.size + 1 + 1, 1, none⟩ = some (.string ⟨#[]⟩) := by rw [Lib.cell_of_heap D3]; rfl
  have hb5 := hb4.trans (y2'.mono hb4.size)
  clear g0 g1 y2 D1 D2 d1 d2 q1 q2
  go_wp2_with (go_at_call 7; refine (q3 _).mono ?_; rintro r3 Y3 ⟨rfl, y3⟩)
  go_ret
  exact ⟨by simp, hb5.trans (y3.mono hb5.size)⟩

theorem walk (a0 : Int) (a1 : ByteArray) (a2 : ByteArray) (a3 : Int) (h0 : 0 ≤ a0) (h1 : a0 < 256) (w1 : a1.size ≤ 9223372036854775807) (w2 : a2.size ≤ 9223372036854775807) (w : World) :
    Calls Try.prog 3 #[.int .u8 a0, .string a1, .string a2, .int .i64 a3] w fun e w' => e = .returned (.bool true) ∧ Below w.heap.size w w' := by
  by_cases hn : a1.size + a2.size ≤ 1048576
  · by_cases hc : 0 ≤ a3 ∧ a3 ≤ (a1.size : Int) + (a2.size : Int)
    · obtain ⟨c, rfl⟩ := Int.eq_ofNat_of_zero_le hc.1
      exact walk_in a0 a1 a2 c h0 h1 hn (by omega) w
    · refine (walk_off a0 a1 a2 a3 hn hc w).mono ?_
      rintro e w' ⟨rfl, rfl⟩
      exact ⟨rfl, Below.refl _ _⟩
  · refine (walk_long a0 a1 a2 a3 w1 w2 hn w).mono ?_
    rintro e w' ⟨rfl, rfl⟩
    exact ⟨rfl, Below.refl _ _⟩

end Go.Proofs.Qxb6002368a
