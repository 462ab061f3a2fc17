/-
  SEAT b6002662a. What pieces hold behind a list of texts: ZZAdd (43), ZZNewPieces (41), runPieces (27).
-/
import Derived.Test.Qxb6002662aMore
import Derived.Test.Qxb6002662aSpan
namespace Go.Proofs.Qxb6002662a
open Go.RowKit

/-! ### plain -/
theorem full_iff (s : ByteArray) : full s = true ↔ 0 < s.size := by
  unfold full
  rw [ByteArray.toList_eq]
  have h : s.size = s.data.toList.length := by rw [Array.length_toList]; rfl
  rw [h]
  cases s.data.toList <;> simp
theorem full_no {s : ByteArray} (h : full s = false) : s.size = 0 := by
  have := full_iff s
  rw [h] at this
  simp at this
  simp [this]
theorem full_yes {s : ByteArray} (h : full s = true) : s.toList.isEmpty = false := by simpa [full] using h
theorem full_not {s : ByteArray} (h : full s = false) : s.toList.isEmpty = true := by simpa [full] using h
theorem full_empty : full ByteArray.empty = false := by unfold full; rw [ByteArray.toList_eq]; rfl
theorem count_snoc (l : List ByteArray) (t : ByteArray) : count (l ++ [t]) = count l + if full t then 1 else 0 := by
  unfold count
  rw [List.filter_append, List.length_append, List.filter_cons]
  cases full t <;> rfl
theorem first_of_none {l : List ByteArray} (h : count l = 0) : firstOf l = ByteArray.empty := by
  unfold count at h
  have : l.find? full = none := List.find?_eq_none.2 fun x hx hf => by
    have : x ∈ l.filter full := List.mem_filter.2 ⟨hx, hf⟩
    rw [List.length_eq_zero_iff.1 h] at this
    simp at this
  simp [firstOf, this]
theorem first_of_some {l : List ByteArray} (h : 0 < count l) : full (firstOf l) = true ∧ ∀ t, firstOf (l ++ [t]) = firstOf l := by
  unfold count at h
  cases hf : l.find? full with
  | none =>
    have : l.filter full = [] := List.filter_eq_nil_iff.2 fun x hx => by simpa using List.find?_eq_none.1 hf x hx
    rw [this] at h
    simp at h
  | some x => exact ⟨by simp [firstOf, hf, List.find?_some hf], fun t => by simp [firstOf, hf]⟩
theorem first_snoc_hit {l : List ByteArray} {t : ByteArray} (h : count l = 0) (ht : full t = true) : firstOf (l ++ [t]) = t := by
  unfold count at h
  have : l.find? full = none := List.find?_eq_none.2 fun x hx hf => by
    have : x ∈ l.filter full := List.mem_filter.2 ⟨hx, hf⟩
    rw [List.length_eq_zero_iff.1 h] at this
    simp at this
  simp [firstOf, this, ht]
theorem first_snoc_miss {l : List ByteArray} {t : ByteArray} (ht : full t = false) : firstOf (l ++ [t]) = firstOf l := by
  cases hf : l.find? full with
  | none => simp [firstOf, hf, ht]
  | some x => simp [firstOf, hf]

theorem le_total {l : List ByteArray} {t : ByteArray} (h : t ∈ l) : t.size ≤ total l := by
  induction l with
  | nil => simp at h
  | cons x r ih =>
    have e : total (x :: r) = x.size + total r := by simp [total]
    rcases List.mem_cons.1 h with rfl | h
    · omega
    · have := ih h
      omega

/-! ### the state -/
def St (B b : Nat) (l : List ByteArray) (w : World) : Prop :=
  ∃ s e : Int, (count l ≤ 1 ∧ B ≤ b ∧ Blk b (firstOf l) (.pointer none) (.slice none 0 0) (total l) s e 0 w ∧ (firstOf l).size = total l) ∨
    (2 ≤ count l ∧ Used B b (firstOf l) (total l) (total l) s e 0 w)

theorem add_any (B b : Nat) (l : List ByteArray) (t : ByteArray) (st en more : Int) (w : World) (h : St B b l w) (hs0 : 0 ≤ st) (hs1 : st ≤ 1048576) (he0 : 0 ≤ en) (he1 : en ≤ 1048576) (hm0 : 0 ≤ more) (hm1 : more ≤ 65536)
    (htot : total l + t.size ≤ 1048576) (hBw : B ≤ w.heap.size) :
    Calls Try.prog 47 #[.pointer (some ⟨b, 0, none⟩), .agg #[.string t, .int .i32 st, .int .i32 en], .int .i64 (-1), .int .i64 more] w fun r w' => r = .returned (.tuple #[]) ∧ St B b (l ++ [t]) w' ∧ Fr B b w w' := by
  obtain ⟨s, e, h⟩ := h
  cases ht : full t with
  | false =>
    refine (add_empty b t st en more w (full_not ht)).mono ?_
    rintro r w' ⟨rfl, rfl⟩
    have hc : count (l ++ [t]) = count l := by rw [count_snoc, ht]; rfl
    have hf : firstOf (l ++ [t]) = firstOf l := first_snoc_miss ht
    have hz : total (l ++ [t]) = total l := by rw [total_snoc, full_no ht]; rfl
    refine ⟨rfl, ⟨s, e, ?_⟩, (Fr.refl B b w).alloc hBw _⟩
    rw [hc, hf, hz]
    rcases h with ⟨h1, h2, h3, h4⟩ | ⟨h1, h2⟩
    · exact Or.inl ⟨h1, h2, h3.alloc _, h4⟩
    · exact Or.inr ⟨h1, h2.alloc _⟩
  | true =>
    have hc : count (l ++ [t]) = count l + 1 := by rw [count_snoc, ht]; rfl
    have hz : total (l ++ [t]) = total l + t.size := total_snoc l t
    have hts := (full_iff t).1 ht
    have htt := full_yes ht
    rcases h with ⟨h1, h2, h3, h4⟩ | ⟨h1, h2⟩
    · by_cases h0 : count l = 0
      · have hfe := first_of_none h0
        have hf : firstOf (l ++ [t]) = t := first_snoc_hit h0 ht
        rw [hfe] at h3 h4
        refine (add_first B b ByteArray.empty t st en more (total l) s e 0 w h2 h3 htt (full_not full_empty) (by omega) (by omega) hs0 hs1 he0 he1 (by omega) hBw).mono ?_
        rintro r w' ⟨rfl, ⟨s', e', hb⟩, hfr⟩
        refine ⟨rfl, ⟨s', e', Or.inl ⟨by omega, h2, ?_, ?_⟩⟩, hfr⟩
        · rw [hf, hz]; exact_mod_cast hb
        · rw [hf, hz, ← h4]; simp
      · obtain ⟨hff, hft⟩ := first_of_some (l := l) (by omega)
        have hffs := (full_iff (firstOf l)).1 hff
        refine (add_second B b (firstOf l) t st en more (total l) s e 0 w h2 h3 htt (full_yes hff) (by omega) (by omega) hs0 hs1 he0 he1 (by omega) hts (by omega) hm0 hm1 hBw).mono ?_
        rintro r w' ⟨rfl, ⟨s', e', hb⟩, hfr⟩
        refine ⟨rfl, ⟨s', e', Or.inr ⟨by omega, ?_⟩⟩, hfr⟩
        rw [hft, hz]
        rw [h4] at hb
        exact_mod_cast hb
    · obtain ⟨hff, hft⟩ := first_of_some (l := l) (by omega)
      have hpos : 0 < total l := by
        obtain ⟨t', l', hl⟩ : ∃ (t' : ByteArray) (l' : List ByteArray), t' ∈ l ∧ full t' = true ∧ l' = l := by
          have : 0 < (l.filter full).length := by have := h1; unfold count at this; omega
          obtain ⟨x, hx⟩ := List.exists_mem_of_length_pos this
          exact ⟨x, l, (List.mem_filter.1 hx).1, (List.mem_filter.1 hx).2, rfl⟩
        have h5 := (full_iff t').1 hl.2.1
        have h6 : t'.size ≤ total l := by
          exact le_total hl.1
        omega
      refine (add_more B b (firstOf l) t (total l) st en more (total l) s e 0 w h2 htt (full_yes hff) hpos (by omega) (by omega) (by omega) hs0 hs1 he0 he1 (by omega) hBw).mono ?_
      rintro r w' ⟨rfl, ⟨s', e', hb⟩, hfr⟩
      refine ⟨rfl, ⟨s', e', Or.inr ⟨by omega, ?_⟩⟩, hfr⟩
      rw [hft, hz]
      exact_mod_cast hb

theorem ZZAdd_any (B b : Nat) (l : List ByteArray) (t : ByteArray) (st en more : Int) (w : World) (h : St B b l w) (hs0 : 0 ≤ st) (hs1 : st ≤ 1048576) (he0 : 0 ≤ en) (he1 : en ≤ 1048576) (hm0 : 0 ≤ more) (hm1 : more ≤ 65536)
    (htot : total l + t.size ≤ 1048576) (hBw : B ≤ w.heap.size) :
    Calls Try.prog 43 #[.pointer (some ⟨b, 0, none⟩), .string t, .int .i32 st, .int .i32 en, .int .i64 (-1), .int .i64 more] w fun r w' => r = .returned (.tuple #[]) ∧ St B b (l ++ [t]) w' ∧ Fr B b w w' := by
  go_enter Try.func43, Try.ntmps43
  go_wp2_with (go_at_call 47; refine (add_any B b l t st en more _ h hs0 hs1 he0 he1 hm0 hm1 htot hBw).mono ?_; rintro r w1 ⟨rfl, h1, h2⟩)
  go_end0
  exact ⟨rfl, h1, h2⟩

theorem New_any (w : World) : Calls Try.prog 41 #[] w fun r w' => r = .returned (.pointer (some ⟨w.heap.size, 0, none⟩)) ∧ w' = w.alloc (.cells #[.string ByteArray.empty, .pointer none, .slice none 0 0, .int .i64 0, .int .i64 0, .int .i64 0, .int .i64 0] 55) := by
  go_enter Try.func41, Try.ntmps41
  go_wp2
  go_ret
  exact ⟨rfl, rfl⟩

theorem St.start (B : Nat) (w : World) (hB : B ≤ w.heap.size) : St B w.heap.size [] (w.alloc (.cells #[.string ByteArray.empty, .pointer none, .slice none 0 0, .int .i64 0, .int .i64 0, .int .i64 0, .int .i64 0] 55)) :=
  ⟨0, 0, Or.inl ⟨by simp [count], hB, heap_alloc_new w _, rfl⟩⟩

/-- A slice of strings in a block of its own below B', which holds a row of strings. -/
def Cl (w : World) (B' : Nat) (a : Option Addr) (ss : List ByteArray) : Prop :=
  ss = [] ∨ ∃ c cs fz, a = some ⟨c, 0, none⟩ ∧ c < B' ∧ w.heap[c]? = some (.cells cs 9 fz) ∧ ∀ i, i < ss.length → cs[i]? = some (.string (ss.getD i ByteArray.empty))

theorem Cl.txt {w : World} {B' : Nat} {a : Option Addr} {ss : List ByteArray} (h : Cl w B' a ss) : Txt w B' a ss := by
  rcases h with h | ⟨c, cs, fz, ha, hc, hh, hi⟩
  · exact Or.inl h
  · exact Or.inr ⟨c, 0, ha, hc, fun i h => by rw [Lib.cell_of_heap hh, Nat.zero_add]; exact hi i h⟩

theorem Cl.kept {w w' : World} {B' : Nat} {a : Option Addr} {ss : List ByteArray} {B b : Nat} (h : Cl w B' a ss) (hb : B' ≤ b) (hf : Fr B b w w') : Cl w' B' a ss := by
  rcases h with h | ⟨c, cs, fz, ha, hc, hh, hi⟩
  · exact Or.inl h
  · exact Or.inr ⟨c, cs, fz, ha, hc, hf.oth c _ hh (by simp; omega) (by simp), hi⟩

set_option maxHeartbeats 1000000 in
theorem run_any (a : Option Addr) (cap B : Nat) (ss : List ByteArray) (more : Int) (w : World) (hT : Cl w w.heap.size a ss) (hlen : ss.length ≤ 65536) (htot : total ss ≤ 1048576) (hm0 : 0 ≤ more) (hm1 : more ≤ 65536) (hBw : B ≤ w.heap.size) :
    Calls Try.prog 27 #[.slice a ss.length cap, .int .i64 (-1), .int .i64 more] w fun r w' => r = .returned (.pointer (some ⟨w.heap.size, 0, none⟩)) ∧ St B w.heap.size ss w' ∧ Fr B w.heap.size w w' := by
  have hst := St.start B w hBw
  have hfr := (Fr.refl B w.heap.size w).alloc hBw (.cells #[.string ByteArray.empty, .pointer none, .slice none 0 0, .int .i64 0, .int .i64 0, .int .i64 0, .int .i64 0] 55)
  go_enter Try.func27, Try.ntmps27
  go_wp2_with (go_at_call 41; refine (New_any _).mono ?_; rintro r w1 ⟨rfl, rfl⟩)
  go_loopw [8] (fun i wr => ∃ k : Nat, k ≤ ss.length ∧ i = .int .i64 k ∧ St B w.heap.size (ss.take k) wr ∧ Fr B w.heap.size w wr) (fun i _ => ss.length - (intOf i).toNat)
  case atStart => exact ⟨0, Nat.zero_le _, rfl, hst, hfr⟩
  case round =>
    obtain ⟨k, hk, rfl, hs, hf⟩ := hrel
    by_cases hlt : k < ss.length
    · have hT' := hT.kept (Nat.le_refl _) hf
      obtain ⟨b, off, rfl, _, hc⟩ := hT'.txt.at hlt
      have hst1 := total_step ss hlt
      have hle := total_take_le ss (k + 1)
      have hsn := take_snoc ss hlt
      generalize ss.getD k ByteArray.empty = s at hc hst1 hsn
      have htt : total (ss.take k) + s.size ≤ 1048576 := by omega
      have HS : Hid (ss.take (k + 1) = ss.take k ++ [s]) := hsn
      clear hst1 hsn hle hst hfr
      go_wp2_with (first | (go_at_call 42; refine (trimSpan_any s _ (by omega)).mono ?_; rintro r w1 ⟨⟨i, j, rfl, hi, hj⟩, rfl⟩))
      refine (ZZAdd_any B w.heap.size (ss.take k) s _ _ more _ hs (by omega) (by omega) (by omega) (by omega) hm0 hm1 htt (Nat.le_trans hBw hf.bel.size)).mono ?_
      rintro r w2 ⟨rfl, hs2, hf2⟩
      clear hT' hc
      go_wp2
      go_roundw
      case rel => exact ⟨k + 1, by omega, by go_num, by rw [HS.out]; exact hs2, hf.trans hf2⟩
      case measure => simp [intOf]; omega
    · have hall : Hid (ss.take k = ss) := List.take_of_length_le (by omega)
      go_wp2
      go_ret
      rw [hall.out] at hs
      exact ⟨rfl, hs, hf⟩

end Go.Proofs.Qxb6002662a
