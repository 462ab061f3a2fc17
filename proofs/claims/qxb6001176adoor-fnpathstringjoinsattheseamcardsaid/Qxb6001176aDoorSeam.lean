/-
  SEAT b6001176aD. The plain law: the text of two rows of steps, one behind the other.
-/
import Derived.Test.Qxb6001176aDoorWords
namespace Go.Proofs.Qxb6001176aDoor
open Go.RowKit

theorem getD_left {α : Type} (a b : List α) (z : α) {i : Nat} (h : i < a.length) : (a ++ b).getD i z = a.getD i z := by
  rw [List.getD_eq_getElem?_getD, List.getD_eq_getElem?_getD, List.getElem?_append_left h]
theorem getD_right {α : Type} (a b : List α) (z : α) {i : Nat} (h : a.length ≤ i) : (a ++ b).getD i z = b.getD (i - a.length) z := by
  rw [List.getD_eq_getElem?_getD, List.getD_eq_getElem?_getD, List.getElem?_append_right h]
theorem said_later (i j : Nat) (hi : 0 < i) (hj : 0 < j) (s : ByteArray) (z : Int) : said i s z = said j s z := by
  unfold said
  rw [if_pos hi, if_pos hj]
theorem said_first (i : Nat) (hi : 0 < i) (s : ByteArray) (z : Int) : said i s z = (if 0 ≤ z then [] else [46]) ++ said 0 s z := by
  unfold said
  rw [if_pos hi, if_neg (Nat.lt_irrefl 0)]
  split
  · rfl
  · rfl
theorem words_seam (s1 s2 : List ByteArray) (z1 z2 : List Int) (h1 : z1.length = s1.length) (hp : 0 < s1.length) (hq : 0 < s2.length) :
    words (s1 ++ s2) (z1 ++ z2) (s1.length + s2.length) = words s1 z1 s1.length ++ ((if 0 ≤ z2.getD 0 0 then [] else [46]) ++ words s2 z2 s2.length) := by
  obtain ⟨n, hn⟩ : ∃ n, s2.length = n + 1 := ⟨s2.length - 1, by omega⟩
  rw [hn]
  unfold words
  rw [List.range_add, List.flatMap_append]
  congr 1
  · rw [List.flatMap_def, List.flatMap_def]
    congr 1
    apply List.map_congr_left
    intro i hi
    rw [List.mem_range] at hi
    rw [getD_left _ _ _ hi, getD_left _ _ _ (by omega)]
  · rw [List.flatMap_map]
    have e : ∀ j, (s1 ++ s2).getD (s1.length + j) ByteArray.empty = s2.getD j ByteArray.empty ∧ (z1 ++ z2).getD (s1.length + j) 0 = z2.getD j 0 := by
      intro j
      rw [getD_right _ _ _ (by omega), getD_right _ _ _ (by omega), h1, Nat.add_sub_cancel_left]
      exact ⟨rfl, rfl⟩
    simp only [fun j => (e j).1, fun j => (e j).2]
    rw [List.range_succ_eq_map, List.flatMap_cons, List.flatMap_cons, Nat.add_zero, said_first _ hp, List.append_assoc]
    congr 2
    rw [List.flatMap_def, List.flatMap_def]
    congr 1
    apply List.map_congr_left
    intro i hi
    obtain ⟨q, _, rfl⟩ := List.mem_map.mp hi
    exact said_later _ _ (by omega) (by omega) _ _

theorem small_append {z1 z2 : List Int} (h1 : Small z1) (h2 : Small z2) : Small (z1 ++ z2) := by
  intro i hi
  rw [List.length_append] at hi
  by_cases h : i < z1.length
  · rw [getD_left _ _ _ h]
    exact h1 i h
  · rw [getD_right _ _ _ (by omega)]
    exact h2 _ (by omega)
theorem total_append (a b : List ByteArray) : total (a ++ b) = total a + total b := by
  unfold total
  rw [List.map_append, List.sum_append]

end Go.Proofs.Qxb6001176aDoor
