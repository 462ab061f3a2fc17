/-
  SEAT b6002662a. THE LOOPS THAT ONLY READ the texts: zzBytes (24), stringsBytes (25), countNonEmpty (29), firstNonEmpty (32).
-/
import Derived.Test.Qxb6002662aRows
import Derived.WalkKit
import Derived.WalkLawsBesides
namespace Go.Proofs.Qxb6002662a
open Go.RowKit

/-! ### plain: lists of strings -/
def total (ss : List ByteArray) : Nat := (ss.map ByteArray.size).sum
/-- 's != ""', as the walk writes it. -/
def full (s : ByteArray) : Bool := !s.toList.isEmpty
def count (ss : List ByteArray) : Nat := (ss.filter full).length
def firstOf (ss : List ByteArray) : ByteArray := (ss.find? full).getD ByteArray.empty

theorem take_snoc (ss : List ByteArray) {k : Nat} (h : k < ss.length) : ss.take (k + 1) = ss.take k ++ [ss.getD k ByteArray.empty] := by
  rw [List.take_succ_eq_append_getElem h, List.getD_eq_getElem?_getD, List.getElem?_eq_getElem h]; rfl
theorem total_snoc (l : List ByteArray) (s : ByteArray) : total (l ++ [s]) = total l + s.size := by simp [total]
theorem total_step (ss : List ByteArray) {k : Nat} (h : k < ss.length) : total (ss.take (k + 1)) = total (ss.take k) + (ss.getD k ByteArray.empty).size := by
  rw [take_snoc ss h, total_snoc]
theorem total_take_le (ss : List ByteArray) (k : Nat) : total (ss.take k) ≤ total ss := by
  have h : total ss = total (ss.take k) + total (ss.drop k) := by
    have e : total (ss.take k ++ ss.drop k) = total (ss.take k) + total (ss.drop k) := by unfold total; rw [List.map_append, List.sum_append]
    rwa [List.take_append_drop] at e
  omega
theorem count_step (ss : List ByteArray) {k : Nat} (h : k < ss.length) : count (ss.take (k + 1)) = count (ss.take k) + if full (ss.getD k ByteArray.empty) then 1 else 0 := by
  rw [take_snoc ss h]
  unfold count
  rw [List.filter_append, List.length_append, List.filter_cons]
  cases full (ss.getD k ByteArray.empty) <;> rfl
theorem count_le (l : List ByteArray) : count l ≤ l.length := List.length_filter_le _ _

/-- The slice value '.slice a ss.length cap' holds the strings ss in world w, in a block below B. -/
def Txt (w : World) (B : Nat) (a : Option Addr) (ss : List ByteArray) : Prop :=
  ss = [] ∨ ∃ b off, a = some ⟨b, off, none⟩ ∧ b < B ∧ ∀ i, i < ss.length → w.cell? ⟨b, off + i, none⟩ = some (.string (ss.getD i ByteArray.empty))

theorem Txt.at {w : World} {B : Nat} {a : Option Addr} {ss : List ByteArray} (h : Txt w B a ss) {k : Nat} (hk : k < ss.length) :
    ∃ b off, a = some ⟨b, off, none⟩ ∧ b < B ∧ w.cell? ⟨b, off + k, none⟩ = some (.string (ss.getD k ByteArray.empty)) := by
  rcases h with rfl | ⟨b, off, h1, h2, h3⟩
  · simp at hk
  · exact ⟨b, off, h1, h2, h3 k hk⟩

/-! ### 24: the bound laid by program -/
def GivesBool (e : Ending) : Prop := ∃ r : Bool, e = .returned (.bool r)

theorem zzBytes_any (a : Option Addr) (cap B : Nat) (ss : List ByteArray) (m : Value) (w : World) (hT : Txt w B a ss) (hlen : ss.length ≤ 9223372036854775807) :
    Calls Try.prog 24 #[.slice a ss.length cap, m] w fun e w' => GivesBool e ∧ w' = w := by
  go_enter Try.func24, Try.ntmps24
  go_wp2
  · go_ret
    exact ⟨⟨_, rfl⟩, rfl⟩
  · go_loop [5, 6] (fun z i => ∃ k n : Nat, k ≤ ss.length ∧ i = .int .i64 k ∧ z = .int .i64 n ∧ n ≤ 1048576) (fun _ i => ss.length - (intOf i).toNat)
    case atStart => exact ⟨0, ss.length, Nat.zero_le _, rfl, by go_num, by omega⟩
    case round =>
      obtain ⟨k, n, hk, rfl, rfl, hn⟩ := hrel
      by_cases hlt : k < ss.length
      · obtain ⟨b, off, rfl, _, hc⟩ := hT.at hlt
        generalize ss.getD k ByteArray.empty = s at hc
        go_wp2
        · go_ret
          exact ⟨⟨_, rfl⟩, rfl⟩
        · go_ret
          exact ⟨⟨_, rfl⟩, rfl⟩
        · go_round
          case rel => exact ⟨k + 1, n + s.size, by omega, by go_num, by go_num, by omega⟩
          case measure => simp [intOf]; omega
      · go_wp2
        go_ret
        exact ⟨⟨_, rfl⟩, rfl⟩

/-! ### 25: stringsBytes -/
def GivesBytes (ss : List ByteArray) (e : Ending) : Prop := ∃ n : Int, e = .returned (.int .i64 n) ∧ (n ≤ 1048576 → ss.length ≤ 65536 ∧ total ss ≤ 1048576)

theorem stringsBytes_any (a : Option Addr) (cap B : Nat) (ss : List ByteArray) (w : World) (hT : Txt w B a ss) (hlen : ss.length ≤ 9223372036854775807) :
    Calls Try.prog 25 #[.slice a ss.length cap] w fun e w' => GivesBytes ss e ∧ w' = w := by
  go_enter Try.func25, Try.ntmps25
  go_wp2
  · go_ret
    exact ⟨⟨_, rfl, by omega⟩, rfl⟩
  · go_loop [3, 4] (fun z i => ∃ k n : Nat, k ≤ ss.length ∧ i = .int .i64 k ∧ z = .int .i64 n ∧ n ≤ 1048576 ∧ total (ss.take k) ≤ n) (fun _ i => ss.length - (intOf i).toNat)
    case atStart => exact ⟨0, 0, Nat.zero_le _, rfl, rfl, by omega, by simp [total]⟩
    case round =>
      obtain ⟨k, n, hk, rfl, rfl, hn, hnt⟩ := hrel
      by_cases hlt : k < ss.length
      · obtain ⟨b, off, rfl, _, hc⟩ := hT.at hlt
        have hst : Hid (total (ss.take (k + 1)) = total (ss.take k) + (ss.getD k ByteArray.empty).size) := total_step ss hlt
        have HN : Hid (total (ss.take k) ≤ n) := hnt
        clear hnt
        generalize ss.getD k ByteArray.empty = s at hc hst
        by_cases hs : s.size ≤ 1048576
        · obtain ⟨m, hm⟩ : ∃ m : Int, (s.size : Int) + 16 = m := ⟨_, rfl⟩
          have hm1 : 16 ≤ m := by omega
          have hm2 : m ≤ 1048592 := by omega
          go_wp2
          · go_ret
            exact ⟨⟨_, rfl, by omega⟩, rfl⟩
          · have h1 := hst.out
            have h2 := HN.out
            go_round
            case rel => exact ⟨k + 1, n + (s.size + 16), by omega, by go_num, by rw [← hm]; go_num, by omega, by omega⟩
            case measure => simp [intOf]; omega
        · go_wp2
          go_ret
          exact ⟨⟨_, rfl, by omega⟩, rfl⟩
      · have hall : total ss ≤ n := by rw [List.take_of_length_le (by omega)] at hnt; exact hnt
        go_wp2
        go_ret
        exact ⟨⟨_, rfl, fun _ => ⟨by omega, by omega⟩⟩, rfl⟩

/-! ### 29: countNonEmpty -/
theorem count_any (a : Option Addr) (cap B : Nat) (ss : List ByteArray) (w : World) (hT : Txt w B a ss) (hlen : ss.length ≤ 9223372036854775807) :
    Calls Try.prog 29 #[.slice a ss.length cap] w fun e w' => e = .returned (.int .i64 (count ss)) ∧ w' = w := by
  go_enter Try.func29, Try.ntmps29
  go_wp2
  go_loop [3, 4] (fun z i => ∃ k : Nat, k ≤ ss.length ∧ i = .int .i64 k ∧ z = .int .i64 (count (ss.take k))) (fun _ i => ss.length - (intOf i).toNat)
  case atStart => exact ⟨0, Nat.zero_le _, rfl, rfl⟩
  case round =>
    obtain ⟨k, hk, rfl, rfl⟩ := hrel
    by_cases hlt : k < ss.length
    · obtain ⟨b, off, rfl, _, hc⟩ := hT.at hlt
      have hst := count_step ss hlt
      have hle : count (ss.take k) ≤ k := Nat.le_trans (count_le _) (by simp; omega)
      generalize ss.getD k ByteArray.empty = s at hc hst
      have HS : Hid (count (ss.take (k + 1)) = count (ss.take k) + if full s then 1 else 0) := hst
      clear hst
      go_wp2
      · go_round
        case rel => exact ⟨k + 1, by omega, by go_num, by rw [HS.out, if_pos (show full s = true by assumption)]; go_num⟩
        case measure => simp [intOf]; omega
      · go_round
        case rel => exact ⟨k + 1, by omega, by go_num, by rw [HS.out, if_neg (show ¬ full s = true by rw [show full s = false by assumption]; decide)]; go_num⟩
        case measure => simp [intOf]; omega
    · have hall : Hid (ss.take k = ss) := List.take_of_length_le (by omega)
      go_wp2
      go_ret
      exact ⟨by rw [← congrArg count hall.out]; rfl, rfl⟩

/-! ### 32: firstNonEmpty -/
theorem first_none (ss : List ByteArray) (h : ∀ j, j < ss.length → full (ss.getD j ByteArray.empty) = false) : firstOf ss = ByteArray.empty := by
  have : ss.find? full = none := List.find?_eq_none.2 fun x hx => by
    obtain ⟨j, hj⟩ := List.getElem?_of_mem hx
    have hl : j < ss.length := (List.getElem?_eq_some_iff.1 hj).1
    have := h j hl
    rw [List.getD_eq_getElem?_getD, hj] at this
    simpa using this
  simp [firstOf, this]
theorem first_hit (ss : List ByteArray) {k : Nat} (hk : k < ss.length) (h : ∀ j, j < k → full (ss.getD j ByteArray.empty) = false) (hf : full (ss.getD k ByteArray.empty) = true) : firstOf ss = ss.getD k ByteArray.empty := by
  induction ss generalizing k with
  | nil => simp at hk
  | cons s r ih =>
    cases k with
    | zero =>
      have : full s = true := by simpa using hf
      simp [firstOf, this]
    | succ k =>
      have h0 : full s = false := by simpa using h 0 (by omega)
      have := ih (k := k) (by simpa using hk) (fun j hj => by simpa using h (j + 1) (by omega)) (by simpa using hf)
      simp only [firstOf, List.find?_cons, h0]
      simpa [firstOf] using this

theorem first_any (a : Option Addr) (cap B : Nat) (ss : List ByteArray) (w : World) (hT : Txt w B a ss) (hlen : ss.length ≤ 9223372036854775807) :
    Calls Try.prog 32 #[.slice a ss.length cap] w fun e w' => e = .returned (.string (firstOf ss)) ∧ w' = w := by
  go_enter Try.func32, Try.ntmps32
  go_wp2
  go_loop [3] (fun i => ∃ k : Nat, k ≤ ss.length ∧ i = .int .i64 k ∧ ∀ j, j < k → full (ss.getD j ByteArray.empty) = false) (fun i => ss.length - (intOf i).toNat)
  case atStart => exact ⟨0, Nat.zero_le _, rfl, fun j hj => by omega⟩
  case round =>
    obtain ⟨k, hk, rfl, hno⟩ := hrel
    have HN : Hid (∀ j, j < k → full (ss.getD j ByteArray.empty) = false) := hno
    clear hno
    by_cases hlt : k < ss.length
    · obtain ⟨b, off, rfl, _, hc⟩ := hT.at hlt
      obtain ⟨s, hs⟩ : ∃ s, s = ss.getD k ByteArray.empty := ⟨_, rfl⟩
      rw [← hs] at hc
      have HS : Hid (s = ss.getD k ByteArray.empty) := hs
      clear hs
      go_wp2
      · go_ret
        exact ⟨by rw [first_hit ss hlt HN.out (by rw [← HS.out]; assumption), ← HS.out]; rfl, rfl⟩
      · go_round
        case rel =>
          refine ⟨k + 1, by omega, by go_num, fun j hj => ?_⟩
          by_cases e : j = k
          · subst e; rw [← HS.out]; assumption
          · exact HN.out j (by omega)
        case measure => simp [intOf]; omega
    · go_wp2
      go_ret
      exact ⟨by rw [first_none ss (fun j hj => HN.out j (by omega))]; rfl, rfl⟩

end Go.Proofs.Qxb6002662a
