/-
  SEAT b6002662a. isSpace (45), trimSpan (42): only that they return, and within which bounds.
-/
import Derived.Test.Qxb6002662aText
namespace Go.Proofs.Qxb6002662a
open Go.RowKit

theorem isSpace_any (c : Int) (w : World) : Calls Try.prog 45 #[.int .u8 c] w fun e w' => GivesBool e ∧ w' = w := by
  by_cases h1 : c = 32
  · subst h1
    go_enter Try.func45, Try.ntmps45
    go_wp2
    go_ret
    exact ⟨⟨_, rfl⟩, rfl⟩
  have b1 : (c == 32) = false := by simpa using h1
  by_cases h2 : c = 9
  · subst h2
    go_enter Try.func45, Try.ntmps45
    go_wp2
    go_ret
    exact ⟨⟨_, rfl⟩, rfl⟩
  have b2 : (c == 9) = false := by simpa using h2
  by_cases h3 : c = 10
  · subst h3
    go_enter Try.func45, Try.ntmps45
    go_wp2
    go_ret
    exact ⟨⟨_, rfl⟩, rfl⟩
  have b3 : (c == 10) = false := by simpa using h3
  clear h1 h2 h3
  go_enter Try.func45, Try.ntmps45
  go_wp2
  go_ret
  exact ⟨⟨_, rfl⟩, rfl⟩

/-- Two numbers between nought and n. -/
def GivesSpan (n : Nat) (e : Ending) : Prop := ∃ i j : Nat, e = .returned (.tuple #[.int .i64 i, .int .i64 j]) ∧ i ≤ n ∧ j ≤ n

theorem trimSpan_any (t : ByteArray) (w : World) (ht : t.size ≤ 9223372036854775807) : Calls Try.prog 42 #[.string t] w fun e w' => GivesSpan t.size e ∧ w' = w := by
  go_enter Try.func42, Try.ntmps42
  go_wp2
  go_loop [4] (fun i => ∃ k : Nat, k ≤ t.size ∧ i = .int .i64 k) (fun i => t.size - (intOf i).toNat)
  case atStart => exact ⟨0, Nat.zero_le _, rfl⟩
  case round =>
    obtain ⟨k, hk, rfl⟩ := hrel
    by_cases hlt : k < t.size
    · have hne : ((k : Int) == (t.size : Int)) = false := by simp; omega
      go_wp2_with (go_at_call 45; refine (isSpace_any _ _).mono ?_; rintro e w' ⟨⟨r, rfl⟩, rfl⟩; cases r)
      rotate_left
      · go_round
        case rel => exact ⟨k + 1, by omega, by go_num⟩
        case measure => simp [intOf]; omega
      · go_loop [5] (fun i => ∃ j : Nat, j ≤ t.size ∧ i = .int .i64 j) (fun i => (intOf i).toNat)
        case atStart => exact ⟨t.size, Nat.le_refl _, rfl⟩
        case round =>
          obtain ⟨j, hj, rfl⟩ := hrel
          by_cases hkj : k < j
          · obtain ⟨j', rfl⟩ : ∃ j', j = j' + 1 := ⟨j - 1, by omega⟩
            go_wp2_with (go_at_call 45; refine (isSpace_any _ _).mono ?_; rintro e w' ⟨⟨r2, rfl⟩, rfl⟩)
            · go_round
              case rel => exact ⟨j', by omega, rfl⟩
              case measure => simp [intOf]
            · go_ret2
              exact ⟨⟨k, j' + 1, rfl, hk, hj⟩, rfl⟩
          · go_wp2
            go_ret2
            exact ⟨⟨k, j, rfl, hk, hj⟩, rfl⟩
    · go_wp2
      go_ret2
      exact ⟨⟨0, 0, rfl, Nat.zero_le _, Nat.zero_le _⟩, rfl⟩

end Go.Proofs.Qxb6002662a
