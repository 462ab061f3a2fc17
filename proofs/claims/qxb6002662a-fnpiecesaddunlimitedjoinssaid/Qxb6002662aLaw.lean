/-
  SEAT b6002662a. FnPiecesAddUnlimitedJoins (9): the walk, out of the contracts.
-/
import Derived.Test.Qxb6002662aJoin
namespace Go.Proofs.Qxb6002662a
open Go.RowKit

theorem size_any (B b : Nat) (l : List ByteArray) (w : World) (h : St B b l w) : Calls Try.prog 30 #[.pointer (some ⟨b, 0, none⟩)] w fun e w' => e = .returned (.int .i64 (total l)) ∧ w' = w := by
  have c3 : w.cell? ⟨b, 3, none⟩ = some (.int .i64 (total l)) := by
    obtain ⟨s, e, ⟨_, _, h, _⟩ | ⟨_, h⟩⟩ := h
    · exact h.c3
    · exact h.cells.1
  go_enter Try.func30, Try.ntmps30
  go_wp2
  go_ret
  exact ⟨rfl, rfl⟩

theorem firstf_any (B b : Nat) (l : List ByteArray) (w : World) (h : St B b l w) : Calls Try.prog 31 #[.pointer (some ⟨b, 0, none⟩)] w fun e w' => e = .returned (.string (firstOf l)) ∧ w' = w := by
  have c3 : w.cell? ⟨b, 0, none⟩ = some (.string (firstOf l)) := by
    obtain ⟨s, e, ⟨_, _, h, _⟩ | ⟨_, h⟩⟩ := h
    · exact h.c0
    · exact h.c0
  go_enter Try.func31, Try.ntmps31
  go_wp2
  go_ret
  exact ⟨rfl, rfl⟩

def madeOf (l : List ByteArray) : Nat := if 2 ≤ count l then total l else 0

theorem made_any (B b : Nat) (l : List ByteArray) (w : World) (h : St B b l w) : Calls Try.prog 33 #[.pointer (some ⟨b, 0, none⟩)] w fun e w' => e = .returned (.int .i64 (madeOf l)) ∧ w' = w := by
  obtain ⟨ao, c, c2⟩ : ∃ ao c, w.cell? ⟨b, 2, none⟩ = some (.slice ao (madeOf l) c) := by
    obtain ⟨s, e, ⟨h1, _, h, _⟩ | ⟨h1, h⟩⟩ := h
    · exact ⟨none, 0, by rw [h.c2]; simp [madeOf]; omega⟩
    · obtain ⟨ao, c, h2⟩ := h.c2
      exact ⟨ao, c, by rw [h2, madeOf, if_pos h1]⟩
  go_enter Try.func33, Try.ntmps33
  go_wp2_with (go_at_call 44; refine (len_any b ao (madeOf l) c _ c2).mono ?_; rintro e w1 ⟨rfl, rfl⟩)
  go_ret
  exact ⟨rfl, rfl⟩

/-- A copy of the texts. -/
def GivesClone (ss : List ByteArray) (w : World) (e : Ending) (w' : World) : Prop := ∃ a' cap', e = .returned (.slice a' ss.length cap') ∧ Cl w' w'.heap.size a' ss ∧ Below w.heap.size w w'

theorem clone_any (a : Option Addr) (cap : Nat) (ss : List ByteArray) (w : World) (hT : Txt w w.heap.size a ss) (hnil : a = none → ss = [] ∧ cap = 0) (hlen : ss.length ≤ 65536) :
    Calls Try.prog 26 #[.slice a ss.length cap] w fun e w' => GivesClone ss w e w' := by
  cases a with
  | none =>
    obtain ⟨rfl, rfl⟩ := hnil rfl
    refine (clone_nil w).mono ?_
    rintro e w' ⟨rfl, rfl⟩
    exact ⟨none, 0, rfl, Or.inl rfl, Below.refl _ _⟩
  | some ad =>
    refine (clone_some ad cap ss w hT hlen).mono ?_
    rintro e w' ⟨rfl, ⟨cs, hh, _, hi⟩, hb⟩
    exact ⟨_, _, rfl, Or.inr ⟨_, cs, _, rfl, (Array.getElem?_eq_some_iff.1 hh).1, hh, hi⟩, hb⟩

theorem St.below {B b : Nat} {l : List ByteArray} {w w' : World} (h : St B b l w) (hb : Below w.heap.size w w') : St B b l w' := by
  obtain ⟨s, e, ⟨h1, h2, h3, h4⟩ | ⟨h1, h2, v, bs, h3, h4, h5⟩⟩ := h
  · exact ⟨s, e, Or.inl ⟨h1, h2, (hb.block b h3.lt).trans h3, h4⟩⟩
  · refine ⟨s, e, Or.inr ⟨h1, h2, v, bs, h3, (hb.block b h4.lt).trans h4, h5.kept (row := none) ⟨hb.os, hb.tape, hb.output, hb.size, fun k hk _ => hb.block k hk⟩ (by cases hv : v.ownBlock <;> simp)⟩⟩

theorem Cl.below {w w' : World} {B' : Nat} {a : Option Addr} {ss : List ByteArray} (h : Cl w B' a ss) (hb : Below w.heap.size w w') : Cl w' B' a ss := by
  rcases h with h | ⟨c, cs, fz, ha, hc, hh, hi⟩
  · exact Or.inl h
  · exact Or.inr ⟨c, cs, fz, ha, hc, (hb.block c (Array.getElem?_eq_some_iff.1 hh).1).trans hh, hi⟩
theorem Cl.mono {w : World} {B' B'' : Nat} {a : Option Addr} {ss : List ByteArray} (h : Cl w B' a ss) (hb : B' ≤ B'') : Cl w B'' a ss := by
  rcases h with h | ⟨c, cs, fz, ha, hc, hh, hi⟩
  · exact Or.inl h
  · exact Or.inr ⟨c, cs, fz, ha, by omega, hh, hi⟩

set_option maxHeartbeats 2000000 in
theorem walk (a : Option Addr) (cap : Nat) (ss : List ByteArray) (more : Int) (w : World) (hT : Txt w w.heap.size a ss) (hnil : a = none → ss = [] ∧ cap = 0) (hlen : ss.length ≤ 9223372036854775807) :
    Calls Try.prog 9 #[.slice a ss.length cap, .int .i64 more] w fun e w' => e = .returned (.bool true) ∧ Below w.heap.size w w' := by
  by_cases hm : 0 ≤ more ∧ more ≤ 65536
  · obtain ⟨hm0, hm1⟩ := hm
    go_enter Try.func9, Try.ntmps9
    go_wp2_with (first
      | (go_at_call 24; refine (zzBytes_any a cap w.heap.size ss _ _ hT hlen).mono ?_; rintro e w1 ⟨⟨r, rfl⟩, rfl⟩; cases r)
      | (go_at_call 25; refine (stringsBytes_any a cap _ ss _ hT hlen).mono ?_; rintro e w1 ⟨⟨n, rfl, hn⟩, rfl⟩))
    · go_ret
      exact ⟨rfl, Below.refl _ _⟩
    · go_ret
      exact ⟨rfl, Below.refl _ _⟩
    · obtain ⟨hl, ht⟩ := hn (by assumption)
      clear hn
      refine (clone_any a cap ss _ hT hnil hl).mono ?_
      rintro e w2 ⟨a', cap', rfl, hcl, hb2⟩
      clear hT hnil
      go_wp2_with fail
      refine (run_any a' cap' w2.heap.size ss more _ hcl hl ht hm0 hm1 (Nat.le_refl _)).mono ?_
      rintro e w3 ⟨rfl, hst, hfr⟩
      have hcl3 : Cl w3 w3.heap.size a' ss := (hcl.kept (Nat.le_refl _) hfr).mono hfr.bel.size
      have hb3 : Below w1.heap.size w1 w3 := hb2.trans (hfr.bel.mono hb2.size)
      clear hcl hfr hb2
      go_wp2_with fail
      refine (join_any a' cap' ss _ hcl3.txt hl ht).mono ?_
      rintro e w4 ⟨rfl, hb4⟩
      have hst4 := hst.below hb4
      have hcl4 : Cl w4 w4.heap.size a' ss := (hcl3.below hb4).mono hb4.size
      have hb5 : Below w1.heap.size w1 w4 := hb3.trans (hb4.mono hb3.size)
      have hT4 := hcl4.txt
      clear hst hcl3 hb3 hb4 hcl4
      have hl' : ss.length ≤ 9223372036854775807 := hlen
      by_cases hc : 2 ≤ count ss
      · have hmd : madeOf ss = total ss := if_pos hc
        have hc' : (2 : Int) ≤ count ss := by omega
        clear hc
        go_wp2_with (first
          | (go_at_call 29; refine (count_any a' cap' _ ss _ hT4 hl').mono ?_; rintro e w5 ⟨rfl, rfl⟩)
          | (go_at_call 30; refine (size_any _ _ ss _ hst4).mono ?_; rintro e w5 ⟨rfl, rfl⟩)
          | (go_at_call 31; refine (firstf_any _ _ ss _ hst4).mono ?_; rintro e w5 ⟨rfl, rfl⟩)
          | (go_at_call 32; refine (first_any a' cap' _ ss _ hT4 hl').mono ?_; rintro e w5 ⟨rfl, rfl⟩)
          | (go_at_call 33; refine (made_any _ _ ss _ hst4).mono ?_; rintro e w5 ⟨rfl, rfl⟩))
        go_ret
        exact ⟨rfl, hb5⟩
      · have hmd : madeOf ss = 0 := if_neg hc
        have hc' : (count ss : Int) < 2 := by omega
        clear hc
        go_wp2_with (first
          | (go_at_call 29; refine (count_any a' cap' _ ss _ hT4 hl').mono ?_; rintro e w5 ⟨rfl, rfl⟩)
          | (go_at_call 30; refine (size_any _ _ ss _ hst4).mono ?_; rintro e w5 ⟨rfl, rfl⟩)
          | (go_at_call 31; refine (firstf_any _ _ ss _ hst4).mono ?_; rintro e w5 ⟨rfl, rfl⟩)
          | (go_at_call 32; refine (first_any a' cap' _ ss _ hT4 hl').mono ?_; rintro e w5 ⟨rfl, rfl⟩)
          | (go_at_call 33; refine (made_any _ _ ss _ hst4).mono ?_; rintro e w5 ⟨rfl, rfl⟩))
        go_ret
        exact ⟨rfl, hb5⟩
  · by_cases hneg : more < 0
    · have hd : decide (more < 0) = true := by simpa using hneg
      clear hm
      go_enter Try.func9, Try.ntmps9
      go_wp2_with (first
        | (go_at_call 24; refine (zzBytes_any a cap w.heap.size ss _ _ hT hlen).mono ?_; rintro e w1 ⟨⟨r, rfl⟩, rfl⟩; cases r)
        | (go_at_call 25; refine (stringsBytes_any a cap _ ss _ hT hlen).mono ?_; rintro e w1 ⟨⟨n, rfl, hn⟩, rfl⟩))
      all_goals (go_ret; exact ⟨rfl, Below.refl _ _⟩)
    · have hbig : 65536 < more := by omega
      have hd : decide (more < 0) = false := by simp; omega
      clear hm hneg
      go_enter Try.func9, Try.ntmps9
      go_wp2_with (first
        | (go_at_call 24; refine (zzBytes_any a cap w.heap.size ss _ _ hT hlen).mono ?_; rintro e w1 ⟨⟨r, rfl⟩, rfl⟩; cases r)
        | (go_at_call 25; refine (stringsBytes_any a cap _ ss _ hT hlen).mono ?_; rintro e w1 ⟨⟨n, rfl, hn⟩, rfl⟩))
      all_goals (go_ret; exact ⟨rfl, Below.refl _ _⟩)

end Go.Proofs.Qxb6002662a
