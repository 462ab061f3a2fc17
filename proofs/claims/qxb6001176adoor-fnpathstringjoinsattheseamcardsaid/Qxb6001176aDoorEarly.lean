/-
  SEAT b6001176aD. The law's walk (3): the ways that leave at once.
-/
import Derived.Test.Qxb6001176aDoorSeam
namespace Go.Proofs.Qxb6001176aDoor
open Go.RowKit

theorem newPath_len (ad bd : Addr) (cap dap n m : Nat) (ss : List ByteArray) (zs : List Int) (w : World) (hT : Txt w w.heap.size (some ad) ss) (hZ : Nums w w.heap.size (some bd) zs) (hn : n = ss.length) (hm : m = ss.length) (hlz : zs.length = ss.length) (hlen : ss.length ≤ 131072) :
    Calls Tryd.prog 9 #[.slice (some ad) n cap, .slice (some bd) m dap] w fun e w' => (∃ p, e = .returned (.pointer (some ⟨p, 0, none⟩)) ∧ IsPath w'.heap.size p ss zs w') ∧ Below w.heap.size w w' := by
  have hm' : m = zs.length := by omega
  subst hn hm'
  exact newPath_any ad bd cap dap ss zs w hT hZ hlz hlen

/-- The arguments that the law goes into. -/
def Fit (s1 s2 : List ByteArray) (z1 z2 : List Int) : Prop := (s1.length ≤ 65536 ∧ z1.length ≤ 65536 ∧ s2.length ≤ 65536 ∧ z2.length ≤ 65536) ∧ (s1.length = z1.length ∧ s2.length = z2.length) ∧ (0 < s1.length ∧ 0 < s2.length)

set_option maxHeartbeats 4000000 in
set_option maxRecDepth 100000 in
theorem law_early (a1 b1 a2 b2 : Option Addr) (c1 d1 c2 d2 : Nat) (s1 s2 : List ByteArray) (z1 z2 : List Int) (w : World) (h1 : Txt w w.heap.size a1 s1) (h2 : Txt w w.heap.size a2 s2)
    (l1 : s1.length ≤ 9223372036854775807) (l2 : z1.length ≤ 9223372036854775807) (l3 : s2.length ≤ 9223372036854775807) (l4 : z2.length ≤ 9223372036854775807) (hF : ¬ Fit s1 s2 z1 z2) :
    Calls Tryd.prog 3 #[.slice a1 s1.length c1, .slice b1 z1.length d1, .slice a2 s2.length c2, .slice b2 z2.length d2] w fun e w' => e = .returned (.bool true) ∧ w' = w := by
  unfold Fit at hF
  go_enter Tryd.func3, Tryd.ntmps3
  go_wp2_with (first
    | (go_at_call 5; refine (zzBytes_any a1 b1 a2 b2 c1 d1 c2 d2 _ _ w.heap.size s1 s2 w h1 h2 l1 l3 l2 l4).mono ?_; rintro r w' ⟨⟨b, rfl⟩, hw⟩; replace hw := hw.symm; subst hw; cases b)
    | (go_at_call 6; (with_reducible refine (pathBytes_any a1 b1 c1 d1 z1.length w.heap.size s1 w h1 (by omega) (by omega)).mono ?_); rintro r3 w3 ⟨⟨q1, rfl, q10, q11, q12⟩, hw⟩; replace hw := hw.symm; subst hw; clear q12)
    | (go_at_call 6; (with_reducible refine (pathBytes_any a2 b2 c2 d2 z2.length w.heap.size s2 w h2 (by omega) (by omega)).mono ?_); rintro r4 w4 ⟨⟨q2, rfl, q20, q21, q22⟩, hw⟩; replace hw := hw.symm; subst hw; clear q22)
    | (go_at_call 7; exfalso; simp only [bne_eq_false_iff_eq, beq_eq_false_iff_ne, ne_eq] at *; omega))
  all_goals (go_ret; exact ⟨rfl, rfl⟩)

end Go.Proofs.Qxb6001176aDoor
