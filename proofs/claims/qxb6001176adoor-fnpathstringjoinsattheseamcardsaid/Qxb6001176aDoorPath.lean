/-
  SEAT b6001176aD. ZZNewPath (9).
-/
import Derived.Test.Qxb6001176aDoorText
namespace Go.Proofs.Qxb6001176aDoor
open Go.RowKit

theorem Tryd.info35 : (Tryd.prog.info? 35).map (fun i => (i.zero, i.size, i.bytes)) = some (some (.agg #[.string ByteArray.empty, .int .i64 0]), 2, 24) := by kernel_rfl

/-- The first k steps lie in the row of steps at block g. -/
def Steps (g n : Nat) (ss : List ByteArray) (zs : List Int) (k : Nat) (w : World) : Prop :=
  ∃ cs, w.heap[g]? = some (.cells cs 35 (0, 0)) ∧ cs.size = n * 2 ∧ ∀ i, i < k → cs[i * 2]? = some (.string (ss.getD i ByteArray.empty)) ∧ cs[i * 2 + 1]? = some (.int .i64 (zs.getD i 0))
theorem Steps.step {g n : Nat} {ss : List ByteArray} {zs : List Int} {k : Nat} {w : World} (h : Steps g n ss zs k w) (hk : k < n) : Steps g n ss zs (k + 1) ((w.setCell ⟨g, k * 2, none⟩ (.string (ss.getD k ByteArray.empty))).setCell ⟨g, k * 2 + 1, none⟩ (.int .i64 (zs.getD k 0))) := by
  obtain ⟨cs, hh, hn, hi⟩ := h
  refine ⟨(cs.setIfInBounds (k * 2) (.string (ss.getD k ByteArray.empty))).setIfInBounds (k * 2 + 1) (.int .i64 (zs.getD k 0)), ?_, by simpa using hn, ?_⟩
  · simp [World.setCell, Array.getElem?_modify, hh]
  · intro i hik
    simp only [Array.getElem?_setIfInBounds, Array.size_setIfInBounds]
    by_cases e : i = k
    · subst e
      refine ⟨?_, ?_⟩
      · rw [if_neg (by omega), if_pos rfl, if_pos (by omega)]
      · rw [if_pos rfl, if_pos (by omega)]
    · obtain ⟨h1, h2⟩ := hi i (by omega)
      refine ⟨?_, ?_⟩
      · rw [if_neg (by omega), if_neg (by omega)]
        exact h1
      · rw [if_neg (by omega), if_neg (by omega)]
        exact h2
theorem Steps.cell {g n : Nat} {ss : List ByteArray} {zs : List Int} {k : Nat} {w : World} (h : Steps g n ss zs k w) {j : Nat} (hj : j < n * 2) : (∃ v, w.cell? ⟨g, j, none⟩ = some v) ∧ w.frozen? ⟨g, j, none⟩ = false := by
  obtain ⟨cs, hh, hn, hi⟩ := h
  exact ⟨⟨cs[j]'(by omega), by rw [Lib.cell_of_heap hh]; exact Array.getElem?_eq_getElem _⟩, Lib.frozen_of_heap hh j⟩
theorem Steps.start {base g n : Nat} {ss : List ByteArray} {zs : List Int} {xs : List Value} {w : World} (h : w.ownsRow base 35 2 (.slice (some ⟨g, 0, none⟩) n n) n xs) : Steps g n ss zs 0 w := by
  rcases h.2 with ⟨hv, _⟩ | ⟨g', cap', cur, hv, _, hg, _, _, hsz, _⟩
  · cases hv
  · cases hv
    exact ⟨cur, hg, hsz, by omega⟩
theorem Steps.drew {g n : Nat} {ss : List ByteArray} {zs : List Int} {k : Nat} {w : World} (h : Steps g n ss zs k w) : Steps g n ss zs k w.drew := h
theorem Steps.lt {g n : Nat} {ss : List ByteArray} {zs : List Int} {k : Nat} {w : World} (h : Steps g n ss zs k w) : g < w.heap.size := by
  obtain ⟨cs, hh, _⟩ := h
  exact (Array.getElem?_eq_some_iff.mp hh).1
theorem Steps.below {g n : Nat} {ss : List ByteArray} {zs : List Int} {k B : Nat} {w w' : World} (h : Steps g n ss zs k w) (hb : Below B w w') (hg : g < B) : Steps g n ss zs k w' := by
  obtain ⟨cs, hh, r⟩ := h
  exact ⟨cs, (hb.block g hg).trans hh, r⟩

/-- A path at block p: its steps at block g; both below B. -/
def IsPath (B p : Nat) (ss : List ByteArray) (zs : List Int) (w : World) : Prop :=
  ∃ g, p < B ∧ g < B ∧ w.heap[p]? = some (.cells #[.slice (some ⟨g, 0, none⟩) ss.length ss.length, .int .i64 0] 37 (0, 0)) ∧ Steps g ss.length ss zs ss.length w
theorem IsPath.below {B B' p : Nat} {ss : List ByteArray} {zs : List Int} {w w' : World} (h : IsPath B p ss zs w) (hb : Below B' w w') (hB : B ≤ B') : IsPath B p ss zs w' := by
  obtain ⟨g, hp, hg, hh, hs⟩ := h
  exact ⟨g, hp, hg, (hb.block p (by omega)).trans hh, hs.below hb (by omega)⟩

set_option maxHeartbeats 2000000 in
theorem newPath_any (ad bd : Addr) (cap dap : Nat) (ss : List ByteArray) (zs : List Int) (w : World) (hT : Txt w w.heap.size (some ad) ss) (hZ : Nums w w.heap.size (some bd) zs) (hlz : zs.length = ss.length) (hlen : ss.length ≤ 131072) :
    Calls Tryd.prog 9 #[.slice (some ad) ss.length cap, .slice (some bd) zs.length dap] w fun e w' => (∃ p, e = .returned (.pointer (some ⟨p, 0, none⟩)) ∧ IsPath w'.heap.size p ss zs w') ∧ Below w.heap.size w w' := by
  obtain ⟨i0, hi, hz0, hz1, hz2⟩ := info_parts Tryd.info35
  have HLZ : Hid (zs.length = ss.length) := hlz
  have hlz1 : zs.length ≤ ss.length := by omega
  have hlz2 : ss.length ≤ zs.length := by omega
  clear hlz
  go_enter Tryd.func9, Tryd.ntmps9
  go_wp2_with (at_make; refine wpList_make_full _ rfl _ _ 33 rfl w.heap.size 35 i0 _ 2 Tryd.underlying33 hi hz0 hz1 .i64 .i64 _ _ ss.length rfl rfl (by first | rfl | omega) (by first | rfl | omega) (by rw [hz2]; omega) (by unfold maxLen; omega) (Nat.le_refl _) ?_; intro w1 hown1 hgrow1)
  have hbel1 : Below w.heap.size w w1 := (Below.refl _ _).grown hgrow1 (Nat.le_refl _) (by simp)
  have hst0 : Steps w.heap.size ss.length ss zs 0 w1 := Steps.start hown1
  clear hown1 hgrow1
  go_loopw [6, 12] (fun _ i wr => ∃ k : Nat, k ≤ ss.length ∧ i = .int .i64 k ∧ Steps w.heap.size ss.length ss zs k wr ∧ Below w.heap.size w wr) (fun _ i _ => ss.length - (intOf i).toNat)
  case atStart => exact ⟨0, Nat.zero_le _, rfl, hst0, hbel1⟩
  case round =>
    obtain ⟨k, hk, rfl, hs, hb⟩ := hrel
    by_cases hlt : k < ss.length
    · obtain ⟨b, off, had, hbw, hc⟩ := hT.at hlt
      cases had
      obtain ⟨b2, off2, had2, hbw2, hc2⟩ := hZ.at (k := k) (by omega)
      cases had2
      have g1 : wr.cell? ⟨b, off + k, none⟩ = some (.string (ss.getD k ByteArray.empty)) := (hb.cell (p := ⟨b, off + k, none⟩) hbw).trans hc
      have g2 : wr.cell? ⟨b2, off2 + k, none⟩ = some (.int .i64 (zs.getD k 0)) := (hb.cell (p := ⟨b2, off2 + k, none⟩) hbw2).trans hc2
      obtain ⟨⟨v1, t1⟩, f1⟩ := hs.cell (j := k * 2) (by omega)
      obtain ⟨⟨v2, t2⟩, f2⟩ := hs.cell (j := k * 2 + 1) (by omega)
      have hst := hs.step hlt
      obtain ⟨s, hs'⟩ : ∃ s, s = ss.getD k ByteArray.empty := ⟨_, rfl⟩
      obtain ⟨z, hz'⟩ : ∃ z, z = zs.getD k 0 := ⟨_, rfl⟩
      rw [← hs', ← hz'] at hst
      rw [← hs'] at g1
      rw [← hz'] at g2
      have i1 : (k : Int) < (ss.length : Int) := by omega
      have i2 : (k : Int) < (zs.length : Int) := by omega
      have HH : Hid (Steps w.heap.size ss.length ss zs (k + 1) ((wr.setCell ⟨w.heap.size, k * 2, none⟩ (.string s)).setCell ⟨w.heap.size, k * 2 + 1, none⟩ (.int .i64 z))) := hst
      have hbe := (hb.setCell (p := ⟨w.heap.size, k * 2, none⟩) (Nat.le_refl _) (.string s)).setCell (p := ⟨w.heap.size, k * 2 + 1, none⟩) (Nat.le_refl _) (.int .i64 z)
      clear hc hc2 hst0 hbel1 hst hs' hz' hs
      go_wp2
      go_region
      go_wp2
      go_roundw
      case rel => exact ⟨k + 1, by omega, by go_num, HH.out, hbe.drew⟩
      case measure => simp [intOf]; omega
    · have hge : k = ss.length := by omega
      subst hge
      clear hlt hst0 hbel1
      go_wp2
      go_ret
      refine ⟨⟨_, rfl, ?_⟩, ?_⟩
      · refine ⟨w.heap.size, ?_, ?_, ?_, ?_⟩
        · show _ < (wr.heap.push _).size
          rw [Array.size_push]
          omega
        · have := hs.lt
          show _ < (wr.heap.push _).size
          rw [Array.size_push]
          omega
        · show (wr.heap.push _)[_]? = _
          rw [Array.getElem?_push_size]
        · exact hs.below (hb := (Below.refl wr.heap.size wr).alloc (Nat.le_refl _) _) hs.lt
      · exact hb.alloc hb.size _

end Go.Proofs.Qxb6001176aDoor
