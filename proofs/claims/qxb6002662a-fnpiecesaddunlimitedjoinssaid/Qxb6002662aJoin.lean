/-
  SEAT b6002662a. cloneStrings (26), joinAll (28).
-/
import Derived.Test.Qxb6002662aRun
import Derived.Lib.SliceRun
import Derived.Maps.AppendAt
namespace Go.Proofs.Qxb6002662a
open Go.RowKit

theorem Try.info9 : (Try.prog.info? 9).map (fun i => (i.zero, i.size, i.bytes)) = some (some (.string ByteArray.empty), 1, 16) := by kernel_rfl

theorem clone_nil (w : World) : Calls Try.prog 26 #[.slice none 0 0] w fun e w' => e = .returned (.slice none 0 0) ∧ w' = w := by
  have hq := fun W => Lib.run_eql_slice_nil (P := Try.prog) W 35 9 none 0 0 0 0 Try.underlying35
  go_enter Try.func26, Try.ntmps26
  go_wp2
  go_ret
  exact ⟨rfl, rfl⟩

/-- The first k strings have gone over into the row at block g. -/
def Half (g : Nat) (n : Nat) (ss : List ByteArray) (k : Nat) (w : World) : Prop :=
  ∃ cs, w.heap[g]? = some (.cells cs 9 (0, 0)) ∧ cs.size = n ∧ ∀ i, i < k → cs[i]? = some (.string (ss.getD i ByteArray.empty))

theorem Half.step {g n : Nat} {ss : List ByteArray} {k : Nat} {w : World} (h : Half g n ss k w) (hk : k < n) : Half g n ss (k + 1) (w.setCell ⟨g, k, none⟩ (.string (ss.getD k ByteArray.empty))) := by
  obtain ⟨cs, hh, hn, hi⟩ := h
  refine ⟨cs.setIfInBounds k (.string (ss.getD k ByteArray.empty)), ?_, by simpa using hn, ?_⟩
  · simp [World.setCell, Array.getElem?_modify, hh]
  · intro i hik
    rw [Array.getElem?_setIfInBounds]
    by_cases e : k = i
    · subst e
      simp [hn, hk]
    · rw [if_neg e]
      exact hi i (by omega)

theorem Half.cell {g n : Nat} {ss : List ByteArray} {k : Nat} {w : World} (h : Half g n ss k w) (hk : k < n) : (∃ v, w.cell? ⟨g, k, none⟩ = some v) ∧ w.frozen? ⟨g, k, none⟩ = false := by
  obtain ⟨cs, hh, hn, hi⟩ := h
  exact ⟨⟨cs[k]'(by omega), by rw [Lib.cell_of_heap hh]; exact Array.getElem?_eq_getElem _⟩, Lib.frozen_of_heap hh k⟩

set_option maxHeartbeats 1000000 in
theorem clone_some (ad : Addr) (cap : Nat) (ss : List ByteArray) (w : World) (hT : Txt w w.heap.size (some ad) ss) (hlen : ss.length ≤ 65536) :
    Calls Try.prog 26 #[.slice (some ad) ss.length cap] w fun e w' => e = .returned (.slice (some ⟨w.heap.size, 0, none⟩) ss.length ss.length) ∧ Half w.heap.size ss.length ss ss.length w' ∧ Below w.heap.size w w' := by
  obtain ⟨i0, hi, hz0, hz1, hz2⟩ := info_parts Try.info9
  have hq := fun W => Lib.run_eql_slice_nil (P := Try.prog) W 35 9 (some ad) ss.length cap 0 0 Try.underlying35
  go_enter Try.func26, Try.ntmps26
  go_wp2_with (at_make; refine wpList_make_full _ rfl _ _ 35 rfl w.heap.size 9 i0 _ 1 Try.underlying35 hi hz0 hz1 .i64 .i64 _ _ ss.length rfl rfl (by first | rfl | omega) (by first | rfl | omega) (by rw [hz2]; omega) (by unfold maxLen; omega) (Nat.le_refl _) ?_; intro w1 hown1 hgrow1)
  have hs1 := hgrow1.size
  have hbel1 : Below w.heap.size w w1 := (Below.refl _ _).grown hgrow1 (Nat.le_refl _) (by simp)
  have hhalf : Half w.heap.size ss.length ss 0 w1 := by
    rcases hown1.2 with ⟨hv, _⟩ | ⟨g, cap', cur, hv, _, hg, _, _, hsz, _⟩
    · cases hv
    · cases hv
      exact ⟨cur, hg, by simpa using hsz, by omega⟩
  clear hown1 hgrow1 hq
  go_loopw [4] (fun i wr => ∃ k : Nat, k ≤ ss.length ∧ i = .int .i64 k ∧ Half w.heap.size ss.length ss k wr ∧ Below w.heap.size w wr) (fun i _ => ss.length - (intOf i).toNat)
  case atStart => exact ⟨0, Nat.zero_le _, rfl, hhalf, hbel1⟩
  case round =>
    obtain ⟨k, hk, rfl, hh, hb⟩ := hrel
    by_cases hlt : k < ss.length
    · obtain ⟨b, off, had, hbw, hc⟩ := hT.at hlt
      cases had
      have hc' : wr.cell? ⟨b, off + k, none⟩ = some (.string (ss.getD k ByteArray.empty)) := (hb.cell (p := ⟨b, off + k, none⟩) hbw).trans hc
      obtain ⟨⟨v, hv⟩, hfz⟩ := hh.cell hlt
      have hst := hh.step hlt
      generalize ss.getD k ByteArray.empty = s at hc' hst
      have hbe := hb.setCell (p := ⟨w.heap.size, k, none⟩) (Nat.le_refl _) (.string s)
      clear hc hhalf hbel1
      go_wp2
      go_roundw
      case rel => exact ⟨k + 1, by omega, by go_num, hst, hbe⟩
      case measure => simp [intOf]; omega
    · obtain rfl : k = ss.length := by omega
      go_wp2
      go_ret
      exact ⟨rfl, hh, hb⟩

/-- The row at block g holds n bytes, of capacity c. -/
def Out (B g c n : Nat) (w : World) : Prop := ∃ xs : List Value, w.ownsRow B 5 1 (.slice (some ⟨g, 0, none⟩) n c) n xs

set_option maxHeartbeats 2000000 in
theorem join_any (a : Option Addr) (cap : Nat) (ss : List ByteArray) (w : World) (hT : Txt w w.heap.size a ss) (hlen : ss.length ≤ 65536) (htot : total ss ≤ 1048576) :
    Calls Try.prog 28 #[.slice a ss.length cap] w fun e w' => e = .returned (.slice (some ⟨w.heap.size, 0, none⟩) (total ss) (total ss)) ∧ Below w.heap.size w w' := by
  obtain ⟨i0, hi, hz0, hz1, hz2⟩ := info_parts Try.info5
  go_enter Try.func28, Try.ntmps28
  go_wp2
  go_loop [3, 4] (fun z i => ∃ k : Nat, k ≤ ss.length ∧ i = .int .i64 k ∧ z = .int .i64 (total (ss.take k))) (fun _ i => ss.length - (intOf i).toNat)
  case atStart => exact ⟨0, Nat.zero_le _, rfl, rfl⟩
  case round =>
    obtain ⟨k, hk, rfl, rfl⟩ := hrel
    have hle := total_take_le ss k
    by_cases hlt : k < ss.length
    · obtain ⟨b, off, rfl, _, hc⟩ := hT.at hlt
      have hle1 := total_take_le ss (k + 1)
      have hst := total_step ss hlt
      generalize ss.getD k ByteArray.empty = s at hc hst
      have HS : Hid (total (ss.take (k + 1)) = total (ss.take k) + s.size) := hst
      have hb : total (ss.take k) + s.size ≤ 1048576 := by omega
      clear hst hle1
      go_wp2
      go_round
      case rel => exact ⟨k + 1, by omega, by go_num, by rw [HS.out]; go_num⟩
      case measure => simp [intOf]; omega
    · obtain rfl : k = ss.length := by omega
      have e1 : ss.take ss.length = ss := List.take_length
      have e2 : total (ss.take ss.length) = total ss := by rw [e1]
      clear e1 hle
      go_wp2_with (at_make; refine wpList_make_own _ rfl _ _ 27 rfl w.heap.size 5 i0 _ 1 Try.underlying27 hi hz0 hz1 .i64 .i64 _ (total ss) rfl rfl (by first | rfl | omega) (by rw [hz2]; omega) (by unfold maxLen; omega) (Nat.le_refl _) ?_; intro w1 hown1 hgrow1)
      have hs1 := hgrow1.size
      have hbel1 : Below w.heap.size w w1 := (Below.refl _ _).grown hgrow1 (Nat.le_refl _) (by simp)
      have hout1 : Out w.heap.size w.heap.size (total ss) 0 w1 := ⟨_, hown1⟩
      clear hown1 hgrow1 e2
      go_loopw [5, 6] (fun v i wr => ∃ k : Nat, k ≤ ss.length ∧ i = .int .i64 k ∧ v = .slice (some ⟨w.heap.size, 0, none⟩) (total (ss.take k)) (total ss) ∧ Out w.heap.size w.heap.size (total ss) (total (ss.take k)) wr ∧ Below w.heap.size w wr) (fun _ i _ => ss.length - (intOf i).toNat)
      case atStart => exact ⟨0, Nat.zero_le _, rfl, rfl, hout1, hbel1⟩
      case round =>
        clear hout1 hbel1
        obtain ⟨k, hk, rfl, rfl, hout, hbel⟩ := hrel
        by_cases hlt : k < ss.length
        · obtain ⟨b, off, rfl, hbw, hc0⟩ := hT.at hlt
          have hc : wr.cell? ⟨b, off + k, none⟩ = some (.string (ss.getD k ByteArray.empty)) := (hbel.cell (p := ⟨b, off + k, none⟩) hbw).trans hc0
          clear hc0
          have hle1 := total_take_le ss (k + 1)
          have hst := total_step ss hlt
          generalize ss.getD k ByteArray.empty = s at hc hst
          have HS : Hid (total (ss.take (k + 1)) = total (ss.take k) + s.size) := hst
          have hb : total (ss.take k) + s.size ≤ total ss := by omega
          clear hst hle1
          generalize total (ss.take k) = n at hout HS hb ⊢
          go_wp2
          obtain ⟨wo, rfl⟩ : ∃ wo : World, wo = wr := ⟨_, rfl⟩
          go_loopw [5, 8] (fun v i wr => ∃ j : Nat, j ≤ s.size ∧ i = .int .i64 j ∧ v = .slice (some ⟨w.heap.size, 0, none⟩) (n + j) (total ss) ∧ Out w.heap.size w.heap.size (total ss) (n + j) wr ∧ Below w.heap.size w wr) (fun _ i _ => s.size - (intOf i).toNat)
          case atStart => exact ⟨0, Nat.zero_le _, rfl, rfl, hout, hbel⟩
          case round =>
            clear hout hbel hc
            obtain ⟨j, hj, rfl, rfl, ⟨xs, hown⟩, hbel⟩ := hrel
            have hsz := hbel.size
            by_cases hjl : j < s.size
            · go_wp2_with (at_builtin; refine wpList_append_fits _ rfl _ _ 27 rfl w.heap.size 5 i0 1 Try.underlying27 hi hz1 w.heap.size (n + j) (total ss) xs rfl (hown.alloc _) ⟨wr.heap.size, 0, none⟩ 1 1 [.int .u8 (s[j].toNat)] rfl rfl ?c1 ?c2 (by omega) ?_)
              case c1 => exact cell_one_new _ _ _
              case c2 => intro u hu; simp at hu; subst hu; rfl
              intro w2 hown2 hgrow2
              have hbel2 := (hbel.alloc hsz (.cells #[.int .u8 (s[j].toNat)] 5)).grown hgrow2 (by simp; omega) (fun k hk => by cases hk; exact Nat.le_refl _)
              clear hown hgrow2
              go_wp2
              go_roundw
              case rel => exact ⟨j + 1, by omega, by go_num, rfl, ⟨_, hown2⟩, hbel2⟩
              case measure => simp [intOf]; omega
            · obtain rfl : j = s.size := by omega
              go_wp2
              go_roundw
              case rel => exact ⟨k + 1, by omega, by go_num, by rw [HS.out], by rw [HS.out]; exact ⟨_, hown⟩, hbel⟩
              case measure => simp [intOf]; omega
        · obtain rfl : k = ss.length := by omega
          go_wp2
          go_ret
          exact ⟨by rw [List.take_length]; rfl, hbel⟩

end Go.Proofs.Qxb6002662a
