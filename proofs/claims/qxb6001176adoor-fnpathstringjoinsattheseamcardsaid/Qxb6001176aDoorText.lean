/-
  SEAT b6001176aD. The loops that read and copy: zzBytes (5), pathBytes (6), cloneStrings (7), cloneInts (8).
-/
import Derived.Test.Qxb6001176aDoorRows
import Derived.WalkKit
import Derived.WalkLawsBesides
import Derived.WalkSpells
import Derived.Lib.Builder
import Derived.Lib.SliceRun
namespace Go.Proofs.Qxb6001176aDoor
open Go.RowKit

/-! ### plain -/
def total (ss : List ByteArray) : Nat := (ss.map ByteArray.size).sum
theorem take_snoc {α : Type} (z : α) (ss : List α) {k : Nat} (h : k < ss.length) : ss.take (k + 1) = ss.take k ++ [ss.getD k z] := by
  rw [List.take_succ_eq_append_getElem h, List.getD_eq_getElem?_getD, List.getElem?_eq_getElem h]; rfl
theorem total_snoc (l : List ByteArray) (s : ByteArray) : total (l ++ [s]) = total l + s.size := by simp [total]
theorem total_step (ss : List ByteArray) {k : Nat} (h : k < ss.length) : total (ss.take (k + 1)) = total (ss.take k) + (ss.getD k ByteArray.empty).size := by
  rw [take_snoc ByteArray.empty ss h, total_snoc]
theorem total_take_le (ss : List ByteArray) (k : Nat) : total (ss.take k) ≤ total ss := by
  have h : total ss = total (ss.take k) + total (ss.drop k) := by
    have e : total (ss.take k ++ ss.drop k) = total (ss.take k) + total (ss.drop k) := by unfold total; rw [List.map_append, List.sum_append]
    rwa [List.take_append_drop] at e
  omega

/-- The slice value '.slice a ss.length cap' holds the strings ss in world w, in a block below B. -/
def Txt (w : World) (B : Nat) (a : Option Addr) (ss : List ByteArray) : Prop :=
  ss = [] ∨ ∃ b off, a = some ⟨b, off, none⟩ ∧ b < B ∧ ∀ i, i < ss.length → w.cell? ⟨b, off + i, none⟩ = some (.string (ss.getD i ByteArray.empty))
theorem Txt.at {w : World} {B : Nat} {a : Option Addr} {ss : List ByteArray} (h : Txt w B a ss) {k : Nat} (hk : k < ss.length) :
    ∃ b off, a = some ⟨b, off, none⟩ ∧ b < B ∧ w.cell? ⟨b, off + k, none⟩ = some (.string (ss.getD k ByteArray.empty)) := by
  rcases h with rfl | ⟨b, off, h1, h2, h3⟩
  · simp at hk
  · exact ⟨b, off, h1, h2, h3 k hk⟩
theorem Txt.below {w w' : World} {B B' : Nat} {a : Option Addr} {ss : List ByteArray} (h : Txt w B a ss) (hb : Below B' w w') (hB : B ≤ B') : Txt w' B a ss := by
  rcases h with h | ⟨b, off, h1, h2, h3⟩
  · exact Or.inl h
  · exact Or.inr ⟨b, off, h1, h2, fun i hi => (hb.cell (p := ⟨b, off + i, none⟩) (by show b < B'; omega)).trans (h3 i hi)⟩
theorem Txt.mono {w : World} {B B' : Nat} {a : Option Addr} {ss : List ByteArray} (h : Txt w B a ss) (hB : B ≤ B') : Txt w B' a ss := by
  rcases h with h | ⟨b, off, h1, h2, h3⟩
  · exact Or.inl h
  · exact Or.inr ⟨b, off, h1, by omega, h3⟩
/-- The same of a slice of ints. -/
def Nums (w : World) (B : Nat) (a : Option Addr) (zs : List Int) : Prop :=
  zs = [] ∨ ∃ b off, a = some ⟨b, off, none⟩ ∧ b < B ∧ ∀ i, i < zs.length → w.cell? ⟨b, off + i, none⟩ = some (.int .i64 (zs.getD i 0))
theorem Nums.at {w : World} {B : Nat} {a : Option Addr} {zs : List Int} (h : Nums w B a zs) {k : Nat} (hk : k < zs.length) :
    ∃ b off, a = some ⟨b, off, none⟩ ∧ b < B ∧ w.cell? ⟨b, off + k, none⟩ = some (.int .i64 (zs.getD k 0)) := by
  rcases h with rfl | ⟨b, off, h1, h2, h3⟩
  · simp at hk
  · exact ⟨b, off, h1, h2, h3 k hk⟩
theorem Nums.below {w w' : World} {B B' : Nat} {a : Option Addr} {zs : List Int} (h : Nums w B a zs) (hb : Below B' w w') (hB : B ≤ B') : Nums w' B a zs := by
  rcases h with h | ⟨b, off, h1, h2, h3⟩
  · exact Or.inl h
  · exact Or.inr ⟨b, off, h1, h2, fun i hi => (hb.cell (p := ⟨b, off + i, none⟩) (by show b < B'; omega)).trans (h3 i hi)⟩
theorem Nums.mono {w : World} {B B' : Nat} {a : Option Addr} {zs : List Int} (h : Nums w B a zs) (hB : B ≤ B') : Nums w B' a zs := by
  rcases h with h | ⟨b, off, h1, h2, h3⟩
  · exact Or.inl h
  · exact Or.inr ⟨b, off, h1, by omega, h3⟩

/-! ### 5: the bound laid by program -/
def GivesBool (e : Ending) : Prop := ∃ r : Bool, e = .returned (.bool r)

set_option maxHeartbeats 2000000 in
set_option maxRecDepth 100000 in
theorem zzBytes_any (a1 b1 a2 b2 : Option Addr) (c1 d1 c2 d2 n1 n2 B : Nat) (s1 s2 : List ByteArray) (w : World) (h1 : Txt w B a1 s1) (h2 : Txt w B a2 s2) (hl1 : s1.length ≤ 9223372036854775807) (hl2 : s2.length ≤ 9223372036854775807) (hl3 : n1 ≤ 9223372036854775807) (hl4 : n2 ≤ 9223372036854775807) :
    Calls Tryd.prog 5 #[.slice a1 s1.length c1, .slice b1 n1 d1, .slice a2 s2.length c2, .slice b2 n2 d2] w fun e w' => GivesBool e ∧ w' = w := by
  go_enter Tryd.func5, Tryd.ntmps5
  go_wp2
  · go_ret
    exact ⟨⟨_, rfl⟩, rfl⟩
  · go_loop [9, 10] (fun z i => ∃ k n : Nat, k ≤ s1.length ∧ i = .int .i64 k ∧ z = .int .i64 n ∧ n ≤ 1048576) (fun _ i => s1.length - (intOf i).toNat)
    case atStart => exact ⟨0, s1.length, Nat.zero_le _, rfl, by go_num, by omega⟩
    case round =>
      obtain ⟨k, n, hk, rfl, rfl, hn⟩ := hrel
      by_cases hlt : k < s1.length
      · obtain ⟨b, off, rfl, _, hc⟩ := h1.at hlt
        generalize s1.getD k ByteArray.empty = s at hc
        go_wp2
        · go_ret
          exact ⟨⟨_, rfl⟩, rfl⟩
        · go_ret
          exact ⟨⟨_, rfl⟩, rfl⟩
        · go_round
          case rel => exact ⟨k + 1, n + s.size, by omega, by go_num, by go_num, by omega⟩
          case measure => simp [intOf]; omega
      · go_wp2
        · go_ret
          exact ⟨⟨_, rfl⟩, rfl⟩
        · go_ret
          exact ⟨⟨_, rfl⟩, rfl⟩
        · go_ret
          exact ⟨⟨_, rfl⟩, rfl⟩
        · go_ret
          exact ⟨⟨_, rfl⟩, rfl⟩
        · go_loop [9, 11] (fun z i => ∃ k n : Nat, k ≤ s2.length ∧ i = .int .i64 k ∧ z = .int .i64 n ∧ n ≤ 1048576) (fun _ i => s2.length - (intOf i).toNat)
          case atStart => exact ⟨0, n + n1 + s2.length, Nat.zero_le _, rfl, by go_num, by omega⟩
          case round =>
            obtain ⟨k2, m, hk2, rfl, rfl, hm⟩ := hrel
            by_cases hlt2 : k2 < s2.length
            · obtain ⟨b, off, rfl, _, hc⟩ := h2.at hlt2
              generalize s2.getD k2 ByteArray.empty = s at hc
              go_wp2
              · go_ret
                exact ⟨⟨_, rfl⟩, rfl⟩
              · go_ret
                exact ⟨⟨_, rfl⟩, rfl⟩
              · go_round
                case rel => exact ⟨k2 + 1, m + s.size, by omega, by go_num, by go_num, by omega⟩
                case measure => simp [intOf]; omega
            · go_wp2
              all_goals (go_ret; exact ⟨⟨_, rfl⟩, rfl⟩)

/-! ### 6: pathBytes -/
def GivesSize (ss : List ByteArray) (e : Ending) : Prop := ∃ n : Int, e = .returned (.int .i64 n) ∧ 0 ≤ n ∧ n ≤ 4194304 ∧ (n ≤ 1048576 → total ss ≤ 1048576)

set_option maxHeartbeats 1000000 in
theorem pathBytes_any (a b : Option Addr) (c d n B : Nat) (ss : List ByteArray) (w : World) (hT : Txt w B a ss) (hl : ss.length ≤ 65536) (hn : n ≤ 65536) :
    Calls Tryd.prog 6 #[.slice a ss.length c, .slice b n d] w fun e w' => GivesSize ss e ∧ w' = w := by
  go_enter Tryd.func6, Tryd.ntmps6
  go_wp2
  go_loop [5, 6] (fun z i => ∃ k m : Nat, k ≤ ss.length ∧ i = .int .i64 k ∧ z = .int .i64 m ∧ m ≤ 1572864 ∧ total (ss.take k) ≤ m) (fun _ i => ss.length - (intOf i).toNat)
  case atStart => exact ⟨0, 16 * ss.length + 8 * n, Nat.zero_le _, rfl, by go_num, by omega, by simp [total]⟩
  case round =>
    obtain ⟨k, m, hk, rfl, rfl, hm, hnt⟩ := hrel
    by_cases hlt : k < ss.length
    · obtain ⟨b', off, rfl, _, hc⟩ := hT.at hlt
      have hst : Hid (total (ss.take (k + 1)) = total (ss.take k) + (ss.getD k ByteArray.empty).size) := total_step ss hlt
      have HN : Hid (total (ss.take k) ≤ m) := hnt
      clear hnt
      generalize ss.getD k ByteArray.empty = s at hc hst
      go_wp2
      · go_ret
        exact ⟨⟨_, rfl, by omega, by omega, by omega⟩, rfl⟩
      · go_ret
        exact ⟨⟨_, rfl, by omega, by omega, by omega⟩, rfl⟩
      · have h1 := hst.out
        have h2 := HN.out
        go_round
        case rel => exact ⟨k + 1, m + s.size, by omega, by go_num, by go_num, by omega, by omega⟩
        case measure => simp [intOf]; omega
    · have hall : total ss ≤ m := by rw [List.take_of_length_le (by omega)] at hnt; exact hnt
      go_wp2
      go_ret
      exact ⟨⟨_, rfl, by omega, by omega, by omega⟩, rfl⟩

/-! ### 7: cloneStrings (the slice is not nil) -/
theorem Tryd.info9 : (Tryd.prog.info? 9).map (fun i => (i.zero, i.size, i.bytes)) = some (some (.string ByteArray.empty), 1, 16) := by kernel_rfl
theorem Tryd.info3 : (Tryd.prog.info? 3).map (fun i => (i.zero, i.size, i.bytes)) = some (some (.int .i64 0), 1, 8) := by kernel_rfl

/-- The first k values have gone over into the row of e's at block g. -/
def Half (e : TypeId) (g n : Nat) (vs : Nat → Value) (k : Nat) (w : World) : Prop :=
  ∃ cs, w.heap[g]? = some (.cells cs e (0, 0)) ∧ cs.size = n ∧ ∀ i, i < k → cs[i]? = some (vs i)
theorem Half.step {e : TypeId} {g n : Nat} {vs : Nat → Value} {k : Nat} {w : World} (h : Half e g n vs k w) (hk : k < n) : Half e g n vs (k + 1) (w.setCell ⟨g, k, none⟩ (vs k)) := by
  obtain ⟨cs, hh, hn, hi⟩ := h
  refine ⟨cs.setIfInBounds k (vs k), ?_, by simpa using hn, ?_⟩
  · simp [World.setCell, Array.getElem?_modify, hh]
  · intro i hik
    rw [Array.getElem?_setIfInBounds]
    by_cases e : k = i
    · subst e
      simp [hn, hk]
    · rw [if_neg e]
      exact hi i (by omega)
theorem Half.cell {e : TypeId} {g n : Nat} {vs : Nat → Value} {k : Nat} {w : World} (h : Half e g n vs k w) (hk : k < n) : (∃ v, w.cell? ⟨g, k, none⟩ = some v) ∧ w.frozen? ⟨g, k, none⟩ = false := by
  obtain ⟨cs, hh, hn, hi⟩ := h
  exact ⟨⟨cs[k]'(by omega), by rw [Lib.cell_of_heap hh]; exact Array.getElem?_eq_getElem _⟩, Lib.frozen_of_heap hh k⟩
theorem Half.start {e : TypeId} {base g n : Nat} {vs : Nat → Value} {xs : List Value} {w : World} (h : w.ownsRow base e 1 (.slice (some ⟨g, 0, none⟩) n n) n xs) : Half e g n vs 0 w := by
  rcases h.2 with ⟨hv, _⟩ | ⟨g', cap', cur, hv, _, hg, _, _, hsz, _⟩
  · cases hv
  · cases hv
    exact ⟨cur, hg, by simpa using hsz, by omega⟩

set_option maxHeartbeats 1000000 in
theorem cloneStrings_any (ad : Addr) (cap : Nat) (ss : List ByteArray) (w : World) (hT : Txt w w.heap.size (some ad) ss) (hlen : ss.length ≤ 65536) :
    Calls Tryd.prog 7 #[.slice (some ad) ss.length cap] w fun e w' => e = .returned (.slice (some ⟨w.heap.size, 0, none⟩) ss.length ss.length) ∧ Txt w' w'.heap.size (some ⟨w.heap.size, 0, none⟩) ss ∧ Below w.heap.size w w' := by
  obtain ⟨i0, hi, hz0, hz1, hz2⟩ := info_parts Tryd.info9
  have hq := fun W => Lib.run_eql_slice_nil (P := Tryd.prog) W 22 9 (some ad) ss.length cap 0 0 Tryd.underlying22
  go_enter Tryd.func7, Tryd.ntmps7
  go_wp2_with (at_make; refine wpList_make_full _ rfl _ _ 22 rfl w.heap.size 9 i0 _ 1 Tryd.underlying22 hi hz0 hz1 .i64 .i64 _ _ ss.length rfl rfl (by first | rfl | omega) (by first | rfl | omega) (by rw [hz2]; omega) (by unfold maxLen; omega) (Nat.le_refl _) ?_; intro w1 hown1 hgrow1)
  have hbel1 : Below w.heap.size w w1 := (Below.refl _ _).grown hgrow1 (Nat.le_refl _) (by simp)
  have hhalf : Half 9 w.heap.size ss.length (fun i => .string (ss.getD i ByteArray.empty)) 0 w1 := Half.start hown1
  clear hown1 hgrow1 hq
  go_loopw [4] (fun i wr => ∃ k : Nat, k ≤ ss.length ∧ i = .int .i64 k ∧ Half 9 w.heap.size ss.length (fun i => .string (ss.getD i ByteArray.empty)) k wr ∧ Below w.heap.size w wr) (fun i _ => ss.length - (intOf i).toNat)
  case atStart => exact ⟨0, Nat.zero_le _, rfl, hhalf, hbel1⟩
  case round =>
    obtain ⟨k, hk, rfl, hh, hb⟩ := hrel
    by_cases hlt : k < ss.length
    · obtain ⟨b, off, had, hbw, hc⟩ := hT.at hlt
      cases had
      have hc' : wr.cell? ⟨b, off + k, none⟩ = some (.string (ss.getD k ByteArray.empty)) := (hb.cell (p := ⟨b, off + k, none⟩) hbw).trans hc
      obtain ⟨⟨v, hv⟩, hfz⟩ := hh.cell hlt
      have hst : Half 9 w.heap.size ss.length (fun i => .string (ss.getD i ByteArray.empty)) (k + 1) (wr.setCell ⟨w.heap.size, k, none⟩ (.string (ss.getD k ByteArray.empty))) := hh.step hlt
      obtain ⟨s, hs⟩ : ∃ s, s = ss.getD k ByteArray.empty := ⟨_, rfl⟩
      rw [← hs] at hc' hst
      have hbe := hb.setCell (p := ⟨w.heap.size, k, none⟩) (Nat.le_refl _) (.string s)
      have HH : Hid (Half 9 w.heap.size ss.length (fun i => .string (ss.getD i ByteArray.empty)) (k + 1) (wr.setCell ⟨w.heap.size, k, none⟩ (.string s))) := hst
      clear hc hhalf hbel1 hst hs hh
      go_wp2
      go_roundw
      case rel => exact ⟨k + 1, by omega, by go_num, HH.out, hbe⟩
      case measure => simp [intOf]; omega
    · obtain rfl : k = ss.length := by omega
      go_wp2
      go_ret
      refine ⟨rfl, Or.inr ⟨w.heap.size, 0, rfl, ?_, ?_⟩, hb⟩
      · obtain ⟨cs, hhh, _⟩ := hh
        exact (Array.getElem?_eq_some_iff.1 hhh).1
      · intro i hi
        obtain ⟨cs, hhh, _, hci⟩ := hh
        rw [Lib.cell_of_heap hhh, Nat.zero_add]
        exact hci i hi

/-! ### 8: cloneInts (the slice is not nil) -/
set_option maxHeartbeats 1000000 in
theorem cloneInts_any (ad : Addr) (cap : Nat) (zs : List Int) (w : World) (hT : Nums w w.heap.size (some ad) zs) (hlen : zs.length ≤ 65536) :
    Calls Tryd.prog 8 #[.slice (some ad) zs.length cap] w fun e w' => e = .returned (.slice (some ⟨w.heap.size, 0, none⟩) zs.length zs.length) ∧ Nums w' w'.heap.size (some ⟨w.heap.size, 0, none⟩) zs ∧ Below w.heap.size w w' := by
  obtain ⟨i0, hi, hz0, hz1, hz2⟩ := info_parts Tryd.info3
  have hq := fun W => Lib.run_eql_slice_nil (P := Tryd.prog) W 23 3 (some ad) zs.length cap 0 0 Tryd.underlying23
  go_enter Tryd.func8, Tryd.ntmps8
  go_wp2_with (at_make; refine wpList_make_full _ rfl _ _ 23 rfl w.heap.size 3 i0 _ 1 Tryd.underlying23 hi hz0 hz1 .i64 .i64 _ _ zs.length rfl rfl (by first | rfl | omega) (by first | rfl | omega) (by rw [hz2]; omega) (by unfold maxLen; omega) (Nat.le_refl _) ?_; intro w1 hown1 hgrow1)
  have hbel1 : Below w.heap.size w w1 := (Below.refl _ _).grown hgrow1 (Nat.le_refl _) (by simp)
  have hhalf : Half 3 w.heap.size zs.length (fun i => .int .i64 (zs.getD i 0)) 0 w1 := Half.start hown1
  clear hown1 hgrow1 hq
  go_loopw [4] (fun i wr => ∃ k : Nat, k ≤ zs.length ∧ i = .int .i64 k ∧ Half 3 w.heap.size zs.length (fun i => .int .i64 (zs.getD i 0)) k wr ∧ Below w.heap.size w wr) (fun i _ => zs.length - (intOf i).toNat)
  case atStart => exact ⟨0, Nat.zero_le _, rfl, hhalf, hbel1⟩
  case round =>
    obtain ⟨k, hk, rfl, hh, hb⟩ := hrel
    by_cases hlt : k < zs.length
    · obtain ⟨b, off, had, hbw, hc⟩ := hT.at hlt
      cases had
      have hc' : wr.cell? ⟨b, off + k, none⟩ = some (.int .i64 (zs.getD k 0)) := (hb.cell (p := ⟨b, off + k, none⟩) hbw).trans hc
      obtain ⟨⟨v, hv⟩, hfz⟩ := hh.cell hlt
      have hst : Half 3 w.heap.size zs.length (fun i => .int .i64 (zs.getD i 0)) (k + 1) (wr.setCell ⟨w.heap.size, k, none⟩ (.int .i64 (zs.getD k 0))) := hh.step hlt
      obtain ⟨s, hs⟩ : ∃ s, s = zs.getD k 0 := ⟨_, rfl⟩
      rw [← hs] at hc' hst
      have hbe := hb.setCell (p := ⟨w.heap.size, k, none⟩) (Nat.le_refl _) (.int .i64 s)
      have HH : Hid (Half 3 w.heap.size zs.length (fun i => .int .i64 (zs.getD i 0)) (k + 1) (wr.setCell ⟨w.heap.size, k, none⟩ (.int .i64 s))) := hst
      clear hc hhalf hbel1 hst hs hh
      go_wp2
      go_roundw
      case rel => exact ⟨k + 1, by omega, by go_num, HH.out, hbe⟩
      case measure => simp [intOf]; omega
    · obtain rfl : k = zs.length := by omega
      go_wp2
      go_ret
      refine ⟨rfl, Or.inr ⟨w.heap.size, 0, rfl, ?_, ?_⟩, hb⟩
      · obtain ⟨cs, hhh, _⟩ := hh
        exact (Array.getElem?_eq_some_iff.1 hhh).1
      · intro i hi
        obtain ⟨cs, hhh, _, hci⟩ := hh
        rw [Lib.cell_of_heap hhh, Nat.zero_add]
        exact hci i hi

end Go.Proofs.Qxb6001176aDoor
