/-
  SEAT b6001176aD. The law's walk (3).
-/
import Derived.Test.Qxb6001176aDoorEarly
namespace Go.Proofs.Qxb6001176aDoor
open Go.RowKit

/-! ### the contracts, the lengths by their letters -/
theorem zzBytes_len (a1 b1 a2 b2 : Option Addr) (c1 d1 c2 d2 n1 n2 B : Nat) (s1 s2 : List ByteArray) (w : World) (h1 : Txt w B a1 s1) (h2 : Txt w B a2 s2) (e1 : Hid (s1.length = n1)) (e2 : Hid (s2.length = n2)) (hn1 : n1 ≤ 65536) (hn2 : n2 ≤ 65536) :
    Calls Tryd.prog 5 #[.slice a1 n1 c1, .slice b1 n1 d1, .slice a2 n2 c2, .slice b2 n2 d2] w fun e w' => GivesBool e ∧ w' = w := by
  have e1 := e1.out
  have e2 := e2.out
  subst e1 e2
  exact zzBytes_any a1 b1 a2 b2 c1 d1 c2 d2 _ _ B s1 s2 w h1 h2 (by omega) (by omega) (by omega) (by omega)
theorem pathBytes_len (a b : Option Addr) (c d n B : Nat) (ss : List ByteArray) (w : World) (hT : Txt w B a ss) (e : Hid (ss.length = n)) (hn : n ≤ 65536) :
    Calls Tryd.prog 6 #[.slice a n c, .slice b n d] w fun e w' => GivesSize ss e ∧ w' = w := by
  have e := e.out
  subst e
  exact pathBytes_any a b c d _ B ss w hT hn hn
theorem cloneStrings_len (ad : Addr) (cap n B : Nat) (ss : List ByteArray) (w : World) (hT : Txt w B (some ad) ss) (hB : B ≤ w.heap.size) (e : Hid (ss.length = n)) (hlen : n ≤ 65536) :
    Calls Tryd.prog 7 #[.slice (some ad) n cap] w fun e w' => e = .returned (.slice (some ⟨w.heap.size, 0, none⟩) n n) ∧ Txt w' w'.heap.size (some ⟨w.heap.size, 0, none⟩) ss ∧ Below w.heap.size w w' := by
  have e := e.out
  subst e
  exact cloneStrings_any ad cap ss w (hT.mono hB) hlen
theorem cloneInts_len (ad : Addr) (cap n B : Nat) (zs : List Int) (w : World) (hT : Nums w B (some ad) zs) (hB : B ≤ w.heap.size) (e : Hid (zs.length = n)) (hlen : n ≤ 65536) :
    Calls Tryd.prog 8 #[.slice (some ad) n cap] w fun e w' => e = .returned (.slice (some ⟨w.heap.size, 0, none⟩) n n) ∧ Nums w' w'.heap.size (some ⟨w.heap.size, 0, none⟩) zs ∧ Below w.heap.size w w' := by
  have e := e.out
  subst e
  exact cloneInts_any ad cap zs w (hT.mono hB) hlen

theorem string_len (p : Nat) (ss : List ByteArray) (zs : List Int) (n : Nat) (t : ByteArray) (w : World) (hp : IsPath w.heap.size p ss zs w) (hP : Tryd.Pow w) (e : Hid (ss.length = n)) (e' : Hid (zs.length = n)) (hlen : n ≤ 131072) (htot : total ss ≤ 4194304) (hz : Small zs) (ht : Hid (t = ⟨(words ss zs n).toArray⟩)) :
    Calls Tryd.prog 10 #[.pointer (some ⟨p, 0, none⟩)] w fun e w' => e = .returned (.string t) ∧ Below w.heap.size w w' := by
  have e := e.out
  subst e
  rw [ht.out]
  exact string_any p ss zs w hp hP e'.out hlen htot hz
theorem words_size (ss : List ByteArray) (zs : List Int) (n : Nat) (t : ByteArray) (e : Hid (ss.length = n)) (e' : Hid (zs.length = n)) (hlen : n ≤ 131072) (htot : total ss ≤ 4194304) (hz : Small zs) (ht : Hid (t = ⟨(words ss zs n).toArray⟩)) : t.size ≤ 8000000 := by
  have e := e.out
  subst e
  have h := words_length ss zs e'.out hz _ (Nat.le_refl _)
  have h2 := total_take_le ss ss.length
  have h3 : t.size = (words ss zs ss.length).length := by rw [ht.out]; rfl
  omega

/-! ### the two rows that grow -/
theorem row_kept {w w' : World} {B e q g n N : Nat} {xs : List Value} (h : w.ownsRow B e q (.slice (some ⟨g, 0, none⟩) n N) n xs) (hk : w'.heap[g]? = w.heap[g]?) : w'.ownsRow B e q (.slice (some ⟨g, 0, none⟩) n N) n xs := by
  refine ⟨h.1, ?_⟩
  rcases h.2 with ⟨hv, _⟩ | ⟨g', cap', cur, hv, hB, hg, r⟩
  · cases hv
  · cases hv
    exact Or.inr ⟨g, N, cur, rfl, hB, hk.trans hg, r⟩
theorem row_lt {w : World} {B e q g n N : Nat} {xs : List Value} (h : w.ownsRow B e q (.slice (some ⟨g, 0, none⟩) n N) n xs) : g < w.heap.size := by
  rcases h.2 with ⟨hv, _⟩ | ⟨g', cap', cur, hv, hB, hg, r⟩
  · cases hv
  · cases hv
    exact (Array.getElem?_eq_some_iff.mp hg).1
theorem row_cell {w : World} {B e g n N : Nat} {xs : List Value} (h : w.ownsRow B e 1 (.slice (some ⟨g, 0, none⟩) n N) n xs) {i : Nat} (hi : i < n) : w.cell? ⟨g, 0 + i, none⟩ = xs[i]? := by
  rcases h.2 with ⟨hv, _⟩ | ⟨g', cap', cur, hv, hB, hg, h1, h2, h3, h4⟩
  · cases hv
  · cases hv
    rw [Lib.cell_of_heap hg, ← h4, List.getElem?_take_of_lt (by omega), Nat.zero_add]
    simp
/-- The strings ss in the row at G and the ints zs in the row at H, k of either. -/
structure Two (B G H N k : Nat) (ss : List ByteArray) (zs : List Int) (w : World) : Prop where
  one : w.ownsRow B 9 1 (.slice (some ⟨G, 0, none⟩) k N) k (ss.map Value.string)
  two : w.ownsRow B 3 1 (.slice (some ⟨H, 0, none⟩) k N) k (zs.map (Value.int .i64))
theorem Two.txt {B G H N k : Nat} {ss : List ByteArray} {zs : List Int} {w : World} (h : Two B G H N k ss zs w) : Txt w w.heap.size (some ⟨G, 0, none⟩) ss := by
  have hl : ss.length = k := by have := h.one.1; simpa using this
  refine Or.inr ⟨G, 0, rfl, row_lt h.one, fun i hi => ?_⟩
  rw [row_cell h.one (by omega), List.getElem?_map, List.getD_eq_getElem?_getD, List.getElem?_eq_getElem hi]
  rfl
theorem Two.nums {B G H N k : Nat} {ss : List ByteArray} {zs : List Int} {w : World} (h : Two B G H N k ss zs w) : Nums w w.heap.size (some ⟨H, 0, none⟩) zs := by
  have hl : zs.length = k := by have := h.two.1; simpa using this
  refine Or.inr ⟨H, 0, rfl, row_lt h.two, fun i hi => ?_⟩
  rw [row_cell h.two (by omega), List.getElem?_map, List.getD_eq_getElem?_getD, List.getElem?_eq_getElem hi]
  rfl

set_option maxHeartbeats 4000000 in
set_option maxRecDepth 100000 in
theorem law_main (a1 b1 a2 b2 : Addr) (c1 d1 c2 d2 n1 n2 : Nat) (s1 s2 : List ByteArray) (z1 z2 : List Int) (w : World) (h1 : Txt w w.heap.size (some a1) s1) (k1 : Nums w w.heap.size (some b1) z1) (h2 : Txt w w.heap.size (some a2) s2) (k2 : Nums w w.heap.size (some b2) z2)
    (e1 : Hid (s1.length = n1)) (e2 : Hid (z1.length = n1)) (e3 : Hid (s2.length = n2)) (e4 : Hid (z2.length = n2)) (l1 : n1 ≤ 65536) (l2 : n2 ≤ 65536) (p1 : 0 < n1) (p2 : 0 < n2) (m1 : Small z1) (m2 : Small z2) (hP : Tryd.Pow w) :
    Calls Tryd.prog 3 #[.slice (some a1) n1 c1, .slice (some b1) n1 d1, .slice (some a2) n2 c2, .slice (some b2) n2 d2] w fun e w' => e = .returned (.bool true) ∧ Below w.heap.size w w' := by
  obtain ⟨i9, hi9, hz0, hz1, hz2⟩ := info_parts Tryd.info9
  obtain ⟨i3, hi3, hy0, hy1, hy2⟩ := info_parts Tryd.info3
  have hw0 : w.heap.size ≤ w.heap.size := Nat.le_refl _
  have r1 : (n1 : Int) ≤ 65536 := by omega
  have r2 : (n2 : Int) ≤ 65536 := by omega
  have r3 : ((n1 : Int) == 0) = false := by simp; omega
  have r4 : ((n2 : Int) == 0) = false := by simp; omega
  go_enter Tryd.func3, Tryd.ntmps3
  go_wp2_with (first
    | (go_at_call 5; refine (zzBytes_len (some a1) (some b1) (some a2) (some b2) c1 d1 c2 d2 n1 n2 w.heap.size s1 s2 w h1 h2 e1 e3 l1 l2).mono ?_; rintro r w' ⟨⟨b, rfl⟩, hw⟩; replace hw := hw.symm; subst hw; cases b)
    | (go_at_call 6; (with_reducible refine (pathBytes_len (some a1) (some b1) c1 d1 n1 w.heap.size s1 w h1 e1 l1).mono ?_); rintro r3 w3 ⟨⟨q1, rfl, q10, q11, q12⟩, hw⟩; replace hw := hw.symm; subst hw; replace q12 : Hid (q1 ≤ 1048576 → total s1 ≤ 1048576) := q12)
    | (go_at_call 6; (with_reducible refine (pathBytes_len (some a2) (some b2) c2 d2 n2 w.heap.size s2 w h2 e3 l2).mono ?_); rintro r4 w4 ⟨⟨q2, rfl, q20, q21, q22⟩, hw⟩; replace hw := hw.symm; subst hw; replace q22 : Hid (q2 ≤ 1048576 → total s2 ≤ 1048576) := q22)
    | (go_at_call 7; (with_reducible refine (cloneStrings_len a1 c1 n1 w.heap.size s1 w h1 hw0 e1 l1).mono ?_); rintro r5 W1 ⟨rfl, t1, f1⟩; have F1 := f1)
    | (go_at_call 8; (with_reducible refine (cloneInts_len b1 d1 n1 w.heap.size z1 W1 (k1.below F1 hw0) F1.size e2 l1).mono ?_); rintro r6 W2 ⟨rfl, t2, f2⟩; have F2 := F1.trans (f2.mono F1.size))
    | (go_at_call 7; (with_reducible refine (cloneStrings_len a2 c2 n2 w.heap.size s2 W2 (h2.below F2 hw0) F2.size e3 l2).mono ?_); rintro r7 W3 ⟨rfl, t3, f3⟩; have F3 := F2.trans (f3.mono F2.size))
    | (go_at_call 8; (with_reducible refine (cloneInts_len b2 d2 n2 w.heap.size z2 W3 (k2.below F3 hw0) F3.size e4 l2).mono ?_); rintro r8 W4 ⟨rfl, t4, f4⟩; have F4 := F3.trans (f4.mono F3.size))
    | (at_make; (with_reducible refine wpList_make_own _ rfl _ _ 22 rfl w.heap.size 9 i9 _ 1 Tryd.underlying22 hi9 hz0 hz1 .i64 .i64 _ (n1 + n2) rfl rfl (by first | rfl | omega) (by rw [hz2]; omega) (by unfold maxLen; omega) F4.size ?_); intro W5 o5 g5)
    | (at_make; (with_reducible refine wpList_make_own _ rfl _ _ 23 rfl w.heap.size 3 i3 _ 1 Tryd.underlying23 hi3 hy0 hy1 .i64 .i64 _ (n1 + n2) rfl rfl (by first | rfl | omega) (by rw [hy2]; omega) (by unfold maxLen; omega) (Nat.le_trans F4.size g5.size) ?_); intro W6 o6 g6))
  all_goals try (go_ret; exact ⟨rfl, Below.refl _ _⟩)
  have hBB : Below W4.heap.size W4 W6 := ((Below.refl _ _).grown g5 (Nat.le_refl _) (by simp)).grown g6 g5.size (by simp)
  have hTwo : Two w.heap.size W4.heap.size W5.heap.size (n1 + n2) 0 (s1.take 0) (z1.take 0) W6 := ⟨row_kept o5 (g6.block _ (row_lt o5) (by simp)), o6⟩
  have T1 : Txt W4 W4.heap.size (some ⟨w.heap.size, 0, none⟩) s1 := (((t1.below f2 (Nat.le_refl _)).below f3 f2.size).below f4 (Nat.le_trans f2.size f3.size)).mono (Nat.le_trans f2.size (Nat.le_trans f3.size f4.size))
  have T2 : Nums W4 W4.heap.size (some ⟨W1.heap.size, 0, none⟩) z1 := ((t2.below f3 (Nat.le_refl _)).below f4 f3.size).mono (Nat.le_trans f3.size f4.size)
  have T3 : Txt W4 W4.heap.size (some ⟨W2.heap.size, 0, none⟩) s2 := (t3.below f4 (Nat.le_refl _)).mono f4.size
  have T4 : Nums W4 W4.heap.size (some ⟨W3.heap.size, 0, none⟩) z2 := t4
  have hGH : W4.heap.size < W5.heap.size := row_lt o5
  have hP4 : Tryd.Pow W4 := pow_later hP F4 (pow_size hP)
  clear t1 t2 t3 t4 f1 f2 f3 f4 F1 F2 F3 o5 o6 g5 g6 h1 h2 k1 k2 hP r3 r4 hz0 hz2 hy0 hy2
  go_loopw [10, 11, 12] (fun u v i wr => ∃ k : Nat, k ≤ n1 ∧ i = .int .i64 k ∧ u = .slice (some ⟨W4.heap.size, 0, none⟩) k (n1 + n2) ∧ v = .slice (some ⟨W5.heap.size, 0, none⟩) k (n1 + n2) ∧ Two w.heap.size W4.heap.size W5.heap.size (n1 + n2) k (s1.take k) (z1.take k) wr ∧ Below W4.heap.size W4 wr) (fun _ _ i _ => n1 - (intOf i).toNat)
  case atStart => exact ⟨0, Nat.zero_le _, rfl, rfl, rfl, hTwo, hBB⟩
  case round =>
    obtain ⟨k, hk, rfl, rfl, rfl, hR, hB⟩ := hrel
    clear hTwo hBB
    by_cases hlt : k < n1
    · obtain ⟨x1, y1, hx1, hxb1, hc1⟩ := T1.at (k := k) (by rw [e1.out]; exact hlt)
      cases hx1
      obtain ⟨x2, y2, hx2, hxb2, hc2⟩ := T2.at (k := k) (by rw [e2.out]; exact hlt)
      cases hx2
      rw [Nat.zero_add] at hc1 hc2
      have v1 : wr.cell? ⟨w.heap.size, k, none⟩ = some (.string (s1.getD k ByteArray.empty)) := (hB.cell (p := ⟨w.heap.size, k, none⟩) hxb1).trans hc1
      have u1 := take_snoc ByteArray.empty s1 (k := k) (by rw [e1.out]; exact hlt)
      have u2 := take_snoc 0 z1 (k := k) (by rw [e2.out]; exact hlt)
      obtain ⟨s, hs⟩ : ∃ s, s = s1.getD k ByteArray.empty := ⟨_, rfl⟩
      obtain ⟨z, hz⟩ : ∃ z, z = z1.getD k 0 := ⟨_, rfl⟩
      rw [← hs] at v1 u1
      rw [← hz] at hc2 u2
      have U1 : Hid (s1.take (k + 1) = s1.take k ++ [s]) := u1
      have U2 : Hid (z1.take (k + 1) = z1.take k ++ [z]) := u2
      have C2 : Hid (W4.cell? ⟨W1.heap.size, k, none⟩ = some (.int .i64 z)) := hc2
      have i1 : (k : Int) < (n1 : Int) := by omega
      clear hc1 hc2 hs hz u1 u2
      go_wp2_with (first
        | (at_builtin; refine wpList_append_fits _ rfl _ _ 22 rfl w.heap.size 9 i9 1 Tryd.underlying22 hi9 hz1 W4.heap.size k (n1 + n2) _ rfl (hR.one.alloc _) ⟨wr.heap.size, 0, none⟩ 1 1 [.string s] rfl rfl (cell_one_new _ _ _) (by intro u hu; simp at hu; subst hu; rfl) (by omega) ?_; intro X2 o2 g2; have hB2 := (hB.alloc hB.size (.cells #[.string s] 9)).grown g2 (Nat.le_trans hB.size (by simp)) (fun k hk => by cases hk; exact Nat.le_refl _); have hR2 := row_kept (hR.two.alloc (.cells #[.string s] 9)) (g2.block _ (row_lt (hR.two.alloc (.cells #[.string s] 9))) (by simp; omega)); have v2 := (hB2.cell (p := ⟨W1.heap.size, k, none⟩) hxb2).trans C2.out)
        | (at_builtin; refine wpList_append_fits _ rfl _ _ 23 rfl w.heap.size 3 i3 1 Tryd.underlying23 hi3 hy1 W5.heap.size k (n1 + n2) _ rfl (hR2.alloc _) ⟨X2.heap.size, 0, none⟩ 1 1 [.int .i64 z] rfl rfl (cell_one_new _ _ _) (by intro u hu; simp at hu; subst hu; rfl) (by omega) ?_; intro X3 o3 g3; have hB3 := (hB2.alloc hB2.size (.cells #[.int .i64 z] 3)).grown g3 (Nat.le_trans hB2.size (by simp)) (fun k hk => by cases hk; exact Nat.le_of_lt hGH); have hR3 := row_kept (o2.alloc (.cells #[.int .i64 z] 3)) (g3.block _ (row_lt (o2.alloc (.cells #[.int .i64 z] 3))) (by simp; omega))))
      go_roundw
      case rel =>
        refine ⟨k + 1, by omega, by go_num, rfl, rfl, ⟨?_, ?_⟩, hB3⟩
        · rw [U1.out, List.map_append]
          exact hR3
        · rw [U2.out, List.map_append]
          exact o3
      case measure => simp [intOf]; omega
    · have hge : n1 = k := by omega
      subst hge
      have w1 : s1.take n1 = s1 := by rw [← e1.out]; exact List.take_length
      have w2 : z1.take n1 = z1 := by rw [← e2.out]; exact List.take_length
      have hTwo : Two w.heap.size W4.heap.size W5.heap.size (n1 + n2) (n1 + 0) (s1 ++ s2.take 0) (z1 ++ z2.take 0) wr := by
        rw [w1, w2] at hR
        rw [List.take_zero, List.take_zero, List.append_nil, List.append_nil]
        exact hR
      clear w1 w2 hlt hR hk
      go_wp2
      obtain ⟨wo, hwo⟩ : ∃ wo : World, wo = wr := ⟨_, rfl⟩
      clear hwo wo
      go_loopw [10, 11, 13] (fun u v i wr => ∃ k : Nat, k ≤ n2 ∧ i = .int .i64 k ∧ u = .slice (some ⟨W4.heap.size, 0, none⟩) (n1 + k) (n1 + n2) ∧ v = .slice (some ⟨W5.heap.size, 0, none⟩) (n1 + k) (n1 + n2) ∧ Two w.heap.size W4.heap.size W5.heap.size (n1 + n2) (n1 + k) (s1 ++ s2.take k) (z1 ++ z2.take k) wr ∧ Below W4.heap.size W4 wr) (fun _ _ i _ => n2 - (intOf i).toNat)
      case atStart => exact ⟨0, Nat.zero_le _, rfl, rfl, rfl, hTwo, hB⟩
      case round =>
        clear hTwo hB
        obtain ⟨k, hk, rfl, rfl, rfl, hR, hB⟩ := hrel
        by_cases hlt : k < n2
        · obtain ⟨x1, y1, hx1, hxb1, hc1⟩ := T3.at (k := k) (by rw [e3.out]; exact hlt)
          cases hx1
          obtain ⟨x2, y2, hx2, hxb2, hc2⟩ := T4.at (k := k) (by rw [e4.out]; exact hlt)
          cases hx2
          rw [Nat.zero_add] at hc1 hc2
          have v1 : wr.cell? ⟨W2.heap.size, k, none⟩ = some (.string (s2.getD k ByteArray.empty)) := (hB.cell (p := ⟨W2.heap.size, k, none⟩) hxb1).trans hc1
          have u1 := take_snoc ByteArray.empty s2 (k := k) (by rw [e3.out]; exact hlt)
          have u2 := take_snoc 0 z2 (k := k) (by rw [e4.out]; exact hlt)
          obtain ⟨s, hs⟩ : ∃ s, s = s2.getD k ByteArray.empty := ⟨_, rfl⟩
          obtain ⟨z, hz⟩ : ∃ z, z = z2.getD k 0 := ⟨_, rfl⟩
          rw [← hs] at v1 u1
          rw [← hz] at hc2 u2
          have U1 : Hid (s2.take (k + 1) = s2.take k ++ [s]) := u1
          have U2 : Hid (z2.take (k + 1) = z2.take k ++ [z]) := u2
          have C2 : Hid (W4.cell? ⟨W3.heap.size, k, none⟩ = some (.int .i64 z)) := hc2
          have i1 : (k : Int) < (n2 : Int) := by omega
          clear hc1 hc2 hs hz u1 u2
          go_wp2_with (first
            | (at_builtin; refine wpList_append_fits _ rfl _ _ 22 rfl w.heap.size 9 i9 1 Tryd.underlying22 hi9 hz1 W4.heap.size (n1 + k) (n1 + n2) _ rfl (hR.one.alloc _) ⟨wr.heap.size, 0, none⟩ 1 1 [.string s] rfl rfl (cell_one_new _ _ _) (by intro u hu; simp at hu; subst hu; rfl) (by omega) ?_; intro X2 o2 g2; have hB2 := (hB.alloc hB.size (.cells #[.string s] 9)).grown g2 (Nat.le_trans hB.size (by simp)) (fun k hk => by cases hk; exact Nat.le_refl _); have hR2 := row_kept (hR.two.alloc (.cells #[.string s] 9)) (g2.block _ (row_lt (hR.two.alloc (.cells #[.string s] 9))) (by simp; omega)); have v2 := (hB2.cell (p := ⟨W3.heap.size, k, none⟩) hxb2).trans C2.out)
            | (at_builtin; refine wpList_append_fits _ rfl _ _ 23 rfl w.heap.size 3 i3 1 Tryd.underlying23 hi3 hy1 W5.heap.size (n1 + k) (n1 + n2) _ rfl (hR2.alloc _) ⟨X2.heap.size, 0, none⟩ 1 1 [.int .i64 z] rfl rfl (cell_one_new _ _ _) (by intro u hu; simp at hu; subst hu; rfl) (by omega) ?_; intro X3 o3 g3; have hB3 := (hB2.alloc hB2.size (.cells #[.int .i64 z] 3)).grown g3 (Nat.le_trans hB2.size (by simp)) (fun k hk => by cases hk; exact Nat.le_of_lt hGH); have hR3 := row_kept (o2.alloc (.cells #[.int .i64 z] 3)) (g3.block _ (row_lt (o2.alloc (.cells #[.int .i64 z] 3))) (by simp; omega))))
          go_roundw
          case rel =>
            refine ⟨k + 1, by omega, by go_num, rfl, rfl, ⟨?_, ?_⟩, hB3⟩
            · rw [U1.out, ← List.append_assoc, List.map_append]
              exact hR3
            · rw [U2.out, ← List.append_assoc, List.map_append]
              exact o3
          case measure => simp [intOf]; omega
        · have hge : n2 = k := by omega
          subst hge
          have w1 : s2.take n2 = s2 := by rw [← e3.out]; exact List.take_length
          have w2 : z2.take n2 = z2 := by rw [← e4.out]; exact List.take_length
          rw [w1, w2] at hR
          clear w1 w2 hlt hk
          obtain ⟨b3, o3', hx3, hb3, hc3⟩ := T4.at (k := 0) (by rw [e4.out]; exact p2)
          cases hx3
          have E1 : Hid ((s1 ++ s2).length = n1 + n2) := by show (s1 ++ s2).length = n1 + n2; rw [List.length_append, e1.out, e3.out]
          have E2 : Hid ((z1 ++ z2).length = n1 + n2) := by show (z1 ++ z2).length = n1 + n2; rw [List.length_append, e2.out, e4.out]
          have M : Small (z1 ++ z2) := small_append m1 m2
          have tt1 : total s1 ≤ 1048576 := q12.out (by omega)
          have tt2 : total s2 ≤ 1048576 := q22.out (by omega)
          have tt3 : total (s1 ++ s2) ≤ 4194304 := by rw [total_append]; omega
          have tt4 : total s1 ≤ 4194304 := by omega
          have tt5 : total s2 ≤ 4194304 := by omega
          have ll : n1 + n2 ≤ 131072 := by omega
          have ll1 : n1 ≤ 131072 := by omega
          have ll2 : n2 ≤ 131072 := by omega
          have hseam := words_seam s1 s2 z1 z2 (by rw [e1.out, e2.out]) (by rw [e1.out]; exact p1) (by rw [e3.out]; exact p2)
          rw [e1.out, e3.out] at hseam
          obtain ⟨tA, htA⟩ : ∃ t : ByteArray, t = ⟨(words (s1 ++ s2) (z1 ++ z2) (n1 + n2)).toArray⟩ := ⟨_, rfl⟩
          obtain ⟨tB, htB⟩ : ∃ t : ByteArray, t = ⟨(words s1 z1 n1).toArray⟩ := ⟨_, rfl⟩
          obtain ⟨tC, htC⟩ : ∃ t : ByteArray, t = ⟨(words s2 z2 n2).toArray⟩ := ⟨_, rfl⟩
          have HA : Hid (tA = ⟨(words (s1 ++ s2) (z1 ++ z2) (n1 + n2)).toArray⟩) := htA
          have HB : Hid (tB = ⟨(words s1 z1 n1).toArray⟩) := htB
          have HC : Hid (tC = ⟨(words s2 z2 n2).toArray⟩) := htC
          have sB := words_size s1 z1 n1 tB e1 e2 ll1 tt4 m1 HB
          have sC := words_size s2 z2 n2 tC e3 e4 ll2 tt5 m2 HC
          obtain ⟨z0, hz0⟩ : ∃ z, z = z2.getD 0 0 := ⟨_, rfl⟩
          rw [← hz0] at hc3 hseam
          have C3 : Hid (W4.cell? ⟨W3.heap.size, 0, none⟩ = some (.int .i64 z0)) := hc3
          have j2 : (0 : Int) < (n2 : Int) := by omega
          have hl12 : n1 + n2 = (s1 ++ s2).length := E1.out.symm
          have N1 : Hid (n1 + n2 = (s1 ++ s2).length) := hl12
          have N2 : Hid (n1 = s1.length) := e1.out.symm
          have N3 : Hid (n2 = s2.length) := e3.out.symm
          have Z1 : Hid ((z1 ++ z2).length = (s1 ++ s2).length) := E2.out.trans E1.out.symm
          have Z2 : Hid (z1.length = s1.length) := e2.out.trans e1.out.symm
          have Z3 : Hid (z2.length = s2.length) := e4.out.trans e3.out.symm
          have L1 : (s1 ++ s2).length ≤ 131072 := by rw [E1.out]; exact ll
          have L2 : s1.length ≤ 131072 := by rw [e1.out]; exact ll1
          have L3 : s2.length ≤ 131072 := by rw [e3.out]; exact ll2
          have X1 : Txt wr wr.heap.size (some ⟨W4.heap.size, 0, none⟩) (s1 ++ s2) := hR.txt
          have X2 : Nums wr wr.heap.size (some ⟨W5.heap.size, 0, none⟩) (z1 ++ z2) := hR.nums
          by_cases hpos : 0 ≤ z0
          · have hE : tA = tB ++ tC := by
              rw [if_pos hpos, List.nil_append] at hseam
              rw [htA, htB, htC, hseam]
              apply ByteArray.ext
              simp
            have HE : Hid (tA = tB ++ tC) := hE
            clear hE htA htB htC hseam hz0 hc3 hR hl12
            go_wp2_with (first
              | (go_at_call 9; (with_reducible refine (newPath_len ⟨W4.heap.size, 0, none⟩ ⟨W5.heap.size, 0, none⟩ (n1 + n2) (n1 + n2) (n1 + n2) (n1 + n2) (s1 ++ s2) (z1 ++ z2) wr X1 X2 N1.out N1.out Z1.out L1).mono ?_); rintro r9 Y1 ⟨⟨p1', rfl, hp1⟩, y1⟩; have V1 := hB.trans (y1.mono hB.size))
              | (go_at_call 10; (with_reducible refine (string_len p1' (s1 ++ s2) (z1 ++ z2) (n1 + n2) tA Y1 hp1 (pow_later hP4 V1 (pow_size hP4)) E1 E2 ll tt3 M HA).mono ?_); rintro r10 Y2 ⟨rfl, y2⟩; have V2 := V1.trans (y2.mono V1.size))
              | (go_at_call 9; (with_reducible refine (newPath_len ⟨w.heap.size, 0, none⟩ ⟨W1.heap.size, 0, none⟩ n1 n1 n1 n1 s1 z1 Y2 ((T1.below V2 (Nat.le_refl _)).mono V2.size) ((T2.below V2 (Nat.le_refl _)).mono V2.size) N2.out N2.out Z2.out L2).mono ?_); rintro r11 Y3 ⟨⟨p2', rfl, hp2⟩, y3⟩; have V3 := V2.trans (y3.mono V2.size))
              | (go_at_call 10; (with_reducible refine (string_len p2' s1 z1 n1 tB Y3 hp2 (pow_later hP4 V3 (pow_size hP4)) e1 e2 ll1 tt4 m1 HB).mono ?_); rintro r12 Y4 ⟨rfl, y4⟩; have V4 := V3.trans (y4.mono V3.size))
              | (go_at_call 9; (with_reducible refine (newPath_len ⟨W2.heap.size, 0, none⟩ ⟨W3.heap.size, 0, none⟩ n2 n2 n2 n2 s2 z2 Y4 ((T3.below V4 (Nat.le_refl _)).mono V4.size) ((T4.below V4 (Nat.le_refl _)).mono V4.size) N3.out N3.out Z3.out L3).mono ?_); rintro r13 Y5 ⟨⟨p3', rfl, hp3⟩, y5⟩; have V5 := V4.trans (y5.mono V4.size))
              | (go_at_call 10; (with_reducible refine (string_len p3' s2 z2 n2 tC Y5 hp3 (pow_later hP4 V5 (pow_size hP4)) e3 e4 ll2 tt5 m2 HC).mono ?_); rintro r14 Y6 ⟨rfl, y6⟩; have V6 := V5.trans (y6.mono V5.size); have v6 := (V6.cell (p := ⟨W3.heap.size, 0, none⟩) hb3).trans C3.out))
            go_ret
            refine ⟨?_, F4.trans (V6.mono F4.size)⟩
            rw [HE.out]
            simp
          · have hE : tA = tB ++ ⟨#[46]⟩ ++ tC := by
              rw [if_neg hpos] at hseam
              rw [htA, htB, htC, hseam]
              apply ByteArray.ext
              simp
            have HE : Hid (tA = tB ++ ⟨#[46]⟩ ++ tC) := hE
            clear hE htA htB htC hseam hz0 hc3 hR hl12
            go_wp2_with (first
              | (go_at_call 9; (with_reducible refine (newPath_len ⟨W4.heap.size, 0, none⟩ ⟨W5.heap.size, 0, none⟩ (n1 + n2) (n1 + n2) (n1 + n2) (n1 + n2) (s1 ++ s2) (z1 ++ z2) wr X1 X2 N1.out N1.out Z1.out L1).mono ?_); rintro r9 Y1 ⟨⟨p1', rfl, hp1⟩, y1⟩; have V1 := hB.trans (y1.mono hB.size))
              | (go_at_call 10; (with_reducible refine (string_len p1' (s1 ++ s2) (z1 ++ z2) (n1 + n2) tA Y1 hp1 (pow_later hP4 V1 (pow_size hP4)) E1 E2 ll tt3 M HA).mono ?_); rintro r10 Y2 ⟨rfl, y2⟩; have V2 := V1.trans (y2.mono V1.size))
              | (go_at_call 9; (with_reducible refine (newPath_len ⟨w.heap.size, 0, none⟩ ⟨W1.heap.size, 0, none⟩ n1 n1 n1 n1 s1 z1 Y2 ((T1.below V2 (Nat.le_refl _)).mono V2.size) ((T2.below V2 (Nat.le_refl _)).mono V2.size) N2.out N2.out Z2.out L2).mono ?_); rintro r11 Y3 ⟨⟨p2', rfl, hp2⟩, y3⟩; have V3 := V2.trans (y3.mono V2.size))
              | (go_at_call 10; (with_reducible refine (string_len p2' s1 z1 n1 tB Y3 hp2 (pow_later hP4 V3 (pow_size hP4)) e1 e2 ll1 tt4 m1 HB).mono ?_); rintro r12 Y4 ⟨rfl, y4⟩; have V4 := V3.trans (y4.mono V3.size))
              | (go_at_call 9; (with_reducible refine (newPath_len ⟨W2.heap.size, 0, none⟩ ⟨W3.heap.size, 0, none⟩ n2 n2 n2 n2 s2 z2 Y4 ((T3.below V4 (Nat.le_refl _)).mono V4.size) ((T4.below V4 (Nat.le_refl _)).mono V4.size) N3.out N3.out Z3.out L3).mono ?_); rintro r13 Y5 ⟨⟨p3', rfl, hp3⟩, y5⟩; have V5 := V4.trans (y5.mono V4.size))
              | (go_at_call 10; (with_reducible refine (string_len p3' s2 z2 n2 tC Y5 hp3 (pow_later hP4 V5 (pow_size hP4)) e3 e4 ll2 tt5 m2 HC).mono ?_); rintro r14 Y6 ⟨rfl, y6⟩; have V6 := V5.trans (y6.mono V5.size); have v6 := (V6.cell (p := ⟨W3.heap.size, 0, none⟩) hb3).trans C3.out))
            go_ret
            refine ⟨?_, F4.trans (V6.mono F4.size)⟩
            rw [HE.out]
            simp

theorem law_any (a1 b1 a2 b2 : Option Addr) (c1 d1 c2 d2 : Nat) (s1 s2 : List ByteArray) (z1 z2 : List Int) (w : World) (h1 : Txt w w.heap.size a1 s1) (k1 : Nums w w.heap.size b1 z1) (h2 : Txt w w.heap.size a2 s2) (k2 : Nums w w.heap.size b2 z2)
    (l1 : s1.length ≤ 9223372036854775807) (l2 : z1.length ≤ 9223372036854775807) (l3 : s2.length ≤ 9223372036854775807) (l4 : z2.length ≤ 9223372036854775807) (m1 : Small z1) (m2 : Small z2) (hP : Tryd.Pow w) :
    Calls Tryd.prog 3 #[.slice a1 s1.length c1, .slice b1 z1.length d1, .slice a2 s2.length c2, .slice b2 z2.length d2] w fun e w' => e = .returned (.bool true) ∧ Below w.heap.size w w' := by
  by_cases hF : Fit s1 s2 z1 z2
  · obtain ⟨⟨f1, f2, f3, f4⟩, ⟨f5, f6⟩, f7, f8⟩ := hF
    obtain ⟨x1, y1, rfl, _, _⟩ := h1.at f7
    obtain ⟨x2, y2, rfl, _, _⟩ := k1.at (k := 0) (by omega)
    obtain ⟨x3, y3, rfl, _, _⟩ := h2.at f8
    obtain ⟨x4, y4, rfl, _, _⟩ := k2.at (k := 0) (by omega)
    rw [← f5, ← f6]
    exact law_main _ _ _ _ c1 d1 c2 d2 _ _ s1 s2 z1 z2 w h1 k1 h2 k2 (show s1.length = s1.length from rfl) (show z1.length = s1.length from f5.symm) (show s2.length = s2.length from rfl) (show z2.length = s2.length from f6.symm) f1 f3 f7 f8 m1 m2 hP
  · refine (law_early a1 b1 a2 b2 c1 d1 c2 d2 s1 s2 z1 z2 w h1 h2 l1 l2 l3 l4 hF).mono ?_
    rintro e w' ⟨rfl, rfl⟩
    exact ⟨rfl, Below.refl _ _⟩

end Go.Proofs.Qxb6001176aDoor
