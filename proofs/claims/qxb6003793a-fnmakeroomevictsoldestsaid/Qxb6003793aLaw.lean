/-
  SEAT b6003793a. FnMakeRoomEvictsOldest (3): the walk.
-/
import Derived.Test.Qxb6003793aWords
import Derived.WalkSmall
import Derived.Deep.DeepCutAuto
namespace Go.Proofs.Qxb6003793a
open Go.RowKit Go.Maps

set_option maxHeartbeats 4000000 in
set_option maxRecDepth 100000 in
theorem walk (a : Option Addr) (cap : Nat) (zs : List Int) (w : World) (hN : Nums w w.heap.size a zs) (hnil : a = none → zs = [] ∧ cap = 0) (hwf : ∀ i, 0 ≤ zs.getD i 0 ∧ zs.getD i 0 ≤ 18446744073709551615) (hlen : zs.length ≤ 9223372036854775807) :
    Calls Try.prog 3 #[.slice a zs.length cap] w fun e w' => e = .returned (.bool true) ∧ Below w.heap.size w w' := by
  have HWF : Hid (∀ i, 0 ≤ zs.getD i 0 ∧ zs.getD i 0 ≤ 18446744073709551615) := hwf
  clear hwf
  go_enter Try.func3, Try.ntmps3
  go_wp2_with (go_at_call 7; refine (zzBytes_any a _ cap _ hlen).mono ?_; rintro e w1 ⟨⟨r, rfl⟩, rfl⟩; cases r)
  · go_ret
    exact ⟨rfl, Below.refl _ _⟩
  · go_ret
    exact ⟨rfl, Below.refl _ _⟩
  · go_ret
    exact ⟨rfl, Below.refl _ _⟩
  · have hn : zs.length ≤ 4096 := by omega
    go_loopw [4, 5, 6] (fun mi ti i wr => ∃ k : Nat, k ≤ zs.length ∧ i = .int .i64 k ∧ ((k = 0 ∧ mi = .int .i64 (-1) ∧ ti = .int .i64 0) ∨ ∃ m t : Nat, mi = .int .i64 m ∧ ti = .int .i64 t ∧ Mn zs k m t) ∧ Below w1.heap.size w1 wr) (fun _ _ i _ => zs.length - (intOf i).toNat)
    case atStart => exact ⟨0, Nat.zero_le _, rfl, Or.inl ⟨rfl, rfl, rfl⟩, Below.refl _ _⟩
    case round =>
      obtain ⟨k, hk, rfl, hcase, hbel⟩ := hrel
      by_cases hlt : k < zs.length
      · obtain ⟨b, off, rfl, hbw, hc⟩ := hN.at hlt
        rcases hcase with ⟨rfl, rfl, rfl⟩ | ⟨m, t, rfl, rfl, hM⟩
        · go_wp2
          go_quiet (fail)
          go_wp2
          go_roundw
          case rel => exact ⟨1, by omega, rfl, Or.inr ⟨0, 1, rfl, rfl, Mn.first zs⟩, below_drewN hbel _⟩
          case measure => simp [intOf]; omega
        · have hmk := hM.1
          have htk := hM.2.2.1
          have ck : wr.cell? ⟨b, off + k, none⟩ = some (.int .u64 (zs.getD k 0)) := (hbel.cell (p := ⟨b, off + k, none⟩) hbw).trans (hc k hlt)
          have cm : wr.cell? ⟨b, off + m, none⟩ = some (.int .u64 (zs.getD m 0)) := (hbel.cell (p := ⟨b, off + m, none⟩) hbw).trans (hc m (by omega))
          have HM : Hid (Mn zs k m t) := hM
          obtain ⟨zk, hzk⟩ : ∃ z, z = zs.getD k 0 := ⟨_, rfl⟩
          obtain ⟨zm, hzm⟩ : ∃ z, z = zs.getD m 0 := ⟨_, rfl⟩
          rw [← hzk] at ck
          rw [← hzm] at cm
          have HK : Hid (zk = zs.getD k 0) := hzk
          have HM0 : Hid (zm = zs.getD m 0) := hzm
          clear hM hzk hzm hc
          have i1 : (k : Int) < (zs.length : Int) := by omega
          have i2 : (m : Int) < (zs.length : Int) := by omega
          have g0 : decide ((m : Int) < 0) = false := by simp
          by_cases h1 : zk < zm
          · go_wp2
            go_quiet (fail)
            go_wp2
            go_roundw
            case rel => exact ⟨k + 1, by omega, by go_num, Or.inr ⟨k, 1, rfl, rfl, HM.out.less (by rw [← HK.out, ← HM0.out]; exact h1)⟩, below_drewN hbel _⟩
            case measure => simp [intOf]; omega
          · have h1' : decide (zk < zm) = false := by simpa using h1
            by_cases h2 : zk = zm
            · have h2' : (zk == zm) = true := by simpa using h2
              have H2 : Hid (zk = zm) := h2
              clear h2
              go_wp2
              go_quiet (fail)
              go_wp2
              go_quiet (fail)
              go_wp2
              go_roundw
              case rel => exact ⟨k + 1, by omega, by go_num, Or.inr ⟨m, t + 1, rfl, by go_num, HM.out.same (by rw [← HK.out, ← HM0.out]; exact H2.out)⟩, below_drewN hbel _⟩
              case measure => simp [intOf]; omega
            · have h2' : (zk == zm) = false := by simpa using h2
              go_wp2
              go_quiet (fail)
              go_wp2
              go_quiet (fail)
              go_wp2
              go_roundw
              case rel => exact ⟨k + 1, by omega, by go_num, Or.inr ⟨m, t, rfl, rfl, HM.out.more (by rw [← HK.out, ← HM0.out]; omega)⟩, below_drewN hbel _⟩
              case measure => simp [intOf]; omega
      · obtain rfl : k = zs.length := by omega
        clear hlt
        have hbs := hbel.size
        obtain ⟨i0, hi, hz0, hz1, hz2⟩ := info_parts Try.info24
        have hq := fun (W : World) (x : Option Addr) (n c : Nat) => run_neq_slice_nil_any (P := Try.prog) W 22 24 x n c 0 0 Try.underlying22
        by_cases hful : zs.length < 4096
        · have hd : ((zs.length : Int) == 4096) = false := by simp; omega
          clear hcase
          go_upto_if 63 with (fail)
          go_cut [7] (fun c wc => ∃ a' cap', c = .slice a' zs.length cap' ∧ Copied wc a' zs ∧ Below w1.heap.size w1 wc)
          case first =>
            cases a with
            | none =>
              obtain ⟨rfl, rfl⟩ := hnil rfl
              clear hful hn hk hlen hd hN hnil hq
              go_wp2
              go_meet
              case rel => exact ⟨none, 0, rfl, Or.inl rfl, hbel⟩
            | some ad =>
              have hsrc : ∀ W : World, Below w1.heap.size w1 W → 0 < zs.length → ∀ j v, (zs.map (Value.int .u64))[j]? = some v → W.cell? (ad.add j) = some v := by
                intro W hW hpos j v hv
                obtain ⟨b, off, had, hbw, hc⟩ := hN.at hpos
                cases had
                have hj : j < zs.length := by have := (List.getElem?_eq_some_iff.1 hv).1; simpa using this
                rw [Go.WideShapes.add_plain, hW.cell (p := ⟨b, off + j, none⟩) hbw, hc j hj]
                rw [List.getElem?_map, List.getElem?_eq_getElem hj] at hv
                rw [List.getD_eq_getElem?_getD, List.getElem?_eq_getElem hj]
                simpa using hv
              have HSRC : Hid (∀ W : World, Below w1.heap.size w1 W → 0 < zs.length → ∀ j v, (zs.map (Value.int .u64))[j]? = some v → W.cell? (ad.add j) = some v) := hsrc
              clear hsrc
              obtain ⟨CS, hCS⟩ : ∃ CS : List Value, CS = zs.map (Value.int .u64) := ⟨_, rfl⟩
              have hcl : CS.length = zs.length := by rw [hCS]; simp
              have hc1 : ∀ v ∈ CS, v.oneCell' = true := by rw [hCS]; intro v hv; obtain ⟨z, _, rfl⟩ := List.mem_map.1 hv; rfl
              rw [← hCS] at HSRC
              have HCS : Hid (CS = zs.map (Value.int .u64)) := hCS
              have HC1 : Hid (∀ v ∈ CS, v.oneCell' = true) := hc1
              have HCL : Hid (CS.length = zs.length) := hcl
              clear hCS hcl hc1
              go_wp2_with (first
                | (at_make; refine wpList_make_full _ rfl _ _ 22 rfl w1.heap.size 24 i0 _ 1 Try.underlying22 hi hz0 hz1 .i64 .i64 _ _ zs.length rfl rfl (by first | rfl | omega) (by first | rfl | omega) (by rw [hz2]; omega) (by unfold maxLen; omega) hbs ?_; intro w2 hown2 hgrow2; obtain ⟨cur, hcur, hcurl⟩ := row_of hown2; have hb2 := hbel.grown hgrow2 hbs (by simp))
                | (refine wpList_copy_splice rfl _ _ 22 22 rfl 24 Try.underlying22 Try.size24 _ _ _ _ _ _ rfl rfl wr.heap.size 0 cur 24 hcur CS ?p1 ?p2 ?p3 HC1.out w1.heap.size w1 hb2 hbs ?_))
              case p1 => rw [HCL.out]; simp
              case p2 => exact fun h => HSRC.out _ hb2 (by rw [← HCL.out]; exact h)
              case p3 => rw [HCL.out, hcurl]; omega
              intro w3 HG3 hB3
              have hsp : splice cur 0 CS = CS := splice_all cur CS (by rw [HCL.out, hcurl])
              have hG3 := HG3.out
              rw [hsp, HCS.out] at hG3
              have HG : Hid (w3.heap[wr.heap.size]? = some (.cells (zs.map (Value.int .u64)).toArray 24 (0, 0))) := hG3
              clear HG3 hG3 hsp hcur hcurl hown2 hgrow2 hb2
              go_wp2
              go_meet
              case rel => exact ⟨_, _, rfl, Or.inr ⟨wr.heap.size, rfl, HG.out⟩, hB3⟩
          case rest =>
            obtain ⟨a', cap', rfl, hcp, hbelc⟩ := hcut
            have hgs : w1.heap.size ≤ wc.heap.size := hbelc.size
            have hsg : IntKind.u64.signed = false := rfl
            have hP0 : Puts w1 wc.heap.size a' zs 0 (wc.alloc (.cells #[.map none, .int .u64 0] 27)) := Puts.start hcp hbelc
            go_wp2
            go_loopw [9] (fun i wr => ∃ k : Nat, k ≤ zs.length ∧ i = .int .i64 k ∧ Puts w1 wc.heap.size a' zs k wr) (fun i _ => zs.length - (intOf i).toNat)
            case atStart => exact ⟨0, Nat.zero_le _, rfl, hP0⟩
            case round =>
              clear hP0
              obtain ⟨k, hk2, rfl, hP⟩ := hrel
              by_cases hlt2 : k < zs.length
              · obtain ⟨c, rfl, hcell⟩ := hP.cell hlt2
                have hk3 : (k : Int) < 4096 := by omega
                obtain ⟨z, hz⟩ : ∃ z, z = zs.getD k 0 := ⟨_, rfl⟩
                rw [← hz] at hcell
                have HZ : Hid (z = zs.getD k 0) := hz
                clear hz
                go_wp2_with fail
                rcases hP.held with ⟨rfl, hB0⟩ | ⟨D, hH, hF⟩
                · refine (put_bare w1.heap.size wc.heap.size _ _ _ _ wr hB0 (by decide) hP.bel.size).mono ?_
                  rintro e w4 ⟨rfl, hH4, hf4⟩
                  have hF4 := (Full.start zs).put Maps.tidy_empty
                  rw [← HZ.out] at hF4
                  have hP4 := hP.kept hf4 hH4 hF4
                  clear hP hH4 hf4 hF4 hB0
                  go_wp2
                  go_roundw
                  case rel => exact ⟨1, by omega, rfl, hP4⟩
                  case measure => simp [intOf]; omega
                · refine (put_held w1.heap.size wc.heap.size k D _ _ _ _ wr hH (WalkArith.wf_u64 (by omega)) (by omega) hP.bel.size).mono ?_
                  rintro e w4 ⟨rfl, hH4, hf4⟩
                  have hF4 := hF.put (by obtain ⟨_, m, _, _, _, ho⟩ := hH; exact ho.tidy law)
                  rw [← HZ.out] at hF4
                  have hP4 := hP.kept hf4 hH4 hF4
                  clear hP hH4 hf4 hF4 hH hF
                  go_wp2
                  go_roundw
                  case rel => exact ⟨k + 1, by omega, by go_num, hP4⟩
                  case measure => simp [intOf]; omega
              · obtain rfl : k = zs.length := by omega
                clear hlt2 hk2 hcp hbelc
                go_wp2_with fail
                refine (room_few_law w1 wc.heap.size a' zs wr hP hful).mono ?_
                rintro e w5 ⟨rfl, hD⟩
                clear hP
                go_wp2_with (first | (go_at_call 10; refine (isNil_law w1 wc.heap.size a' zs none zs.length _ hD).mono ?_; rintro e w6 ⟨rfl, rfl⟩) | (go_at_call 11; refine (len_law w1 wc.heap.size a' zs none zs.length _ hD).mono ?_; rintro e w6 ⟨rfl, rfl⟩))
                go_loopw [11] (fun i wr => ∃ k : Nat, k ≤ zs.length ∧ i = .int .i64 k ∧ Done w1 wc.heap.size a' zs none zs.length wr) (fun i _ => zs.length - (intOf i).toNat)
                case atStart => exact ⟨0, Nat.zero_le _, rfl, hD⟩
                case round =>
                  clear hD
                  obtain ⟨k, hk5, rfl, hD⟩ := hrel
                  by_cases hlt5 : k < zs.length
                  · obtain ⟨c, rfl, hcell0⟩ := hD.cell hlt5
                    have hk6 : (k : Int) < 4097 := by omega
                    go_wp2_with (go_at_call 12; refine (get_here w1 wc.heap.size _ zs none zs.length _ hD k hlt5 (by omega) (by simp)).mono ?_; rintro e w7 ⟨rfl, hD7⟩; obtain ⟨c', hc', hcell⟩ := hD7.cell hlt5; cases hc')
                    go_roundw
                    case rel => exact ⟨k + 1, by omega, by go_num, hD7⟩
                    case measure => simp [intOf]; omega
                  · go_wp2
                    go_ret
                    exact ⟨rfl, hD.bel⟩
        · have HFL : Hid (zs.length = 4096) := (by omega : zs.length = 4096)
          have hd : ((zs.length : Int) == 4096) = true := by simp; omega
          rcases hcase with ⟨h0, _, _⟩ | ⟨m, ti, rfl, hu5, hM⟩
          · exact absurd h0 (by omega)
          by_cases ht : ti = 1
          · subst ht
            have hu : _ = Value.int .i64 1 := hu5
            clear hu5
            subst hu
            have hml : m < zs.length := hM.1
            have HM : Hid (Mn zs zs.length m 1) := hM
            clear hM
            go_upto_if 63 with (fail)
            go_cut [7] (fun c wc => ∃ a' cap', c = .slice a' zs.length cap' ∧ Copied wc a' zs ∧ Below w1.heap.size w1 wc)
            case first =>
              cases a with
              | none =>
                obtain ⟨rfl, rfl⟩ := hnil rfl
                exact absurd HFL.out (by simp)
              | some ad =>
                have hsrc : ∀ W : World, Below w1.heap.size w1 W → 0 < zs.length → ∀ j v, (zs.map (Value.int .u64))[j]? = some v → W.cell? (ad.add j) = some v := by
                  intro W hW hpos j v hv
                  obtain ⟨b, off, had, hbw, hc⟩ := hN.at hpos
                  cases had
                  have hj : j < zs.length := by have := (List.getElem?_eq_some_iff.1 hv).1; simpa using this
                  rw [Go.WideShapes.add_plain, hW.cell (p := ⟨b, off + j, none⟩) hbw, hc j hj]
                  rw [List.getElem?_map, List.getElem?_eq_getElem hj] at hv
                  rw [List.getD_eq_getElem?_getD, List.getElem?_eq_getElem hj]
                  simpa using hv
                have HSRC : Hid (∀ W : World, Below w1.heap.size w1 W → 0 < zs.length → ∀ j v, (zs.map (Value.int .u64))[j]? = some v → W.cell? (ad.add j) = some v) := hsrc
                clear hsrc
                obtain ⟨CS, hCS⟩ : ∃ CS : List Value, CS = zs.map (Value.int .u64) := ⟨_, rfl⟩
                have hcl : CS.length = zs.length := by rw [hCS]; simp
                have hc1 : ∀ v ∈ CS, v.oneCell' = true := by rw [hCS]; intro v hv; obtain ⟨z, _, rfl⟩ := List.mem_map.1 hv; rfl
                rw [← hCS] at HSRC
                have HCS : Hid (CS = zs.map (Value.int .u64)) := hCS
                have HC1 : Hid (∀ v ∈ CS, v.oneCell' = true) := hc1
                have HCL : Hid (CS.length = zs.length) := hcl
                clear hCS hcl hc1
                go_wp2_with (first
                  | (at_make; refine wpList_make_full _ rfl _ _ 22 rfl w1.heap.size 24 i0 _ 1 Try.underlying22 hi hz0 hz1 .i64 .i64 _ _ zs.length rfl rfl (by first | rfl | omega) (by first | rfl | omega) (by rw [hz2]; omega) (by unfold maxLen; omega) hbs ?_; intro w2 hown2 hgrow2; obtain ⟨cur, hcur, hcurl⟩ := row_of hown2; have hb2 := hbel.grown hgrow2 hbs (by simp))
                  | (refine wpList_copy_splice rfl _ _ 22 22 rfl 24 Try.underlying22 Try.size24 _ _ _ _ _ _ rfl rfl wr.heap.size 0 cur 24 hcur CS ?p1 ?p2 ?p3 HC1.out w1.heap.size w1 hb2 hbs ?_))
                case p1 => rw [HCL.out]; simp
                case p2 => exact fun h => HSRC.out _ hb2 (by rw [← HCL.out]; exact h)
                case p3 => rw [HCL.out, hcurl]; omega
                intro w3 HG3 hB3
                have hsp : splice cur 0 CS = CS := splice_all cur CS (by rw [HCL.out, hcurl])
                have hG3 := HG3.out
                rw [hsp, HCS.out] at hG3
                have HG : Hid (w3.heap[wr.heap.size]? = some (.cells (zs.map (Value.int .u64)).toArray 24 (0, 0))) := hG3
                clear HG3 hG3 hsp hcur hcurl hown2 hgrow2 hb2
                go_wp2
                go_meet
                case rel => exact ⟨_, _, rfl, Or.inr ⟨wr.heap.size, rfl, HG.out⟩, hB3⟩
            case rest =>
              obtain ⟨a', cap', rfl, hcp, hbelc⟩ := hcut
              have hgs : w1.heap.size ≤ wc.heap.size := hbelc.size
              have hsg : IntKind.u64.signed = false := rfl
              have hP0 : Puts w1 wc.heap.size a' zs 0 (wc.alloc (.cells #[.map none, .int .u64 0] 27)) := Puts.start hcp hbelc
              go_wp2
              go_loopw [9] (fun i wr => ∃ k : Nat, k ≤ zs.length ∧ i = .int .i64 k ∧ Puts w1 wc.heap.size a' zs k wr) (fun i _ => zs.length - (intOf i).toNat)
              case atStart => exact ⟨0, Nat.zero_le _, rfl, hP0⟩
              case round =>
                clear hP0
                obtain ⟨k, hk2, rfl, hP⟩ := hrel
                by_cases hlt2 : k < zs.length
                · obtain ⟨c, rfl, hcell⟩ := hP.cell hlt2
                  have hk3 : (k : Int) < 4096 := by omega
                  obtain ⟨z, hz⟩ : ∃ z, z = zs.getD k 0 := ⟨_, rfl⟩
                  rw [← hz] at hcell
                  have HZ : Hid (z = zs.getD k 0) := hz
                  clear hz
                  go_wp2_with fail
                  rcases hP.held with ⟨rfl, hB0⟩ | ⟨D, hH, hF⟩
                  · refine (put_bare w1.heap.size wc.heap.size _ _ _ _ wr hB0 (by decide) hP.bel.size).mono ?_
                    rintro e w4 ⟨rfl, hH4, hf4⟩
                    have hF4 := (Full.start zs).put Maps.tidy_empty
                    rw [← HZ.out] at hF4
                    have hP4 := hP.kept hf4 hH4 hF4
                    clear hP hH4 hf4 hF4 hB0
                    go_wp2
                    go_roundw
                    case rel => exact ⟨1, by omega, rfl, hP4⟩
                    case measure => simp [intOf]; omega
                  · refine (put_held w1.heap.size wc.heap.size k D _ _ _ _ wr hH (WalkArith.wf_u64 (by omega)) (by omega) hP.bel.size).mono ?_
                    rintro e w4 ⟨rfl, hH4, hf4⟩
                    have hF4 := hF.put (by obtain ⟨_, m, _, _, _, ho⟩ := hH; exact ho.tidy law)
                    rw [← HZ.out] at hF4
                    have hP4 := hP.kept hf4 hH4 hF4
                    clear hP hH4 hf4 hF4 hH hF
                    go_wp2
                    go_roundw
                    case rel => exact ⟨k + 1, by omega, by go_num, hP4⟩
                    case measure => simp [intOf]; omega
                · obtain rfl : k = zs.length := by omega
                  clear hlt2 hk2 hcp hbelc
                  go_wp2_with fail
                  refine (room_full_law w1 wc.heap.size a' zs m wr hP HFL.out HM.out HWF.out).mono ?_
                  rintro e w5 ⟨rfl, hD⟩
                  clear hP
                  go_wp2_with (first | (go_at_call 10; refine (isNil_law w1 wc.heap.size a' zs (some m) 4095 _ hD).mono ?_; rintro e w6 ⟨rfl, rfl⟩) | (go_at_call 11; refine (len_law w1 wc.heap.size a' zs (some m) 4095 _ hD).mono ?_; rintro e w6 ⟨rfl, rfl⟩))
                  go_loopw [11] (fun i wr => ∃ k : Nat, k ≤ zs.length ∧ i = .int .i64 k ∧ Done w1 wc.heap.size a' zs (some m) 4095 wr) (fun i _ => zs.length - (intOf i).toNat)
                  case atStart => exact ⟨0, Nat.zero_le _, rfl, hD⟩
                  case round =>
                    clear hD
                    obtain ⟨k, hk5, rfl, hD⟩ := hrel
                    by_cases hlt5 : k < zs.length
                    · by_cases hkm : k = m
                      · subst hkm
                        have hkk : ((k : Int) == (k : Int)) = true := by simp
                        go_wp2_with (go_at_call 12; refine (get_gone w1 wc.heap.size a' zs 4095 _ k hD hlt5 (by omega)).mono ?_; rintro e w7 ⟨⟨p, q, r, rfl⟩, hD7⟩)
                        go_roundw
                        case rel => exact ⟨k + 1, by omega, by go_num, hD7⟩
                        case measure => simp [intOf]; omega
                      · have hkk : ((k : Int) == (m : Int)) = false := by simp; omega
                        obtain ⟨c, rfl, hcell0⟩ := hD.cell hlt5
                        have hk6 : (k : Int) < 4097 := by omega
                        go_wp2_with (go_at_call 12; refine (get_here w1 wc.heap.size _ zs (some m) 4095 _ hD k hlt5 (by omega) (by simp; omega)).mono ?_; rintro e w7 ⟨rfl, hD7⟩; obtain ⟨c', hc', hcell⟩ := hD7.cell hlt5; cases hc')
                        go_roundw
                        case rel => exact ⟨k + 1, by omega, by go_num, hD7⟩
                        case measure => simp [intOf]; omega
                    · go_wp2
                      go_ret
                      exact ⟨rfl, hD.bel⟩
          · subst hu5
            have hti : (((ti : Nat) : Int) != 1) = true := by simp; omega
            go_wp2
            go_ret
            exact ⟨rfl, hbel⟩

end Go.Proofs.Qxb6003793a
