/-
  SEAT b6003793a. makeRoom (28), ZZMakeRoom (9).
-/
import Derived.Test.Qxb6003793aPut
namespace Go.Proofs.Qxb6003793a
open Go.RowKit Go.Maps

set_option maxHeartbeats 1000000 in
theorem room_bare (B g : Nat) (w : World) (h : Bare B g w) (hBw : B ≤ w.heap.size) :
    Calls Try.prog 28 #[.pointer (some ⟨g, 0, none⟩)] w fun e w' => e = .returned (.tuple #[]) ∧ Held B g 0 (.map []) w' ∧ Fr B g w w' := by
  obtain ⟨hB, hb⟩ := h
  have hnil := fun (W : World) (r : Option Nat) => run_eql_map_nil (P := Try.prog) W 25 24 61 r Try.underlying25
  have c0 : w.cell? ⟨g, 0, none⟩ = some (.map none) := by rw [Lib.cell_of_heap hb]; rfl
  have f0 := Lib.frozen_of_heap hb 0
  have hlt : g < w.heap.size := (Array.getElem?_eq_some_iff.1 hb).1
  have hmm := @run_makeMap Try.prog
  have hsz : (w.setCell ⟨g, 0, none⟩ (.map (some w.heap.size))).heap.size = w.heap.size := by simp [World.setCell]
  have hown0 := World.ownsMap_made (w.setCell ⟨g, 0, none⟩ (.map (some w.heap.size))) Try.prog 24 sealR
  rw [hsz] at hown0
  have hbk : ((w.setCell ⟨g, 0, none⟩ (.map (some w.heap.size))).alloc (.map #[] 0)).heap[g]? = some (.cells #[.map (some w.heap.size), .int .u64 0] 27 (0, 0)) := by
    rw [Lib.alloc_old _ _ _ (by rw [hsz]; exact hlt)]
    simp [World.setCell, Array.getElem?_modify, hb]
  have hfr := ((Fr.refl B g w).setCell hB 0 (.map (some w.heap.size))).alloc (by rw [hsz]; exact hBw) (.map #[] 0)
  have HB : Hid (((w.setCell ⟨g, 0, none⟩ (.map (some w.heap.size))).alloc (.map #[] 0)).heap[g]? = some (.cells #[.map (some w.heap.size), .int .u64 0] 27 (0, 0))) := hbk
  clear hbk hsz hb
  go_enter Try.func28, Try.ntmps28
  go_wp2_with (at_len; refine wpList_len_own _ rfl _ 25 rfl 24 61 Try.underlying25 sealR w.heap.size 0 (.map []) rfl hown0 ?_)
  exact bodyPost_ret (results_none rfl _ _ _) rfl ⟨rfl, ⟨hB, w.heap.size, hBw, by omega, HB.out, hown0⟩, hfr⟩

/-- 'len(m)', the number under a name of its own. -/
theorem wpList_len_seal (w : World) {ops : Array Oper} {rest : List Oper} {o : Oper} {a : Act} {Q : Exit → Act → World → Prop} (hg : o.guard = none) (m : Operand) (hop : o.op = Op.call { callee := Callee.builtin Builtin.len, args := #[m], argTypes := #[25] })
    (b n : Nat) (D : DataW Unit) (hm : a.eval m = .map (some b)) (hown : w.ownsMap Try.prog 24 sealR b n D) (z : Int) (hz : Hid (((Maps.size D : Nat) : Int) = z)) (hK : wpList Try.prog ops Q rest (a.put o.dst (.int .i64 z)) w) :
    wpList Try.prog ops Q (o :: rest) a w :=
  wpList_len_own w hg m 25 hop 24 61 Try.underlying25 sealR b n D hm hown (by rw [hz.out]; exact hK)

set_option maxHeartbeats 1000000 in
theorem room_few (B g n : Nat) (D : DataW Unit) (w : World) (h : Held B g n D w) (hs : Maps.size D < 4096) :
    Calls Try.prog 28 #[.pointer (some ⟨g, 0, none⟩)] w fun e w' => e = .returned (.tuple #[]) ∧ w' = w := by
  obtain ⟨hB, m, hBm, hmg, hb, hown⟩ := h
  have hnil := fun (W : World) (r : Option Nat) => run_eql_map_nil (P := Try.prog) W 25 24 61 r Try.underlying25
  have c0 : w.cell? ⟨g, 0, none⟩ = some (.map (some m)) := by rw [Lib.cell_of_heap hb]; rfl
  obtain ⟨z, hz⟩ : ∃ z : Int, ((Maps.size D : Nat) : Int) = z := ⟨_, rfl⟩
  have HZ : Hid (((Maps.size D : Nat) : Int) = z) := hz
  have hz0 : z < 4096 := by omega
  clear hb hz hs
  go_enter Try.func28, Try.ntmps28
  go_wp2_with (at_len; refine wpList_len_seal _ rfl _ rfl m n D rfl hown z HZ ?_)
  exact bodyPost_ret (results_none rfl _ _ _) rfl ⟨rfl, rfl⟩

/-- A range's step over the records, the shapes written out. -/
theorem wpList_next_seal (w : World) {ops : Array Oper} {rest : List Oper} {o : Oper} {a : Act} {Q : Exit → Act → World → Prop} (hg : o.guard = none) (it : Operand) (hop : o.op = Op.next it false) (b r n : Nat) (D : DataW Unit) (left : Lit → Bool) (cnt : Nat)
    (hit : a.eval it = .pointer (some ⟨r, 0, none⟩)) (h : w.ranges Try.prog 24 sealR b r n D left cnt)
    (hDone : cnt = 0 → (∀ kl, left kl = false) → wpList Try.prog ops Q rest (a.put o.dst (.tuple #[.bool false])) w)
    (hMore : ∀ (x p q l : Int) (w' : World) (cnt' : Nat), Hid ((Lit.int .u64 x).wf = true) → Hid (left (.int .u64 x) = true) → Hid (∀ zd, D.atKey (.int .u64 x) zd = sealD p q l) → w'.ranges Try.prog 24 sealR b r n D (fun z => left z && !z.sameKey (.int .u64 x)) cnt' → cnt' < cnt →
      w.grownBy w' (some r) → Hid (w'.heap.size = w.heap.size) → (Instr.entry (.pointer (some ⟨r, 0, none⟩))).run Try.prog w' = .ok (.tuple #[.int .u64 x, .agg #[.int .u32 p, .int .u64 q, .int .u64 l]]) w' → wpList Try.prog ops Q rest (a.put o.dst (.tuple #[.bool true, .int .u64 x, .agg #[.int .u32 p, .int .u64 q, .int .u64 l]])) w') :
    wpList Try.prog ops Q (o :: rest) a w :=
  wpList_next_ranges w hg it hop 24 law sealR (Value.int .u64) sealV (fun key kl hkey => by obtain ⟨x, rfl, _⟩ := Maps.keyOf_int_inv Try.underlying24 hkey; exact ⟨x, rfl⟩) (fun v y hv => by obtain ⟨t, rfl, _⟩ := sealR_inv hv; exact ⟨t, rfl⟩)
    b r n D left cnt hit h hDone (fun x c kl y w' cnt' hkey hlk hv hat hrg hlt hgr hsz hen => by
      obtain ⟨x', ex, rfl, hwx⟩ := Maps.keyOf_int_inv Try.underlying24 hkey
      cases ex
      have hy : y = (sealD c.1 c.2.1 c.2.2, []) := (Option.some.inj (hv.symm.trans (sealR_mk _ _ _)))
      subst hy
      exact hMore x c.1 c.2.1 c.2.2 w' cnt' hwx hlk hat hrg hlt hgr hsz hen)

/-- WHAT THE LOOP HAS FOUND SO FAR: the record at m0 is still to come and all that was seen is later than l0; or it has come. -/
def Found (left : Lit → Bool) (m0 l0 ov tv : Int) : Prop := (left (.int .u64 m0) = true ∧ l0 < tv) ∨ (left (.int .u64 m0) = false ∧ ov = m0 ∧ tv = l0)

/-- The record at m0 has the least last count, l0, and is alone in that. -/
def Least (D : DataW Unit) (m0 l0 : Int) : Prop :=
  Maps.has D (.int .u64 m0) = true ∧ ∀ x p q l : Int, Maps.has D (.int .u64 x) = true → (∀ z, D.atKey (.int .u64 x) z = sealD p q l) → (x = m0 ∧ l = l0) ∨ (x ≠ m0 ∧ l0 < l)

theorem found_hit {D : DataW Unit} {left : Lit → Bool} {m0 l0 ov tv x p q l : Int} (hF : Found left m0 l0 ov tv) (hL : Least D m0 l0) (hhas : Maps.has D (.int .u64 x) = true) (hat : ∀ z, D.atKey (.int .u64 x) z = sealD p q l)
    (hlt : l < tv) : Found (fun z => left z && !z.sameKey (.int .u64 x)) m0 l0 x l := by
  rcases hL.2 x p q l hhas hat with ⟨rfl, rfl⟩ | ⟨hne, hl⟩
  · right
    exact ⟨by simp [Lit.sameKey], rfl, rfl⟩
  · rcases hF with ⟨h1, h2⟩ | ⟨h1, h2, h3⟩
    · left
      exact ⟨by simp [Lit.sameKey, h1, Ne.symm hne], hl⟩
    · omega
theorem found_miss {D : DataW Unit} {left : Lit → Bool} {m0 l0 ov tv x p q l : Int} (hF : Found left m0 l0 ov tv) (hL : Least D m0 l0) (hlx : left (.int .u64 x) = true) (hhas : Maps.has D (.int .u64 x) = true) (hat : ∀ z, D.atKey (.int .u64 x) z = sealD p q l)
    (hlt : tv ≤ l) : Found (fun z => left z && !z.sameKey (.int .u64 x)) m0 l0 ov tv := by
  rcases hL.2 x p q l hhas hat with ⟨rfl, rfl⟩ | ⟨hne, hl⟩
  · rcases hF with ⟨h1, h2⟩ | ⟨h1, h2, h3⟩
    · omega
    · rw [h1] at hlx
      cases hlx
  · rcases hF with ⟨h1, h2⟩ | ⟨h1, h2, h3⟩
    · left
      exact ⟨by simp [Lit.sameKey, h1, Ne.symm hne], h2⟩
    · right
      exact ⟨by simp [h1], h2, h3⟩

/-- Behind a step of the range: the iterator alone has turned. -/
theorem Fr.step {B g m r n cnt : Nat} {D : DataW Unit} {left : Lit → Bool} {w1 w2 w3 : World} (h : Fr B g w1 w2) (hg : w2.grownBy w3 (some r)) (hr : B ≤ r) (hB : B ≤ w2.heap.size) (hrg : w2.ranges Try.prog 24 sealR m r n D left cnt) : Fr B g w1 w3 := by
  refine ⟨h.bel.grown hg hB (fun k hk => by cases hk; exact hr), fun k cs e fz hk hh => ?_⟩
  have h2 := h.rows k cs e fz hk hh
  rw [hg.block k (Array.getElem?_eq_some_iff.1 h2).1 ?_]
  · exact h2
  · intro e1
    cases e1
    obtain ⟨es, clock, since, seen, c0, _, _, _, _, hi, _⟩ := hrg
    rw [hi] at h2
    cases h2
theorem Fr.none {B g : Nat} {w1 w2 w3 : World} (h : Fr B g w1 w2) (hg : w2.grownBy w3 none) (hB : B ≤ w2.heap.size) : Fr B g w1 w3 := by
  refine ⟨h.bel.grown hg hB (fun k hk => by cases hk), fun k cs e fz hk hh => ?_⟩
  have h2 := h.rows k cs e fz hk hh
  exact (hg.block k (Array.getElem?_eq_some_iff.1 h2).1 (by simp)).trans h2

/-- The loop's relation. -/
def Loop (B g m n : Nat) (D : DataW Unit) (m0 l0 : Int) (w : World) (ov tv : Int) (wr : World) : Prop :=
  ∃ (left : Lit → Bool) (cnt : Nat), wr.ranges Try.prog 24 sealR m w.heap.size n D left cnt ∧ (∀ kl, left kl = true → Maps.has D kl = true) ∧ wr.heap[g]? = some (.cells #[.map (some m), .int .u64 0] 27 (0, 0)) ∧ Fr B g w wr ∧ Found left m0 l0 ov tv

theorem Loop.drew {B g m n : Nat} {D : DataW Unit} {m0 l0 : Int} {w : World} {ov tv : Int} {wr : World} (h : Loop B g m n D m0 l0 w ov tv wr) : Loop B g m n D m0 l0 w ov tv wr.drew := by
  obtain ⟨l, c, h1, h2, h3, h4, h5⟩ := h
  exact ⟨l, c, h1, h2, h3, h4.drew, h5⟩

set_option maxHeartbeats 2000000 in
theorem room_full (B g n : Nat) (D : DataW Unit) (m0 l0 : Int) (w : World) (h : Held B g n D w) (hs : Maps.size D = 4096) (hL : Least D m0 l0) (hw0 : (Lit.int .u64 m0).wf = true) (hl0 : l0 < 18446744073709551615) (hBw : B ≤ w.heap.size) :
    Calls Try.prog 28 #[.pointer (some ⟨g, 0, none⟩)] w fun e w' => e = .returned (.tuple #[]) ∧ Held B g n (D.del (.int .u64 m0)) w' ∧ Fr B g w w' := by
  obtain ⟨hB, m, hBm, hmg, hb, hown⟩ := h
  have hnil := fun (W : World) (r : Option Nat) => run_eql_map_nil (P := Try.prog) W 25 24 61 r Try.underlying25
  have c0 : w.cell? ⟨g, 0, none⟩ = some (.map (some m)) := by rw [Lib.cell_of_heap hb]; rfl
  have HB : Hid (w.heap[g]? = some (.cells #[.map (some m), .int .u64 0] 27 (0, 0))) := hb
  have HL : Hid (Least D m0 l0) := hL
  have HW : Hid ((Lit.int .u64 m0).wf = true) := hw0
  have HF : Hid (Found (Maps.has D) m0 l0 0 18446744073709551615) := Or.inl ⟨hL.1, hl0⟩
  obtain ⟨z, hz⟩ : ∃ z : Int, ((Maps.size D : Nat) : Int) = z := ⟨_, rfl⟩
  have HZ : Hid (((Maps.size D : Nat) : Int) = z) := hz
  have hz0 : 4096 ≤ z := by omega
  clear hb hL hw0 hl0 hs hz
  go_enter Try.func28, Try.ntmps28
  go_wp2_with (first
    | (at_len; refine wpList_len_seal _ rfl _ rfl m n D rfl hown z HZ ?_)
    | (at_range; refine wpList_range_own _ rfl _ 25 rfl 24 61 law Try.underlying25 sealR m n D rfl hown ?_; intro w0 hrg0 hg0 hs0))
  go_frame
  have hlt : g < w.heap.size := (Array.getElem?_eq_some_iff.1 HB.out).1
  have hst : Loop B g m n D m0 l0 w 0 18446744073709551615 w0 := ⟨_, _, hrg0, fun _ h => h, (hg0.block g hlt (by simp)).trans HB.out, (Fr.refl B g w).none hg0 hBw, HF.out⟩
  clear hrg0 hg0 hs0 hown c0
  go_loopw [2, 3] (fun o tk wr => ∃ ov tv : Int, o = .int .u64 ov ∧ tk = .int .u64 tv ∧ Loop B g m n D m0 l0 w ov tv wr) (fun _ _ wr => wr.rangeLeft m w.heap.size)
  case atStart => exact ⟨0, 18446744073709551615, rfl, rfl, hst⟩
  case round =>
    clear hst
    obtain ⟨ov, tv, rfl, rfl, left, cnt, hrg, hsub, hgb, hfr, hF⟩ := hrel
    have c0 : wr.cell? ⟨g, 0, none⟩ = some (.map (some m)) := by rw [Lib.cell_of_heap hgb]; rfl
    have HG : Hid (wr.heap[g]? = some (.cells #[.map (some m), .int .u64 0] 27 (0, 0))) := hgb
    have HS : Hid (∀ kl, left kl = true → Maps.has D kl = true) := hsub
    have HF' : Hid (Found left m0 l0 ov tv) := hF
    clear hgb hsub hF
    have hlw := hfr.bel.size
    go_wp2_with (at_next; refine wpList_next_seal _ rfl _ rfl m w.heap.size n D left cnt rfl hrg ?_ ?_)
    · intro _ hl0
      have hov : ov = m0 := by
        rcases HF'.out with ⟨h1, _⟩ | ⟨_, h2, _⟩
        · rw [hl0] at h1
          cases h1
        · exact h2
      clear hl0 HF'
      subst hov
      go_wp2_with (at_delete; refine wpList_delete_own _ rfl _ _ 25 24 rfl 61 law Try.underlying25 sealR m n D rfl hrg.owns _ (.int .u64 ov) rfl (keyOf_int_mk Try.underlying24 HW.out) ?_; intro w2 hown2 hturn2)
      go_end0
      refine ⟨rfl, ⟨hB, m, hBm, hmg, ?_, hown2⟩, hfr.grown hturn2.grown hBm (by omega) hrg.owns⟩
      exact (hturn2.grown.block g (Array.getElem?_eq_some_iff.1 HG.out).1 (by simp; omega)).trans HG.out
    · intro x p q l w1 cnt1 hwx hlx hat hrg1 hlt1 hg1 hs1 hen
      have hsz1 : w.heap.size ≤ w1.heap.size := by rw [hs1.out]; exact hlw
      have hgA : w1.heap[g]? = some (.cells #[.map (some m), .int .u64 0] 27 (0, 0)) := (hg1.block g (Array.getElem?_eq_some_iff.1 HG.out).1 (by simp; omega)).trans HG.out
      have RA : ∀ ov' tv' : Int, Found (fun z => left z && !z.sameKey (.int .u64 x)) m0 l0 ov' tv' → Loop B g m n D m0 l0 w ov' tv' (w1.alloc (.cells #[.int .u32 p, .int .u64 q, .int .u64 l] 61)) := fun ov' tv' hf =>
        ⟨_, _, hrg1.alloc _, fun kl hk => HS.out kl (by simp at hk; exact hk.1), (Lib.alloc_old w1 _ g (Array.getElem?_eq_some_iff.1 hgA).1).trans hgA, (hfr.step hg1 hBw (by omega) hrg).alloc (by omega) _, hf⟩
      have RM : Hid ((w1.alloc (.cells #[.int .u32 p, .int .u64 q, .int .u64 l] 61)).rangeLeft m w.heap.size < wr.rangeLeft m w.heap.size) := by
        show _ < _
        rw [(hrg1.alloc _).left_eq, hrg.left_eq]
        exact hlt1
      have HR : Hid (∀ ov' tv' : Int, Found (fun z => left z && !z.sameKey (.int .u64 x)) m0 l0 ov' tv' → Loop B g m n D m0 l0 w ov' tv' (w1.alloc (.cells #[.int .u32 p, .int .u64 q, .int .u64 l] 61))) := RA
      have hhas := HS.out _ hlx.out
      have HH : Hid (Maps.has D (.int .u64 x) = true) := hhas
      clear RA hgA hhas hrg1 hg1
      go_wp2
      · have hltv : l < tv := by assumption
        go_region
        go_wp2
        go_roundw
        case rel => exact ⟨x, l, rfl, rfl, (HR.out x l (found_hit HF'.out HL.out HH.out hat.out hltv)).drew⟩
        case measure => exact RM.out
      · have hltv : tv ≤ l := by assumption
        go_roundw
        case rel => exact ⟨ov, tv, rfl, rfl, HR.out ov tv (found_miss HF'.out HL.out hlx.out HH.out hat.out hltv)⟩
        case measure => exact RM.out

/-! ### ZZMakeRoom -/
/-- What makeRoom does to a guard: 'K' of the guard behind it. -/
theorem makeRoom_of {g : Nat} {w : World} {R : World → Prop} (h : Calls Try.prog 28 #[.pointer (some ⟨g, 0, none⟩)] w fun e w' => e = .returned (.tuple #[]) ∧ R w') :
    Calls Try.prog 9 #[.pointer (some ⟨g, 0, none⟩)] w fun e w' => e = .returned (.tuple #[]) ∧ R w' := by
  have H : Hid (Calls Try.prog 28 #[.pointer (some ⟨g, 0, none⟩)] w fun e w' => e = .returned (.tuple #[]) ∧ R w') := h
  clear h
  go_enter Try.func9, Try.ntmps9
  go_wp2_with (go_at_call 28; refine H.out.mono ?_; rintro e w1 ⟨rfl, hR⟩)
  go_end0
  exact ⟨rfl, hR⟩

end Go.Proofs.Qxb6003793a
