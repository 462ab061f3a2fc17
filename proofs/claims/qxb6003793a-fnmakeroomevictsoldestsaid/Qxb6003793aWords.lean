/-
  SEAT b6003793a. What the law's loops say of the numbers and of the map; ZZMakeRoom, ZZLen, ZZGet in those words.
-/
import Derived.Test.Qxb6003793aRoom
import Derived.Laws.CopyOwn
import Derived.WalkSmall
import Derived.Deep.DeepCutAuto
namespace Go.Proofs.Qxb6003793a
open Go.RowKit Go.Maps

theorem Try.info24 : (Try.prog.info? 24).map (fun i => (i.zero, i.size, i.bytes)) = some (some (.int .u64 0), 1, 8) := by kernel_rfl
theorem Try.size24 : (Try.prog.info? 24).map (·.size) = some 1 := by kernel_rfl

/-- The slice '.slice a zs.length cap' holds the numbers zs, in a block below B. -/
def Nums (w : World) (B : Nat) (a : Option Addr) (zs : List Int) : Prop :=
  zs = [] ∨ ∃ b off, a = some ⟨b, off, none⟩ ∧ b < B ∧ ∀ i, i < zs.length → w.cell? ⟨b, off + i, none⟩ = some (.int .u64 (zs.getD i 0))
theorem Nums.at {w : World} {B : Nat} {a : Option Addr} {zs : List Int} (h : Nums w B a zs) {k : Nat} (hk : k < zs.length) :
    ∃ b off, a = some ⟨b, off, none⟩ ∧ b < B ∧ ∀ i, i < zs.length → w.cell? ⟨b, off + i, none⟩ = some (.int .u64 (zs.getD i 0)) := by
  rcases h with rfl | h
  · simp at hk
  · exact h

/-- Of the first i numbers the one at m is the least; t is 1 only if it is alone in that. -/
def Mn (zs : List Int) (i m t : Nat) : Prop := m < i ∧ 1 ≤ t ∧ t ≤ i ∧ (∀ j, j < i → zs.getD m 0 ≤ zs.getD j 0) ∧ (t = 1 → ∀ j, j < i → j ≠ m → zs.getD m 0 < zs.getD j 0)
theorem Mn.first (zs : List Int) : Mn zs 1 0 1 :=
  ⟨by omega, by omega, by omega, fun j hj => by obtain rfl : j = 0 := by omega
                                                exact Int.le_refl _, fun _ j hj hne => by omega⟩
theorem Mn.less {zs : List Int} {i m t : Nat} (h : Mn zs i m t) (hl : zs.getD i 0 < zs.getD m 0) : Mn zs (i + 1) i 1 := by
  obtain ⟨h1, h2, h3, h4, h5⟩ := h
  refine ⟨by omega, by omega, by omega, fun j hj => ?_, fun _ j hj hne => ?_⟩
  · by_cases e : j = i
    · subst e; exact Int.le_refl _
    · have := h4 j (by omega); omega
  · have := h4 j (by omega); omega
theorem Mn.same {zs : List Int} {i m t : Nat} (h : Mn zs i m t) (hl : zs.getD i 0 = zs.getD m 0) : Mn zs (i + 1) m (t + 1) := by
  obtain ⟨h1, h2, h3, h4, h5⟩ := h
  refine ⟨by omega, by omega, by omega, fun j hj => ?_, fun ht => by omega⟩
  by_cases e : j = i
  · subst e; omega
  · exact h4 j (by omega)
theorem Mn.more {zs : List Int} {i m t : Nat} (h : Mn zs i m t) (hl : zs.getD m 0 < zs.getD i 0) : Mn zs (i + 1) m t := by
  obtain ⟨h1, h2, h3, h4, h5⟩ := h
  refine ⟨by omega, by omega, by omega, fun j hj => ?_, fun ht j hj hne => ?_⟩
  · by_cases e : j = i
    · subst e; omega
    · exact h4 j (by omega)
  · by_cases e : j = i
    · subst e; exact hl
    · exact h5 ht j (by omega) hne

theorem splice_all {α : Type} (L cs : List α) (h : cs.length = L.length) : splice L 0 cs = cs := by
  simp [splice, h]
/-- The law's own copy of the numbers. -/
def Copied (w : World) (a : Option Addr) (zs : List Int) : Prop :=
  zs = [] ∨ ∃ c, a = some ⟨c, 0, none⟩ ∧ w.heap[c]? = some (.cells (zs.map (Value.int .u64)).toArray 24 (0, 0))
theorem row_of {w : World} {base e g n : Nat} {xs : List Value} (h : w.ownsRow base e 1 (.slice (some ⟨g, 0, none⟩) n n) n xs) : ∃ cur : List Value, w.heap[g]? = some (.cells cur.toArray e (0, 0)) ∧ cur.length = n := by
  rcases h.2 with ⟨hv, _⟩ | ⟨g', cap', cur, hv, _, hg, _, _, hsz, _⟩
  · cases hv
  · cases hv
    exact ⟨cur.toList, hg, by simpa using hsz⟩

/-- '^uint64(i)' -/
def inv (i : Int) : Int := bits .xor .u64 IntKind.u64.max i
/-- The map holds just the records of the first k numbers. -/
structure Full (D : DataW Unit) (k : Nat) (zs : List Int) : Prop where
  has : ∀ x : Int, Maps.has D (.int .u64 x) = decide (0 ≤ x ∧ x < k)
  val : ∀ i : Nat, i < k → ∀ z, D.atKey (.int .u64 i) z = sealD i (inv i) (zs.getD i 0)
  size : Maps.size D = k
theorem Full.start (zs : List Int) : Full (.map []) 0 zs := ⟨fun x => by
  simp [Maps.has]
  try omega, fun i h => by omega, rfl⟩
theorem Full.put {D : DataW Unit} {k : Nat} {zs : List Int} (h : Full D k zs) (hT : Maps.Tidy D) : Full (D.put (.int .u64 k) (sealD k (inv k) (zs.getD k 0))) (k + 1) zs := by
  have hno : Maps.has D (.int .u64 (k : Int)) = false := by rw [h.has]; simp
  refine ⟨fun x => ?_, fun i hi z => ?_, ?_⟩
  · by_cases e : x = (k : Int)
    · subst e
      rw [Maps.has_put_same hT.isMap (show WideAt.IsKeyLit (.int .u64 (k : Int)) from trivial)]
      simp
      omega
    · rw [Maps.has_put_other (by simpa using e), h.has]
      simp only [decide_eq_decide]
      omega
  · by_cases e : i = k
    · subst e
      exact Maps.atKey_put_same hT.isMap (show WideAt.IsKeyLit (.int .u64 (i : Int)) from trivial) _ _
    · rw [Maps.atKey_put_other (by simp; omega)]
      exact h.val i (by omega) z
  · rw [Maps.size_put hT, hno, h.size]
    rfl

/-- WHAT THE LOOP THAT FILES THE RECORDS HAS DONE. -/
structure Puts (w1 : World) (g : Nat) (a : Option Addr) (zs : List Int) (k : Nat) (w : World) : Prop where
  copy : zs = [] ∨ ∃ c, a = some ⟨c, 0, none⟩ ∧ c ≠ g ∧ w.heap[c]? = some (.cells (zs.map (Value.int .u64)).toArray 24 (0, 0))
  held : (k = 0 ∧ Bare w1.heap.size g w) ∨ ∃ D, Held w1.heap.size g k D w ∧ Full D k zs
  bel : Below w1.heap.size w1 w
theorem Puts.start {w1 wc : World} {a : Option Addr} {zs : List Int} (h : Copied wc a zs) (hb : Below w1.heap.size w1 wc) : Puts w1 wc.heap.size a zs 0 (wc.alloc (.cells #[.map none, .int .u64 0] 27)) := by
  refine ⟨?_, Or.inl ⟨rfl, hb.size, heap_alloc_new wc _⟩, hb.alloc hb.size _⟩
  rcases h with h | ⟨c, ha, hc⟩
  · exact Or.inl h
  · have hlt : c < wc.heap.size := (Array.getElem?_eq_some_iff.1 hc).1
    exact Or.inr ⟨c, ha, by omega, (Lib.alloc_old wc _ c hlt).trans hc⟩
theorem Puts.cell {w1 : World} {g : Nat} {a : Option Addr} {zs : List Int} {k : Nat} {w : World} (h : Puts w1 g a zs k w) {j : Nat} (hj : j < zs.length) : ∃ c, a = some ⟨c, 0, none⟩ ∧ w.cell? ⟨c, j, none⟩ = some (.int .u64 (zs.getD j 0)) := by
  rcases h.copy with h | ⟨c, ha, _, hc⟩
  · subst h
    simp at hj
  · refine ⟨c, ha, ?_⟩
    rw [Lib.cell_of_heap hc]
    simp [List.getElem?_eq_getElem hj]
theorem Puts.kept {w1 : World} {g : Nat} {a : Option Addr} {zs : List Int} {k : Nat} {w w' : World} (h : Puts w1 g a zs k w) (hf : Fr w1.heap.size g w w') {k' : Nat} {D : DataW Unit} (hh : Held w1.heap.size g k' D w') (hF : Full D k' zs) : Puts w1 g a zs k' w' := by
  refine ⟨?_, Or.inr ⟨D, hh, hF⟩, h.bel.trans hf.bel⟩
  rcases h.copy with h | ⟨c, ha, hcg, hc⟩
  · exact Or.inl h
  · exact Or.inr ⟨c, ha, hcg, hf.rows c _ _ _ hcg hc⟩

/-! ### behind makeRoom -/
/-- The map holds the record of each number but the one at 'skip'. -/
structure Chk (D : DataW Unit) (zs : List Int) (skip : Option Nat) : Prop where
  gone : ∀ i, i < zs.length → skip = some i → Maps.has D (.int .u64 i) = false
  here : ∀ i, i < zs.length → skip ≠ some i → Maps.has D (.int .u64 i) = true ∧ ∀ z, D.atKey (.int .u64 i) z = sealD i (inv i) (zs.getD i 0)
structure Done (w1 : World) (g : Nat) (a : Option Addr) (zs : List Int) (skip : Option Nat) (size : Nat) (w : World) : Prop where
  copy : zs = [] ∨ ∃ c, a = some ⟨c, 0, none⟩ ∧ c ≠ g ∧ w.heap[c]? = some (.cells (zs.map (Value.int .u64)).toArray 24 (0, 0))
  held : ∃ D n, Held w1.heap.size g n D w ∧ Chk D zs skip ∧ Maps.size D = size
  bel : Below w1.heap.size w1 w
theorem Done.cell {w1 : World} {g : Nat} {a : Option Addr} {zs : List Int} {skip : Option Nat} {n : Nat} {w : World} (h : Done w1 g a zs skip n w) {j : Nat} (hj : j < zs.length) : ∃ c, a = some ⟨c, 0, none⟩ ∧ w.cell? ⟨c, j, none⟩ = some (.int .u64 (zs.getD j 0)) := by
  rcases h.copy with h | ⟨c, ha, _, hc⟩
  · subst h
    simp at hj
  · refine ⟨c, ha, ?_⟩
    rw [Lib.cell_of_heap hc]
    simp [List.getElem?_eq_getElem hj]
theorem copy_kept {g : Nat} {a : Option Addr} {zs : List Int} {w w' : World} {B : Nat} (h : zs = [] ∨ ∃ c, a = some ⟨c, 0, none⟩ ∧ c ≠ g ∧ w.heap[c]? = some (.cells (zs.map (Value.int .u64)).toArray 24 (0, 0))) (hf : Fr B g w w') :
    zs = [] ∨ ∃ c, a = some ⟨c, 0, none⟩ ∧ c ≠ g ∧ w'.heap[c]? = some (.cells (zs.map (Value.int .u64)).toArray 24 (0, 0)) := by
  rcases h with h | ⟨c, ha, hcg, hc⟩
  · exact Or.inl h
  · exact Or.inr ⟨c, ha, hcg, hf.rows c _ _ _ hcg hc⟩
theorem Full.chk {D : DataW Unit} {zs : List Int} (h : Full D zs.length zs) : Chk D zs none :=
  ⟨fun _ _ e => (by cases e), fun i hi _ => ⟨by rw [h.has]; simp; omega, h.val i hi⟩⟩
theorem Full.chk_del {D : DataW Unit} {zs : List Int} (h : Full D zs.length zs) (m : Nat) : Chk (D.del (.int .u64 m)) zs (some m) := by
  refine ⟨fun i hi e => ?_, fun i hi e => ?_⟩
  · cases e
    exact Maps.has_del_same
  · have hne : (Lit.int .u64 (i : Int)) ≠ .int .u64 (m : Int) := by
      intro e1
      simp at e1
      have e2 : i = m := by omega
      exact e (by rw [e2])
    refine ⟨?_, fun z => ?_⟩
    · rw [Maps.has_del_other hne, h.has]
      simp
      omega
    · rw [Maps.atKey_del_other hne]
      exact h.val i hi z

theorem room_few_law (w1 : World) (g : Nat) (a : Option Addr) (zs : List Int) (w : World) (h : Puts w1 g a zs zs.length w) (hn : zs.length < 4096) :
    Calls Try.prog 9 #[.pointer (some ⟨g, 0, none⟩)] w fun e w' => e = .returned (.tuple #[]) ∧ Done w1 g a zs none zs.length w' := by
  refine makeRoom_of ?_
  rcases h.held with ⟨h0, hB⟩ | ⟨D, hH, hF⟩
  · refine (room_bare w1.heap.size g w hB h.bel.size).mono ?_
    rintro e w' ⟨rfl, hH, hf⟩
    have hF : Full (.map []) zs.length zs := by rw [h0]; exact Full.start zs
    exact ⟨rfl, copy_kept h.copy hf, ⟨_, _, hH, hF.chk, hF.size⟩, h.bel.trans hf.bel⟩
  · refine (room_few w1.heap.size g zs.length D w hH (by rw [hF.size]; exact hn)).mono ?_
    rintro e w' ⟨rfl, rfl⟩
    exact ⟨rfl, h.copy, ⟨_, _, hH, hF.chk, hF.size⟩, h.bel⟩

theorem room_full_law (w1 : World) (g : Nat) (a : Option Addr) (zs : List Int) (m : Nat) (w : World) (h : Puts w1 g a zs zs.length w) (hn : zs.length = 4096) (hM : Mn zs zs.length m 1) (hwf : ∀ i, 0 ≤ zs.getD i 0 ∧ zs.getD i 0 ≤ 18446744073709551615) :
    Calls Try.prog 9 #[.pointer (some ⟨g, 0, none⟩)] w fun e w' => e = .returned (.tuple #[]) ∧ Done w1 g a zs (some m) 4095 w' := by
  refine makeRoom_of ?_
  obtain ⟨hm, _, _, _, hone⟩ := hM
  rcases h.held with ⟨h0, hB⟩ | ⟨D, hH, hF⟩
  · omega
  · have hT : Maps.Tidy D := by obtain ⟨_, b, _, _, _, ho⟩ := hH; exact ho.tidy law
    have hhas : Maps.has D (.int .u64 (m : Int)) = true := by rw [hF.has]; simp; omega
    have hL : Least D m (zs.getD m 0) := by
      refine ⟨hhas, fun x p q l hx hat => ?_⟩
      rw [hF.has] at hx
      have hx' := of_decide_eq_true hx
      obtain ⟨i, rfl⟩ := Int.eq_ofNat_of_zero_le hx'.1
      have hi : i < zs.length := by omega
      have e := (hat (.map [])).symm.trans (hF.val i hi (.map []))
      obtain ⟨_, _, rfl⟩ := sealD_inj e
      by_cases e1 : i = m
      · subst e1
        exact Or.inl ⟨rfl, rfl⟩
      · exact Or.inr ⟨by omega, hone rfl i hi e1⟩
    have hl0 : zs.getD m 0 < 18446744073709551615 := by
      obtain ⟨j, hj, hjm⟩ : ∃ j, j < zs.length ∧ j ≠ m := by
        by_cases e : m = 0
        · exact ⟨1, by omega, by omega⟩
        · exact ⟨0, by omega, by omega⟩
      have h1 := hone rfl j hj hjm
      have h2 := (hwf j).2
      omega
    refine (room_full w1.heap.size g zs.length D m (zs.getD m 0) w hH (by rw [hF.size]; exact hn) hL (WalkArith.wf_u64 (by omega)) hl0 h.bel.size).mono ?_
    rintro e w' ⟨rfl, hH', hf⟩
    have hs := Maps.size_del (k := .int .u64 (m : Int)) hT
    rw [hhas, hF.size, hn] at hs
    exact ⟨rfl, copy_kept h.copy hf, ⟨_, _, hH', hF.chk_del m, by simp at hs; omega⟩, h.bel.trans hf.bel⟩

theorem isNil_law (w1 : World) (g : Nat) (a : Option Addr) (zs : List Int) (skip : Option Nat) (n : Nat) (w : World) (h : Done w1 g a zs skip n w) :
    Calls Try.prog 10 #[.pointer (some ⟨g, 0, none⟩)] w fun e w' => e = .returned (.bool false) ∧ w' = w := by
  obtain ⟨D, k, hH, _⟩ := h.held
  exact isNil_held _ _ _ _ _ hH
theorem len_law (w1 : World) (g : Nat) (a : Option Addr) (zs : List Int) (skip : Option Nat) (n : Nat) (w : World) (h : Done w1 g a zs skip n w) :
    Calls Try.prog 11 #[.pointer (some ⟨g, 0, none⟩)] w fun e w' => e = .returned (.int .i64 n) ∧ w' = w := by
  obtain ⟨D, k, hH, _, rfl⟩ := h.held
  exact len_held _ _ _ _ _ hH
theorem get_here (w1 : World) (g : Nat) (a : Option Addr) (zs : List Int) (skip : Option Nat) (n : Nat) (w : World) (h : Done w1 g a zs skip n w) (i : Nat) (hi : i < zs.length) (hi2 : i < 65536) (hs : skip ≠ some i) :
    Calls Try.prog 12 #[.pointer (some ⟨g, 0, none⟩), .int .u64 i] w fun e w' => e = .returned (.tuple #[.int .u32 i, .int .u64 (bits .xor .u64 IntKind.u64.max i), .int .u64 (zs.getD i 0), .bool true]) ∧ Done w1 g a zs skip n w' := by
  obtain ⟨D, k, hH, hC, hS⟩ := h.held
  refine (get_held _ _ _ _ i _ hH (WalkArith.wf_u64 (by omega)) h.bel.size).mono ?_
  rintro e w' ⟨⟨p, q, r, rfl, hat⟩, hH', hf⟩
  obtain ⟨h1, h2⟩ := hC.here i hi hs
  rw [h2] at hat
  obtain ⟨e1, e2, e3⟩ := sealD_inj hat
  subst e1
  subst e2
  subst e3
  rw [h1]
  exact ⟨rfl, copy_kept h.copy hf, ⟨D, k, hH', hC, hS⟩, h.bel.trans hf.bel⟩
theorem get_gone (w1 : World) (g : Nat) (a : Option Addr) (zs : List Int) (n : Nat) (w : World) (i : Nat) (h : Done w1 g a zs (some i) n w) (hi : i < zs.length) (hi2 : i < 65536) :
    Calls Try.prog 12 #[.pointer (some ⟨g, 0, none⟩), .int .u64 i] w fun e w' => (∃ p q r : Int, e = .returned (.tuple #[.int .u32 p, .int .u64 q, .int .u64 r, .bool false])) ∧ Done w1 g a zs (some i) n w' := by
  obtain ⟨D, k, hH, hC, hS⟩ := h.held
  refine (get_held _ _ _ _ i _ hH (WalkArith.wf_u64 (by omega)) h.bel.size).mono ?_
  rintro e w' ⟨⟨p, q, r, rfl, hat⟩, hH', hf⟩
  rw [hC.gone i hi rfl]
  exact ⟨⟨p, q, r, rfl⟩, copy_kept h.copy hf, ⟨D, k, hH', hC, hS⟩, h.bel.trans hf.bel⟩

end Go.Proofs.Qxb6003793a
