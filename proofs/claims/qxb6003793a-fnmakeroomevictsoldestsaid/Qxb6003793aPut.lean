/-
  SEAT b6003793a. The guard's map of records: ZZPut (8), ZZIsNil (10), ZZLen (11), ZZGet (12), zzBytes (7).
-/
import Derived.Test.Qxb6003793aRows
import Derived.WalkKit
import Derived.WalkLawsBesides
import Derived.WalkSpells
import Derived.Lib.Builder
import Derived.Maps.OwnSet
import Derived.Maps.RangeWalk
import Derived.BigQuiet
import Derived.Deep.QuietTactic
namespace Go.Proofs.Qxb6003793a
open Go.RowKit Go.Maps

/-! ### the map as a datum -/
/-- A record, as a datum. -/
def sealD (a b c : Int) : DataW Unit := .agg [.lit (.int .u32 a), .lit (.int .u64 b), .lit (.int .u64 c)]
/-- A record, as a value. -/
def sealV (t : Int × Int × Int) : Value := .agg #[.int .u32 t.1, .int .u64 t.2.1, .int .u64 t.2.2]
/-- How a record's value reads. -/
def sealR (v : Value) : Option (DataW Unit × List MemPlace) :=
  match v with
  | .agg cs => match cs.toList with
    | [.int .u32 a, .int .u64 b, .int .u64 c] => some (sealD a b c, [])
    | _ => none
  | _ => none
theorem sealR_mk (a b c : Int) : sealR (.agg #[.int .u32 a, .int .u64 b, .int .u64 c]) = some (sealD a b c, []) := rfl
theorem sealR_inv {v : Value} {y : DataW Unit × List MemPlace} (h : sealR v = some y) : ∃ t : Int × Int × Int, v = sealV t ∧ y = (sealD t.1 t.2.1 t.2.2, []) := by
  unfold sealR at h
  split at h
  · rename_i cs
    split at h
    · rename_i a b c hcs
      refine ⟨(a, b, c), ?_, (Option.some.inj h).symm⟩
      have : cs = #[.int .u32 a, .int .u64 b, .int .u64 c] := Array.toList_inj.1 hcs
      rw [this]
      rfl
    · cases h
  · cases h
theorem sealD_inj {a b c a' b' c' : Int} (h : sealD a b c = sealD a' b' c') : a = a' ∧ b = b' ∧ c = c' := by
  unfold sealD at h
  simpa using h

/-! ### the guard's block and its map -/
theorem law : Keyed Try.prog 24 := int_keyed Try.underlying24
theorem zero61 (w : World) : (zeroValue 61).run Try.prog w = .ok (.agg #[.int .u32 0, .int .u64 0, .int .u64 0]) w := by kernel_rfl

/-- The guard at block g holds no map yet. -/
def Bare (B g : Nat) (w : World) : Prop := B ≤ g ∧ w.heap[g]? = some (.cells #[.map none, .int .u64 0] 27 (0, 0))
/-- The guard at block g holds a map of at most n records that reads as D. -/
def Held (B g n : Nat) (D : DataW Unit) (w : World) : Prop :=
  B ≤ g ∧ ∃ m, B ≤ m ∧ m ≠ g ∧ w.heap[g]? = some (.cells #[.map (some m), .int .u64 0] 27 (0, 0)) ∧ w.ownsMap Try.prog 24 sealR m n D
/-- THE FRAME: what lay below B stands; every row of cells but the guard's own stands. -/
structure Fr (B g : Nat) (w w' : World) : Prop where
  bel : Below B w w'
  rows : ∀ k cs e fz, k ≠ g → w.heap[k]? = some (.cells cs e fz) → w'.heap[k]? = some (.cells cs e fz)
theorem Fr.refl (B g : Nat) (w : World) : Fr B g w w := ⟨Below.refl _ _, fun _ _ _ _ _ h => h⟩
theorem Fr.trans {B g : Nat} {w1 w2 w3 : World} (h : Fr B g w1 w2) (k : Fr B g w2 w3) : Fr B g w1 w3 := ⟨h.bel.trans k.bel, fun i cs e fz hi hh => k.rows i cs e fz hi (h.rows i cs e fz hi hh)⟩
theorem Fr.drew {B g : Nat} {w1 w2 : World} (h : Fr B g w1 w2) : Fr B g w1 w2.drew := ⟨h.bel.drew, h.rows⟩
theorem Fr.alloc {B g : Nat} {w1 w2 : World} (h : Fr B g w1 w2) (hB : B ≤ w2.heap.size) (o : Obj) : Fr B g w1 (w2.alloc o) :=
  ⟨h.bel.alloc hB o, fun k cs e fz hk hh => (Lib.alloc_old w2 o k (Array.getElem?_eq_some_iff.1 (h.rows k cs e fz hk hh)).1).trans (h.rows k cs e fz hk hh)⟩
theorem Fr.setCell {B g : Nat} {w1 w2 : World} (h : Fr B g w1 w2) (hB : B ≤ g) (j : Nat) (u : Value) : Fr B g w1 (w2.setCell ⟨g, j, none⟩ u) :=
  ⟨h.bel.setCell (p := ⟨g, j, none⟩) hB u, fun k cs e fz hk hh => by rw [Below.heap_setCell _ _ _ _ hk]; exact h.rows k cs e fz hk hh⟩
/-- Behind a law on the map at block m. -/
theorem Fr.grown {B g m n : Nat} {D : DataW Unit} {w1 w2 w3 : World} (h : Fr B g w1 w2) (hg : w2.grownBy w3 (some m)) (hm : B ≤ m) (hB : B ≤ w2.heap.size) (ho : w2.ownsMap Try.prog 24 sealR m n D) : Fr B g w1 w3 := by
  refine ⟨h.bel.grown hg hB (fun k hk => by cases hk; exact hm), fun k cs e fz hk hh => ?_⟩
  have h2 := h.rows k cs e fz hk hh
  rw [hg.block k (Array.getElem?_eq_some_iff.1 h2).1 ?_]
  · exact h2
  · intro e1
    cases e1
    obtain ⟨es, clock, hb, _⟩ := ho
    rw [hb] at h2
    cases h2

set_option maxHeartbeats 1000000 in
theorem put_bare (B g : Nat) (x a b c : Int) (w : World) (h : Bare B g w) (hx : (Lit.int .u64 x).wf = true) (hBw : B ≤ w.heap.size) :
    Calls Try.prog 8 #[.pointer (some ⟨g, 0, none⟩), .int .u64 x, .int .u32 a, .int .u64 b, .int .u64 c] w fun e w' => e = .returned (.tuple #[]) ∧ Held B g 1 ((.map [] : DataW Unit).put (.int .u64 x) (sealD a b c)) w' ∧ Fr B g w w' := by
  obtain ⟨hB, hb⟩ := h
  have HX : Hid ((Lit.int .u64 x).wf = true) := hx
  clear hx
  have hnil := fun (W : World) (r : Option Nat) => run_eql_map_nil (P := Try.prog) W 25 24 61 r Try.underlying25
  have c0 : w.cell? ⟨g, 0, none⟩ = some (.map none) := by rw [Lib.cell_of_heap hb]; rfl
  have f0 := Lib.frozen_of_heap hb 0
  have hlt : g < w.heap.size := (Array.getElem?_eq_some_iff.1 hb).1
  have hmm := @run_makeMap Try.prog
  have hsz : (w.setCell ⟨g, 0, none⟩ (.map (some w.heap.size))).heap.size = w.heap.size := by simp [World.setCell]
  have hown0 := World.ownsMap_made (w.setCell ⟨g, 0, none⟩ (.map (some w.heap.size))) Try.prog 24 sealR
  rw [hsz] at hown0
  have hbk : ((w.setCell ⟨g, 0, none⟩ (.map (some w.heap.size))).alloc (.map #[] 0)).heap[g]? = some (.cells #[.map (some w.heap.size), .int .u64 0] 27 (0, 0)) := by
    rw [Lib.alloc_old _ _ _ (by rw [hsz]; exact hlt)]
    simp [World.setCell, Array.getElem?_modify, hb]
  have hfr := ((Fr.refl B g w).setCell hB 0 (.map (some w.heap.size))).alloc (by rw [hsz]; exact hBw) (.map #[] 0)
  have HB : Hid (((w.setCell ⟨g, 0, none⟩ (.map (some w.heap.size))).alloc (.map #[] 0)).heap[g]? = some (.cells #[.map (some w.heap.size), .int .u64 0] 27 (0, 0))) := hbk
  have HZ : Hid (B ≤ ((w.setCell ⟨g, 0, none⟩ (.map (some w.heap.size))).alloc (.map #[] 0)).heap.size) := Nat.le_trans hBw hfr.bel.size
  clear hbk hsz hb
  go_enter Try.func8, Try.ntmps8
  go_wp2_with (at_mapUpdate; refine wpList_mapUpdate_own _ rfl _ _ _ 25 rfl 24 61 law Try.underlying25 sealR w.heap.size 0 (.map []) rfl hown0 (by unfold maxLen; omega) _ _ (.int .u64 x) rfl rfl (keyOf_int_mk Try.underlying24 HX.out) (sealD a b c) [] (sealR_mk a b c) ?_; intro w1 hown1 hgrow1)
  have hg1 : w1.heap[g]? = some (.cells #[.map (some w.heap.size), .int .u64 0] 27 (0, 0)) := by
    rw [hgrow1.block g (by have := (Array.getElem?_eq_some_iff.1 HB.out).1; exact this) (by simp; omega)]
    exact HB.out
  go_end0
  exact ⟨rfl, ⟨hB, w.heap.size, hBw, by omega, hg1, hown1⟩, hfr.grown hgrow1 hBw HZ.out hown0⟩

set_option maxHeartbeats 1000000 in
theorem put_held (B g n : Nat) (D : DataW Unit) (x a b c : Int) (w : World) (h : Held B g n D w) (hx : (Lit.int .u64 x).wf = true) (hn : n ≤ 65536) (hBw : B ≤ w.heap.size) :
    Calls Try.prog 8 #[.pointer (some ⟨g, 0, none⟩), .int .u64 x, .int .u32 a, .int .u64 b, .int .u64 c] w fun e w' => e = .returned (.tuple #[]) ∧ Held B g (n + 1) (D.put (.int .u64 x) (sealD a b c)) w' ∧ Fr B g w w' := by
  obtain ⟨hB, m, hBm, hmg, hb, hown⟩ := h
  have HX : Hid ((Lit.int .u64 x).wf = true) := hx
  clear hx
  have hnil := fun (W : World) (r : Option Nat) => run_eql_map_nil (P := Try.prog) W 25 24 61 r Try.underlying25
  have c0 : w.cell? ⟨g, 0, none⟩ = some (.map (some m)) := by rw [Lib.cell_of_heap hb]; rfl
  have HB : Hid (w.heap[g]? = some (.cells #[.map (some m), .int .u64 0] 27 (0, 0))) := hb
  clear hb
  go_enter Try.func8, Try.ntmps8
  go_wp2_with (at_mapUpdate; refine wpList_mapUpdate_own _ rfl _ _ _ 25 rfl 24 61 law Try.underlying25 sealR m n D rfl hown (by unfold maxLen; omega) _ _ (.int .u64 x) rfl rfl (keyOf_int_mk Try.underlying24 HX.out) (sealD a b c) [] (sealR_mk a b c) ?_; intro w1 hown1 hgrow1)
  have hg1 : w1.heap[g]? = some (.cells #[.map (some m), .int .u64 0] 27 (0, 0)) := by
    rw [hgrow1.block g (by have := (Array.getElem?_eq_some_iff.1 HB.out).1; exact this) (by simp; omega)]
    exact HB.out
  go_end0
  exact ⟨rfl, ⟨hB, m, hBm, hmg, hg1, hown1⟩, (Fr.refl B g w).grown hgrow1 hBm hBw hown⟩

/-! ### zzBytes, ZZIsNil, ZZLen, ZZGet -/
def GivesBool (e : Ending) : Prop := ∃ r : Bool, e = .returned (.bool r)
theorem zzBytes_any (a : Option Addr) (n cap : Nat) (w : World) (hn : n ≤ 9223372036854775807) : Calls Try.prog 7 #[.slice a n cap] w fun e w' => GivesBool e ∧ w' = w := by
  go_enter Try.func7, Try.ntmps7
  go_wp2
  all_goals (go_ret; exact ⟨⟨_, rfl⟩, rfl⟩)

theorem isNil_held (B g n : Nat) (D : DataW Unit) (w : World) (h : Held B g n D w) : Calls Try.prog 10 #[.pointer (some ⟨g, 0, none⟩)] w fun e w' => e = .returned (.bool false) ∧ w' = w := by
  obtain ⟨hB, m, hBm, hmg, hb, hown⟩ := h
  have hnil := fun (W : World) (r : Option Nat) => run_eql_map_nil (P := Try.prog) W 25 24 61 r Try.underlying25
  have c0 : w.cell? ⟨g, 0, none⟩ = some (.map (some m)) := by rw [Lib.cell_of_heap hb]; rfl
  go_enter Try.func10, Try.ntmps10
  go_wp2
  go_ret
  exact ⟨rfl, rfl⟩

theorem len_held (B g n : Nat) (D : DataW Unit) (w : World) (h : Held B g n D w) : Calls Try.prog 11 #[.pointer (some ⟨g, 0, none⟩)] w fun e w' => e = .returned (.int .i64 (Maps.size D)) ∧ w' = w := by
  obtain ⟨hB, m, hBm, hmg, hb, hown⟩ := h
  have c0 : w.cell? ⟨g, 0, none⟩ = some (.map (some m)) := by rw [Lib.cell_of_heap hb]; rfl
  go_enter Try.func11, Try.ntmps11
  go_wp2_with (at_len; refine wpList_len_own _ rfl _ 25 rfl 24 61 Try.underlying25 sealR m n D rfl hown ?_)
  go_ret
  exact ⟨rfl, rfl⟩

/-- 'v, ok := m[k]', the record's shape written out. -/
theorem wpList_lookup_seal (w : World) {ops : Array Oper} {rest : List Oper} {o : Oper} {a : Act} {Q : Exit → Act → World → Prop} (hg : o.guard = none) (m x : Operand) (hop : o.op = Op.lookup 25 m x true) (b n : Nat) (D : DataW Unit)
    (hm : a.eval m = .map (some b)) (hown : w.ownsMap Try.prog 24 sealR b n D) (key : Value) (kl : Lit) (hx : a.eval x = key) (hkey : keyOf Try.prog 24 key = some kl)
    (hK : ∀ p q r : Int, D.atKey kl (sealD 0 0 0) = sealD p q r → wpList Try.prog ops Q rest (a.put o.dst (.tuple #[.agg #[.int .u32 p, .int .u64 q, .int .u64 r], .bool (Maps.has D kl)])) w) :
    wpList Try.prog ops Q (o :: rest) a w :=
  wpList_lookup_own_ok w hg m x 25 hop 24 61 law Try.underlying25 sealR (zero61 _) (sealD 0 0 0) [] (sealR_mk 0 0 0) b n D hm hown key kl hx hkey (fun v ps hv => by
    obtain ⟨t, rfl, hy⟩ := sealR_inv hv
    exact hK t.1 t.2.1 t.2.2 (congrArg Prod.fst hy))

set_option maxHeartbeats 1000000 in
theorem get_held (B g n : Nat) (D : DataW Unit) (x : Int) (w : World) (h : Held B g n D w) (hx : (Lit.int .u64 x).wf = true) (hBw : B ≤ w.heap.size) :
    Calls Try.prog 12 #[.pointer (some ⟨g, 0, none⟩), .int .u64 x] w fun e w' => (∃ a b c : Int, e = .returned (.tuple #[.int .u32 a, .int .u64 b, .int .u64 c, .bool (Maps.has D (.int .u64 x))]) ∧ D.atKey (.int .u64 x) (sealD 0 0 0) = sealD a b c) ∧ Held B g n D w' ∧ Fr B g w w' := by
  obtain ⟨hB, m, hBm, hmg, hb, hown⟩ := h
  have HX : Hid ((Lit.int .u64 x).wf = true) := hx
  clear hx
  have c0 : w.cell? ⟨g, 0, none⟩ = some (.map (some m)) := by rw [Lib.cell_of_heap hb]; rfl
  have HB : Hid (w.heap[g]? = some (.cells #[.map (some m), .int .u64 0] 27 (0, 0))) := hb
  clear hb
  go_enter Try.func12, Try.ntmps12
  go_wp2_with (at_lookup; refine wpList_lookup_seal _ rfl _ _ rfl m n D rfl hown _ (.int .u64 x) rfl (keyOf_int_mk Try.underlying24 HX.out) ?_; intro p q r hv)
  go_region
  go_wp2
  refine bodyPost_ret (v := .tuple #[.int .u32 p, .int .u64 q, .int .u64 r, .bool (Maps.has D (.int .u64 x))]) (by simp [results, Try.results12, go_sem]) rfl ⟨⟨p, q, r, rfl, hv⟩, ⟨hB, m, hBm, hmg, ?_, (hown.alloc _).drew⟩, ((Fr.refl B g w).alloc hBw _).drew⟩
  exact (Lib.alloc_old w _ g (Array.getElem?_eq_some_iff.1 HB.out).1).trans HB.out

end Go.Proofs.Qxb6003793a
