/-
  SEAT b6001176aD. (*Path).String (10): the path's text.
-/
import Derived.Test.Qxb6001176aDoorPath
import Derived.Test.Qxb6001176aDoorShelf
import Derived.Deep.DeepCutAuto
import Derived.Lib.ItoaLen
namespace Go.Proofs.Qxb6001176aDoor
open Go.RowKit
open Go.Sort (grow)

/-! ### the plain text -/
/-- What the step number i writes. -/
def said (i : Nat) (s : ByteArray) (z : Int) : List UInt8 := if 0 ≤ z then 91 :: (Lib.itoa z ++ [93]) else (if 0 < i then [46] else []) ++ s.data.toList
/-- The text of the first k steps. -/
def words (ss : List ByteArray) (zs : List Int) (k : Nat) : List UInt8 := (List.range k).flatMap fun i => said i (ss.getD i ByteArray.empty) (zs.getD i 0)
theorem words_step (ss : List ByteArray) (zs : List Int) (k : Nat) : words ss zs (k + 1) = words ss zs k ++ said k (ss.getD k ByteArray.empty) (zs.getD k 0) := by
  unfold words
  rw [List.range_succ, List.flatMap_append]
  simp
/-- The ints are machine ints. -/
def Small (zs : List Int) : Prop := ∀ i, i < zs.length → -9223372036854775808 ≤ zs.getD i 0 ∧ zs.getD i 0 ≤ 9223372036854775807
theorem said_length (i : Nat) (s : ByteArray) (z : Int) (h0 : -9223372036854775808 ≤ z) (h1 : z ≤ 9223372036854775807) : (said i s z).length ≤ s.size + 24 := by
  have hi := Lib.itoa_length_le z h0 h1
  have hs : s.data.toList.length = s.size := Array.length_toList
  unfold said
  split
  · simp
    omega
  · split <;> simp only [List.length_append, List.length_cons, List.length_nil, hs] <;> omega
theorem words_length (ss : List ByteArray) (zs : List Int) (hl : zs.length = ss.length) (hz : Small zs) : ∀ k, k ≤ ss.length → (words ss zs k).length ≤ total (ss.take k) + 24 * k := by
  intro k
  induction k with
  | zero => intro _; simp [words]
  | succ k ih =>
    intro hk
    have h1 := ih (by omega)
    obtain ⟨z0, z1⟩ := hz k (by omega)
    have h2 := said_length k (ss.getD k ByteArray.empty) (zs.getD k 0) z0 z1
    have h3 := total_step ss (k := k) (by omega)
    rw [words_step, List.length_append]
    omega

/-! ### what a builder and a table keep -/
theorem built_later {B b : Nat} {p : Value} {bs : List Value} {w w' : World} (h : Lib.BuilderAtF 41 5 B b p bs w) (hb : Below w.heap.size w w') : Lib.BuilderAtF 41 5 B b p bs w' := by
  obtain ⟨hB, v, hh, ⟨hl, ho⟩, hne⟩ := h
  have lt : ∀ {g : Nat} {o : Obj}, w.heap[g]? = some o → w'.heap[g]? = some o := fun {g o} hg => (hb.block g (Array.getElem?_eq_some_iff.mp hg).1).trans hg
  refine ⟨hB, v, lt hh, ⟨hl, ?_⟩, hne⟩
  rcases ho with h | ⟨g, cap, cur, fz, e1, e2, e3, e4⟩
  · exact Or.inl h
  · exact Or.inr ⟨g, cap, cur, fz, e1, e2, lt e3, e4⟩
theorem pow_later {B : Nat} {w w' : World} (h : Tryd.Pow w) (hb : Below B w w') (hB : 1 < B) : Tryd.Pow w' := by
  obtain ⟨ty, fz, hh⟩ := h
  exact ⟨ty, fz, (hb.block 1 hB).trans hh⟩
theorem pow_size {w : World} (h : Tryd.Pow w) : 1 < w.heap.size := by
  obtain ⟨ty, fz, hh⟩ := h
  exact (Array.getElem?_eq_some_iff.mp hh).1
theorem grow_below {B : Nat} {w : World} (hB : B ≤ w.heap.size) (k : Nat) (os : Array Obj) : Below B w (grow (w.drewN k) os) :=
  ⟨rfl, rfl, rfl, by show _ ≤ (w.heap ++ os).size; simp, fun j hj => by show (w.heap ++ os)[j]? = _; rw [Array.getElem?_append_left (by omega)]⟩

set_option maxHeartbeats 2000000 in
theorem string_any (p : Nat) (ss : List ByteArray) (zs : List Int) (w : World) (hp : IsPath w.heap.size p ss zs w) (hP : Tryd.Pow w) (hlz : zs.length = ss.length) (hlen : ss.length ≤ 131072) (htot : total ss ≤ 4194304) (hz : Small zs) :
    Calls Tryd.prog 10 #[.pointer (some ⟨p, 0, none⟩)] w fun e w' => e = .returned (.string ⟨(words ss zs ss.length).toArray⟩) ∧ Below w.heap.size w w' := by
  obtain ⟨g, hpw, hgw, hpb, hst⟩ := hp
  obtain ⟨n, hn⟩ : ∃ n, n = ss.length := ⟨_, rfl⟩
  rw [← hn] at hpb hst hlen ⊢
  have HN : Hid (n = ss.length) := hn
  clear hn
  have c0 : w.cell? ⟨p, 0, none⟩ = some (.slice (some ⟨g, 0, none⟩) n n) := by rw [Lib.cell_of_heap hpb]; rfl
  have c1 : w.cell? ⟨p, 1, none⟩ = some (.int .i64 0) := by rw [Lib.cell_of_heap hpb]; rfl
  go_enter Tryd.func10, Tryd.ntmps10
  go_wp2_with (go_at_call 13; refine (Tryd.Builder_Grow_fresh w.heap.size w.heap.size 0 _ (Nat.le_refl _) (by first | exact Array.getElem?_push_size | simp) (by first | exact hb0.size | simp) (by decide)).mono ?_; rintro r1 W1 ⟨rfl, hu, hf⟩; have hb1 : Below w.heap.size w W1 := ((Below.refl w.heap.size w).alloc (Nat.le_refl _) _).trans hf; have c2 := (hb1.cell (p := ⟨p, 0, none⟩) hpw).trans c0)
  have hu0 : Lib.BuilderAtF 41 5 w.heap.size w.heap.size (.pointer (some ⟨w.heap.size, 0, none⟩)) (Lib.byteCells (words ss zs 0)) W1 := Lib.BuilderAtF.of hu
  clear hu hf c2 c0 c1
  go_loopw [16] (fun i wr => ∃ k : Nat, k ≤ n ∧ i = .int .i64 k ∧ Lib.BuilderAtF 41 5 w.heap.size w.heap.size (.pointer (some ⟨w.heap.size, 0, none⟩)) (Lib.byteCells (words ss zs k)) wr ∧ Below w.heap.size w wr) (fun i _ => n - (intOf i).toNat)
  case atStart => exact ⟨0, Nat.zero_le _, rfl, hu0, hb1⟩
  case round =>
    obtain ⟨k, hk, rfl, hs, hb⟩ := hrel
    by_cases hlt : k < n
    · obtain ⟨cs, hcs, hcn, hci⟩ := hst
      obtain ⟨h1, h2⟩ := hci k hlt
      have hgb : wr.heap[g]? = some (.cells cs 35 (0, 0)) := (hb.block g hgw).trans hcs
      have g1 : wr.cell? ⟨g, k * 2, none⟩ = some (.string (ss.getD k ByteArray.empty)) := by rw [Lib.cell_of_heap hgb]; exact h1
      have g2 : wr.cell? ⟨g, k * 2 + 1, none⟩ = some (.int .i64 (zs.getD k 0)) := by rw [Lib.cell_of_heap hgb]; exact h2
      have hstep := words_step ss zs k
      obtain ⟨z0, z1⟩ := hz k (by rw [hlz, ← HN.out]; exact hlt)
      obtain ⟨s, hs'⟩ : ∃ s, s = ss.getD k ByteArray.empty := ⟨_, rfl⟩
      obtain ⟨z, hz'⟩ : ∃ z, z = zs.getD k 0 := ⟨_, rfl⟩
      rw [← hs'] at g1
      rw [← hz'] at g2 z0 z1
      have HS : Hid (words ss zs (k + 1) = words ss zs k ++ said k s z) := by rw [hs', hz']; exact hstep
      have i1 : (k : Int) < (n : Int) := by omega
      have i2 : (0 : Int) ≤ (k : Int) := by omega
      have HSS : Hid (s = ss.getD k ByteArray.empty) := hs'
      clear h1 h2 hci hcs hgb hstep hs' hz' hcn
      have hbA : Below wr.heap.size wr (wr.alloc (.cells #[.string s, .int .i64 z] 35)) := (Below.refl _ _).alloc (Nat.le_refl _) _
      have hsA := built_later hs hbA
      have hbw : Below w.heap.size w (wr.alloc (.cells #[.string s, .int .i64 z] 35)) := hb.alloc hb.size _
      have hPA := pow_later hP hbw (pow_size hP)
      have hL : (words ss zs k).length ≤ 8000000 := by
        have := words_length ss zs hlz hz k (by rw [← HN.out]; exact hk)
        have := total_take_le ss k
        omega
      by_cases hz0 : 0 ≤ z
      · have hI := Lib.itoa_length_le z z0 z1
        have hsd : said k s z = 91 :: (Lib.itoa z ++ [93]) := if_pos hz0
        have hc : Lib.byteCells (words ss zs k) ++ Lib.strCells ((⟨#[91]⟩ : ByteArray) ++ ⟨(Lib.itoa z).toArray⟩ ++ ⟨#[93]⟩) = Lib.byteCells (words ss zs (k + 1)) := by
          rw [HS.out, hsd, Lib.byteCells_append, Lib.strCells_eq]
          simp
        have HC : Hid (Lib.byteCells (words ss zs k) ++ Lib.strCells ((⟨#[91]⟩ : ByteArray) ++ ⟨(Lib.itoa z).toArray⟩ ++ ⟨#[93]⟩) = Lib.byteCells (words ss zs (k + 1))) := hc
        clear hc hsd
        go_wp2_with (first
          | (go_at_call 15; refine (Tryd.strconv_Itoa z z0 z1 _ hPA).mono ?_; rintro r2 W2 ⟨rfl, q, os, rfl⟩; have hsB := built_later hsA (grow_below (Nat.le_refl _) q os); have hbB := hbw.trans (grow_below hbw.size q os))
          | (go_at_call 14; refine (Tryd.Builder_WriteString_k w.heap.size w.heap.size (Lib.byteCells (words ss zs k)) _ _ (Or.inr hsB) ?_ hbB.size).mono ?_))
        case refine_1 => 
          have e1 : ByteArray.size ⟨#[91]⟩ = 1 := rfl
          have e2 : ByteArray.size ⟨#[93]⟩ = 1 := rfl
          have e3 : ByteArray.size ⟨(Lib.itoa z).toArray⟩ = (Lib.itoa z).length := rfl
          rw [Lib.byteCells_length, ByteArray.size_append, ByteArray.size_append, e1, e2, e3]
          omega
        case refine_2 =>
          rintro r3 W3 ⟨rfl, hsC, hfC, _⟩
          rw [HC.out] at hsC
          have hbC := hbB.trans hfC
          clear hfC hsB hbB hsA hbA hbw
          go_wp2
          go_roundw
          case rel => exact ⟨k + 1, by omega, by go_num, hsC, hbC⟩
          case measure => simp [intOf]; omega
        all_goals (exfalso; omega)
      · have hS : s.size ≤ 4194304 := by
          have h1 := total_step ss (k := k) (by rw [← HN.out]; exact hlt)
          have h2 := total_take_le ss (k + 1)
          have h3 : s.size = (ss.getD k ByteArray.empty).size := by rw [HSS.out]
          omega
        have hb0 : (wr.alloc (.cells #[.string s, .int .i64 z] 35)).heap[wr.heap.size]? = some (.cells #[.string s, .int .i64 z] 35 (0, 0)) := Array.getElem?_push_size
        by_cases hk0 : 0 < k
        · have hsd : said k s z = [46] ++ s.data.toList := by rw [said, if_neg hz0, if_pos hk0]
          have hc : Lib.byteCells (words ss zs k) ++ [.int .u8 46] ++ Lib.strCells s = Lib.byteCells (words ss zs (k + 1)) := by
            rw [HS.out, hsd, Lib.byteCells_append, Lib.byteCells_append, Lib.strCells_eq, List.append_assoc]
            rfl
          have HC : Hid (Lib.byteCells (words ss zs k) ++ [.int .u8 46] ++ Lib.strCells s = Lib.byteCells (words ss zs (k + 1))) := hc
          clear hc hsd
          have hne : wr.heap.size ≠ w.heap.size := by
            have := hs.lt
            omega
          go_wp2_with (first
            | (go_at_call 16; refine (Tryd.Builder_WriteByte_k w.heap.size w.heap.size (Lib.byteCells (words ss zs k)) _ _ (Or.inr hsA) (by rw [Lib.byteCells_length]; omega) hbw.size).mono ?_; rintro r2 W2 ⟨rfl, hsB, hfB, hoB⟩; have hbB := hbw.trans hfB; have c5 : W2.cell? ⟨wr.heap.size, 0, none⟩ = some (.string s) := (by rw [Lib.cell_of_heap (hoB _ _ hb0 (by simp [hne]) (by simp))]; rfl))
            | (go_at_call 14; refine (Tryd.Builder_WriteString_k w.heap.size w.heap.size (Lib.byteCells (words ss zs k) ++ [.int .u8 46]) s _ (Or.inr hsB) (by rw [List.length_append, Lib.byteCells_length, List.length_singleton]; omega) hbB.size).mono ?_; rintro r3 W3 ⟨rfl, hsC, hfC, _⟩))
          rw [HC.out] at hsC
          have hbC := hbB.trans hfC
          clear hfC hsB hbB hsA hbA hbw
          go_roundw
          case rel => exact ⟨k + 1, by omega, by go_num, hsC, hbC⟩
          case measure => simp [intOf]; omega
        · have hsd : said k s z = s.data.toList := by rw [said, if_neg hz0, if_neg hk0]; rfl
          have hc : Lib.byteCells (words ss zs k) ++ Lib.strCells s = Lib.byteCells (words ss zs (k + 1)) := by
            rw [HS.out, hsd, Lib.byteCells_append, Lib.strCells_eq]
          have HC : Hid (Lib.byteCells (words ss zs k) ++ Lib.strCells s = Lib.byteCells (words ss zs (k + 1))) := hc
          clear hc hsd
          go_wp2_with (go_at_call 14; refine (Tryd.Builder_WriteString_k w.heap.size w.heap.size (Lib.byteCells (words ss zs k)) s _ (Or.inr hsA) (by rw [Lib.byteCells_length]; omega) hbw.size).mono ?_; rintro r3 W3 ⟨rfl, hsC, hfC, _⟩)
          rw [HC.out] at hsC
          have hbC := hbw.trans hfC
          clear hfC hsA hbA hbw
          go_roundw
          case rel => exact ⟨k + 1, by omega, by go_num, hsC, hbC⟩
          case measure => simp [intOf]; omega
    · have hge : k = n := by omega
      subst hge
      clear hlt
      go_wp2_with (go_at_call 17; refine (Tryd.Builder_String_any_k w.heap.size w.heap.size _ _ (Or.inr hs) hb.size).mono ?_; rintro r3 W3 ⟨rfl, _, hfC, _⟩)
      go_ret
      exact ⟨rfl, hb.trans hfC⟩

end Go.Proofs.Qxb6001176aDoor
