/-
  SEAT b6002368a. io.WriteString (12) at either stand-in, and (KeyHash).ID (7) over either maker.
-/
import Derived.Test.Qxb6002368aFnv
namespace Go.Proofs.Qxb6002368a
open Go.RowKit

/-! ### the closed facts: what lies behind the interface -/
theorem as37 (v : Value) (w : World) : (Instr.typeAssert (.iface 37 v) 47 49 true).run Try.prog w = .ok (.tuple #[.nilIface, .bool false]) w := run_typeAssert_lacksB Try.underlying49 (by kernel_rfl) (by kernel_rfl) v 47 w
theorem as40 (v : Value) (w : World) : (Instr.typeAssert (.iface 40 v) 47 49 true).run Try.prog w = .ok (.tuple #[.nilIface, .bool false]) w := run_typeAssert_lacksB Try.underlying49 (by kernel_rfl) (by kernel_rfl) v 47 w
theorem write37 (a : Addr) (w : World) : (method 170 37 (.pointer (some a)) "Write").run Try.prog w = .ok (32, .pointer (some a)) w := by kernel_rfl
theorem write40 (a : Addr) (w : World) : (method 170 40 (.pointer (some a)) "Write").run Try.prog w = .ok (37, .pointer (some a)) w := by kernel_rfl
theorem sum37 (a : Addr) (w : World) : (method 170 37 (.pointer (some a)) "Sum").run Try.prog w = .ok (31, .pointer (some a)) w := by kernel_rfl
theorem sum40 (a : Addr) (w : World) : (method 170 40 (.pointer (some a)) "Sum").run Try.prog w = .ok (36, .pointer (some a)) w := by kernel_rfl

theorem nil9 (w : World) : (binOp .eql 23 (.func (.func 9) #[] #[]) .nilFunc).run Try.prog w = .ok (.bool false) w := by kernel_rfl
theorem nil10 (w : World) : (binOp .eql 23 (.func (.func 10) #[] #[]) .nilFunc).run Try.prog w = .ok (.bool false) w := by kernel_rfl

/-! ### the contracts, the length by its letter -/
theorem recWrite_len (B r n : Nat) (l l2 : List UInt8) (ad : Addr) (c : Nat) (w : World) (hn : l2.length = n) (h : Rec B r l w) (hs : Src ad l2 w) (hB : B ≤ w.heap.size) (hl : l.length + n ≤ 4194304) :
    Calls Try.prog 32 #[.pointer (some ⟨r, 0, none⟩), .slice (some ad) n c] w fun e w' => e = .returned (.tuple #[.int .i64 n, .nilIface]) ∧ Rec B r (l ++ l2) w' ∧ Below B w w' := by
  subst hn
  exact recWrite B r l l2 ad c w h hs hB hl
theorem fnvWrite_len (B f n : Nat) (h : Int) (l : List UInt8) (ad : Addr) (c : Nat) (w : World) (hn : l.length = n) (hB : B ≤ f) (hf : Fnv f h w) (hs : Src ad l w) (hl : n ≤ 4194304) (hne : ad.block ≠ f) :
    Calls Try.prog 37 #[.pointer (some ⟨f, 0, none⟩), .slice (some ad) n c] w fun e w' => e = .returned (.tuple #[.int .i64 n, .nilIface]) ∧ Fnv f (l.foldl stepF h) w' ∧ Below B w w' := by
  subst hn
  exact fnvWrite B f h l ad c w hB hf hs hl hne

theorem Fnv.alloc {f : Nat} {x : Int} {w : World} (h : Fnv f x w) (o : Obj) : Fnv f x (w.alloc o) := h.later (Below.heap_alloc w o f (Array.getElem?_eq_some_iff.mp h).1)
theorem Fnv.drew {f : Nat} {x : Int} {w : World} (h : Fnv f x w) : Fnv f x w.drew := h

set_option maxHeartbeats 1000000 in
theorem wsRec (B r : Nat) (l : List UInt8) (s : ByteArray) (w : World) (h : Rec B r l w) (hB : B ≤ w.heap.size) (hl : l.length + s.size ≤ 4194304) :
    Calls Try.prog 12 #[.iface 37 (.pointer (some ⟨r, 0, none⟩)), .string s] w fun e w' => e = .returned (.tuple #[.int .i64 s.size, .nilIface]) ∧ Rec B r (l ++ s.data.toList) w' ∧ Below B w w' := by
  have h1 := as37 (.pointer (some ⟨r, 0, none⟩))
  have h2 := fun w => run_bytes_of_string (P := Try.prog) w 9 35 5 s Try.underlying9 Try.underlying35 Try.underlying5
  have h3 := write37 ⟨r, 0, none⟩
  go_enter Try.func12, Try.ntmps12
  go_wp2_with (go_at_call 32; refine (recWrite_len B r s.size l s.data.toList ⟨w.heap.size, 0, none⟩ _ _ Array.length_toList (h.alloc _).drew (src_new s _ w _) (Nat.le_trans hB (by simp)) hl).mono ?_; rintro r1 W1 ⟨rfl, hr, hb⟩)
  go_ret2
  exact ⟨rfl, hr, ((Below.refl B w).alloc hB _).drew.trans hb⟩

set_option maxHeartbeats 1000000 in
theorem wsFnv (B f : Nat) (x : Int) (s : ByteArray) (w : World) (hBf : B ≤ f) (h : Fnv f x w) (hB : B ≤ w.heap.size) (hl : s.size ≤ 4194304) :
    Calls Try.prog 12 #[.iface 40 (.pointer (some ⟨f, 0, none⟩)), .string s] w fun e w' => e = .returned (.tuple #[.int .i64 s.size, .nilIface]) ∧ Fnv f (s.data.toList.foldl stepF x) w' ∧ Below B w w' := by
  have h1 := as40 (.pointer (some ⟨f, 0, none⟩))
  have h2 := fun w => run_bytes_of_string (P := Try.prog) w 9 35 5 s Try.underlying9 Try.underlying35 Try.underlying5
  have h3 := write40 ⟨f, 0, none⟩
  have hlt := (Array.getElem?_eq_some_iff.mp h).1
  have hwf : w.heap.size ≠ f := by omega
  go_enter Try.func12, Try.ntmps12
  go_wp2_with (go_at_call 37; refine (fnvWrite_len B f s.size x s.data.toList ⟨w.heap.size, 0, none⟩ _ _ Array.length_toList hBf (h.alloc _).drew (src_new s _ w _) hl hwf).mono ?_; rintro r1 W1 ⟨rfl, hr, hb⟩)
  go_ret2
  exact ⟨rfl, hr, ((Below.refl B w).alloc hB _).drew.trans hb⟩

/-! ### ID -/
theorem rec_start (w : World) (o : Obj) : Rec w.heap.size (w.heap.size + 1) [] ((w.alloc o).alloc (.cells #[.slice none 0 0] 39)) := by
  refine ⟨Nat.le_succ _, .slice none 0 0, ?_, World.ownsRow_nil _ _ _ _, by simp [Value.ownBlock]⟩
  have e : (w.alloc o).heap.size = w.heap.size + 1 := Array.size_push _
  rw [← e]
  exact Array.getElem?_push_size
theorem fnv_start (w : World) (o : Obj) : Fnv (w.heap.size + 1) 14695981039346656037 ((w.alloc o).alloc (.cells #[.int .u64 14695981039346656037] 43)) := by
  have e : (w.alloc o).heap.size = w.heap.size + 1 := Array.size_push _
  rw [← e]
  exact Array.getElem?_push_size
theorem two_new (w : World) (o o' : Obj) : Below w.heap.size w ((w.alloc o).alloc o') := ((Below.refl _ _).alloc (Nat.le_refl _) o).alloc (by simp) o'

set_option maxHeartbeats 1000000 in
theorem idRec (s k : ByteArray) (w : World) (hl : s.size + k.size ≤ 4194304) :
    Calls Try.prog 7 #[.agg #[.func (.func 9) #[] #[], .string s], .string k] w fun e w' => e = .returned (.string ⟨(s.data.toList ++ k.data.toList).toArray⟩) ∧ Below w.heap.size w w' := by
  have h4 := sum37 ⟨w.heap.size + 1, 0, none⟩
  have h5 := nil9
  have R0 := rec_start w (.cells #[.func (.func 9) #[] #[], .string s] 26)
  have b0 := two_new w (.cells #[.func (.func 9) #[] #[], .string s] 26) (.cells #[.slice none 0 0] 39)
  have z1 : s.data.toList.length = s.size := Array.length_toList
  have z2 : k.data.toList.length = k.size := Array.length_toList
  have Z1 : s.data.toList.length ≤ s.size := by omega
  have Z2 : s.data.toList.length + k.size ≤ 4194304 := by omega
  have Z3 : (s.data.toList ++ k.data.toList).length ≤ 4194304 := by rw [List.length_append]; omega
  clear z1 z2
  go_enter Try.func7, Try.ntmps7
  go_wp2_with (first
    | (go_at_call 9; refine (newRec _).mono ?_; rintro r1 W1 ⟨rfl, rfl⟩)
    | (go_at_call 12; (with_reducible refine (wsRec w.heap.size (w.heap.size + 1) [] s _ R0 b0.size (by rw [List.length_nil]; omega)).mono ?_); rintro r2 W2 ⟨rfl, R2, b2⟩; rw [List.nil_append] at R2; have B2 := b0.trans b2)
    | (go_at_call 12; (with_reducible refine (wsRec w.heap.size (w.heap.size + 1) s.data.toList k W2 R2 B2.size Z2).mono ?_); rintro r3 W3 ⟨rfl, R3, b3⟩; have B3 := B2.trans b3)
    | (go_at_call 31; refine (recSum w.heap.size (w.heap.size + 1) (s.data.toList ++ k.data.toList) W3 R3 B3.size Z3).mono ?_; rintro r4 W4 ⟨⟨v, rfl, ho⟩, b4⟩; have B4 := B3.trans b4; have hcv := conv_row ho))
  go_ret
  exact ⟨rfl, B4⟩

set_option maxHeartbeats 1000000 in
theorem idFnv (s k : ByteArray) (w : World) (hl : s.size + k.size ≤ 4194304) :
    Calls Try.prog 7 #[.agg #[.func (.func 10) #[] #[], .string s], .string k] w fun e w' => e = .returned (.string ⟨(sums ((s.data.toList ++ k.data.toList).foldl stepF 14695981039346656037) 8).toArray⟩) ∧ Below w.heap.size w w' := by
  have h4 := sum40 ⟨w.heap.size + 1, 0, none⟩
  have h5 := nil10
  have R0 := fnv_start w (.cells #[.func (.func 10) #[] #[], .string s] 26)
  have b0 := two_new w (.cells #[.func (.func 10) #[] #[], .string s] 26) (.cells #[.int .u64 14695981039346656037] 43)
  have hle : w.heap.size ≤ w.heap.size + 1 := Nat.le_succ _
  have Z1 : s.size ≤ 4194304 := by omega
  have Z2 : k.size ≤ 4194304 := by omega
  obtain ⟨x, hx⟩ : ∃ x, x = s.data.toList.foldl stepF 14695981039346656037 := ⟨_, rfl⟩
  obtain ⟨y, hy⟩ : ∃ y, y = k.data.toList.foldl stepF x := ⟨_, rfl⟩
  have hall : (s.data.toList ++ k.data.toList).foldl stepF 14695981039346656037 = y := by rw [List.foldl_append, ← hx, ← hy]
  have HX : Hid (s.data.toList.foldl stepF 14695981039346656037 = x) := hx.symm
  have HY : Hid (k.data.toList.foldl stepF x = y) := hy.symm
  rw [hall]
  clear hx hy hall
  go_enter Try.func7, Try.ntmps7
  go_wp2_with (first
    | (go_at_call 10; refine (newFnv _).mono ?_; rintro r1 W1 ⟨rfl, rfl⟩)
    | (go_at_call 12; (with_reducible refine (wsFnv w.heap.size (w.heap.size + 1) 14695981039346656037 s _ hle R0 b0.size Z1).mono ?_); rintro r2 W2 ⟨rfl, R2, b2⟩; rw [HX.out] at R2; have B2 := b0.trans b2)
    | (go_at_call 12; (with_reducible refine (wsFnv w.heap.size (w.heap.size + 1) x k W2 hle R2 B2.size Z2).mono ?_); rintro r3 W3 ⟨rfl, R3, b3⟩; rw [HY.out] at R3; have B3 := B2.trans b3)
    | (go_at_call 36; refine (fnvSum w.heap.size (w.heap.size + 1) y W3 B3.size R3).mono ?_; rintro r4 W4 ⟨⟨v, rfl, ho⟩, b4⟩; have B4 := B3.trans b4; have hcv := conv_row ho))
  go_ret
  exact ⟨rfl, B4⟩

/-- What the law needs of the maker F: the ID is a function of salt followed by key. -/
def IsID (F : Value) (dig : List UInt8 → ByteArray) : Prop := ∀ (s k : ByteArray) (w : World), s.size + k.size ≤ 4194304 →
  Calls Try.prog 7 #[.agg #[F, .string s], .string k] w fun e w' => e = .returned (.string (dig (s.data.toList ++ k.data.toList))) ∧ Below w.heap.size w w'
theorem isID_rec : IsID (.func (.func 9) #[] #[]) (fun l => ⟨l.toArray⟩) := fun s k w h => idRec s k w h
theorem isID_fnv : IsID (.func (.func 10) #[] #[]) (fun l => ⟨(sums (l.foldl stepF 14695981039346656037) 8).toArray⟩) := fun s k w h => idFnv s k w h

/-! ### zzPick (6), zzBytes (5) -/
def Picked (e : Ending) : Prop := ∃ (q : Nat) (dig : List UInt8 → ByteArray), e = .returned (.func (.func q) #[] #[]) ∧ IsID (.func (.func q) #[] #[]) dig
theorem pick (a : Int) (h0 : 0 ≤ a) (h1 : a < 256) (w : World) : Calls Try.prog 6 #[.int .u8 a] w fun e w' => Picked e ∧ w' = w := by
  go_enter Try.func6, Try.ntmps6
  go_wp2
  · go_ret
    exact ⟨⟨_, _, rfl, isID_rec⟩, rfl⟩
  · go_ret
    exact ⟨⟨_, _, rfl, isID_fnv⟩, rfl⟩

def GivesBool (n : Nat) (e : Ending) : Prop := ∃ r : Bool, e = .returned (.bool r) ∧ (r = true → n ≤ 1048576)
theorem zzBytes (a : Int) (s k : ByteArray) (c : Int) (w : World) (hs : s.size ≤ 9223372036854775807) (hk : k.size ≤ 9223372036854775807) : Calls Try.prog 5 #[.int .u8 a, .string s, .string k, .int .i64 c] w fun e w' => GivesBool (s.size + k.size) e ∧ w' = w := by
  go_enter Try.func5, Try.ntmps5
  go_wp2
  · go_ret
    exact ⟨⟨_, rfl, fun h => by cases h⟩, rfl⟩
  · go_ret
    exact ⟨⟨_, rfl, fun h => by cases h⟩, rfl⟩
  · go_ret
    exact ⟨⟨_, rfl, fun h => by cases h⟩, rfl⟩
  · go_ret
    exact ⟨⟨_, rfl, fun _ => by omega⟩, rfl⟩

end Go.Proofs.Qxb6002368a
