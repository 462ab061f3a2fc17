/-
  SEAT b6001176aD. THE SHELF's CONTRACTS AT THIS DUMP, in plain words: strings.Builder's Grow, WriteByte, WriteString, String; strconv.Itoa. (lay-shelf.mjs and lay-plain.mjs wrote the half of it; the layings of WriteByte and WriteString, which the command passes over here, are typed after the other two: one numbering for all four.)
-/
import Derived.Shelf.Strings.Builder1
import Derived.Shelf.Strings.Builder2
import Derived.Shelf.Strings.BuilderF
import Derived.Shelf.Strings.BuilderK
import Derived.Shelf.LaysM
import Derived.Shelf.Strconv.Itoa3
import Derived.Test.Qxb6001176aDoorRows
namespace Go.Proofs
open Go.Shelf
def Tryd.layb_ren : Go.Shelf.Ren := ⟨fun | 165 => 13 | 166 => 14 | 167 => 16 | 169 => 17 | 240 => 19 | 241 => 20 | 276 => 22 | 277 => 23 | n => n, fun | 70 => 38 | 3 => 3 | 0 => 0 | 4 => 4 | 9 => 9 | 20 => 20 | 72 => 41 | 37 => 39 | 164 => 50 | 5 => 5 | 75 => 44 | 80 => 30 | 127 => 49 | n => n, fun | n => n⟩
theorem Tryd.lays165 : Go.Proofs.Lays.n165 Tryd.prog Tryd.layb_ren := {
  mixed := by kernel_rfl
  f165 := Tryd.func13.trans (congrArg some (by kernel_rfl))
  f240 := Tryd.func19.trans (congrArg some (by kernel_rfl))
  f241 := Tryd.func20.trans (congrArg some (by kernel_rfl))
  f276 := Tryd.func22.trans (congrArg some (by kernel_rfl))
  f277 := Tryd.func23.trans (congrArg some (by kernel_rfl))
  t0 := Tryd.underlying0
  a0 := Tryd.isAgg0
  z0 := Tryd.sizeOf0
  v0 := Tryd.zeroValue0
  t3 := Tryd.underlying3
  a3 := Tryd.isAgg3
  z3 := Tryd.sizeOf3
  v3 := Tryd.zeroValue3
  t4 := Tryd.underlying4
  a4 := Tryd.isAgg4
  z4 := Tryd.sizeOf4
  v4 := Tryd.zeroValue4
  t9 := Tryd.underlying9
  a9 := Tryd.isAgg9
  z9 := Tryd.sizeOf9
  v9 := Tryd.zeroValue9
  t20 := Tryd.underlying20
  a20 := Tryd.isAgg20
  z20 := Tryd.sizeOf20
  v20 := Tryd.zeroValue20
  t37 := Tryd.underlying39
  a37 := Tryd.isAgg39
  z37 := Tryd.sizeOf39
  v37 := Tryd.zeroValue39
  t70 := Tryd.underlying38
  a70 := Tryd.isAgg38
  z70 := Tryd.sizeOf38
  v70 := Tryd.zeroValue38
  t72 := Tryd.underlying41
  a72 := Tryd.isAgg41
  z72 := Tryd.sizeOf41
  v72 := Tryd.zeroValue41
  t164 := Tryd.underlying50
  a164 := Tryd.isAgg50
  z164 := Tryd.sizeOf50
  v164 := Tryd.zeroValue50 }
theorem Tryd.lays166 : Go.Proofs.Lays.n166 Tryd.prog Tryd.layb_ren := {
  mixed := by kernel_rfl
  f166 := Tryd.func14.trans (congrArg some (by kernel_rfl))
  f240 := Tryd.func19.trans (congrArg some (by kernel_rfl))
  f276 := Tryd.func22.trans (congrArg some (by kernel_rfl))
  t0 := Tryd.underlying0
  a0 := Tryd.isAgg0
  z0 := Tryd.sizeOf0
  v0 := Tryd.zeroValue0
  t3 := Tryd.underlying3
  a3 := Tryd.isAgg3
  z3 := Tryd.sizeOf3
  v3 := Tryd.zeroValue3
  t4 := Tryd.underlying4
  a4 := Tryd.isAgg4
  z4 := Tryd.sizeOf4
  v4 := Tryd.zeroValue4
  t9 := Tryd.underlying9
  a9 := Tryd.isAgg9
  z9 := Tryd.sizeOf9
  v9 := Tryd.zeroValue9
  t20 := Tryd.underlying20
  a20 := Tryd.isAgg20
  z20 := Tryd.sizeOf20
  v20 := Tryd.zeroValue20
  t37 := Tryd.underlying39
  a37 := Tryd.isAgg39
  z37 := Tryd.sizeOf39
  v37 := Tryd.zeroValue39
  t70 := Tryd.underlying38
  a70 := Tryd.isAgg38
  z70 := Tryd.sizeOf38
  v70 := Tryd.zeroValue38
  t72 := Tryd.underlying41
  a72 := Tryd.isAgg41
  z72 := Tryd.sizeOf41
  v72 := Tryd.zeroValue41
  t75 := Tryd.underlying44
  a75 := Tryd.isAgg44
  z75 := Tryd.sizeOf44
  v75 := Tryd.zeroValue44
  t164 := Tryd.underlying50
  a164 := Tryd.isAgg50
  z164 := Tryd.sizeOf50
  v164 := Tryd.zeroValue50 }
theorem Tryd.lays167 : Go.Proofs.Lays.n167 Tryd.prog Tryd.layb_ren := {
  mixed := by kernel_rfl
  f167 := Tryd.func16.trans (congrArg some (by kernel_rfl))
  f240 := Tryd.func19.trans (congrArg some (by kernel_rfl))
  f276 := Tryd.func22.trans (congrArg some (by kernel_rfl))
  t0 := Tryd.underlying0
  a0 := Tryd.isAgg0
  z0 := Tryd.sizeOf0
  v0 := Tryd.zeroValue0
  t4 := Tryd.underlying4
  a4 := Tryd.isAgg4
  z4 := Tryd.sizeOf4
  v4 := Tryd.zeroValue4
  t5 := Tryd.underlying5
  a5 := Tryd.isAgg5
  z5 := Tryd.sizeOf5
  v5 := Tryd.zeroValue5
  t9 := Tryd.underlying9
  a9 := Tryd.isAgg9
  z9 := Tryd.sizeOf9
  v9 := Tryd.zeroValue9
  t20 := Tryd.underlying20
  a20 := Tryd.isAgg20
  z20 := Tryd.sizeOf20
  v20 := Tryd.zeroValue20
  t37 := Tryd.underlying39
  a37 := Tryd.isAgg39
  z37 := Tryd.sizeOf39
  v37 := Tryd.zeroValue39
  t70 := Tryd.underlying38
  a70 := Tryd.isAgg38
  z70 := Tryd.sizeOf38
  v70 := Tryd.zeroValue38
  t72 := Tryd.underlying41
  a72 := Tryd.isAgg41
  z72 := Tryd.sizeOf41
  v72 := Tryd.zeroValue41
  t75 := Tryd.underlying44
  a75 := Tryd.isAgg44
  z75 := Tryd.sizeOf44
  v75 := Tryd.zeroValue44
  t164 := Tryd.underlying50
  a164 := Tryd.isAgg50
  z164 := Tryd.sizeOf50
  v164 := Tryd.zeroValue50 }
theorem Tryd.lays169 : Go.Proofs.Lays.n169 Tryd.prog Tryd.layb_ren := {
  mixed := by kernel_rfl
  f169 := Tryd.func17.trans (congrArg some (by kernel_rfl))
  t0 := Tryd.underlying0
  a0 := Tryd.isAgg0
  z0 := Tryd.sizeOf0
  v0 := Tryd.zeroValue0
  t3 := Tryd.underlying3
  a3 := Tryd.isAgg3
  z3 := Tryd.sizeOf3
  v3 := Tryd.zeroValue3
  t9 := Tryd.underlying9
  a9 := Tryd.isAgg9
  z9 := Tryd.sizeOf9
  v9 := Tryd.zeroValue9
  t37 := Tryd.underlying39
  a37 := Tryd.isAgg39
  z37 := Tryd.sizeOf39
  v37 := Tryd.zeroValue39
  t70 := Tryd.underlying38
  a70 := Tryd.isAgg38
  z70 := Tryd.sizeOf38
  v70 := Tryd.zeroValue38
  t72 := Tryd.underlying41
  a72 := Tryd.isAgg41
  z72 := Tryd.sizeOf41
  v72 := Tryd.zeroValue41
  t127 := Tryd.underlying49
  a127 := Tryd.isAgg49
  z127 := Tryd.sizeOf49
  v127 := Tryd.zeroValue49 }
theorem Tryd.Builder_Extra : Builder.Extra Tryd.prog Tryd.layb_ren := {
  sizeBuilder := by kernel_rfl
  liesBuilder := by kernel_rfl
  t5 := Tryd.underlying5
  a5 := Tryd.isAgg5
  z5 := Tryd.sizeOf5
  v5 := Tryd.zeroValue5
  infoByte := by kernel_rfl
  cellsByte := by kernel_rfl
  sizeByte := by kernel_rfl
  neB5 := by decide }
open Go.RowKit in
theorem Tryd.Builder_Grow_fresh (B b n : Nat) (w : World) (hB : B ≤ b) (hbk : w.heap[b]? = some (.cells #[.pointer none, .slice none 0 0] 41 (0, 0))) (hBw : B ≤ w.heap.size) (hn : n ≤ 281474976710656) :
    Calls Tryd.prog 13 #[.pointer (some ⟨b, 0, none⟩), .int .i64 n] w fun e w' => e = .returned (.tuple #[]) ∧ (Lib.BuilderAt 41 5 B b (.pointer (some ⟨b, 0, none⟩)) [] w' ∧ Below B w w') := Any.Builder_Grow_fresh Tryd.lays165 Tryd.Builder_Extra B b n w hB hbk hBw hn
open Go.RowKit in
theorem Tryd.Builder_WriteByte_k (B b : Nat) (bs : List Value) (c : Int) (w : World) (h : Lib.IsBuilderF 41 5 B b bs w) (hlen : bs.length + 1 ≤ 140737488355328) (hBw : B ≤ w.heap.size) :
    Calls Tryd.prog 16 #[.pointer (some ⟨b, 0, none⟩), .int .u8 c] w fun e w' => e = .returned .nilIface ∧ (Lib.BuilderAtF 41 5 B b (.pointer (some ⟨b, 0, none⟩)) (bs ++ [.int .u8 c]) w' ∧ Below B w w' ∧ Lib.OthersKept 5 (some b) w w') := Any.Builder_WriteByte_k Tryd.lays167 Tryd.Builder_Extra B b bs c w h hlen hBw
open Go.RowKit in
theorem Tryd.Builder_WriteString_k (B b : Nat) (bs : List Value) (s : ByteArray) (w : World) (h : Lib.IsBuilderF 41 5 B b bs w) (hlen : bs.length + s.size ≤ 140737488355328) (hBw : B ≤ w.heap.size) :
    Calls Tryd.prog 14 #[.pointer (some ⟨b, 0, none⟩), .string s] w fun e w' => e = .returned (.tuple #[.int .i64 s.size, .nilIface]) ∧ (Lib.BuilderAtF 41 5 B b (.pointer (some ⟨b, 0, none⟩)) (bs ++ Lib.strCells s) w' ∧ Below B w w' ∧ Lib.OthersKept 5 (some b) w w') := Any.Builder_WriteString_k Tryd.lays166 Tryd.Builder_Extra B b bs s w h hlen hBw
open Go.RowKit in
theorem Tryd.Builder_String_any_k (B b : Nat) (l : List UInt8) (w : World) (h : Lib.IsBuilderF 41 5 B b (Lib.byteCells l) w) (hBw : B ≤ w.heap.size) :
    Calls Tryd.prog 17 #[.pointer (some ⟨b, 0, none⟩)] w fun e w' => e = .returned (.string ⟨l.toArray⟩) ∧ (Lib.IsBuilderF 41 5 B b (Lib.byteCells l) w' ∧ Below B w w' ∧ Lib.OthersKept 5 (some b) w w') := Any.Builder_String_any_k Tryd.lays169 Tryd.Builder_Extra B b l w h hBw
def Tryd.laysM171_ren : Go.Shelf.Ren := ⟨fun | 171 => 15 | 243 => 21 | 246 => 24 | 283 => 25 | 284 => 26 | 285 => 27 | 286 => 28 | 129 => 30 | 317 => 29 | 318 => 31 | 319 => 32 | 320 => 33 | 337 => 34 | 338 => 35 | n => n, fun | 3 => 3 | 9 => 9 | 2 => 2 | 4 => 4 | 171 => 54 | 0 => 0 | 53 => 55 | 37 => 39 | 5 => 5 | 173 => 58 | 212 => 61 | 51 => 62 | 20 => 20 | 213 => 63 | 46 => 65 | 232 => 68 | 233 => 69 | n => n, fun | 17 => 1 | 18 => 2 | 19 => 3 | n => n⟩
theorem Tryd.laysM171 : Go.Proofs.LaysM.n171 Tryd.prog Tryd.laysM171_ren := {
  mixed := by kernel_rfl
  f129 := Tryd.func30.trans (congrArg some (by kernel_rfl))
  f171 := Tryd.func15.trans (congrArg some (by kernel_rfl))
  f243 := Tryd.func21.trans (congrArg some (by kernel_rfl))
  f246 := Tryd.func24.trans (congrArg some (by kernel_rfl))
  f283 := Tryd.func25.trans (congrArg some (by kernel_rfl))
  f284 := Tryd.func26.trans (congrArg some (by kernel_rfl))
  f285 := Tryd.func27.trans (congrArg some (by kernel_rfl))
  f286 := Tryd.func28.trans (congrArg some (by kernel_rfl))
  f317 := Tryd.func29.trans (congrArg some (by kernel_rfl))
  f318 := Tryd.func31.trans (congrArg some (by kernel_rfl))
  f319 := Tryd.func32.trans (congrArg some (by kernel_rfl))
  f320 := Tryd.func33.trans (congrArg some (by kernel_rfl))
  f337 := Tryd.func34.trans (congrArg some (by kernel_rfl))
  f338 := Tryd.func35.trans (congrArg some (by kernel_rfl))
  t0 := Tryd.underlying0
  a0 := Tryd.isAgg0
  z0 := Tryd.sizeOf0
  v0 := Tryd.zeroValue0
  t2 := Tryd.underlying2
  a2 := Tryd.isAgg2
  z2 := Tryd.sizeOf2
  v2 := Tryd.zeroValue2
  t3 := Tryd.underlying3
  a3 := Tryd.isAgg3
  z3 := Tryd.sizeOf3
  v3 := Tryd.zeroValue3
  t4 := Tryd.underlying4
  a4 := Tryd.isAgg4
  z4 := Tryd.sizeOf4
  v4 := Tryd.zeroValue4
  t5 := Tryd.underlying5
  a5 := Tryd.isAgg5
  z5 := Tryd.sizeOf5
  v5 := Tryd.zeroValue5
  t9 := Tryd.underlying9
  a9 := Tryd.isAgg9
  z9 := Tryd.sizeOf9
  v9 := Tryd.zeroValue9
  t20 := Tryd.underlying20
  a20 := Tryd.isAgg20
  z20 := Tryd.sizeOf20
  v20 := Tryd.zeroValue20
  t37 := Tryd.underlying39
  a37 := Tryd.isAgg39
  z37 := Tryd.sizeOf39
  v37 := Tryd.zeroValue39
  t46 := Tryd.underlying65
  a46 := Tryd.isAgg65
  z46 := Tryd.sizeOf65
  v46 := Tryd.zeroValue65
  t51 := Tryd.underlying62
  a51 := Tryd.isAgg62
  z51 := Tryd.sizeOf62
  v51 := Tryd.zeroValue62
  t53 := Tryd.underlying55
  a53 := Tryd.isAgg55
  z53 := Tryd.sizeOf55
  v53 := Tryd.zeroValue55
  t171 := Tryd.underlying54
  a171 := Tryd.isAgg54
  z171 := Tryd.sizeOf54
  v171 := Tryd.zeroValue54
  t173 := Tryd.underlying58
  a173 := Tryd.isAgg58
  z173 := Tryd.sizeOf58
  v173 := Tryd.zeroValue58
  t212 := Tryd.underlying61
  a212 := Tryd.isAgg61
  z212 := Tryd.sizeOf61
  v212 := Tryd.zeroValue61
  t213 := Tryd.underlying63
  a213 := Tryd.isAgg63
  z213 := Tryd.sizeOf63
  t232 := Tryd.underlying68
  a232 := Tryd.isAgg68
  z232 := Tryd.sizeOf68
  v232 := Tryd.zeroValue68
  t233 := Tryd.underlying69
  a233 := Tryd.isAgg69
  z233 := Tryd.sizeOf69
  v233 := Tryd.zeroValue69
  g17 := by kernel_rfl
  g18 := by kernel_rfl
  g19 := by kernel_rfl
  i0 := by kernel_rfl
  i2 := by kernel_rfl
  i3 := by kernel_rfl
  i4 := by kernel_rfl
  i5 := by kernel_rfl
  i9 := by kernel_rfl
  i20 := by kernel_rfl
  i37 := by kernel_rfl
  i46 := by kernel_rfl
  i51 := by kernel_rfl
  i53 := by kernel_rfl
  i171 := by kernel_rfl
  i173 := by kernel_rfl
  i212 := by kernel_rfl
  i232 := by kernel_rfl
  i233 := by kernel_rfl
  m17 := by kernel_rfl
  m18 := by kernel_rfl
  m19 := by kernel_rfl }
/-- The table of the powers of ten (the program's second variable) holds what the library's text lays. -/
def Tryd.Pow (w : World) : Prop := ∃ ty fz, w.heap[1]? = some (.cells (Lib.pow10Tab.map fun z => Value.int .u64 z).toArray ty fz)
open Go.RowKit Go.Sort Go.Lib in
theorem Tryd.strconv_Itoa (n : Int) (h0 : -9223372036854775808 ≤ n) (h1 : n ≤ 9223372036854775807) (w : World) (hP : Tryd.Pow w) :
    Calls Tryd.prog 15 #[.int .i64 n] w fun e w' => e = .returned (.string ⟨(Lib.itoa n).toArray⟩) ∧ ∃ k os, w' = grow (w.drewN k) os := by
  refine Any.strconv_Itoa Tryd.laysM171 n h0 h1 w ?_
  obtain ⟨ty, fz, hh⟩ := hP
  unfold Lib.TabIs World.var?
  refine (congrArg (fun o => Option.bind o _) (?_ : Tryd.prog.globalNamed _ = some 1)).trans ?_
  · kernel_rfl
  · simp [hh]

end Go.Proofs
