/-
  The library's contracts at this dump, in plain words: strings.Repeat's closure and strconv.FormatInt's closure laid (written by the guide's tool, cut to what is used); the Builder's writers out of Repeat's laying. By an AI agent and the guide's tool.
-/
import Derived.Shelf.Strings.BuilderK
import Derived.Shelf.Strings.Repeat
import Derived.Shelf.Strconv.Itoa4
import Derived.Test.Qxb6628289aDoorRows
namespace Go.Proofs
open Go.Shelf
def Tryd.lays105_ren : Go.Shelf.Ren := ⟨fun | 105 => 14 | 212 => 21 | 99 => 22 | 165 => 23 | 166 => 13 | 170 => 24 | 169 => 16 | 263 => 27 | 264 => 28 | 206 => 29 | 240 => 20 | 241 => 30 | 276 => 26 | 277 => 35 | n => n, fun | 9 => 9 | 3 => 3 | 4 => 4 | 20 => 20 | 0 => 0 | 46 => 46 | 109 => 47 | 5 => 5 | 72 => 35 | 76 => 39 | 51 => 56 | 146 => 57 | 53 => 53 | 148 => 59 | 70 => 32 | 37 => 33 | 75 => 37 | 127 => 52 | 164 => 54 | 80 => 27 | n => n, fun | n => n⟩
theorem Tryd.lays105 : Go.Proofs.Lays.n105 Tryd.prog Tryd.lays105_ren := {
  mixed := by kernel_rfl
  f99 := Tryd.func22.trans (congrArg some (by kernel_rfl))
  f105 := Tryd.func14.trans (congrArg some (by kernel_rfl))
  f165 := Tryd.func23.trans (congrArg some (by kernel_rfl))
  f166 := Tryd.func13.trans (congrArg some (by kernel_rfl))
  f169 := Tryd.func16.trans (congrArg some (by kernel_rfl))
  f170 := Tryd.func24.trans (congrArg some (by kernel_rfl))
  f206 := Tryd.func29.trans (congrArg some (by kernel_rfl))
  f212 := Tryd.func21.trans (congrArg some (by kernel_rfl))
  f240 := Tryd.func20.trans (congrArg some (by kernel_rfl))
  f241 := Tryd.func30.trans (congrArg some (by kernel_rfl))
  f263 := Tryd.func27.trans (congrArg some (by kernel_rfl))
  f264 := Tryd.func28.trans (congrArg some (by kernel_rfl))
  f276 := Tryd.func26.trans (congrArg some (by kernel_rfl))
  f277 := Tryd.func35.trans (congrArg some (by kernel_rfl))
  t0 := Tryd.underlying0
  a0 := Tryd.isAgg0
  z0 := Tryd.sizeOf0
  v0 := Tryd.zeroValue0
  t3 := Tryd.underlying3
  a3 := Tryd.isAgg3
  z3 := Tryd.sizeOf3
  v3 := Tryd.zeroValue3
  t4 := Tryd.underlying4
  a4 := Tryd.isAgg4
  z4 := Tryd.sizeOf4
  v4 := Tryd.zeroValue4
  t5 := Tryd.underlying5
  a5 := Tryd.isAgg5
  z5 := Tryd.sizeOf5
  v5 := Tryd.zeroValue5
  t9 := Tryd.underlying9
  a9 := Tryd.isAgg9
  z9 := Tryd.sizeOf9
  v9 := Tryd.zeroValue9
  t20 := Tryd.underlying20
  a20 := Tryd.isAgg20
  z20 := Tryd.sizeOf20
  v20 := Tryd.zeroValue20
  t37 := Tryd.underlying33
  a37 := Tryd.isAgg33
  z37 := Tryd.sizeOf33
  v37 := Tryd.zeroValue33
  t46 := Tryd.underlying46
  a46 := Tryd.isAgg46
  z46 := Tryd.sizeOf46
  v46 := Tryd.zeroValue46
  t51 := Tryd.underlying56
  a51 := Tryd.isAgg56
  z51 := Tryd.sizeOf56
  v51 := Tryd.zeroValue56
  t53 := Tryd.underlying53
  a53 := Tryd.isAgg53
  z53 := Tryd.sizeOf53
  v53 := Tryd.zeroValue53
  t70 := Tryd.underlying32
  a70 := Tryd.isAgg32
  z70 := Tryd.sizeOf32
  v70 := Tryd.zeroValue32
  t72 := Tryd.underlying35
  a72 := Tryd.isAgg35
  z72 := Tryd.sizeOf35
  v72 := Tryd.zeroValue35
  t75 := Tryd.underlying37
  a75 := Tryd.isAgg37
  z75 := Tryd.sizeOf37
  v75 := Tryd.zeroValue37
  t76 := Tryd.underlying39
  a76 := Tryd.isAgg39
  z76 := Tryd.sizeOf39
  v76 := Tryd.zeroValue39
  t109 := Tryd.underlying47
  a109 := Tryd.isAgg47
  z109 := Tryd.sizeOf47
  v109 := Tryd.zeroValue47
  t127 := Tryd.underlying52
  a127 := Tryd.isAgg52
  z127 := Tryd.sizeOf52
  v127 := Tryd.zeroValue52
  t146 := Tryd.underlying57
  a146 := Tryd.isAgg57
  z146 := Tryd.sizeOf57
  v146 := Tryd.zeroValue57
  t148 := Tryd.underlying59
  a148 := Tryd.isAgg59
  z148 := Tryd.sizeOf59
  v148 := Tryd.zeroValue59
  t164 := Tryd.underlying54
  a164 := Tryd.isAgg54
  z164 := Tryd.sizeOf54
  v164 := Tryd.zeroValue54 }
theorem Tryd.Builder_Extra_105 : Builder.Extra Tryd.prog Tryd.lays105_ren := {
  sizeBuilder := by kernel_rfl
  liesBuilder := by kernel_rfl
  t5 := Tryd.underlying5
  a5 := Tryd.isAgg5
  z5 := Tryd.sizeOf5
  v5 := Tryd.zeroValue5
  infoByte := by kernel_rfl
  cellsByte := by kernel_rfl
  sizeByte := by kernel_rfl
  neB5 := by decide }
open Go.RowKit Go.Lib in
theorem Tryd.strings_Repeat (s : ByteArray) (c : Nat) (w : World) (hc : c ≤ 9223372036854775807) (hlen : s.size * c ≤ 140737488355328) :
    Calls Tryd.prog 14 #[.string s, .int .i64 c] w fun e w' => e = .returned (.string ⟨(Lib.repeatL s.data.toList c).toArray⟩) ∧ Below w.heap.size w w' := Any.strings_Repeat Tryd.lays105 Tryd.Builder_Extra_105 s c w hc hlen
def Tryd.laysM173_ren : Go.Shelf.Ren := ⟨fun | 173 => 15 | 246 => 25 | 283 => 31 | 284 => 32 | 285 => 33 | 286 => 34 | 129 => 37 | 317 => 36 | 318 => 38 | 319 => 39 | 320 => 40 | 337 => 41 | 338 => 42 | n => n, fun | 2 => 2 | 3 => 3 | 9 => 9 | 4 => 4 | 171 => 62 | 0 => 0 | 53 => 53 | 37 => 33 | 5 => 5 | 173 => 65 | 212 => 70 | 51 => 56 | 20 => 20 | 213 => 71 | 46 => 46 | 232 => 75 | 233 => 76 | n => n, fun | 17 => 0 | 18 => 2 | 19 => 3 | n => n⟩
theorem Tryd.laysM173 : Go.Proofs.LaysM.n173 Tryd.prog Tryd.laysM173_ren := {
  mixed := by kernel_rfl
  f129 := Tryd.func37.trans (congrArg some (by kernel_rfl))
  f173 := Tryd.func15.trans (congrArg some (by kernel_rfl))
  f246 := Tryd.func25.trans (congrArg some (by kernel_rfl))
  f283 := Tryd.func31.trans (congrArg some (by kernel_rfl))
  f284 := Tryd.func32.trans (congrArg some (by kernel_rfl))
  f285 := Tryd.func33.trans (congrArg some (by kernel_rfl))
  f286 := Tryd.func34.trans (congrArg some (by kernel_rfl))
  f317 := Tryd.func36.trans (congrArg some (by kernel_rfl))
  f318 := Tryd.func38.trans (congrArg some (by kernel_rfl))
  f319 := Tryd.func39.trans (congrArg some (by kernel_rfl))
  f320 := Tryd.func40.trans (congrArg some (by kernel_rfl))
  f337 := Tryd.func41.trans (congrArg some (by kernel_rfl))
  f338 := Tryd.func42.trans (congrArg some (by kernel_rfl))
  t0 := Tryd.underlying0
  a0 := Tryd.isAgg0
  z0 := Tryd.sizeOf0
  v0 := Tryd.zeroValue0
  t2 := Tryd.underlying2
  a2 := Tryd.isAgg2
  z2 := Tryd.sizeOf2
  v2 := Tryd.zeroValue2
  t3 := Tryd.underlying3
  a3 := Tryd.isAgg3
  z3 := Tryd.sizeOf3
  v3 := Tryd.zeroValue3
  t4 := Tryd.underlying4
  a4 := Tryd.isAgg4
  z4 := Tryd.sizeOf4
  v4 := Tryd.zeroValue4
  t5 := Tryd.underlying5
  a5 := Tryd.isAgg5
  z5 := Tryd.sizeOf5
  v5 := Tryd.zeroValue5
  t9 := Tryd.underlying9
  a9 := Tryd.isAgg9
  z9 := Tryd.sizeOf9
  v9 := Tryd.zeroValue9
  t20 := Tryd.underlying20
  a20 := Tryd.isAgg20
  z20 := Tryd.sizeOf20
  v20 := Tryd.zeroValue20
  t37 := Tryd.underlying33
  a37 := Tryd.isAgg33
  z37 := Tryd.sizeOf33
  v37 := Tryd.zeroValue33
  t46 := Tryd.underlying46
  a46 := Tryd.isAgg46
  z46 := Tryd.sizeOf46
  v46 := Tryd.zeroValue46
  t51 := Tryd.underlying56
  a51 := Tryd.isAgg56
  z51 := Tryd.sizeOf56
  v51 := Tryd.zeroValue56
  t53 := Tryd.underlying53
  a53 := Tryd.isAgg53
  z53 := Tryd.sizeOf53
  v53 := Tryd.zeroValue53
  t171 := Tryd.underlying62
  a171 := Tryd.isAgg62
  z171 := Tryd.sizeOf62
  v171 := Tryd.zeroValue62
  t173 := Tryd.underlying65
  a173 := Tryd.isAgg65
  z173 := Tryd.sizeOf65
  v173 := Tryd.zeroValue65
  t212 := Tryd.underlying70
  a212 := Tryd.isAgg70
  z212 := Tryd.sizeOf70
  v212 := Tryd.zeroValue70
  t213 := Tryd.underlying71
  a213 := Tryd.isAgg71
  z213 := Tryd.sizeOf71
  t232 := Tryd.underlying75
  a232 := Tryd.isAgg75
  z232 := Tryd.sizeOf75
  v232 := Tryd.zeroValue75
  t233 := Tryd.underlying76
  a233 := Tryd.isAgg76
  z233 := Tryd.sizeOf76
  v233 := Tryd.zeroValue76
  g17 := by kernel_rfl
  g18 := by kernel_rfl
  g19 := by kernel_rfl
  i0 := by kernel_rfl
  i2 := by kernel_rfl
  i3 := by kernel_rfl
  i4 := by kernel_rfl
  i5 := by kernel_rfl
  i9 := by kernel_rfl
  i20 := by kernel_rfl
  i37 := by kernel_rfl
  i46 := by kernel_rfl
  i51 := by kernel_rfl
  i53 := by kernel_rfl
  i171 := by kernel_rfl
  i173 := by kernel_rfl
  i212 := by kernel_rfl
  i232 := by kernel_rfl
  i233 := by kernel_rfl
  m17 := by kernel_rfl
  m18 := by kernel_rfl
  m19 := by kernel_rfl }
def Tryd.ren167 : Go.Shelf.Ren := ⟨fun | 167 => 12 | n => Tryd.lays105_ren.f n, Tryd.lays105_ren.t, Tryd.lays105_ren.g⟩
theorem Tryd.lays167 : Lays.n167 Tryd.prog Tryd.ren167 := { Tryd.lays105 with
  f167 := by kernel_rfl
  f240 := by kernel_rfl
  f276 := by kernel_rfl }
theorem Tryd.lays166 : Lays.n166 Tryd.prog Tryd.lays105_ren := { Tryd.lays105 with }
theorem Tryd.lays169 : Lays.n169 Tryd.prog Tryd.lays105_ren := { Tryd.lays105 with }
theorem Tryd.Builder_Extra_167 : Builder.Extra Tryd.prog Tryd.ren167 := { Tryd.Builder_Extra_105 with }
theorem Tryd.writeByte (B b : Nat) (bs : List Value) (c : Int) (w : World) (h : Lib.IsBuilderF 35 5 B b bs w) (hlen : bs.length + 1 ≤ 140737488355328) (hBw : B ≤ w.heap.size) :
    Calls Tryd.prog 12 #[.pointer (some ⟨b, 0, none⟩), .int .u8 c] w fun e w' => e = .returned .nilIface ∧ (Lib.BuilderAtF 35 5 B b (.pointer (some ⟨b, 0, none⟩)) (bs ++ [.int .u8 c]) w' ∧ RowKit.Below B w w' ∧ Lib.OthersKept 5 (some b) w w') :=
  Any.Builder_WriteByte_k Tryd.lays167 Tryd.Builder_Extra_167 B b bs c w h hlen hBw
theorem Tryd.writeString (B b : Nat) (bs : List Value) (s : ByteArray) (w : World) (h : Lib.IsBuilderF 35 5 B b bs w) (hlen : bs.length + s.size ≤ 140737488355328) (hBw : B ≤ w.heap.size) :
    Calls Tryd.prog 13 #[.pointer (some ⟨b, 0, none⟩), .string s] w fun e w' => e = .returned (.tuple #[.int .i64 s.size, .nilIface]) ∧ (Lib.BuilderAtF 35 5 B b (.pointer (some ⟨b, 0, none⟩)) (bs ++ Lib.strCells s) w' ∧ RowKit.Below B w w' ∧ Lib.OthersKept 5 (some b) w w') :=
  Any.Builder_WriteString_k Tryd.lays166 Tryd.Builder_Extra_105 B b bs s w h hlen hBw
theorem Tryd.builderString (B b : Nat) (l : List UInt8) (w : World) (h : Lib.IsBuilderF 35 5 B b (Lib.byteCells l) w) (hBw : B ≤ w.heap.size) :
    Calls Tryd.prog 16 #[.pointer (some ⟨b, 0, none⟩)] w fun e w' => e = .returned (.string ⟨l.toArray⟩) ∧ (Lib.IsBuilderF 35 5 B b (Lib.byteCells l) w' ∧ RowKit.Below B w w' ∧ Lib.OthersKept 5 (some b) w w') :=
  Any.Builder_String_any_k Tryd.lays169 Tryd.Builder_Extra_105 B b l w h hBw

/-- The name of the table that FormatInt reads: out of the given row. -/
def Tryd.powName : String := (Qxb6628289aDoor.Rows.fnStringSignAndReadBackRow.named.headD "")
theorem Tryd.formatInt (n : Int) (h0 : -9223372036854775808 ≤ n) (h1 : n ≤ 9223372036854775807) (w : World) (htab : Lib.TabIs Tryd.prog w Tryd.powName .u64 Lib.pow10Tab) :
    Calls Tryd.prog 15 #[.int .i64 n, .int .i64 10] w fun e w' => e = .returned (.string ⟨(Lib.itoa n).toArray⟩) ∧ ∃ k os, w' = Sort.grow (w.drewN k) os :=
  Any.strconv_FormatInt_10 Tryd.laysM173 n h0 h1 w htab
end Go.Proofs
