/-
  The library contracts that this seat's two laws use, at this program's own numbers: written by the shelf's tools (lay-shelf, lay-plain), cut down to what is used.
-/
import Derived.Shelf.Strconv.Itoa1
import Derived.Shelf.LaysM
import Derived.Shelf.Strconv.Itoa2
import Derived.Shelf.Strings.Repeat
import Derived.Test.Qxb6614358aDoorRows
namespace Go.Proofs
open Go.Shelf Go.RowKit Go.Sort Go.Lib
def Tryd.lays283_ren : Go.Shelf.Ren := ⟨fun | 283 => 24 | n => n, fun | 3 => 3 | 9 => 9 | 4 => 4 | n => n, fun | n => n⟩
theorem Tryd.lays283 : Go.Proofs.Lays.n283 Tryd.prog Tryd.lays283_ren := {
  mixed := by kernel_rfl
  f283 := Tryd.func24.trans (congrArg some (by kernel_rfl))
  t3 := Tryd.underlying3
  a3 := Tryd.isAgg3
  z3 := Tryd.sizeOf3
  v3 := Tryd.zeroValue3
  t4 := Tryd.underlying4
  a4 := Tryd.isAgg4
  z4 := Tryd.sizeOf4
  v4 := Tryd.zeroValue4
  t9 := Tryd.underlying9
  a9 := Tryd.isAgg9
  z9 := Tryd.sizeOf9
  v9 := Tryd.zeroValue9 }
theorem Tryd.internal_strconv_small (i : Nat) (h : i < 100) (w : World) :
    Calls Tryd.prog 24 #[.int .i64 i] w fun e w' => e = .returned (.string ⟨(Lib.decDigits i).toArray⟩) ∧ w' = w := Any.internal_strconv_small Tryd.lays283 i h w
def Tryd.laysM284_ren : Go.Shelf.Ren := ⟨fun | 284 => 25 | 129 => 34 | 317 => 33 | 318 => 35 | n => n, fun | 53 => 28 | 3 => 3 | 212 => 67 | 0 => 0 | 4 => 4 | 46 => 42 | 5 => 5 | 9 => 9 | n => n, fun | 17 => 0 | n => n⟩
theorem Tryd.laysM284 : Go.Proofs.LaysM.n284 Tryd.prog Tryd.laysM284_ren := {
  mixed := by kernel_rfl
  f129 := Tryd.func34.trans (congrArg some (by kernel_rfl))
  f284 := Tryd.func25.trans (congrArg some (by kernel_rfl))
  f317 := Tryd.func33.trans (congrArg some (by kernel_rfl))
  f318 := Tryd.func35.trans (congrArg some (by kernel_rfl))
  t0 := Tryd.underlying0
  a0 := Tryd.isAgg0
  z0 := Tryd.sizeOf0
  v0 := Tryd.zeroValue0
  t3 := Tryd.underlying3
  a3 := Tryd.isAgg3
  z3 := Tryd.sizeOf3
  v3 := Tryd.zeroValue3
  t4 := Tryd.underlying4
  a4 := Tryd.isAgg4
  z4 := Tryd.sizeOf4
  v4 := Tryd.zeroValue4
  t5 := Tryd.underlying5
  a5 := Tryd.isAgg5
  z5 := Tryd.sizeOf5
  v5 := Tryd.zeroValue5
  t9 := Tryd.underlying9
  a9 := Tryd.isAgg9
  z9 := Tryd.sizeOf9
  v9 := Tryd.zeroValue9
  t46 := Tryd.underlying42
  a46 := Tryd.isAgg42
  z46 := Tryd.sizeOf42
  v46 := Tryd.zeroValue42
  t53 := Tryd.underlying28
  a53 := Tryd.isAgg28
  z53 := Tryd.sizeOf28
  v53 := Tryd.zeroValue28
  t212 := Tryd.underlying67
  a212 := Tryd.isAgg67
  z212 := Tryd.sizeOf67
  v212 := Tryd.zeroValue67
  g17 := by kernel_rfl
  i0 := by kernel_rfl
  i3 := by kernel_rfl
  i4 := by kernel_rfl
  i5 := by kernel_rfl
  i9 := by kernel_rfl
  i46 := by kernel_rfl
  i53 := by kernel_rfl
  i212 := by kernel_rfl
  m17 := by kernel_rfl }
/-- The name of the table of powers of ten, as the given row lists it. -/
abbrev Qxb6614358aDoor.powName : String := Qxb6614358aDoor.Rows.fnPerShareTextReadsBackAndNegatesRow.named.headD default
theorem Tryd.internal_strconv_numDigits (u : Nat) (h1 : 1 ≤ u) (h2 : u < 18446744073709551616) (w : World) (htab : Lib.TabIs Tryd.prog w Qxb6614358aDoor.powName .u64 Lib.pow10Tab) :
    Calls Tryd.prog 25 #[.int .u64 u] w fun e w' => e = .returned (.int .i64 (Lib.nDigits u)) ∧ w' = w := Any.internal_strconv_numDigits Tryd.laysM284 u h1 h2 w htab
def Tryd.lays285_ren : Go.Shelf.Ren := ⟨fun | 285 => 26 | n => n, fun | 37 => 22 | 53 => 28 | 3 => 3 | 4 => 4 | 51 => 59 | 9 => 9 | 5 => 5 | 0 => 0 | n => n, fun | n => n⟩
theorem Tryd.lays285 : Go.Proofs.Lays.n285 Tryd.prog Tryd.lays285_ren := {
  mixed := by kernel_rfl
  f285 := Tryd.func26.trans (congrArg some (by kernel_rfl))
  t0 := Tryd.underlying0
  a0 := Tryd.isAgg0
  z0 := Tryd.sizeOf0
  v0 := Tryd.zeroValue0
  t3 := Tryd.underlying3
  a3 := Tryd.isAgg3
  z3 := Tryd.sizeOf3
  v3 := Tryd.zeroValue3
  t4 := Tryd.underlying4
  a4 := Tryd.isAgg4
  z4 := Tryd.sizeOf4
  v4 := Tryd.zeroValue4
  t5 := Tryd.underlying5
  a5 := Tryd.isAgg5
  z5 := Tryd.sizeOf5
  v5 := Tryd.zeroValue5
  t9 := Tryd.underlying9
  a9 := Tryd.isAgg9
  z9 := Tryd.sizeOf9
  v9 := Tryd.zeroValue9
  t37 := Tryd.underlying22
  a37 := Tryd.isAgg22
  z37 := Tryd.sizeOf22
  v37 := Tryd.zeroValue22
  t51 := Tryd.underlying59
  a51 := Tryd.isAgg59
  z51 := Tryd.sizeOf59
  v51 := Tryd.zeroValue59
  t53 := Tryd.underlying28
  a53 := Tryd.isAgg28
  z53 := Tryd.sizeOf28
  v53 := Tryd.zeroValue28 }
theorem Tryd.internal_strconv_formatBase10 (blk off cap : Nat) (u : Nat) (d : Array UInt8) (w : World) (hH : Holds (fun (b : UInt8) => Value.int .u8 (b.toNat : Int)) w blk off d) (hu : u < 10 ^ d.size) (hu64 : u < 18446744073709551616) (hsz : d.size < 4611686018427387904) :
    Calls Tryd.prog 26 #[.slice (some ⟨blk, off, none⟩) d.size cap, .int .u64 u] w fun e w' =>
      e = .returned (.tuple #[]) ∧ ∃ (n v' : Nat) (dk : Array UInt8), w' = (putRow (fun (b : UInt8) => Value.int .u8 (b.toNat : Int)) w blk off dk).drewN n ∧ FmtInv d.size u 0 v' dk := Any.internal_strconv_formatBase10 Tryd.lays285 blk off cap u d w hH hu hu64 hsz
def Tryd.lays105_ren : Go.Shelf.Ren := ⟨fun | 105 => 16 | 212 => 18 | 99 => 19 | 165 => 20 | 166 => 21 | 170 => 22 | 169 => 23 | 263 => 28 | 264 => 29 | 206 => 30 | 240 => 31 | 241 => 32 | 276 => 38 | 277 => 39 | n => n, fun | 9 => 9 | 3 => 3 | 4 => 4 | 20 => 20 | 0 => 0 | 46 => 42 | 109 => 43 | 5 => 5 | 72 => 48 | 76 => 50 | 51 => 59 | 146 => 60 | 53 => 28 | 148 => 62 | 70 => 46 | 37 => 22 | 75 => 24 | 127 => 64 | 164 => 71 | 80 => 36 | n => n, fun | n => n⟩
theorem Tryd.lays105 : Go.Proofs.Lays.n105 Tryd.prog Tryd.lays105_ren := {
  mixed := by kernel_rfl
  f99 := Tryd.func19.trans (congrArg some (by kernel_rfl))
  f105 := Tryd.func16.trans (congrArg some (by kernel_rfl))
  f165 := Tryd.func20.trans (congrArg some (by kernel_rfl))
  f166 := Tryd.func21.trans (congrArg some (by kernel_rfl))
  f169 := Tryd.func23.trans (congrArg some (by kernel_rfl))
  f170 := Tryd.func22.trans (congrArg some (by kernel_rfl))
  f206 := Tryd.func30.trans (congrArg some (by kernel_rfl))
  f212 := Tryd.func18.trans (congrArg some (by kernel_rfl))
  f240 := Tryd.func31.trans (congrArg some (by kernel_rfl))
  f241 := Tryd.func32.trans (congrArg some (by kernel_rfl))
  f263 := Tryd.func28.trans (congrArg some (by kernel_rfl))
  f264 := Tryd.func29.trans (congrArg some (by kernel_rfl))
  f276 := Tryd.func38.trans (congrArg some (by kernel_rfl))
  f277 := Tryd.func39.trans (congrArg some (by kernel_rfl))
  t0 := Tryd.underlying0
  a0 := Tryd.isAgg0
  z0 := Tryd.sizeOf0
  v0 := Tryd.zeroValue0
  t3 := Tryd.underlying3
  a3 := Tryd.isAgg3
  z3 := Tryd.sizeOf3
  v3 := Tryd.zeroValue3
  t4 := Tryd.underlying4
  a4 := Tryd.isAgg4
  z4 := Tryd.sizeOf4
  v4 := Tryd.zeroValue4
  t5 := Tryd.underlying5
  a5 := Tryd.isAgg5
  z5 := Tryd.sizeOf5
  v5 := Tryd.zeroValue5
  t9 := Tryd.underlying9
  a9 := Tryd.isAgg9
  z9 := Tryd.sizeOf9
  v9 := Tryd.zeroValue9
  t20 := Tryd.underlying20
  a20 := Tryd.isAgg20
  z20 := Tryd.sizeOf20
  v20 := Tryd.zeroValue20
  t37 := Tryd.underlying22
  a37 := Tryd.isAgg22
  z37 := Tryd.sizeOf22
  v37 := Tryd.zeroValue22
  t46 := Tryd.underlying42
  a46 := Tryd.isAgg42
  z46 := Tryd.sizeOf42
  v46 := Tryd.zeroValue42
  t51 := Tryd.underlying59
  a51 := Tryd.isAgg59
  z51 := Tryd.sizeOf59
  v51 := Tryd.zeroValue59
  t53 := Tryd.underlying28
  a53 := Tryd.isAgg28
  z53 := Tryd.sizeOf28
  v53 := Tryd.zeroValue28
  t70 := Tryd.underlying46
  a70 := Tryd.isAgg46
  z70 := Tryd.sizeOf46
  v70 := Tryd.zeroValue46
  t72 := Tryd.underlying48
  a72 := Tryd.isAgg48
  z72 := Tryd.sizeOf48
  v72 := Tryd.zeroValue48
  t75 := Tryd.underlying24
  a75 := Tryd.isAgg24
  z75 := Tryd.sizeOf24
  v75 := Tryd.zeroValue24
  t76 := Tryd.underlying50
  a76 := Tryd.isAgg50
  z76 := Tryd.sizeOf50
  v76 := Tryd.zeroValue50
  t109 := Tryd.underlying43
  a109 := Tryd.isAgg43
  z109 := Tryd.sizeOf43
  v109 := Tryd.zeroValue43
  t127 := Tryd.underlying64
  a127 := Tryd.isAgg64
  z127 := Tryd.sizeOf64
  v127 := Tryd.zeroValue64
  t146 := Tryd.underlying60
  a146 := Tryd.isAgg60
  z146 := Tryd.sizeOf60
  v146 := Tryd.zeroValue60
  t148 := Tryd.underlying62
  a148 := Tryd.isAgg62
  z148 := Tryd.sizeOf62
  v148 := Tryd.zeroValue62
  t164 := Tryd.underlying71
  a164 := Tryd.isAgg71
  z164 := Tryd.sizeOf71
  v164 := Tryd.zeroValue71 }
theorem Tryd.Builder_Extra_105 : Builder.Extra Tryd.prog Tryd.lays105_ren := {
  sizeBuilder := by kernel_rfl
  liesBuilder := by kernel_rfl
  t5 := Tryd.underlying5
  a5 := Tryd.isAgg5
  z5 := Tryd.sizeOf5
  v5 := Tryd.zeroValue5
  infoByte := by kernel_rfl
  cellsByte := by kernel_rfl
  sizeByte := by kernel_rfl
  neB5 := by decide }
theorem Tryd.strings_Repeat (s : ByteArray) (c : Nat) (w : World) (hc : c ≤ 9223372036854775807) (hlen : s.size * c ≤ 140737488355328) :
    Calls Tryd.prog 16 #[.string s, .int .i64 c] w fun e w' => e = .returned (.string ⟨(Lib.repeatL s.data.toList c).toArray⟩) ∧ Below w.heap.size w w' := Any.strings_Repeat Tryd.lays105 Tryd.Builder_Extra_105 s c w hc hlen
end Go.Proofs
