/-
  DERIVED: THE SHELF's CONTRACTS AT THIS DUMP, IN PLAIN WORDS (tools/lay-plain.mjs out of 'TrydShelf.lean', which tools/lay-shelf.mjs wrote): THE SAME DECLARATIONS UNDER THE SAME NAMES: 'import', 'namespace', 'open', 'def', 'theorem' AND NOTHING ELSE: no command of the shelf's: FOR A HAND-IN. Each laying: the table of numbers ('.._ren') and one theorem, a field a fact of the dump's own or the kernel's comparison; each contract: ONE APPLICATION.
-/
import Derived.Shelf.Strconv.Itoa0
import Derived.Shelf.Strconv.Itoa1
import Derived.Shelf.LaysM
import Derived.Shelf.Strconv.Itoa2
import Derived.Shelf.Strconv.Lower
import Derived.Shelf.Strconv.ParseUint10
import Derived.Shelf.Strconv.ParseUintEmpty
import Derived.Shelf.Strconv.ParseUint10b64
import Derived.Shelf.Strconv.ParseUint10b32
import Derived.Shelf.Strconv.ParseUint10b16
import Derived.Shelf.Strconv.ParseUint10b8
import Derived.Shelf.Strconv.ParseUint10At
import Derived.Ground.MpProg
import Derived.Shelf.Pu.ParseUintPublic10
import Derived.Test.YtagmjdhjhjlffaaDoorProg
namespace Go.Proofs
open Go.Shelf
def Tryd.lays129_ren : Go.Shelf.Ren := ⟨fun | 129 => 48 | n => n, fun | 53 => 22 | 3 => 3 | 4 => 4 | 46 => 63 | 5 => 5 | 9 => 9 | n => n, fun | n => n⟩
theorem Tryd.lays129 : Go.Proofs.Lays.n129 Tryd.prog Tryd.lays129_ren := {
  mixed := by kernel_rfl
  f129 := Tryd.func48.trans (congrArg some (by kernel_rfl))
  t3 := Tryd.underlying3
  a3 := Tryd.isAgg3
  z3 := Tryd.sizeOf3
  v3 := Tryd.zeroValue3
  t4 := Tryd.underlying4
  a4 := Tryd.isAgg4
  z4 := Tryd.sizeOf4
  v4 := Tryd.zeroValue4
  t5 := Tryd.underlying5
  a5 := Tryd.isAgg5
  z5 := Tryd.sizeOf5
  v5 := Tryd.zeroValue5
  t9 := Tryd.underlying9
  a9 := Tryd.isAgg9
  z9 := Tryd.sizeOf9
  v9 := Tryd.zeroValue9
  t46 := Tryd.underlying63
  a46 := Tryd.isAgg63
  z46 := Tryd.sizeOf63
  v46 := Tryd.zeroValue63
  t53 := Tryd.underlying22
  a53 := Tryd.isAgg22
  z53 := Tryd.sizeOf22
  v53 := Tryd.zeroValue22 }
def Tryd.lays317_ren : Go.Shelf.Ren := ⟨fun | 317 => 47 | n => n, fun | 3 => 3 | 46 => 63 | n => n, fun | n => n⟩
theorem Tryd.lays317 : Go.Proofs.Lays.n317 Tryd.prog Tryd.lays317_ren := {
  mixed := by kernel_rfl
  f317 := Tryd.func47.trans (congrArg some (by kernel_rfl))
  t3 := Tryd.underlying3
  a3 := Tryd.isAgg3
  z3 := Tryd.sizeOf3
  v3 := Tryd.zeroValue3
  t46 := Tryd.underlying63
  a46 := Tryd.isAgg63
  z46 := Tryd.sizeOf63
  v46 := Tryd.zeroValue63 }
def Tryd.lays318_ren : Go.Shelf.Ren := ⟨fun | 318 => 49 | n => n, fun | 3 => 3 | 4 => 4 | n => n, fun | n => n⟩
theorem Tryd.lays318 : Go.Proofs.Lays.n318 Tryd.prog Tryd.lays318_ren := {
  mixed := by kernel_rfl
  f318 := Tryd.func49.trans (congrArg some (by kernel_rfl))
  t3 := Tryd.underlying3
  a3 := Tryd.isAgg3
  z3 := Tryd.sizeOf3
  v3 := Tryd.zeroValue3
  t4 := Tryd.underlying4
  a4 := Tryd.isAgg4
  z4 := Tryd.sizeOf4
  v4 := Tryd.zeroValue4 }
def Tryd.lays283_ren : Go.Shelf.Ren := ⟨fun | 283 => 40 | n => n, fun | 3 => 3 | 9 => 9 | 4 => 4 | n => n, fun | n => n⟩
theorem Tryd.lays283 : Go.Proofs.Lays.n283 Tryd.prog Tryd.lays283_ren := {
  mixed := by kernel_rfl
  f283 := Tryd.func40.trans (congrArg some (by kernel_rfl))
  t3 := Tryd.underlying3
  a3 := Tryd.isAgg3
  z3 := Tryd.sizeOf3
  v3 := Tryd.zeroValue3
  t4 := Tryd.underlying4
  a4 := Tryd.isAgg4
  z4 := Tryd.sizeOf4
  v4 := Tryd.zeroValue4
  t9 := Tryd.underlying9
  a9 := Tryd.isAgg9
  z9 := Tryd.sizeOf9
  v9 := Tryd.zeroValue9 }
open Go.Lib in
/-- internal/strconv.small: "small returns the string for an i with 0 <= i < nSmalls.": i's decimal numeral. The world is as it was. (LAID: no walk: one application.) -/
theorem Tryd.internal_strconv_small (i : Nat) (h : i < 100) (w : World) :
    Calls Tryd.prog 40 #[.int .i64 i] w fun e w' => e = .returned (.string ⟨(Lib.decDigits i).toArray⟩) ∧ w' = w := Any.internal_strconv_small Tryd.lays283 i h w
def Tryd.laysM284_ren : Go.Shelf.Ren := ⟨fun | 284 => 41 | 129 => 48 | 317 => 47 | 318 => 49 | n => n, fun | 53 => 22 | 3 => 3 | 212 => 80 | 0 => 0 | 4 => 4 | 46 => 63 | 5 => 5 | 9 => 9 | n => n, fun | 17 => 2 | n => n⟩
theorem Tryd.laysM284 : Go.Proofs.LaysM.n284 Tryd.prog Tryd.laysM284_ren := {
  mixed := by kernel_rfl
  f129 := Tryd.func48.trans (congrArg some (by kernel_rfl))
  f284 := Tryd.func41.trans (congrArg some (by kernel_rfl))
  f317 := Tryd.func47.trans (congrArg some (by kernel_rfl))
  f318 := Tryd.func49.trans (congrArg some (by kernel_rfl))
  t0 := Tryd.underlying0
  a0 := Tryd.isAgg0
  z0 := Tryd.sizeOf0
  v0 := Tryd.zeroValue0
  t3 := Tryd.underlying3
  a3 := Tryd.isAgg3
  z3 := Tryd.sizeOf3
  v3 := Tryd.zeroValue3
  t4 := Tryd.underlying4
  a4 := Tryd.isAgg4
  z4 := Tryd.sizeOf4
  v4 := Tryd.zeroValue4
  t5 := Tryd.underlying5
  a5 := Tryd.isAgg5
  z5 := Tryd.sizeOf5
  v5 := Tryd.zeroValue5
  t9 := Tryd.underlying9
  a9 := Tryd.isAgg9
  z9 := Tryd.sizeOf9
  v9 := Tryd.zeroValue9
  t46 := Tryd.underlying63
  a46 := Tryd.isAgg63
  z46 := Tryd.sizeOf63
  v46 := Tryd.zeroValue63
  t53 := Tryd.underlying22
  a53 := Tryd.isAgg22
  z53 := Tryd.sizeOf22
  v53 := Tryd.zeroValue22
  t212 := Tryd.underlying80
  a212 := Tryd.isAgg80
  z212 := Tryd.sizeOf80
  v212 := Tryd.zeroValue80
  g17 := by kernel_rfl
  i0 := by kernel_rfl
  i3 := by kernel_rfl
  i4 := by kernel_rfl
  i5 := by kernel_rfl
  i9 := by kernel_rfl
  i46 := by kernel_rfl
  i53 := by kernel_rfl
  i212 := by kernel_rfl
  m17 := by kernel_rfl }
open Go.Lib in
/-- internal/strconv.numDigits, at a d that is not 0: THE NUMBER OF d's DECIMAL DIGITS. The world is as it was. (LAID: no walk: one application.) -/
theorem Tryd.internal_strconv_numDigits (u : Nat) (h1 : 1 ≤ u) (h2 : u < 18446744073709551616) (w : World) (htab : Lib.TabIs Tryd.prog w "internal/strconv.uint64pow10" .u64 Lib.pow10Tab) :
    Calls Tryd.prog 41 #[.int .u64 u] w fun e w' => e = .returned (.int .i64 (Lib.nDigits u)) ∧ w' = w := Any.internal_strconv_numDigits Tryd.laysM284 u h1 h2 w htab
def Tryd.lays285_ren : Go.Shelf.Ren := ⟨fun | 285 => 42 | n => n, fun | 37 => 40 | 53 => 22 | 3 => 3 | 4 => 4 | 51 => 81 | 9 => 9 | 5 => 5 | 0 => 0 | n => n, fun | n => n⟩
theorem Tryd.lays285 : Go.Proofs.Lays.n285 Tryd.prog Tryd.lays285_ren := {
  mixed := by kernel_rfl
  f285 := Tryd.func42.trans (congrArg some (by kernel_rfl))
  t0 := Tryd.underlying0
  a0 := Tryd.isAgg0
  z0 := Tryd.sizeOf0
  v0 := Tryd.zeroValue0
  t3 := Tryd.underlying3
  a3 := Tryd.isAgg3
  z3 := Tryd.sizeOf3
  v3 := Tryd.zeroValue3
  t4 := Tryd.underlying4
  a4 := Tryd.isAgg4
  z4 := Tryd.sizeOf4
  v4 := Tryd.zeroValue4
  t5 := Tryd.underlying5
  a5 := Tryd.isAgg5
  z5 := Tryd.sizeOf5
  v5 := Tryd.zeroValue5
  t9 := Tryd.underlying9
  a9 := Tryd.isAgg9
  z9 := Tryd.sizeOf9
  v9 := Tryd.zeroValue9
  t37 := Tryd.underlying40
  a37 := Tryd.isAgg40
  z37 := Tryd.sizeOf40
  v37 := Tryd.zeroValue40
  t51 := Tryd.underlying81
  a51 := Tryd.isAgg81
  z51 := Tryd.sizeOf81
  v51 := Tryd.zeroValue81
  t53 := Tryd.underlying22
  a53 := Tryd.isAgg22
  z53 := Tryd.sizeOf22
  v53 := Tryd.zeroValue22 }
open Go.RowKit Go.Sort Go.Lib in
/-- internal/strconv.formatBase10: "formatBase10 formats the decimal representation of u into a. The caller is responsible for ensuring that a is big enough to hold u. If a is too big, leading zeros will be filled in as needed.": THE ROW HOLDS u's DIGITS ('FmtInv .. 0 ..': every place t holds 'dg u (len - 1 - t)'); all else is as it was but for the count of draws. (LAID: no walk: one application.) -/
theorem Tryd.internal_strconv_formatBase10 (blk off cap : Nat) (u : Nat) (d : Array UInt8) (w : World) (hH : Holds (fun (b : UInt8) => Value.int .u8 (b.toNat : Int)) w blk off d) (hu : u < 10 ^ d.size) (hu64 : u < 18446744073709551616) (hsz : d.size < 4611686018427387904) :
    Calls Tryd.prog 42 #[.slice (some ⟨blk, off, none⟩) d.size cap, .int .u64 u] w fun e w' =>
      e = .returned (.tuple #[]) ∧ ∃ (n v' : Nat) (dk : Array UInt8), w' = (putRow (fun (b : UInt8) => Value.int .u8 (b.toNat : Int)) w blk off dk).drewN n ∧ FmtInv d.size u 0 v' dk := Any.internal_strconv_formatBase10 Tryd.lays285 blk off cap u d w hH hu hu64 hsz
def Tryd.lays321_ren : Go.Shelf.Ren := ⟨fun | 321 => 34 | n => n, fun | 5 => 5 | n => n, fun | n => n⟩
theorem Tryd.lays321 : Go.Proofs.Lays.n321 Tryd.prog Tryd.lays321_ren := {
  mixed := by kernel_rfl
  f321 := Tryd.func34.trans (congrArg some (by kernel_rfl))
  t5 := Tryd.underlying5
  a5 := Tryd.isAgg5
  z5 := Tryd.sizeOf5
  v5 := Tryd.zeroValue5 }
def Tryd.lays287_ren : Go.Shelf.Ren := ⟨fun | 287 => 29 | 321 => 34 | 322 => 35 | n => n, fun | 9 => 9 | 3 => 3 | 53 => 22 | 75 => 49 | 4 => 4 | 167 => 61 | 5 => 5 | 46 => 63 | 37 => 40 | 0 => 0 | 21 => 21 | 80 => 39 | n => n, fun | n => n⟩
theorem Tryd.lays287 : Go.Proofs.Lays.n287 Tryd.prog Tryd.lays287_ren := {
  mixed := by kernel_rfl
  f287 := Tryd.func29.trans (congrArg some (by kernel_rfl))
  f321 := Tryd.func34.trans (congrArg some (by kernel_rfl))
  f322 := Tryd.func35.trans (congrArg some (by kernel_rfl))
  t0 := Tryd.underlying0
  a0 := Tryd.isAgg0
  z0 := Tryd.sizeOf0
  v0 := Tryd.zeroValue0
  t3 := Tryd.underlying3
  a3 := Tryd.isAgg3
  z3 := Tryd.sizeOf3
  v3 := Tryd.zeroValue3
  t4 := Tryd.underlying4
  a4 := Tryd.isAgg4
  z4 := Tryd.sizeOf4
  v4 := Tryd.zeroValue4
  t5 := Tryd.underlying5
  a5 := Tryd.isAgg5
  z5 := Tryd.sizeOf5
  v5 := Tryd.zeroValue5
  t9 := Tryd.underlying9
  a9 := Tryd.isAgg9
  z9 := Tryd.sizeOf9
  v9 := Tryd.zeroValue9
  t21 := Tryd.underlying21
  a21 := Tryd.isAgg21
  z21 := Tryd.sizeOf21
  v21 := Tryd.zeroValue21
  t37 := Tryd.underlying40
  a37 := Tryd.isAgg40
  z37 := Tryd.sizeOf40
  v37 := Tryd.zeroValue40
  t46 := Tryd.underlying63
  a46 := Tryd.isAgg63
  z46 := Tryd.sizeOf63
  v46 := Tryd.zeroValue63
  t53 := Tryd.underlying22
  a53 := Tryd.isAgg22
  z53 := Tryd.sizeOf22
  v53 := Tryd.zeroValue22
  t75 := Tryd.underlying49
  a75 := Tryd.isAgg49
  z75 := Tryd.sizeOf49
  v75 := Tryd.zeroValue49
  t167 := Tryd.underlying61
  a167 := Tryd.isAgg61
  z167 := Tryd.sizeOf61
  v167 := Tryd.zeroValue61 }
def Tryd.laysPu14_ren : Go.Shelf.Ren := ⟨fun | 14 => 21 | 16 => 29 | 17 => 30 | 19 => 34 | 20 => 35 | 21 => 36 | 22 => 37 | 23 => 38 | 24 => 39 | 25 => 44 | 27 => 46 | 26 => 45 | 28 => 52 | 29 => 55 | 30 => 40 | 31 => 41 | 32 => 42 | 33 => 43 | 35 => 48 | 34 => 47 | 36 => 49 | 37 => 50 | 38 => 51 | 39 => 53 | 40 => 54 | n => n, fun | 9 => 9 | 3 => 3 | 22 => 22 | 24 => 49 | 25 => 50 | 4 => 4 | 34 => 61 | 5 => 5 | 36 => 63 | 37 => 40 | 0 => 0 | 39 => 65 | 21 => 21 | 44 => 76 | 47 => 85 | 50 => 88 | 48 => 86 | 2 => 2 | 52 => 69 | 55 => 72 | 59 => 80 | 60 => 81 | 20 => 20 | 61 => 82 | 65 => 91 | 66 => 92 | 67 => 39 | n => n, fun | 0 => 0 | 1 => 1 | 2 => 2 | 3 => 3 | 4 => 4 | n => n⟩
theorem Tryd.laysPu14 : Go.Proofs.LaysPu.n14 Tryd.prog Tryd.laysPu14_ren := {
  mixed := by kernel_rfl
  f14 := Tryd.func21.trans (congrArg some (by kernel_rfl))
  f16 := Tryd.func29.trans (congrArg some (by kernel_rfl))
  f17 := Tryd.func30.trans (congrArg some (by kernel_rfl))
  f19 := Tryd.func34.trans (congrArg some (by kernel_rfl))
  f20 := Tryd.func35.trans (congrArg some (by kernel_rfl))
  f21 := Tryd.func36.trans (congrArg some (by kernel_rfl))
  f22 := Tryd.func37.trans (congrArg some (by kernel_rfl))
  f23 := Tryd.func38.trans (congrArg some (by kernel_rfl))
  f24 := Tryd.func39.trans (congrArg some (by kernel_rfl))
  f25 := Tryd.func44.trans (congrArg some (by kernel_rfl))
  f26 := Tryd.func45.trans (congrArg some (by kernel_rfl))
  f27 := Tryd.func46.trans (congrArg some (by kernel_rfl))
  f28 := Tryd.func52.trans (congrArg some (by kernel_rfl))
  f29 := Tryd.func55.trans (congrArg some (by kernel_rfl))
  f30 := Tryd.func40.trans (congrArg some (by kernel_rfl))
  f31 := Tryd.func41.trans (congrArg some (by kernel_rfl))
  f32 := Tryd.func42.trans (congrArg some (by kernel_rfl))
  f33 := Tryd.func43.trans (congrArg some (by kernel_rfl))
  f34 := Tryd.func47.trans (congrArg some (by kernel_rfl))
  f35 := Tryd.func48.trans (congrArg some (by kernel_rfl))
  f36 := Tryd.func49.trans (congrArg some (by kernel_rfl))
  f37 := Tryd.func50.trans (congrArg some (by kernel_rfl))
  f38 := Tryd.func51.trans (congrArg some (by kernel_rfl))
  f39 := Tryd.func53.trans (congrArg some (by kernel_rfl))
  f40 := Tryd.func54.trans (congrArg some (by kernel_rfl))
  t0 := Tryd.underlying0
  a0 := Tryd.isAgg0
  z0 := Tryd.sizeOf0
  v0 := Tryd.zeroValue0
  i0 := by kernel_rfl
  t2 := Tryd.underlying2
  a2 := Tryd.isAgg2
  z2 := Tryd.sizeOf2
  v2 := Tryd.zeroValue2
  i2 := by kernel_rfl
  t3 := Tryd.underlying3
  a3 := Tryd.isAgg3
  z3 := Tryd.sizeOf3
  v3 := Tryd.zeroValue3
  i3 := by kernel_rfl
  t4 := Tryd.underlying4
  a4 := Tryd.isAgg4
  z4 := Tryd.sizeOf4
  v4 := Tryd.zeroValue4
  i4 := by kernel_rfl
  t5 := Tryd.underlying5
  a5 := Tryd.isAgg5
  z5 := Tryd.sizeOf5
  v5 := Tryd.zeroValue5
  i5 := by kernel_rfl
  t9 := Tryd.underlying9
  a9 := Tryd.isAgg9
  z9 := Tryd.sizeOf9
  v9 := Tryd.zeroValue9
  i9 := by kernel_rfl
  t20 := Tryd.underlying20
  a20 := Tryd.isAgg20
  z20 := Tryd.sizeOf20
  v20 := Tryd.zeroValue20
  i20 := by kernel_rfl
  t21 := Tryd.underlying21
  a21 := Tryd.isAgg21
  z21 := Tryd.sizeOf21
  v21 := Tryd.zeroValue21
  i21 := by kernel_rfl
  t22 := Tryd.underlying22
  a22 := Tryd.isAgg22
  z22 := Tryd.sizeOf22
  v22 := Tryd.zeroValue22
  i22 := by kernel_rfl
  t24 := Tryd.underlying49
  a24 := Tryd.isAgg49
  z24 := Tryd.sizeOf49
  v24 := Tryd.zeroValue49
  i24 := by kernel_rfl
  t25 := Tryd.underlying50
  a25 := Tryd.isAgg50
  z25 := Tryd.sizeOf50
  v25 := Tryd.zeroValue50
  i25 := by kernel_rfl
  t34 := Tryd.underlying61
  a34 := Tryd.isAgg61
  z34 := Tryd.sizeOf61
  v34 := Tryd.zeroValue61
  i34 := by kernel_rfl
  c34 := by kernel_rfl
  t36 := Tryd.underlying63
  a36 := Tryd.isAgg63
  z36 := Tryd.sizeOf63
  v36 := Tryd.zeroValue63
  i36 := by kernel_rfl
  t37 := Tryd.underlying40
  a37 := Tryd.isAgg40
  z37 := Tryd.sizeOf40
  v37 := Tryd.zeroValue40
  i37 := by kernel_rfl
  t39 := Tryd.underlying65
  a39 := Tryd.isAgg65
  z39 := Tryd.sizeOf65
  v39 := Tryd.zeroValue65
  i39 := by kernel_rfl
  t44 := Tryd.underlying76
  a44 := Tryd.isAgg76
  z44 := Tryd.sizeOf76
  v44 := Tryd.zeroValue76
  i44 := by kernel_rfl
  t47 := Tryd.underlying85
  a47 := Tryd.isAgg85
  z47 := Tryd.sizeOf85
  v47 := Tryd.zeroValue85
  i47 := by kernel_rfl
  t48 := Tryd.underlying86
  a48 := Tryd.isAgg86
  z48 := Tryd.sizeOf86
  v48 := Tryd.zeroValue86
  i48 := by kernel_rfl
  t50 := Tryd.underlying88
  a50 := Tryd.isAgg88
  z50 := Tryd.sizeOf88
  v50 := Tryd.zeroValue88
  i50 := by kernel_rfl
  t52 := Tryd.underlying69
  a52 := Tryd.isAgg69
  z52 := Tryd.sizeOf69
  v52 := Tryd.zeroValue69
  i52 := by kernel_rfl
  t55 := Tryd.underlying72
  a55 := Tryd.isAgg72
  z55 := Tryd.sizeOf72
  v55 := Tryd.zeroValue72
  i55 := by kernel_rfl
  t59 := Tryd.underlying80
  a59 := Tryd.isAgg80
  z59 := Tryd.sizeOf80
  v59 := Tryd.zeroValue80
  i59 := by kernel_rfl
  t60 := Tryd.underlying81
  a60 := Tryd.isAgg81
  z60 := Tryd.sizeOf81
  v60 := Tryd.zeroValue81
  i60 := by kernel_rfl
  t61 := Tryd.underlying82
  a61 := Tryd.isAgg82
  z61 := Tryd.sizeOf82
  t65 := Tryd.underlying91
  a65 := Tryd.isAgg91
  z65 := Tryd.sizeOf91
  v65 := Tryd.zeroValue91
  i65 := by kernel_rfl
  t66 := Tryd.underlying92
  a66 := Tryd.isAgg92
  z66 := Tryd.sizeOf92
  v66 := Tryd.zeroValue92
  i66 := by kernel_rfl
  t67 := Tryd.underlying39
  a67 := Tryd.isAgg39
  z67 := Tryd.sizeOf39
  v67 := Tryd.zeroValue39
  i67 := by kernel_rfl
  g0 := by kernel_rfl
  m0 := by kernel_rfl
  g1 := by kernel_rfl
  m1 := by kernel_rfl
  g2 := by kernel_rfl
  m2 := by kernel_rfl
  g3 := by kernel_rfl
  m3 := by kernel_rfl
  g4 := by kernel_rfl
  m4 := by kernel_rfl }
open Go.RowKit in
/-- strconv.ParseUint(s, 10, 64), AT EVERY STRING THAT SPELLS A uint64 ('Lib.parseUintB 64 s.data.toList = .ok u'): u, AND NO ERROR. (LAID: no walk: one application.) -/
theorem Tryd.strconv_ParseUint_10_at64_ok (s : ByteArray) (hmax : s.size ≤ 9223372036854775806) (u : Nat) (h : Lib.parseUintB 64 s.data.toList = .ok u) (w : World) :
    Calls Tryd.prog 21 #[.string s, .int .i64 10, .int .i64 64] w fun e w' => e = .returned (.tuple #[.int .u64 u, .nilIface]) ∧ (w' = w ∨ w' = Lib.bytesWorld w 5 s) := Any.strconv_ParseUint_10_at64_ok Tryd.laysPu14 s hmax u h w
end Go.Proofs
