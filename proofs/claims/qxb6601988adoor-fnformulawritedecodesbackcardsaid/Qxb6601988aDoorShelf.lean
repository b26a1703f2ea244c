/-
  DERIVED: THE SHELF's CONTRACTS AT THIS DUMP, IN PLAIN WORDS (tools/lay-plain.mjs out of 'TrydShelf.lean', which tools/lay-shelf.mjs wrote): THE SAME DECLARATIONS UNDER THE SAME NAMES: 'import', 'namespace', 'open', 'def', 'theorem' AND NOTHING ELSE: no command of the shelf's: FOR A HAND-IN. Each laying: the table of numbers ('.._ren') and one theorem, a field a fact of the dump's own or the kernel's comparison; each contract: ONE APPLICATION.
-/
import Derived.Shelf.Strings.Builder1
import Derived.Shelf.Strings.BuilderF
import Derived.Shelf.Strings.BuilderK
import Derived.Shelf.Strconv.Itoa0
import Derived.Shelf.Strconv.Itoa1
import Derived.Shelf.LaysM
import Derived.Shelf.Strconv.Itoa2
import Derived.Shelf.Strconv.Itoa3
import Derived.Test.Qxb6601988aDoorProg
namespace Go.Proofs
open Go.Shelf
def Tryd.lays169_ren : Go.Shelf.Ren := ⟨fun | 169 => 9 | n => n, fun | 70 => 28 | 9 => 9 | 0 => 0 | 72 => 31 | 37 => 29 | 127 => 62 | 3 => 3 | 5 => 5 | n => n, fun | n => n⟩
theorem Tryd.lays169 : Go.Proofs.Lays.n169 Tryd.prog Tryd.lays169_ren := {
  mixed := by kernel_rfl
  f169 := Tryd.func9.trans (congrArg some (by kernel_rfl))
  t0 := Tryd.underlying0
  a0 := Tryd.isAgg0
  z0 := Tryd.sizeOf0
  v0 := Tryd.zeroValue0
  t3 := Tryd.underlying3
  a3 := Tryd.isAgg3
  z3 := Tryd.sizeOf3
  v3 := Tryd.zeroValue3
  t9 := Tryd.underlying9
  a9 := Tryd.isAgg9
  z9 := Tryd.sizeOf9
  v9 := Tryd.zeroValue9
  t37 := Tryd.underlying29
  a37 := Tryd.isAgg29
  z37 := Tryd.sizeOf29
  v37 := Tryd.zeroValue29
  t70 := Tryd.underlying28
  a70 := Tryd.isAgg28
  z70 := Tryd.sizeOf28
  v70 := Tryd.zeroValue28
  t72 := Tryd.underlying31
  a72 := Tryd.isAgg31
  z72 := Tryd.sizeOf31
  v72 := Tryd.zeroValue31
  t127 := Tryd.underlying62
  a127 := Tryd.isAgg62
  z127 := Tryd.sizeOf62
  v127 := Tryd.zeroValue62 }
theorem Tryd.Builder_Extra_169 : Builder.Extra Tryd.prog Tryd.lays169_ren := {
  sizeBuilder := by kernel_rfl
  liesBuilder := by kernel_rfl
  t5 := Tryd.underlying5
  a5 := Tryd.isAgg5
  z5 := Tryd.sizeOf5
  v5 := Tryd.zeroValue5
  infoByte := by kernel_rfl
  cellsByte := by kernel_rfl
  sizeByte := by kernel_rfl
  neB5 := by decide }
open Go.RowKit in
theorem Tryd.Builder_String (B b : Nat) (l : List UInt8) (w : World) (h : Lib.IsBuilder 31 5 B b (Lib.byteCells l) w) (h0 : l ≠ []) :
    Calls Tryd.prog 9 #[.pointer (some ⟨b, 0, none⟩)] w fun e w' => e = .returned (.string ⟨l.toArray⟩) ∧ Below B w w' := Any.Builder_String Tryd.lays169 Tryd.Builder_Extra_169 B b l w h h0
open Go.RowKit in
theorem Tryd.Builder_String_empty (B b : Nat) (w : World) (h : Lib.IsBuilder 31 5 B b [] w) (hBw : B ≤ w.heap.size) :
    Calls Tryd.prog 9 #[.pointer (some ⟨b, 0, none⟩)] w fun e w' => e = .returned (.string ⟨#[]⟩) ∧ Below B w w' := Any.Builder_String_empty Tryd.lays169 Tryd.Builder_Extra_169 B b w h hBw
open Go.RowKit in
theorem Tryd.Builder_String_any (B b : Nat) (l : List UInt8) (w : World) (h : Lib.IsBuilder 31 5 B b (Lib.byteCells l) w) (hBw : B ≤ w.heap.size) :
    Calls Tryd.prog 9 #[.pointer (some ⟨b, 0, none⟩)] w fun e w' => e = .returned (.string ⟨l.toArray⟩) ∧ Below B w w' := Any.Builder_String_any Tryd.lays169 Tryd.Builder_Extra_169 B b l w h hBw
open Go.RowKit in
theorem Tryd.Builder_String_f (B b : Nat) (l : List UInt8) (w : World) (h : Lib.IsBuilderF 31 5 B b (Lib.byteCells l) w) (h0 : l ≠ []) :
    Calls Tryd.prog 9 #[.pointer (some ⟨b, 0, none⟩)] w fun e w' => e = .returned (.string ⟨l.toArray⟩) ∧ (Lib.IsBuilderF 31 5 B b (Lib.byteCells l) w' ∧ Below B w w') := Any.Builder_String_f Tryd.lays169 Tryd.Builder_Extra_169 B b l w h h0
open Go.RowKit in
theorem Tryd.Builder_String_empty_f (B b : Nat) (w : World) (h : Lib.IsBuilderF 31 5 B b [] w) (hBw : B ≤ w.heap.size) :
    Calls Tryd.prog 9 #[.pointer (some ⟨b, 0, none⟩)] w fun e w' => e = .returned (.string ⟨#[]⟩) ∧ (Lib.IsBuilderF 31 5 B b [] w' ∧ Below B w w') := Any.Builder_String_empty_f Tryd.lays169 Tryd.Builder_Extra_169 B b w h hBw
open Go.RowKit in
theorem Tryd.Builder_String_any_f (B b : Nat) (l : List UInt8) (w : World) (h : Lib.IsBuilderF 31 5 B b (Lib.byteCells l) w) (hBw : B ≤ w.heap.size) :
    Calls Tryd.prog 9 #[.pointer (some ⟨b, 0, none⟩)] w fun e w' => e = .returned (.string ⟨l.toArray⟩) ∧ (Lib.IsBuilderF 31 5 B b (Lib.byteCells l) w' ∧ Below B w w') := Any.Builder_String_any_f Tryd.lays169 Tryd.Builder_Extra_169 B b l w h hBw
open Go.RowKit in
theorem Tryd.Builder_String_k (B b : Nat) (l : List UInt8) (w : World) (h : Lib.IsBuilderF 31 5 B b (Lib.byteCells l) w) (h0 : l ≠ []) :
    Calls Tryd.prog 9 #[.pointer (some ⟨b, 0, none⟩)] w fun e w' => e = .returned (.string ⟨l.toArray⟩) ∧ (Lib.IsBuilderF 31 5 B b (Lib.byteCells l) w' ∧ Below B w w' ∧ Lib.OthersKept 5 (some b) w w') := Any.Builder_String_k Tryd.lays169 Tryd.Builder_Extra_169 B b l w h h0
open Go.RowKit in
theorem Tryd.Builder_String_empty_k (B b : Nat) (w : World) (h : Lib.IsBuilderF 31 5 B b [] w) (hBw : B ≤ w.heap.size) :
    Calls Tryd.prog 9 #[.pointer (some ⟨b, 0, none⟩)] w fun e w' => e = .returned (.string ⟨#[]⟩) ∧ (Lib.IsBuilderF 31 5 B b [] w' ∧ Below B w w' ∧ Lib.OthersKept 5 (some b) w w') := Any.Builder_String_empty_k Tryd.lays169 Tryd.Builder_Extra_169 B b w h hBw
open Go.RowKit in
theorem Tryd.Builder_String_any_k (B b : Nat) (l : List UInt8) (w : World) (h : Lib.IsBuilderF 31 5 B b (Lib.byteCells l) w) (hBw : B ≤ w.heap.size) :
    Calls Tryd.prog 9 #[.pointer (some ⟨b, 0, none⟩)] w fun e w' => e = .returned (.string ⟨l.toArray⟩) ∧ (Lib.IsBuilderF 31 5 B b (Lib.byteCells l) w' ∧ Below B w w' ∧ Lib.OthersKept 5 (some b) w w') := Any.Builder_String_any_k Tryd.lays169 Tryd.Builder_Extra_169 B b l w h hBw
def Tryd.lays129_ren : Go.Shelf.Ren := ⟨fun | 129 => 39 | n => n, fun | 53 => 91 | 3 => 3 | 4 => 4 | 46 => 86 | 5 => 5 | 9 => 9 | n => n, fun | n => n⟩
theorem Tryd.lays129 : Go.Proofs.Lays.n129 Tryd.prog Tryd.lays129_ren := {
  mixed := by kernel_rfl
  f129 := Tryd.func39.trans (congrArg some (by kernel_rfl))
  t3 := Tryd.underlying3
  a3 := Tryd.isAgg3
  z3 := Tryd.sizeOf3
  v3 := Tryd.zeroValue3
  t4 := Tryd.underlying4
  a4 := Tryd.isAgg4
  z4 := Tryd.sizeOf4
  v4 := Tryd.zeroValue4
  t5 := Tryd.underlying5
  a5 := Tryd.isAgg5
  z5 := Tryd.sizeOf5
  v5 := Tryd.zeroValue5
  t9 := Tryd.underlying9
  a9 := Tryd.isAgg9
  z9 := Tryd.sizeOf9
  v9 := Tryd.zeroValue9
  t46 := Tryd.underlying86
  a46 := Tryd.isAgg86
  z46 := Tryd.sizeOf86
  v46 := Tryd.zeroValue86
  t53 := Tryd.underlying91
  a53 := Tryd.isAgg91
  z53 := Tryd.sizeOf91
  v53 := Tryd.zeroValue91 }
theorem Tryd.bits_Len64 (x : Int) (w : World) (h0 : 0 ≤ x) (h1 : x ≤ 18446744073709551615) :
    Calls Tryd.prog 39 #[.int .u64 x] w fun e w' => e = .returned (.int .i64 (Lib.bitLen x.toNat)) ∧ w' = w := Any.bits_Len64 Tryd.lays129 x w h0 h1
def Tryd.lays317_ren : Go.Shelf.Ren := ⟨fun | 317 => 38 | n => n, fun | 3 => 3 | 46 => 86 | n => n, fun | n => n⟩
theorem Tryd.lays317 : Go.Proofs.Lays.n317 Tryd.prog Tryd.lays317_ren := {
  mixed := by kernel_rfl
  f317 := Tryd.func38.trans (congrArg some (by kernel_rfl))
  t3 := Tryd.underlying3
  a3 := Tryd.isAgg3
  z3 := Tryd.sizeOf3
  v3 := Tryd.zeroValue3
  t46 := Tryd.underlying86
  a46 := Tryd.isAgg86
  z46 := Tryd.sizeOf86
  v46 := Tryd.zeroValue86 }
open Go.Lib in
theorem Tryd.internal_strconv_log10Pow2 (x : Nat) (h : x ≤ 64) (w : World) :
    Calls Tryd.prog 38 #[.int .i64 x] w fun e w' => e = .returned (.int .i64 (Lib.l10 x)) ∧ w' = w := Any.internal_strconv_log10Pow2 Tryd.lays317 x h w
def Tryd.lays318_ren : Go.Shelf.Ren := ⟨fun | 318 => 40 | n => n, fun | 3 => 3 | 4 => 4 | n => n, fun | n => n⟩
theorem Tryd.lays318 : Go.Proofs.Lays.n318 Tryd.prog Tryd.lays318_ren := {
  mixed := by kernel_rfl
  f318 := Tryd.func40.trans (congrArg some (by kernel_rfl))
  t3 := Tryd.underlying3
  a3 := Tryd.isAgg3
  z3 := Tryd.sizeOf3
  v3 := Tryd.zeroValue3
  t4 := Tryd.underlying4
  a4 := Tryd.isAgg4
  z4 := Tryd.sizeOf4
  v4 := Tryd.zeroValue4 }
open Go.Lib in
theorem Tryd.internal_strconv_bool2_int (b : Bool) (w : World) :
    Calls Tryd.prog 40 #[.bool b] w fun e w' => e = .returned (.int .i64 (if b then 1 else 0)) ∧ w' = w := Any.internal_strconv_bool2_int Tryd.lays318 b w
def Tryd.lays283_ren : Go.Shelf.Ren := ⟨fun | 283 => 34 | n => n, fun | 3 => 3 | 9 => 9 | 4 => 4 | n => n, fun | n => n⟩
theorem Tryd.lays283 : Go.Proofs.Lays.n283 Tryd.prog Tryd.lays283_ren := {
  mixed := by kernel_rfl
  f283 := Tryd.func34.trans (congrArg some (by kernel_rfl))
  t3 := Tryd.underlying3
  a3 := Tryd.isAgg3
  z3 := Tryd.sizeOf3
  v3 := Tryd.zeroValue3
  t4 := Tryd.underlying4
  a4 := Tryd.isAgg4
  z4 := Tryd.sizeOf4
  v4 := Tryd.zeroValue4
  t9 := Tryd.underlying9
  a9 := Tryd.isAgg9
  z9 := Tryd.sizeOf9
  v9 := Tryd.zeroValue9 }
open Go.Lib in
theorem Tryd.internal_strconv_small (i : Nat) (h : i < 100) (w : World) :
    Calls Tryd.prog 34 #[.int .i64 i] w fun e w' => e = .returned (.string ⟨(Lib.decDigits i).toArray⟩) ∧ w' = w := Any.internal_strconv_small Tryd.lays283 i h w
def Tryd.laysM284_ren : Go.Shelf.Ren := ⟨fun | 284 => 35 | 129 => 39 | 317 => 38 | 318 => 40 | n => n, fun | 53 => 91 | 3 => 3 | 212 => 98 | 0 => 0 | 4 => 4 | 46 => 86 | 5 => 5 | 9 => 9 | n => n, fun | 17 => 0 | n => n⟩
theorem Tryd.laysM284 : Go.Proofs.LaysM.n284 Tryd.prog Tryd.laysM284_ren := {
  mixed := by kernel_rfl
  f129 := Tryd.func39.trans (congrArg some (by kernel_rfl))
  f284 := Tryd.func35.trans (congrArg some (by kernel_rfl))
  f317 := Tryd.func38.trans (congrArg some (by kernel_rfl))
  f318 := Tryd.func40.trans (congrArg some (by kernel_rfl))
  t0 := Tryd.underlying0
  a0 := Tryd.isAgg0
  z0 := Tryd.sizeOf0
  v0 := Tryd.zeroValue0
  t3 := Tryd.underlying3
  a3 := Tryd.isAgg3
  z3 := Tryd.sizeOf3
  v3 := Tryd.zeroValue3
  t4 := Tryd.underlying4
  a4 := Tryd.isAgg4
  z4 := Tryd.sizeOf4
  v4 := Tryd.zeroValue4
  t5 := Tryd.underlying5
  a5 := Tryd.isAgg5
  z5 := Tryd.sizeOf5
  v5 := Tryd.zeroValue5
  t9 := Tryd.underlying9
  a9 := Tryd.isAgg9
  z9 := Tryd.sizeOf9
  v9 := Tryd.zeroValue9
  t46 := Tryd.underlying86
  a46 := Tryd.isAgg86
  z46 := Tryd.sizeOf86
  v46 := Tryd.zeroValue86
  t53 := Tryd.underlying91
  a53 := Tryd.isAgg91
  z53 := Tryd.sizeOf91
  v53 := Tryd.zeroValue91
  t212 := Tryd.underlying98
  a212 := Tryd.isAgg98
  z212 := Tryd.sizeOf98
  v212 := Tryd.zeroValue98
  g17 := by kernel_rfl
  i0 := by kernel_rfl
  i3 := by kernel_rfl
  i4 := by kernel_rfl
  i5 := by kernel_rfl
  i9 := by kernel_rfl
  i46 := by kernel_rfl
  i53 := by kernel_rfl
  i212 := by kernel_rfl
  m17 := by kernel_rfl }
open Go.Lib in
theorem Tryd.internal_strconv_numDigits (u : Nat) (h1 : 1 ≤ u) (h2 : u < 18446744073709551616) (w : World) (htab : Lib.TabIs Tryd.prog w "internal/strconv.uint64pow10" .u64 Lib.pow10Tab) :
    Calls Tryd.prog 35 #[.int .u64 u] w fun e w' => e = .returned (.int .i64 (Lib.nDigits u)) ∧ w' = w := Any.internal_strconv_numDigits Tryd.laysM284 u h1 h2 w htab
def Tryd.lays285_ren : Go.Shelf.Ren := ⟨fun | 285 => 36 | n => n, fun | 37 => 29 | 53 => 91 | 3 => 3 | 4 => 4 | 51 => 99 | 9 => 9 | 5 => 5 | 0 => 0 | n => n, fun | n => n⟩
theorem Tryd.lays285 : Go.Proofs.Lays.n285 Tryd.prog Tryd.lays285_ren := {
  mixed := by kernel_rfl
  f285 := Tryd.func36.trans (congrArg some (by kernel_rfl))
  t0 := Tryd.underlying0
  a0 := Tryd.isAgg0
  z0 := Tryd.sizeOf0
  v0 := Tryd.zeroValue0
  t3 := Tryd.underlying3
  a3 := Tryd.isAgg3
  z3 := Tryd.sizeOf3
  v3 := Tryd.zeroValue3
  t4 := Tryd.underlying4
  a4 := Tryd.isAgg4
  z4 := Tryd.sizeOf4
  v4 := Tryd.zeroValue4
  t5 := Tryd.underlying5
  a5 := Tryd.isAgg5
  z5 := Tryd.sizeOf5
  v5 := Tryd.zeroValue5
  t9 := Tryd.underlying9
  a9 := Tryd.isAgg9
  z9 := Tryd.sizeOf9
  v9 := Tryd.zeroValue9
  t37 := Tryd.underlying29
  a37 := Tryd.isAgg29
  z37 := Tryd.sizeOf29
  v37 := Tryd.zeroValue29
  t51 := Tryd.underlying99
  a51 := Tryd.isAgg99
  z51 := Tryd.sizeOf99
  v51 := Tryd.zeroValue99
  t53 := Tryd.underlying91
  a53 := Tryd.isAgg91
  z53 := Tryd.sizeOf91
  v53 := Tryd.zeroValue91 }
open Go.RowKit Go.Sort Go.Lib in
theorem Tryd.internal_strconv_formatBase10 (blk off cap : Nat) (u : Nat) (d : Array UInt8) (w : World) (hH : Holds (fun (b : UInt8) => Value.int .u8 (b.toNat : Int)) w blk off d) (hu : u < 10 ^ d.size) (hu64 : u < 18446744073709551616) (hsz : d.size < 4611686018427387904) :
    Calls Tryd.prog 36 #[.slice (some ⟨blk, off, none⟩) d.size cap, .int .u64 u] w fun e w' =>
      e = .returned (.tuple #[]) ∧ ∃ (n v' : Nat) (dk : Array UInt8), w' = (putRow (fun (b : UInt8) => Value.int .u8 (b.toNat : Int)) w blk off dk).drewN n ∧ FmtInv d.size u 0 v' dk := Any.internal_strconv_formatBase10 Tryd.lays285 blk off cap u d w hH hu hu64 hsz
def Tryd.laysM246_ren : Go.Shelf.Ren := ⟨fun | 246 => 33 | 283 => 34 | 284 => 35 | 285 => 36 | 286 => 37 | 129 => 39 | 317 => 38 | 318 => 40 | 319 => 41 | 320 => 42 | 337 => 43 | 338 => 44 | n => n, fun | 2 => 2 | 3 => 3 | 9 => 9 | 4 => 4 | 171 => 90 | 0 => 0 | 53 => 91 | 37 => 29 | 5 => 5 | 173 => 94 | 212 => 98 | 51 => 99 | 20 => 20 | 213 => 100 | 46 => 86 | 232 => 104 | 233 => 105 | n => n, fun | 17 => 0 | 18 => 1 | 19 => 2 | n => n⟩
theorem Tryd.laysM246 : Go.Proofs.LaysM.n246 Tryd.prog Tryd.laysM246_ren := {
  mixed := by kernel_rfl
  f129 := Tryd.func39.trans (congrArg some (by kernel_rfl))
  f246 := Tryd.func33.trans (congrArg some (by kernel_rfl))
  f283 := Tryd.func34.trans (congrArg some (by kernel_rfl))
  f284 := Tryd.func35.trans (congrArg some (by kernel_rfl))
  f285 := Tryd.func36.trans (congrArg some (by kernel_rfl))
  f286 := Tryd.func37.trans (congrArg some (by kernel_rfl))
  f317 := Tryd.func38.trans (congrArg some (by kernel_rfl))
  f318 := Tryd.func40.trans (congrArg some (by kernel_rfl))
  f319 := Tryd.func41.trans (congrArg some (by kernel_rfl))
  f320 := Tryd.func42.trans (congrArg some (by kernel_rfl))
  f337 := Tryd.func43.trans (congrArg some (by kernel_rfl))
  f338 := Tryd.func44.trans (congrArg some (by kernel_rfl))
  t0 := Tryd.underlying0
  a0 := Tryd.isAgg0
  z0 := Tryd.sizeOf0
  v0 := Tryd.zeroValue0
  t2 := Tryd.underlying2
  a2 := Tryd.isAgg2
  z2 := Tryd.sizeOf2
  v2 := Tryd.zeroValue2
  t3 := Tryd.underlying3
  a3 := Tryd.isAgg3
  z3 := Tryd.sizeOf3
  v3 := Tryd.zeroValue3
  t4 := Tryd.underlying4
  a4 := Tryd.isAgg4
  z4 := Tryd.sizeOf4
  v4 := Tryd.zeroValue4
  t5 := Tryd.underlying5
  a5 := Tryd.isAgg5
  z5 := Tryd.sizeOf5
  v5 := Tryd.zeroValue5
  t9 := Tryd.underlying9
  a9 := Tryd.isAgg9
  z9 := Tryd.sizeOf9
  v9 := Tryd.zeroValue9
  t20 := Tryd.underlying20
  a20 := Tryd.isAgg20
  z20 := Tryd.sizeOf20
  v20 := Tryd.zeroValue20
  t37 := Tryd.underlying29
  a37 := Tryd.isAgg29
  z37 := Tryd.sizeOf29
  v37 := Tryd.zeroValue29
  t46 := Tryd.underlying86
  a46 := Tryd.isAgg86
  z46 := Tryd.sizeOf86
  v46 := Tryd.zeroValue86
  t51 := Tryd.underlying99
  a51 := Tryd.isAgg99
  z51 := Tryd.sizeOf99
  v51 := Tryd.zeroValue99
  t53 := Tryd.underlying91
  a53 := Tryd.isAgg91
  z53 := Tryd.sizeOf91
  v53 := Tryd.zeroValue91
  t171 := Tryd.underlying90
  a171 := Tryd.isAgg90
  z171 := Tryd.sizeOf90
  v171 := Tryd.zeroValue90
  t173 := Tryd.underlying94
  a173 := Tryd.isAgg94
  z173 := Tryd.sizeOf94
  v173 := Tryd.zeroValue94
  t212 := Tryd.underlying98
  a212 := Tryd.isAgg98
  z212 := Tryd.sizeOf98
  v212 := Tryd.zeroValue98
  t213 := Tryd.underlying100
  a213 := Tryd.isAgg100
  z213 := Tryd.sizeOf100
  t232 := Tryd.underlying104
  a232 := Tryd.isAgg104
  z232 := Tryd.sizeOf104
  v232 := Tryd.zeroValue104
  t233 := Tryd.underlying105
  a233 := Tryd.isAgg105
  z233 := Tryd.sizeOf105
  v233 := Tryd.zeroValue105
  g17 := by kernel_rfl
  g18 := by kernel_rfl
  g19 := by kernel_rfl
  i0 := by kernel_rfl
  i2 := by kernel_rfl
  i3 := by kernel_rfl
  i4 := by kernel_rfl
  i5 := by kernel_rfl
  i9 := by kernel_rfl
  i20 := by kernel_rfl
  i37 := by kernel_rfl
  i46 := by kernel_rfl
  i51 := by kernel_rfl
  i53 := by kernel_rfl
  i171 := by kernel_rfl
  i173 := by kernel_rfl
  i212 := by kernel_rfl
  i232 := by kernel_rfl
  i233 := by kernel_rfl
  m17 := by kernel_rfl
  m18 := by kernel_rfl
  m19 := by kernel_rfl }
open Go.RowKit Go.Sort Go.Lib in
theorem Tryd.internal_strconv_FormatInt_10 (n : Int) (h0 : -9223372036854775808 ≤ n) (h1 : n ≤ 9223372036854775807) (w : World) (htab : Lib.TabIs Tryd.prog w "internal/strconv.uint64pow10" .u64 Lib.pow10Tab) :
    Calls Tryd.prog 33 #[.int .i64 n, .int .i64 10] w fun e w' => e = .returned (.string ⟨(Lib.itoa n).toArray⟩) ∧ ∃ k os, w' = grow (w.drewN k) os := Any.internal_strconv_FormatInt_10 Tryd.laysM246 n h0 h1 w htab
def Tryd.lays246_ren : Go.Shelf.Ren := ⟨fun | 246 => 33 | 283 => 34 | 284 => 35 | 285 => 36 | 286 => 37 | 129 => 39 | 317 => 38 | 318 => 40 | 319 => 41 | 320 => 42 | 337 => 43 | 338 => 44 | n => n, fun | 2 => 2 | 3 => 3 | 9 => 9 | 4 => 4 | 171 => 90 | 0 => 0 | 53 => 91 | 37 => 29 | 5 => 5 | 173 => 94 | 212 => 98 | 51 => 99 | 20 => 20 | 213 => 100 | 46 => 86 | 232 => 104 | 233 => 105 | n => n, fun | 17 => 0 | 18 => 1 | 19 => 2 | n => n⟩
theorem Tryd.lays246 : Go.Proofs.Lays.n246 Tryd.prog Tryd.lays246_ren := {
  mixed := by kernel_rfl
  f129 := Tryd.func39.trans (congrArg some (by kernel_rfl))
  f246 := Tryd.func33.trans (congrArg some (by kernel_rfl))
  f283 := Tryd.func34.trans (congrArg some (by kernel_rfl))
  f284 := Tryd.func35.trans (congrArg some (by kernel_rfl))
  f285 := Tryd.func36.trans (congrArg some (by kernel_rfl))
  f286 := Tryd.func37.trans (congrArg some (by kernel_rfl))
  f317 := Tryd.func38.trans (congrArg some (by kernel_rfl))
  f318 := Tryd.func40.trans (congrArg some (by kernel_rfl))
  f319 := Tryd.func41.trans (congrArg some (by kernel_rfl))
  f320 := Tryd.func42.trans (congrArg some (by kernel_rfl))
  f337 := Tryd.func43.trans (congrArg some (by kernel_rfl))
  f338 := Tryd.func44.trans (congrArg some (by kernel_rfl))
  t0 := Tryd.underlying0
  a0 := Tryd.isAgg0
  z0 := Tryd.sizeOf0
  v0 := Tryd.zeroValue0
  t2 := Tryd.underlying2
  a2 := Tryd.isAgg2
  z2 := Tryd.sizeOf2
  v2 := Tryd.zeroValue2
  t3 := Tryd.underlying3
  a3 := Tryd.isAgg3
  z3 := Tryd.sizeOf3
  v3 := Tryd.zeroValue3
  t4 := Tryd.underlying4
  a4 := Tryd.isAgg4
  z4 := Tryd.sizeOf4
  v4 := Tryd.zeroValue4
  t5 := Tryd.underlying5
  a5 := Tryd.isAgg5
  z5 := Tryd.sizeOf5
  v5 := Tryd.zeroValue5
  t9 := Tryd.underlying9
  a9 := Tryd.isAgg9
  z9 := Tryd.sizeOf9
  v9 := Tryd.zeroValue9
  t20 := Tryd.underlying20
  a20 := Tryd.isAgg20
  z20 := Tryd.sizeOf20
  v20 := Tryd.zeroValue20
  t37 := Tryd.underlying29
  a37 := Tryd.isAgg29
  z37 := Tryd.sizeOf29
  v37 := Tryd.zeroValue29
  t46 := Tryd.underlying86
  a46 := Tryd.isAgg86
  z46 := Tryd.sizeOf86
  v46 := Tryd.zeroValue86
  t51 := Tryd.underlying99
  a51 := Tryd.isAgg99
  z51 := Tryd.sizeOf99
  v51 := Tryd.zeroValue99
  t53 := Tryd.underlying91
  a53 := Tryd.isAgg91
  z53 := Tryd.sizeOf91
  v53 := Tryd.zeroValue91
  t171 := Tryd.underlying90
  a171 := Tryd.isAgg90
  z171 := Tryd.sizeOf90
  v171 := Tryd.zeroValue90
  t173 := Tryd.underlying94
  a173 := Tryd.isAgg94
  z173 := Tryd.sizeOf94
  v173 := Tryd.zeroValue94
  t212 := Tryd.underlying98
  a212 := Tryd.isAgg98
  z212 := Tryd.sizeOf98
  v212 := Tryd.zeroValue98
  t213 := Tryd.underlying100
  a213 := Tryd.isAgg100
  z213 := Tryd.sizeOf100
  t232 := Tryd.underlying104
  a232 := Tryd.isAgg104
  z232 := Tryd.sizeOf104
  v232 := Tryd.zeroValue104
  t233 := Tryd.underlying105
  a233 := Tryd.isAgg105
  z233 := Tryd.sizeOf105
  v233 := Tryd.zeroValue105
  g17 := by kernel_rfl
  g18 := by kernel_rfl
  g19 := by kernel_rfl }
open Go.RowKit Go.Sort Go.Lib in
theorem Tryd.internal_strconv_FormatInt_10_small (i : Nat) (hi : i < 100) (w : World) :
    Calls Tryd.prog 33 #[.int .i64 i, .int .i64 10] w fun e w' => e = .returned (.string ⟨(Lib.decDigits i).toArray⟩) ∧ w' = w := Any.internal_strconv_FormatInt_10_small Tryd.lays246 i hi w
def Tryd.laysM243_ren : Go.Shelf.Ren := ⟨fun | 243 => 32 | 246 => 33 | 283 => 34 | 284 => 35 | 285 => 36 | 286 => 37 | 129 => 39 | 317 => 38 | 318 => 40 | 319 => 41 | 320 => 42 | 337 => 43 | 338 => 44 | n => n, fun | 3 => 3 | 9 => 9 | 2 => 2 | 4 => 4 | 171 => 90 | 0 => 0 | 53 => 91 | 37 => 29 | 5 => 5 | 173 => 94 | 212 => 98 | 51 => 99 | 20 => 20 | 213 => 100 | 46 => 86 | 232 => 104 | 233 => 105 | n => n, fun | 17 => 0 | 18 => 1 | 19 => 2 | n => n⟩
theorem Tryd.laysM243 : Go.Proofs.LaysM.n243 Tryd.prog Tryd.laysM243_ren := {
  mixed := by kernel_rfl
  f129 := Tryd.func39.trans (congrArg some (by kernel_rfl))
  f243 := Tryd.func32.trans (congrArg some (by kernel_rfl))
  f246 := Tryd.func33.trans (congrArg some (by kernel_rfl))
  f283 := Tryd.func34.trans (congrArg some (by kernel_rfl))
  f284 := Tryd.func35.trans (congrArg some (by kernel_rfl))
  f285 := Tryd.func36.trans (congrArg some (by kernel_rfl))
  f286 := Tryd.func37.trans (congrArg some (by kernel_rfl))
  f317 := Tryd.func38.trans (congrArg some (by kernel_rfl))
  f318 := Tryd.func40.trans (congrArg some (by kernel_rfl))
  f319 := Tryd.func41.trans (congrArg some (by kernel_rfl))
  f320 := Tryd.func42.trans (congrArg some (by kernel_rfl))
  f337 := Tryd.func43.trans (congrArg some (by kernel_rfl))
  f338 := Tryd.func44.trans (congrArg some (by kernel_rfl))
  t0 := Tryd.underlying0
  a0 := Tryd.isAgg0
  z0 := Tryd.sizeOf0
  v0 := Tryd.zeroValue0
  t2 := Tryd.underlying2
  a2 := Tryd.isAgg2
  z2 := Tryd.sizeOf2
  v2 := Tryd.zeroValue2
  t3 := Tryd.underlying3
  a3 := Tryd.isAgg3
  z3 := Tryd.sizeOf3
  v3 := Tryd.zeroValue3
  t4 := Tryd.underlying4
  a4 := Tryd.isAgg4
  z4 := Tryd.sizeOf4
  v4 := Tryd.zeroValue4
  t5 := Tryd.underlying5
  a5 := Tryd.isAgg5
  z5 := Tryd.sizeOf5
  v5 := Tryd.zeroValue5
  t9 := Tryd.underlying9
  a9 := Tryd.isAgg9
  z9 := Tryd.sizeOf9
  v9 := Tryd.zeroValue9
  t20 := Tryd.underlying20
  a20 := Tryd.isAgg20
  z20 := Tryd.sizeOf20
  v20 := Tryd.zeroValue20
  t37 := Tryd.underlying29
  a37 := Tryd.isAgg29
  z37 := Tryd.sizeOf29
  v37 := Tryd.zeroValue29
  t46 := Tryd.underlying86
  a46 := Tryd.isAgg86
  z46 := Tryd.sizeOf86
  v46 := Tryd.zeroValue86
  t51 := Tryd.underlying99
  a51 := Tryd.isAgg99
  z51 := Tryd.sizeOf99
  v51 := Tryd.zeroValue99
  t53 := Tryd.underlying91
  a53 := Tryd.isAgg91
  z53 := Tryd.sizeOf91
  v53 := Tryd.zeroValue91
  t171 := Tryd.underlying90
  a171 := Tryd.isAgg90
  z171 := Tryd.sizeOf90
  v171 := Tryd.zeroValue90
  t173 := Tryd.underlying94
  a173 := Tryd.isAgg94
  z173 := Tryd.sizeOf94
  v173 := Tryd.zeroValue94
  t212 := Tryd.underlying98
  a212 := Tryd.isAgg98
  z212 := Tryd.sizeOf98
  v212 := Tryd.zeroValue98
  t213 := Tryd.underlying100
  a213 := Tryd.isAgg100
  z213 := Tryd.sizeOf100
  t232 := Tryd.underlying104
  a232 := Tryd.isAgg104
  z232 := Tryd.sizeOf104
  v232 := Tryd.zeroValue104
  t233 := Tryd.underlying105
  a233 := Tryd.isAgg105
  z233 := Tryd.sizeOf105
  v233 := Tryd.zeroValue105
  g17 := by kernel_rfl
  g18 := by kernel_rfl
  g19 := by kernel_rfl
  i0 := by kernel_rfl
  i2 := by kernel_rfl
  i3 := by kernel_rfl
  i4 := by kernel_rfl
  i5 := by kernel_rfl
  i9 := by kernel_rfl
  i20 := by kernel_rfl
  i37 := by kernel_rfl
  i46 := by kernel_rfl
  i51 := by kernel_rfl
  i53 := by kernel_rfl
  i171 := by kernel_rfl
  i173 := by kernel_rfl
  i212 := by kernel_rfl
  i232 := by kernel_rfl
  i233 := by kernel_rfl
  m17 := by kernel_rfl
  m18 := by kernel_rfl
  m19 := by kernel_rfl }
open Go.RowKit Go.Sort Go.Lib in
theorem Tryd.internal_strconv_Itoa (n : Int) (h0 : -9223372036854775808 ≤ n) (h1 : n ≤ 9223372036854775807) (w : World) (htab : Lib.TabIs Tryd.prog w "internal/strconv.uint64pow10" .u64 Lib.pow10Tab) :
    Calls Tryd.prog 32 #[.int .i64 n] w fun e w' => e = .returned (.string ⟨(Lib.itoa n).toArray⟩) ∧ ∃ k os, w' = grow (w.drewN k) os := Any.internal_strconv_Itoa Tryd.laysM243 n h0 h1 w htab
def Tryd.lays243_ren : Go.Shelf.Ren := ⟨fun | 243 => 32 | 246 => 33 | 283 => 34 | 284 => 35 | 285 => 36 | 286 => 37 | 129 => 39 | 317 => 38 | 318 => 40 | 319 => 41 | 320 => 42 | 337 => 43 | 338 => 44 | n => n, fun | 3 => 3 | 9 => 9 | 2 => 2 | 4 => 4 | 171 => 90 | 0 => 0 | 53 => 91 | 37 => 29 | 5 => 5 | 173 => 94 | 212 => 98 | 51 => 99 | 20 => 20 | 213 => 100 | 46 => 86 | 232 => 104 | 233 => 105 | n => n, fun | 17 => 0 | 18 => 1 | 19 => 2 | n => n⟩
theorem Tryd.lays243 : Go.Proofs.Lays.n243 Tryd.prog Tryd.lays243_ren := {
  mixed := by kernel_rfl
  f129 := Tryd.func39.trans (congrArg some (by kernel_rfl))
  f243 := Tryd.func32.trans (congrArg some (by kernel_rfl))
  f246 := Tryd.func33.trans (congrArg some (by kernel_rfl))
  f283 := Tryd.func34.trans (congrArg some (by kernel_rfl))
  f284 := Tryd.func35.trans (congrArg some (by kernel_rfl))
  f285 := Tryd.func36.trans (congrArg some (by kernel_rfl))
  f286 := Tryd.func37.trans (congrArg some (by kernel_rfl))
  f317 := Tryd.func38.trans (congrArg some (by kernel_rfl))
  f318 := Tryd.func40.trans (congrArg some (by kernel_rfl))
  f319 := Tryd.func41.trans (congrArg some (by kernel_rfl))
  f320 := Tryd.func42.trans (congrArg some (by kernel_rfl))
  f337 := Tryd.func43.trans (congrArg some (by kernel_rfl))
  f338 := Tryd.func44.trans (congrArg some (by kernel_rfl))
  t0 := Tryd.underlying0
  a0 := Tryd.isAgg0
  z0 := Tryd.sizeOf0
  v0 := Tryd.zeroValue0
  t2 := Tryd.underlying2
  a2 := Tryd.isAgg2
  z2 := Tryd.sizeOf2
  v2 := Tryd.zeroValue2
  t3 := Tryd.underlying3
  a3 := Tryd.isAgg3
  z3 := Tryd.sizeOf3
  v3 := Tryd.zeroValue3
  t4 := Tryd.underlying4
  a4 := Tryd.isAgg4
  z4 := Tryd.sizeOf4
  v4 := Tryd.zeroValue4
  t5 := Tryd.underlying5
  a5 := Tryd.isAgg5
  z5 := Tryd.sizeOf5
  v5 := Tryd.zeroValue5
  t9 := Tryd.underlying9
  a9 := Tryd.isAgg9
  z9 := Tryd.sizeOf9
  v9 := Tryd.zeroValue9
  t20 := Tryd.underlying20
  a20 := Tryd.isAgg20
  z20 := Tryd.sizeOf20
  v20 := Tryd.zeroValue20
  t37 := Tryd.underlying29
  a37 := Tryd.isAgg29
  z37 := Tryd.sizeOf29
  v37 := Tryd.zeroValue29
  t46 := Tryd.underlying86
  a46 := Tryd.isAgg86
  z46 := Tryd.sizeOf86
  v46 := Tryd.zeroValue86
  t51 := Tryd.underlying99
  a51 := Tryd.isAgg99
  z51 := Tryd.sizeOf99
  v51 := Tryd.zeroValue99
  t53 := Tryd.underlying91
  a53 := Tryd.isAgg91
  z53 := Tryd.sizeOf91
  v53 := Tryd.zeroValue91
  t171 := Tryd.underlying90
  a171 := Tryd.isAgg90
  z171 := Tryd.sizeOf90
  v171 := Tryd.zeroValue90
  t173 := Tryd.underlying94
  a173 := Tryd.isAgg94
  z173 := Tryd.sizeOf94
  v173 := Tryd.zeroValue94
  t212 := Tryd.underlying98
  a212 := Tryd.isAgg98
  z212 := Tryd.sizeOf98
  v212 := Tryd.zeroValue98
  t213 := Tryd.underlying100
  a213 := Tryd.isAgg100
  z213 := Tryd.sizeOf100
  t232 := Tryd.underlying104
  a232 := Tryd.isAgg104
  z232 := Tryd.sizeOf104
  v232 := Tryd.zeroValue104
  t233 := Tryd.underlying105
  a233 := Tryd.isAgg105
  z233 := Tryd.sizeOf105
  v233 := Tryd.zeroValue105
  g17 := by kernel_rfl
  g18 := by kernel_rfl
  g19 := by kernel_rfl }
open Go.RowKit Go.Sort Go.Lib in
theorem Tryd.internal_strconv_Itoa_small (i : Nat) (hi : i < 100) (w : World) :
    Calls Tryd.prog 32 #[.int .i64 i] w fun e w' => e = .returned (.string ⟨(Lib.decDigits i).toArray⟩) ∧ w' = w := Any.internal_strconv_Itoa_small Tryd.lays243 i hi w
def Tryd.laysM171_ren : Go.Shelf.Ren := ⟨fun | 171 => 26 | 243 => 32 | 246 => 33 | 283 => 34 | 284 => 35 | 285 => 36 | 286 => 37 | 129 => 39 | 317 => 38 | 318 => 40 | 319 => 41 | 320 => 42 | 337 => 43 | 338 => 44 | n => n, fun | 3 => 3 | 9 => 9 | 2 => 2 | 4 => 4 | 171 => 90 | 0 => 0 | 53 => 91 | 37 => 29 | 5 => 5 | 173 => 94 | 212 => 98 | 51 => 99 | 20 => 20 | 213 => 100 | 46 => 86 | 232 => 104 | 233 => 105 | n => n, fun | 17 => 0 | 18 => 1 | 19 => 2 | n => n⟩
theorem Tryd.laysM171 : Go.Proofs.LaysM.n171 Tryd.prog Tryd.laysM171_ren := {
  mixed := by kernel_rfl
  f129 := Tryd.func39.trans (congrArg some (by kernel_rfl))
  f171 := Tryd.func26.trans (congrArg some (by kernel_rfl))
  f243 := Tryd.func32.trans (congrArg some (by kernel_rfl))
  f246 := Tryd.func33.trans (congrArg some (by kernel_rfl))
  f283 := Tryd.func34.trans (congrArg some (by kernel_rfl))
  f284 := Tryd.func35.trans (congrArg some (by kernel_rfl))
  f285 := Tryd.func36.trans (congrArg some (by kernel_rfl))
  f286 := Tryd.func37.trans (congrArg some (by kernel_rfl))
  f317 := Tryd.func38.trans (congrArg some (by kernel_rfl))
  f318 := Tryd.func40.trans (congrArg some (by kernel_rfl))
  f319 := Tryd.func41.trans (congrArg some (by kernel_rfl))
  f320 := Tryd.func42.trans (congrArg some (by kernel_rfl))
  f337 := Tryd.func43.trans (congrArg some (by kernel_rfl))
  f338 := Tryd.func44.trans (congrArg some (by kernel_rfl))
  t0 := Tryd.underlying0
  a0 := Tryd.isAgg0
  z0 := Tryd.sizeOf0
  v0 := Tryd.zeroValue0
  t2 := Tryd.underlying2
  a2 := Tryd.isAgg2
  z2 := Tryd.sizeOf2
  v2 := Tryd.zeroValue2
  t3 := Tryd.underlying3
  a3 := Tryd.isAgg3
  z3 := Tryd.sizeOf3
  v3 := Tryd.zeroValue3
  t4 := Tryd.underlying4
  a4 := Tryd.isAgg4
  z4 := Tryd.sizeOf4
  v4 := Tryd.zeroValue4
  t5 := Tryd.underlying5
  a5 := Tryd.isAgg5
  z5 := Tryd.sizeOf5
  v5 := Tryd.zeroValue5
  t9 := Tryd.underlying9
  a9 := Tryd.isAgg9
  z9 := Tryd.sizeOf9
  v9 := Tryd.zeroValue9
  t20 := Tryd.underlying20
  a20 := Tryd.isAgg20
  z20 := Tryd.sizeOf20
  v20 := Tryd.zeroValue20
  t37 := Tryd.underlying29
  a37 := Tryd.isAgg29
  z37 := Tryd.sizeOf29
  v37 := Tryd.zeroValue29
  t46 := Tryd.underlying86
  a46 := Tryd.isAgg86
  z46 := Tryd.sizeOf86
  v46 := Tryd.zeroValue86
  t51 := Tryd.underlying99
  a51 := Tryd.isAgg99
  z51 := Tryd.sizeOf99
  v51 := Tryd.zeroValue99
  t53 := Tryd.underlying91
  a53 := Tryd.isAgg91
  z53 := Tryd.sizeOf91
  v53 := Tryd.zeroValue91
  t171 := Tryd.underlying90
  a171 := Tryd.isAgg90
  z171 := Tryd.sizeOf90
  v171 := Tryd.zeroValue90
  t173 := Tryd.underlying94
  a173 := Tryd.isAgg94
  z173 := Tryd.sizeOf94
  v173 := Tryd.zeroValue94
  t212 := Tryd.underlying98
  a212 := Tryd.isAgg98
  z212 := Tryd.sizeOf98
  v212 := Tryd.zeroValue98
  t213 := Tryd.underlying100
  a213 := Tryd.isAgg100
  z213 := Tryd.sizeOf100
  t232 := Tryd.underlying104
  a232 := Tryd.isAgg104
  z232 := Tryd.sizeOf104
  v232 := Tryd.zeroValue104
  t233 := Tryd.underlying105
  a233 := Tryd.isAgg105
  z233 := Tryd.sizeOf105
  v233 := Tryd.zeroValue105
  g17 := by kernel_rfl
  g18 := by kernel_rfl
  g19 := by kernel_rfl
  i0 := by kernel_rfl
  i2 := by kernel_rfl
  i3 := by kernel_rfl
  i4 := by kernel_rfl
  i5 := by kernel_rfl
  i9 := by kernel_rfl
  i20 := by kernel_rfl
  i37 := by kernel_rfl
  i46 := by kernel_rfl
  i51 := by kernel_rfl
  i53 := by kernel_rfl
  i171 := by kernel_rfl
  i173 := by kernel_rfl
  i212 := by kernel_rfl
  i232 := by kernel_rfl
  i233 := by kernel_rfl
  m17 := by kernel_rfl
  m18 := by kernel_rfl
  m19 := by kernel_rfl }
open Go.RowKit Go.Sort Go.Lib in
theorem Tryd.strconv_Itoa (n : Int) (h0 : -9223372036854775808 ≤ n) (h1 : n ≤ 9223372036854775807) (w : World) (htab : Lib.TabIs Tryd.prog w "internal/strconv.uint64pow10" .u64 Lib.pow10Tab) :
    Calls Tryd.prog 26 #[.int .i64 n] w fun e w' => e = .returned (.string ⟨(Lib.itoa n).toArray⟩) ∧ ∃ k os, w' = grow (w.drewN k) os := Any.strconv_Itoa Tryd.laysM171 n h0 h1 w htab
def Tryd.lays171_ren : Go.Shelf.Ren := ⟨fun | 171 => 26 | 243 => 32 | 246 => 33 | 283 => 34 | 284 => 35 | 285 => 36 | 286 => 37 | 129 => 39 | 317 => 38 | 318 => 40 | 319 => 41 | 320 => 42 | 337 => 43 | 338 => 44 | n => n, fun | 3 => 3 | 9 => 9 | 2 => 2 | 4 => 4 | 171 => 90 | 0 => 0 | 53 => 91 | 37 => 29 | 5 => 5 | 173 => 94 | 212 => 98 | 51 => 99 | 20 => 20 | 213 => 100 | 46 => 86 | 232 => 104 | 233 => 105 | n => n, fun | 17 => 0 | 18 => 1 | 19 => 2 | n => n⟩
theorem Tryd.lays171 : Go.Proofs.Lays.n171 Tryd.prog Tryd.lays171_ren := {
  mixed := by kernel_rfl
  f129 := Tryd.func39.trans (congrArg some (by kernel_rfl))
  f171 := Tryd.func26.trans (congrArg some (by kernel_rfl))
  f243 := Tryd.func32.trans (congrArg some (by kernel_rfl))
  f246 := Tryd.func33.trans (congrArg some (by kernel_rfl))
  f283 := Tryd.func34.trans (congrArg some (by kernel_rfl))
  f284 := Tryd.func35.trans (congrArg some (by kernel_rfl))
  f285 := Tryd.func36.trans (congrArg some (by kernel_rfl))
  f286 := Tryd.func37.trans (congrArg some (by kernel_rfl))
  f317 := Tryd.func38.trans (congrArg some (by kernel_rfl))
  f318 := Tryd.func40.trans (congrArg some (by kernel_rfl))
  f319 := Tryd.func41.trans (congrArg some (by kernel_rfl))
  f320 := Tryd.func42.trans (congrArg some (by kernel_rfl))
  f337 := Tryd.func43.trans (congrArg some (by kernel_rfl))
  f338 := Tryd.func44.trans (congrArg some (by kernel_rfl))
  t0 := Tryd.underlying0
  a0 := Tryd.isAgg0
  z0 := Tryd.sizeOf0
  v0 := Tryd.zeroValue0
  t2 := Tryd.underlying2
  a2 := Tryd.isAgg2
  z2 := Tryd.sizeOf2
  v2 := Tryd.zeroValue2
  t3 := Tryd.underlying3
  a3 := Tryd.isAgg3
  z3 := Tryd.sizeOf3
  v3 := Tryd.zeroValue3
  t4 := Tryd.underlying4
  a4 := Tryd.isAgg4
  z4 := Tryd.sizeOf4
  v4 := Tryd.zeroValue4
  t5 := Tryd.underlying5
  a5 := Tryd.isAgg5
  z5 := Tryd.sizeOf5
  v5 := Tryd.zeroValue5
  t9 := Tryd.underlying9
  a9 := Tryd.isAgg9
  z9 := Tryd.sizeOf9
  v9 := Tryd.zeroValue9
  t20 := Tryd.underlying20
  a20 := Tryd.isAgg20
  z20 := Tryd.sizeOf20
  v20 := Tryd.zeroValue20
  t37 := Tryd.underlying29
  a37 := Tryd.isAgg29
  z37 := Tryd.sizeOf29
  v37 := Tryd.zeroValue29
  t46 := Tryd.underlying86
  a46 := Tryd.isAgg86
  z46 := Tryd.sizeOf86
  v46 := Tryd.zeroValue86
  t51 := Tryd.underlying99
  a51 := Tryd.isAgg99
  z51 := Tryd.sizeOf99
  v51 := Tryd.zeroValue99
  t53 := Tryd.underlying91
  a53 := Tryd.isAgg91
  z53 := Tryd.sizeOf91
  v53 := Tryd.zeroValue91
  t171 := Tryd.underlying90
  a171 := Tryd.isAgg90
  z171 := Tryd.sizeOf90
  v171 := Tryd.zeroValue90
  t173 := Tryd.underlying94
  a173 := Tryd.isAgg94
  z173 := Tryd.sizeOf94
  v173 := Tryd.zeroValue94
  t212 := Tryd.underlying98
  a212 := Tryd.isAgg98
  z212 := Tryd.sizeOf98
  v212 := Tryd.zeroValue98
  t213 := Tryd.underlying100
  a213 := Tryd.isAgg100
  z213 := Tryd.sizeOf100
  t232 := Tryd.underlying104
  a232 := Tryd.isAgg104
  z232 := Tryd.sizeOf104
  v232 := Tryd.zeroValue104
  t233 := Tryd.underlying105
  a233 := Tryd.isAgg105
  z233 := Tryd.sizeOf105
  v233 := Tryd.zeroValue105
  g17 := by kernel_rfl
  g18 := by kernel_rfl
  g19 := by kernel_rfl }
open Go.RowKit Go.Sort Go.Lib in
theorem Tryd.strconv_Itoa_small (i : Nat) (hi : i < 100) (w : World) :
    Calls Tryd.prog 26 #[.int .i64 i] w fun e w' => e = .returned (.string ⟨(Lib.decDigits i).toArray⟩) ∧ w' = w := Any.strconv_Itoa_small Tryd.lays171 i hi w
end Go.Proofs
