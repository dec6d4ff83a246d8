/-
  The shelf's contracts at this seat's translation (strconv.Itoa, strings.Builder): written by the kit's lay-shelf.mjs and lay-plain.mjs for this program; the layings of copyCheck, WriteByte and WriteRune (240, 167, 168) by hand: the tool leaves them out because type 20 (the empty interface) is named by a field of the structure and by no body.
-/
import Derived.Shelf.Strings.Builder1
import Derived.Shelf.Strings.BuilderF
import Derived.Shelf.Strings.BuilderK
import Derived.Shelf.Strings.BuilderRune
import Derived.Shelf.Utf8.AppendRunePlain
import Derived.Shelf.Strconv.Itoa0
import Derived.Shelf.Strconv.Itoa1
import Derived.Shelf.LaysM
import Derived.Shelf.Strconv.Itoa2
import Derived.Shelf.Strconv.Itoa3
import Derived.Test.Qxb6605158aDoorProg
namespace Go.Proofs
open Go.Shelf
def Tryd.lays169_ren : Go.Shelf.Ren := ⟨fun | 169 => 15 | n => n, fun | 70 => 32 | 9 => 9 | 0 => 0 | 72 => 34 | 37 => 29 | 127 => 42 | 3 => 3 | 5 => 5 | n => n, fun | n => n⟩
theorem Tryd.lays169 : Go.Proofs.Lays.n169 Tryd.prog Tryd.lays169_ren := {
  mixed := by kernel_rfl
  f169 := Tryd.func15.trans (congrArg some (by kernel_rfl))
  t0 := Tryd.underlying0
  a0 := Tryd.isAgg0
  z0 := Tryd.sizeOf0
  v0 := Tryd.zeroValue0
  t3 := Tryd.underlying3
  a3 := Tryd.isAgg3
  z3 := Tryd.sizeOf3
  v3 := Tryd.zeroValue3
  t9 := Tryd.underlying9
  a9 := Tryd.isAgg9
  z9 := Tryd.sizeOf9
  v9 := Tryd.zeroValue9
  t37 := Tryd.underlying29
  a37 := Tryd.isAgg29
  z37 := Tryd.sizeOf29
  v37 := Tryd.zeroValue29
  t70 := Tryd.underlying32
  a70 := Tryd.isAgg32
  z70 := Tryd.sizeOf32
  v70 := Tryd.zeroValue32
  t72 := Tryd.underlying34
  a72 := Tryd.isAgg34
  z72 := Tryd.sizeOf34
  v72 := Tryd.zeroValue34
  t127 := Tryd.underlying42
  a127 := Tryd.isAgg42
  z127 := Tryd.sizeOf42
  v127 := Tryd.zeroValue42 }
theorem Tryd.Builder_Extra_169 : Builder.Extra Tryd.prog Tryd.lays169_ren := {
  sizeBuilder := by kernel_rfl
  liesBuilder := by kernel_rfl
  t5 := Tryd.underlying5
  a5 := Tryd.isAgg5
  z5 := Tryd.sizeOf5
  v5 := Tryd.zeroValue5
  infoByte := by kernel_rfl
  cellsByte := by kernel_rfl
  sizeByte := by kernel_rfl
  neB5 := by decide }
open Go.RowKit in
theorem Tryd.Builder_String (B b : Nat) (l : List UInt8) (w : World) (h : Lib.IsBuilder 34 5 B b (Lib.byteCells l) w) (h0 : l ≠ []) :
    Calls Tryd.prog 15 #[.pointer (some ⟨b, 0, none⟩)] w fun e w' => e = .returned (.string ⟨l.toArray⟩) ∧ Below B w w' := Any.Builder_String Tryd.lays169 Tryd.Builder_Extra_169 B b l w h h0
open Go.RowKit in
theorem Tryd.Builder_String_empty (B b : Nat) (w : World) (h : Lib.IsBuilder 34 5 B b [] w) (hBw : B ≤ w.heap.size) :
    Calls Tryd.prog 15 #[.pointer (some ⟨b, 0, none⟩)] w fun e w' => e = .returned (.string ⟨#[]⟩) ∧ Below B w w' := Any.Builder_String_empty Tryd.lays169 Tryd.Builder_Extra_169 B b w h hBw
open Go.RowKit in
theorem Tryd.Builder_String_any (B b : Nat) (l : List UInt8) (w : World) (h : Lib.IsBuilder 34 5 B b (Lib.byteCells l) w) (hBw : B ≤ w.heap.size) :
    Calls Tryd.prog 15 #[.pointer (some ⟨b, 0, none⟩)] w fun e w' => e = .returned (.string ⟨l.toArray⟩) ∧ Below B w w' := Any.Builder_String_any Tryd.lays169 Tryd.Builder_Extra_169 B b l w h hBw
open Go.RowKit in
theorem Tryd.Builder_String_f (B b : Nat) (l : List UInt8) (w : World) (h : Lib.IsBuilderF 34 5 B b (Lib.byteCells l) w) (h0 : l ≠ []) :
    Calls Tryd.prog 15 #[.pointer (some ⟨b, 0, none⟩)] w fun e w' => e = .returned (.string ⟨l.toArray⟩) ∧ (Lib.IsBuilderF 34 5 B b (Lib.byteCells l) w' ∧ Below B w w') := Any.Builder_String_f Tryd.lays169 Tryd.Builder_Extra_169 B b l w h h0
open Go.RowKit in
theorem Tryd.Builder_String_empty_f (B b : Nat) (w : World) (h : Lib.IsBuilderF 34 5 B b [] w) (hBw : B ≤ w.heap.size) :
    Calls Tryd.prog 15 #[.pointer (some ⟨b, 0, none⟩)] w fun e w' => e = .returned (.string ⟨#[]⟩) ∧ (Lib.IsBuilderF 34 5 B b [] w' ∧ Below B w w') := Any.Builder_String_empty_f Tryd.lays169 Tryd.Builder_Extra_169 B b w h hBw
open Go.RowKit in
theorem Tryd.Builder_String_any_f (B b : Nat) (l : List UInt8) (w : World) (h : Lib.IsBuilderF 34 5 B b (Lib.byteCells l) w) (hBw : B ≤ w.heap.size) :
    Calls Tryd.prog 15 #[.pointer (some ⟨b, 0, none⟩)] w fun e w' => e = .returned (.string ⟨l.toArray⟩) ∧ (Lib.IsBuilderF 34 5 B b (Lib.byteCells l) w' ∧ Below B w w') := Any.Builder_String_any_f Tryd.lays169 Tryd.Builder_Extra_169 B b l w h hBw
open Go.RowKit in
theorem Tryd.Builder_String_k (B b : Nat) (l : List UInt8) (w : World) (h : Lib.IsBuilderF 34 5 B b (Lib.byteCells l) w) (h0 : l ≠ []) :
    Calls Tryd.prog 15 #[.pointer (some ⟨b, 0, none⟩)] w fun e w' => e = .returned (.string ⟨l.toArray⟩) ∧ (Lib.IsBuilderF 34 5 B b (Lib.byteCells l) w' ∧ Below B w w' ∧ Lib.OthersKept 5 (some b) w w') := Any.Builder_String_k Tryd.lays169 Tryd.Builder_Extra_169 B b l w h h0
open Go.RowKit in
theorem Tryd.Builder_String_empty_k (B b : Nat) (w : World) (h : Lib.IsBuilderF 34 5 B b [] w) (hBw : B ≤ w.heap.size) :
    Calls Tryd.prog 15 #[.pointer (some ⟨b, 0, none⟩)] w fun e w' => e = .returned (.string ⟨#[]⟩) ∧ (Lib.IsBuilderF 34 5 B b [] w' ∧ Below B w w' ∧ Lib.OthersKept 5 (some b) w w') := Any.Builder_String_empty_k Tryd.lays169 Tryd.Builder_Extra_169 B b w h hBw
open Go.RowKit in
theorem Tryd.Builder_String_any_k (B b : Nat) (l : List UInt8) (w : World) (h : Lib.IsBuilderF 34 5 B b (Lib.byteCells l) w) (hBw : B ≤ w.heap.size) :
    Calls Tryd.prog 15 #[.pointer (some ⟨b, 0, none⟩)] w fun e w' => e = .returned (.string ⟨l.toArray⟩) ∧ (Lib.IsBuilderF 34 5 B b (Lib.byteCells l) w' ∧ Below B w w' ∧ Lib.OthersKept 5 (some b) w w') := Any.Builder_String_any_k Tryd.lays169 Tryd.Builder_Extra_169 B b l w h hBw
def Tryd.lays278_ren : Go.Shelf.Ren := ⟨fun | 278 => 21 | n => n, fun | 37 => 29 | 21 => 21 | 51 => 46 | 4 => 4 | 46 => 51 | 5 => 5 | n => n, fun | n => n⟩
theorem Tryd.lays278 : Go.Proofs.Lays.n278 Tryd.prog Tryd.lays278_ren := {
  mixed := by kernel_rfl
  f278 := Tryd.func21.trans (congrArg some (by kernel_rfl))
  t4 := Tryd.underlying4
  a4 := Tryd.isAgg4
  z4 := Tryd.sizeOf4
  v4 := Tryd.zeroValue4
  t5 := Tryd.underlying5
  a5 := Tryd.isAgg5
  z5 := Tryd.sizeOf5
  v5 := Tryd.zeroValue5
  t21 := Tryd.underlying21
  a21 := Tryd.isAgg21
  z21 := Tryd.sizeOf21
  v21 := Tryd.zeroValue21
  t37 := Tryd.underlying29
  a37 := Tryd.isAgg29
  z37 := Tryd.sizeOf29
  v37 := Tryd.zeroValue29
  t46 := Tryd.underlying51
  a46 := Tryd.isAgg51
  z46 := Tryd.sizeOf51
  v46 := Tryd.zeroValue51
  t51 := Tryd.underlying46
  a51 := Tryd.isAgg46
  z51 := Tryd.sizeOf46
  v51 := Tryd.zeroValue46 }
open Go.RowKit in
theorem Tryd.utf8_appendRuneNonASCII_plain (B : Nat) (v : Value) (n : Nat) (xs : List Value) (r : Int) (hr0 : -2147483648 ≤ r) (hr1 : r ≤ 2147483647) (hna : r < 0 ∨ 128 ≤ r) (w : World) (hown : w.ownsRow B 5 1 v n xs) (hlen : n + 4 ≤ 140737488355328) (hBw : B ≤ w.heap.size) :
    Calls Tryd.prog 21 #[v, .int .i32 r] w fun e w' => ∃ v', e = .returned v' ∧ w'.ownsRow B 5 1 v' (n + (Lib.runeCells r).length) (xs ++ Lib.runeCells r) ∧ ∃ o, (w.alloc o).grownBy w' v.ownBlock := Any.utf8_appendRuneNonASCII_plain Tryd.lays278 (by kernel_rfl) B v n xs r hr0 hr1 hna w hown hlen hBw
def Tryd.lays242_ren : Go.Shelf.Ren := ⟨fun | 242 => 18 | 278 => 21 | n => n, fun | 37 => 29 | 21 => 21 | 51 => 46 | 4 => 4 | 5 => 5 | 46 => 51 | n => n, fun | n => n⟩
theorem Tryd.lays242 : Go.Proofs.Lays.n242 Tryd.prog Tryd.lays242_ren := {
  mixed := by kernel_rfl
  f242 := Tryd.func18.trans (congrArg some (by kernel_rfl))
  f278 := Tryd.func21.trans (congrArg some (by kernel_rfl))
  t4 := Tryd.underlying4
  a4 := Tryd.isAgg4
  z4 := Tryd.sizeOf4
  v4 := Tryd.zeroValue4
  t5 := Tryd.underlying5
  a5 := Tryd.isAgg5
  z5 := Tryd.sizeOf5
  v5 := Tryd.zeroValue5
  t21 := Tryd.underlying21
  a21 := Tryd.isAgg21
  z21 := Tryd.sizeOf21
  v21 := Tryd.zeroValue21
  t37 := Tryd.underlying29
  a37 := Tryd.isAgg29
  z37 := Tryd.sizeOf29
  v37 := Tryd.zeroValue29
  t46 := Tryd.underlying51
  a46 := Tryd.isAgg51
  z46 := Tryd.sizeOf51
  v46 := Tryd.zeroValue51
  t51 := Tryd.underlying46
  a51 := Tryd.isAgg46
  z51 := Tryd.sizeOf46
  v51 := Tryd.zeroValue46 }
open Go.RowKit in
theorem Tryd.utf8_AppendRune_plain (B : Nat) (v : Value) (n : Nat) (xs : List Value) (r : Int) (hr0 : -2147483648 ≤ r) (hr1 : r ≤ 2147483647) (w : World) (hown : w.ownsRow B 5 1 v n xs) (hlen : n + 4 ≤ 140737488355328) (hBw : B ≤ w.heap.size) :
    Calls Tryd.prog 18 #[v, .int .i32 r] w fun e w' => ∃ v', e = .returned v' ∧ w'.ownsRow B 5 1 v' (n + (Lib.runeCells r).length) (xs ++ Lib.runeCells r) ∧ ∃ o, (w.alloc o).grownBy w' v.ownBlock := Any.utf8_AppendRune_plain Tryd.lays242 (by kernel_rfl) B v n xs r hr0 hr1 w hown hlen hBw
def Tryd.lays129_ren : Go.Shelf.Ren := ⟨fun | 129 => 27 | n => n, fun | 53 => 24 | 3 => 3 | 4 => 4 | 46 => 51 | 5 => 5 | 9 => 9 | n => n, fun | n => n⟩
theorem Tryd.lays129 : Go.Proofs.Lays.n129 Tryd.prog Tryd.lays129_ren := {
  mixed := by kernel_rfl
  f129 := Tryd.func27.trans (congrArg some (by kernel_rfl))
  t3 := Tryd.underlying3
  a3 := Tryd.isAgg3
  z3 := Tryd.sizeOf3
  v3 := Tryd.zeroValue3
  t4 := Tryd.underlying4
  a4 := Tryd.isAgg4
  z4 := Tryd.sizeOf4
  v4 := Tryd.zeroValue4
  t5 := Tryd.underlying5
  a5 := Tryd.isAgg5
  z5 := Tryd.sizeOf5
  v5 := Tryd.zeroValue5
  t9 := Tryd.underlying9
  a9 := Tryd.isAgg9
  z9 := Tryd.sizeOf9
  v9 := Tryd.zeroValue9
  t46 := Tryd.underlying51
  a46 := Tryd.isAgg51
  z46 := Tryd.sizeOf51
  v46 := Tryd.zeroValue51
  t53 := Tryd.underlying24
  a53 := Tryd.isAgg24
  z53 := Tryd.sizeOf24
  v53 := Tryd.zeroValue24 }
theorem Tryd.bits_Len64 (x : Int) (w : World) (h0 : 0 ≤ x) (h1 : x ≤ 18446744073709551615) :
    Calls Tryd.prog 27 #[.int .u64 x] w fun e w' => e = .returned (.int .i64 (Lib.bitLen x.toNat)) ∧ w' = w := Any.bits_Len64 Tryd.lays129 x w h0 h1
def Tryd.lays317_ren : Go.Shelf.Ren := ⟨fun | 317 => 26 | n => n, fun | 3 => 3 | 46 => 51 | n => n, fun | n => n⟩
theorem Tryd.lays317 : Go.Proofs.Lays.n317 Tryd.prog Tryd.lays317_ren := {
  mixed := by kernel_rfl
  f317 := Tryd.func26.trans (congrArg some (by kernel_rfl))
  t3 := Tryd.underlying3
  a3 := Tryd.isAgg3
  z3 := Tryd.sizeOf3
  v3 := Tryd.zeroValue3
  t46 := Tryd.underlying51
  a46 := Tryd.isAgg51
  z46 := Tryd.sizeOf51
  v46 := Tryd.zeroValue51 }
open Go.Lib in
theorem Tryd.internal_strconv_log10Pow2 (x : Nat) (h : x ≤ 64) (w : World) :
    Calls Tryd.prog 26 #[.int .i64 x] w fun e w' => e = .returned (.int .i64 (Lib.l10 x)) ∧ w' = w := Any.internal_strconv_log10Pow2 Tryd.lays317 x h w
def Tryd.lays318_ren : Go.Shelf.Ren := ⟨fun | 318 => 28 | n => n, fun | 3 => 3 | 4 => 4 | n => n, fun | n => n⟩
theorem Tryd.lays318 : Go.Proofs.Lays.n318 Tryd.prog Tryd.lays318_ren := {
  mixed := by kernel_rfl
  f318 := Tryd.func28.trans (congrArg some (by kernel_rfl))
  t3 := Tryd.underlying3
  a3 := Tryd.isAgg3
  z3 := Tryd.sizeOf3
  v3 := Tryd.zeroValue3
  t4 := Tryd.underlying4
  a4 := Tryd.isAgg4
  z4 := Tryd.sizeOf4
  v4 := Tryd.zeroValue4 }
open Go.Lib in
theorem Tryd.internal_strconv_bool2_int (b : Bool) (w : World) :
    Calls Tryd.prog 28 #[.bool b] w fun e w' => e = .returned (.int .i64 (if b then 1 else 0)) ∧ w' = w := Any.internal_strconv_bool2_int Tryd.lays318 b w
def Tryd.lays283_ren : Go.Shelf.Ren := ⟨fun | 283 => 22 | n => n, fun | 3 => 3 | 9 => 9 | 4 => 4 | n => n, fun | n => n⟩
theorem Tryd.lays283 : Go.Proofs.Lays.n283 Tryd.prog Tryd.lays283_ren := {
  mixed := by kernel_rfl
  f283 := Tryd.func22.trans (congrArg some (by kernel_rfl))
  t3 := Tryd.underlying3
  a3 := Tryd.isAgg3
  z3 := Tryd.sizeOf3
  v3 := Tryd.zeroValue3
  t4 := Tryd.underlying4
  a4 := Tryd.isAgg4
  z4 := Tryd.sizeOf4
  v4 := Tryd.zeroValue4
  t9 := Tryd.underlying9
  a9 := Tryd.isAgg9
  z9 := Tryd.sizeOf9
  v9 := Tryd.zeroValue9 }
open Go.Lib in
theorem Tryd.internal_strconv_small (i : Nat) (h : i < 100) (w : World) :
    Calls Tryd.prog 22 #[.int .i64 i] w fun e w' => e = .returned (.string ⟨(Lib.decDigits i).toArray⟩) ∧ w' = w := Any.internal_strconv_small Tryd.lays283 i h w
def Tryd.laysM284_ren : Go.Shelf.Ren := ⟨fun | 284 => 23 | 129 => 27 | 317 => 26 | 318 => 28 | n => n, fun | 53 => 24 | 3 => 3 | 212 => 54 | 0 => 0 | 4 => 4 | 46 => 51 | 5 => 5 | 9 => 9 | n => n, fun | 17 => 0 | n => n⟩
theorem Tryd.laysM284 : Go.Proofs.LaysM.n284 Tryd.prog Tryd.laysM284_ren := {
  mixed := by kernel_rfl
  f129 := Tryd.func27.trans (congrArg some (by kernel_rfl))
  f284 := Tryd.func23.trans (congrArg some (by kernel_rfl))
  f317 := Tryd.func26.trans (congrArg some (by kernel_rfl))
  f318 := Tryd.func28.trans (congrArg some (by kernel_rfl))
  t0 := Tryd.underlying0
  a0 := Tryd.isAgg0
  z0 := Tryd.sizeOf0
  v0 := Tryd.zeroValue0
  t3 := Tryd.underlying3
  a3 := Tryd.isAgg3
  z3 := Tryd.sizeOf3
  v3 := Tryd.zeroValue3
  t4 := Tryd.underlying4
  a4 := Tryd.isAgg4
  z4 := Tryd.sizeOf4
  v4 := Tryd.zeroValue4
  t5 := Tryd.underlying5
  a5 := Tryd.isAgg5
  z5 := Tryd.sizeOf5
  v5 := Tryd.zeroValue5
  t9 := Tryd.underlying9
  a9 := Tryd.isAgg9
  z9 := Tryd.sizeOf9
  v9 := Tryd.zeroValue9
  t46 := Tryd.underlying51
  a46 := Tryd.isAgg51
  z46 := Tryd.sizeOf51
  v46 := Tryd.zeroValue51
  t53 := Tryd.underlying24
  a53 := Tryd.isAgg24
  z53 := Tryd.sizeOf24
  v53 := Tryd.zeroValue24
  t212 := Tryd.underlying54
  a212 := Tryd.isAgg54
  z212 := Tryd.sizeOf54
  v212 := Tryd.zeroValue54
  g17 := by kernel_rfl
  i0 := by kernel_rfl
  i3 := by kernel_rfl
  i4 := by kernel_rfl
  i5 := by kernel_rfl
  i9 := by kernel_rfl
  i46 := by kernel_rfl
  i53 := by kernel_rfl
  i212 := by kernel_rfl
  m17 := by kernel_rfl }
open Go.Lib in
theorem Tryd.internal_strconv_numDigits (u : Nat) (h1 : 1 ≤ u) (h2 : u < 18446744073709551616) (w : World) (htab : Lib.TabIs Tryd.prog w "internal/strconv.uint64pow10" .u64 Lib.pow10Tab) :
    Calls Tryd.prog 23 #[.int .u64 u] w fun e w' => e = .returned (.int .i64 (Lib.nDigits u)) ∧ w' = w := Any.internal_strconv_numDigits Tryd.laysM284 u h1 h2 w htab
def Tryd.lays285_ren : Go.Shelf.Ren := ⟨fun | 285 => 24 | n => n, fun | 37 => 29 | 53 => 24 | 3 => 3 | 4 => 4 | 51 => 46 | 9 => 9 | 5 => 5 | 0 => 0 | n => n, fun | n => n⟩
theorem Tryd.lays285 : Go.Proofs.Lays.n285 Tryd.prog Tryd.lays285_ren := {
  mixed := by kernel_rfl
  f285 := Tryd.func24.trans (congrArg some (by kernel_rfl))
  t0 := Tryd.underlying0
  a0 := Tryd.isAgg0
  z0 := Tryd.sizeOf0
  v0 := Tryd.zeroValue0
  t3 := Tryd.underlying3
  a3 := Tryd.isAgg3
  z3 := Tryd.sizeOf3
  v3 := Tryd.zeroValue3
  t4 := Tryd.underlying4
  a4 := Tryd.isAgg4
  z4 := Tryd.sizeOf4
  v4 := Tryd.zeroValue4
  t5 := Tryd.underlying5
  a5 := Tryd.isAgg5
  z5 := Tryd.sizeOf5
  v5 := Tryd.zeroValue5
  t9 := Tryd.underlying9
  a9 := Tryd.isAgg9
  z9 := Tryd.sizeOf9
  v9 := Tryd.zeroValue9
  t37 := Tryd.underlying29
  a37 := Tryd.isAgg29
  z37 := Tryd.sizeOf29
  v37 := Tryd.zeroValue29
  t51 := Tryd.underlying46
  a51 := Tryd.isAgg46
  z51 := Tryd.sizeOf46
  v51 := Tryd.zeroValue46
  t53 := Tryd.underlying24
  a53 := Tryd.isAgg24
  z53 := Tryd.sizeOf24
  v53 := Tryd.zeroValue24 }
open Go.RowKit Go.Sort Go.Lib in
theorem Tryd.internal_strconv_formatBase10 (blk off cap : Nat) (u : Nat) (d : Array UInt8) (w : World) (hH : Holds (fun (b : UInt8) => Value.int .u8 (b.toNat : Int)) w blk off d) (hu : u < 10 ^ d.size) (hu64 : u < 18446744073709551616) (hsz : d.size < 4611686018427387904) :
    Calls Tryd.prog 24 #[.slice (some ⟨blk, off, none⟩) d.size cap, .int .u64 u] w fun e w' =>
      e = .returned (.tuple #[]) ∧ ∃ (n v' : Nat) (dk : Array UInt8), w' = (putRow (fun (b : UInt8) => Value.int .u8 (b.toNat : Int)) w blk off dk).drewN n ∧ FmtInv d.size u 0 v' dk := Any.internal_strconv_formatBase10 Tryd.lays285 blk off cap u d w hH hu hu64 hsz
def Tryd.laysM246_ren : Go.Shelf.Ren := ⟨fun | 246 => 19 | 283 => 22 | 284 => 23 | 285 => 24 | 286 => 25 | 129 => 27 | 317 => 26 | 318 => 28 | 319 => 29 | 320 => 30 | 337 => 31 | 338 => 32 | n => n, fun | 2 => 2 | 3 => 3 | 9 => 9 | 4 => 4 | 171 => 31 | 0 => 0 | 53 => 24 | 37 => 29 | 5 => 5 | 173 => 49 | 212 => 54 | 51 => 46 | 20 => 20 | 213 => 55 | 46 => 51 | 232 => 58 | 233 => 59 | n => n, fun | 17 => 0 | 18 => 1 | 19 => 2 | n => n⟩
theorem Tryd.laysM246 : Go.Proofs.LaysM.n246 Tryd.prog Tryd.laysM246_ren := {
  mixed := by kernel_rfl
  f129 := Tryd.func27.trans (congrArg some (by kernel_rfl))
  f246 := Tryd.func19.trans (congrArg some (by kernel_rfl))
  f283 := Tryd.func22.trans (congrArg some (by kernel_rfl))
  f284 := Tryd.func23.trans (congrArg some (by kernel_rfl))
  f285 := Tryd.func24.trans (congrArg some (by kernel_rfl))
  f286 := Tryd.func25.trans (congrArg some (by kernel_rfl))
  f317 := Tryd.func26.trans (congrArg some (by kernel_rfl))
  f318 := Tryd.func28.trans (congrArg some (by kernel_rfl))
  f319 := Tryd.func29.trans (congrArg some (by kernel_rfl))
  f320 := Tryd.func30.trans (congrArg some (by kernel_rfl))
  f337 := Tryd.func31.trans (congrArg some (by kernel_rfl))
  f338 := Tryd.func32.trans (congrArg some (by kernel_rfl))
  t0 := Tryd.underlying0
  a0 := Tryd.isAgg0
  z0 := Tryd.sizeOf0
  v0 := Tryd.zeroValue0
  t2 := Tryd.underlying2
  a2 := Tryd.isAgg2
  z2 := Tryd.sizeOf2
  v2 := Tryd.zeroValue2
  t3 := Tryd.underlying3
  a3 := Tryd.isAgg3
  z3 := Tryd.sizeOf3
  v3 := Tryd.zeroValue3
  t4 := Tryd.underlying4
  a4 := Tryd.isAgg4
  z4 := Tryd.sizeOf4
  v4 := Tryd.zeroValue4
  t5 := Tryd.underlying5
  a5 := Tryd.isAgg5
  z5 := Tryd.sizeOf5
  v5 := Tryd.zeroValue5
  t9 := Tryd.underlying9
  a9 := Tryd.isAgg9
  z9 := Tryd.sizeOf9
  v9 := Tryd.zeroValue9
  t20 := Tryd.underlying20
  a20 := Tryd.isAgg20
  z20 := Tryd.sizeOf20
  v20 := Tryd.zeroValue20
  t37 := Tryd.underlying29
  a37 := Tryd.isAgg29
  z37 := Tryd.sizeOf29
  v37 := Tryd.zeroValue29
  t46 := Tryd.underlying51
  a46 := Tryd.isAgg51
  z46 := Tryd.sizeOf51
  v46 := Tryd.zeroValue51
  t51 := Tryd.underlying46
  a51 := Tryd.isAgg46
  z51 := Tryd.sizeOf46
  v51 := Tryd.zeroValue46
  t53 := Tryd.underlying24
  a53 := Tryd.isAgg24
  z53 := Tryd.sizeOf24
  v53 := Tryd.zeroValue24
  t171 := Tryd.underlying31
  a171 := Tryd.isAgg31
  z171 := Tryd.sizeOf31
  v171 := Tryd.zeroValue31
  t173 := Tryd.underlying49
  a173 := Tryd.isAgg49
  z173 := Tryd.sizeOf49
  v173 := Tryd.zeroValue49
  t212 := Tryd.underlying54
  a212 := Tryd.isAgg54
  z212 := Tryd.sizeOf54
  v212 := Tryd.zeroValue54
  t213 := Tryd.underlying55
  a213 := Tryd.isAgg55
  z213 := Tryd.sizeOf55
  t232 := Tryd.underlying58
  a232 := Tryd.isAgg58
  z232 := Tryd.sizeOf58
  v232 := Tryd.zeroValue58
  t233 := Tryd.underlying59
  a233 := Tryd.isAgg59
  z233 := Tryd.sizeOf59
  v233 := Tryd.zeroValue59
  g17 := by kernel_rfl
  g18 := by kernel_rfl
  g19 := by kernel_rfl
  i0 := by kernel_rfl
  i2 := by kernel_rfl
  i3 := by kernel_rfl
  i4 := by kernel_rfl
  i5 := by kernel_rfl
  i9 := by kernel_rfl
  i20 := by kernel_rfl
  i37 := by kernel_rfl
  i46 := by kernel_rfl
  i51 := by kernel_rfl
  i53 := by kernel_rfl
  i171 := by kernel_rfl
  i173 := by kernel_rfl
  i212 := by kernel_rfl
  i232 := by kernel_rfl
  i233 := by kernel_rfl
  m17 := by kernel_rfl
  m18 := by kernel_rfl
  m19 := by kernel_rfl }
open Go.RowKit Go.Sort Go.Lib in
theorem Tryd.internal_strconv_FormatInt_10 (n : Int) (h0 : -9223372036854775808 ≤ n) (h1 : n ≤ 9223372036854775807) (w : World) (htab : Lib.TabIs Tryd.prog w "internal/strconv.uint64pow10" .u64 Lib.pow10Tab) :
    Calls Tryd.prog 19 #[.int .i64 n, .int .i64 10] w fun e w' => e = .returned (.string ⟨(Lib.itoa n).toArray⟩) ∧ ∃ k os, w' = grow (w.drewN k) os := Any.internal_strconv_FormatInt_10 Tryd.laysM246 n h0 h1 w htab
def Tryd.lays246_ren : Go.Shelf.Ren := ⟨fun | 246 => 19 | 283 => 22 | 284 => 23 | 285 => 24 | 286 => 25 | 129 => 27 | 317 => 26 | 318 => 28 | 319 => 29 | 320 => 30 | 337 => 31 | 338 => 32 | n => n, fun | 2 => 2 | 3 => 3 | 9 => 9 | 4 => 4 | 171 => 31 | 0 => 0 | 53 => 24 | 37 => 29 | 5 => 5 | 173 => 49 | 212 => 54 | 51 => 46 | 20 => 20 | 213 => 55 | 46 => 51 | 232 => 58 | 233 => 59 | n => n, fun | 17 => 0 | 18 => 1 | 19 => 2 | n => n⟩
theorem Tryd.lays246 : Go.Proofs.Lays.n246 Tryd.prog Tryd.lays246_ren := {
  mixed := by kernel_rfl
  f129 := Tryd.func27.trans (congrArg some (by kernel_rfl))
  f246 := Tryd.func19.trans (congrArg some (by kernel_rfl))
  f283 := Tryd.func22.trans (congrArg some (by kernel_rfl))
  f284 := Tryd.func23.trans (congrArg some (by kernel_rfl))
  f285 := Tryd.func24.trans (congrArg some (by kernel_rfl))
  f286 := Tryd.func25.trans (congrArg some (by kernel_rfl))
  f317 := Tryd.func26.trans (congrArg some (by kernel_rfl))
  f318 := Tryd.func28.trans (congrArg some (by kernel_rfl))
  f319 := Tryd.func29.trans (congrArg some (by kernel_rfl))
  f320 := Tryd.func30.trans (congrArg some (by kernel_rfl))
  f337 := Tryd.func31.trans (congrArg some (by kernel_rfl))
  f338 := Tryd.func32.trans (congrArg some (by kernel_rfl))
  t0 := Tryd.underlying0
  a0 := Tryd.isAgg0
  z0 := Tryd.sizeOf0
  v0 := Tryd.zeroValue0
  t2 := Tryd.underlying2
  a2 := Tryd.isAgg2
  z2 := Tryd.sizeOf2
  v2 := Tryd.zeroValue2
  t3 := Tryd.underlying3
  a3 := Tryd.isAgg3
  z3 := Tryd.sizeOf3
  v3 := Tryd.zeroValue3
  t4 := Tryd.underlying4
  a4 := Tryd.isAgg4
  z4 := Tryd.sizeOf4
  v4 := Tryd.zeroValue4
  t5 := Tryd.underlying5
  a5 := Tryd.isAgg5
  z5 := Tryd.sizeOf5
  v5 := Tryd.zeroValue5
  t9 := Tryd.underlying9
  a9 := Tryd.isAgg9
  z9 := Tryd.sizeOf9
  v9 := Tryd.zeroValue9
  t20 := Tryd.underlying20
  a20 := Tryd.isAgg20
  z20 := Tryd.sizeOf20
  v20 := Tryd.zeroValue20
  t37 := Tryd.underlying29
  a37 := Tryd.isAgg29
  z37 := Tryd.sizeOf29
  v37 := Tryd.zeroValue29
  t46 := Tryd.underlying51
  a46 := Tryd.isAgg51
  z46 := Tryd.sizeOf51
  v46 := Tryd.zeroValue51
  t51 := Tryd.underlying46
  a51 := Tryd.isAgg46
  z51 := Tryd.sizeOf46
  v51 := Tryd.zeroValue46
  t53 := Tryd.underlying24
  a53 := Tryd.isAgg24
  z53 := Tryd.sizeOf24
  v53 := Tryd.zeroValue24
  t171 := Tryd.underlying31
  a171 := Tryd.isAgg31
  z171 := Tryd.sizeOf31
  v171 := Tryd.zeroValue31
  t173 := Tryd.underlying49
  a173 := Tryd.isAgg49
  z173 := Tryd.sizeOf49
  v173 := Tryd.zeroValue49
  t212 := Tryd.underlying54
  a212 := Tryd.isAgg54
  z212 := Tryd.sizeOf54
  v212 := Tryd.zeroValue54
  t213 := Tryd.underlying55
  a213 := Tryd.isAgg55
  z213 := Tryd.sizeOf55
  t232 := Tryd.underlying58
  a232 := Tryd.isAgg58
  z232 := Tryd.sizeOf58
  v232 := Tryd.zeroValue58
  t233 := Tryd.underlying59
  a233 := Tryd.isAgg59
  z233 := Tryd.sizeOf59
  v233 := Tryd.zeroValue59
  g17 := by kernel_rfl
  g18 := by kernel_rfl
  g19 := by kernel_rfl }
open Go.RowKit Go.Sort Go.Lib in
theorem Tryd.internal_strconv_FormatInt_10_small (i : Nat) (hi : i < 100) (w : World) :
    Calls Tryd.prog 19 #[.int .i64 i, .int .i64 10] w fun e w' => e = .returned (.string ⟨(Lib.decDigits i).toArray⟩) ∧ w' = w := Any.internal_strconv_FormatInt_10_small Tryd.lays246 i hi w
def Tryd.laysM243_ren : Go.Shelf.Ren := ⟨fun | 243 => 16 | 246 => 19 | 283 => 22 | 284 => 23 | 285 => 24 | 286 => 25 | 129 => 27 | 317 => 26 | 318 => 28 | 319 => 29 | 320 => 30 | 337 => 31 | 338 => 32 | n => n, fun | 3 => 3 | 9 => 9 | 2 => 2 | 4 => 4 | 171 => 31 | 0 => 0 | 53 => 24 | 37 => 29 | 5 => 5 | 173 => 49 | 212 => 54 | 51 => 46 | 20 => 20 | 213 => 55 | 46 => 51 | 232 => 58 | 233 => 59 | n => n, fun | 17 => 0 | 18 => 1 | 19 => 2 | n => n⟩
theorem Tryd.laysM243 : Go.Proofs.LaysM.n243 Tryd.prog Tryd.laysM243_ren := {
  mixed := by kernel_rfl
  f129 := Tryd.func27.trans (congrArg some (by kernel_rfl))
  f243 := Tryd.func16.trans (congrArg some (by kernel_rfl))
  f246 := Tryd.func19.trans (congrArg some (by kernel_rfl))
  f283 := Tryd.func22.trans (congrArg some (by kernel_rfl))
  f284 := Tryd.func23.trans (congrArg some (by kernel_rfl))
  f285 := Tryd.func24.trans (congrArg some (by kernel_rfl))
  f286 := Tryd.func25.trans (congrArg some (by kernel_rfl))
  f317 := Tryd.func26.trans (congrArg some (by kernel_rfl))
  f318 := Tryd.func28.trans (congrArg some (by kernel_rfl))
  f319 := Tryd.func29.trans (congrArg some (by kernel_rfl))
  f320 := Tryd.func30.trans (congrArg some (by kernel_rfl))
  f337 := Tryd.func31.trans (congrArg some (by kernel_rfl))
  f338 := Tryd.func32.trans (congrArg some (by kernel_rfl))
  t0 := Tryd.underlying0
  a0 := Tryd.isAgg0
  z0 := Tryd.sizeOf0
  v0 := Tryd.zeroValue0
  t2 := Tryd.underlying2
  a2 := Tryd.isAgg2
  z2 := Tryd.sizeOf2
  v2 := Tryd.zeroValue2
  t3 := Tryd.underlying3
  a3 := Tryd.isAgg3
  z3 := Tryd.sizeOf3
  v3 := Tryd.zeroValue3
  t4 := Tryd.underlying4
  a4 := Tryd.isAgg4
  z4 := Tryd.sizeOf4
  v4 := Tryd.zeroValue4
  t5 := Tryd.underlying5
  a5 := Tryd.isAgg5
  z5 := Tryd.sizeOf5
  v5 := Tryd.zeroValue5
  t9 := Tryd.underlying9
  a9 := Tryd.isAgg9
  z9 := Tryd.sizeOf9
  v9 := Tryd.zeroValue9
  t20 := Tryd.underlying20
  a20 := Tryd.isAgg20
  z20 := Tryd.sizeOf20
  v20 := Tryd.zeroValue20
  t37 := Tryd.underlying29
  a37 := Tryd.isAgg29
  z37 := Tryd.sizeOf29
  v37 := Tryd.zeroValue29
  t46 := Tryd.underlying51
  a46 := Tryd.isAgg51
  z46 := Tryd.sizeOf51
  v46 := Tryd.zeroValue51
  t51 := Tryd.underlying46
  a51 := Tryd.isAgg46
  z51 := Tryd.sizeOf46
  v51 := Tryd.zeroValue46
  t53 := Tryd.underlying24
  a53 := Tryd.isAgg24
  z53 := Tryd.sizeOf24
  v53 := Tryd.zeroValue24
  t171 := Tryd.underlying31
  a171 := Tryd.isAgg31
  z171 := Tryd.sizeOf31
  v171 := Tryd.zeroValue31
  t173 := Tryd.underlying49
  a173 := Tryd.isAgg49
  z173 := Tryd.sizeOf49
  v173 := Tryd.zeroValue49
  t212 := Tryd.underlying54
  a212 := Tryd.isAgg54
  z212 := Tryd.sizeOf54
  v212 := Tryd.zeroValue54
  t213 := Tryd.underlying55
  a213 := Tryd.isAgg55
  z213 := Tryd.sizeOf55
  t232 := Tryd.underlying58
  a232 := Tryd.isAgg58
  z232 := Tryd.sizeOf58
  v232 := Tryd.zeroValue58
  t233 := Tryd.underlying59
  a233 := Tryd.isAgg59
  z233 := Tryd.sizeOf59
  v233 := Tryd.zeroValue59
  g17 := by kernel_rfl
  g18 := by kernel_rfl
  g19 := by kernel_rfl
  i0 := by kernel_rfl
  i2 := by kernel_rfl
  i3 := by kernel_rfl
  i4 := by kernel_rfl
  i5 := by kernel_rfl
  i9 := by kernel_rfl
  i20 := by kernel_rfl
  i37 := by kernel_rfl
  i46 := by kernel_rfl
  i51 := by kernel_rfl
  i53 := by kernel_rfl
  i171 := by kernel_rfl
  i173 := by kernel_rfl
  i212 := by kernel_rfl
  i232 := by kernel_rfl
  i233 := by kernel_rfl
  m17 := by kernel_rfl
  m18 := by kernel_rfl
  m19 := by kernel_rfl }
open Go.RowKit Go.Sort Go.Lib in
theorem Tryd.internal_strconv_Itoa (n : Int) (h0 : -9223372036854775808 ≤ n) (h1 : n ≤ 9223372036854775807) (w : World) (htab : Lib.TabIs Tryd.prog w "internal/strconv.uint64pow10" .u64 Lib.pow10Tab) :
    Calls Tryd.prog 16 #[.int .i64 n] w fun e w' => e = .returned (.string ⟨(Lib.itoa n).toArray⟩) ∧ ∃ k os, w' = grow (w.drewN k) os := Any.internal_strconv_Itoa Tryd.laysM243 n h0 h1 w htab
def Tryd.lays243_ren : Go.Shelf.Ren := ⟨fun | 243 => 16 | 246 => 19 | 283 => 22 | 284 => 23 | 285 => 24 | 286 => 25 | 129 => 27 | 317 => 26 | 318 => 28 | 319 => 29 | 320 => 30 | 337 => 31 | 338 => 32 | n => n, fun | 3 => 3 | 9 => 9 | 2 => 2 | 4 => 4 | 171 => 31 | 0 => 0 | 53 => 24 | 37 => 29 | 5 => 5 | 173 => 49 | 212 => 54 | 51 => 46 | 20 => 20 | 213 => 55 | 46 => 51 | 232 => 58 | 233 => 59 | n => n, fun | 17 => 0 | 18 => 1 | 19 => 2 | n => n⟩
theorem Tryd.lays243 : Go.Proofs.Lays.n243 Tryd.prog Tryd.lays243_ren := {
  mixed := by kernel_rfl
  f129 := Tryd.func27.trans (congrArg some (by kernel_rfl))
  f243 := Tryd.func16.trans (congrArg some (by kernel_rfl))
  f246 := Tryd.func19.trans (congrArg some (by kernel_rfl))
  f283 := Tryd.func22.trans (congrArg some (by kernel_rfl))
  f284 := Tryd.func23.trans (congrArg some (by kernel_rfl))
  f285 := Tryd.func24.trans (congrArg some (by kernel_rfl))
  f286 := Tryd.func25.trans (congrArg some (by kernel_rfl))
  f317 := Tryd.func26.trans (congrArg some (by kernel_rfl))
  f318 := Tryd.func28.trans (congrArg some (by kernel_rfl))
  f319 := Tryd.func29.trans (congrArg some (by kernel_rfl))
  f320 := Tryd.func30.trans (congrArg some (by kernel_rfl))
  f337 := Tryd.func31.trans (congrArg some (by kernel_rfl))
  f338 := Tryd.func32.trans (congrArg some (by kernel_rfl))
  t0 := Tryd.underlying0
  a0 := Tryd.isAgg0
  z0 := Tryd.sizeOf0
  v0 := Tryd.zeroValue0
  t2 := Tryd.underlying2
  a2 := Tryd.isAgg2
  z2 := Tryd.sizeOf2
  v2 := Tryd.zeroValue2
  t3 := Tryd.underlying3
  a3 := Tryd.isAgg3
  z3 := Tryd.sizeOf3
  v3 := Tryd.zeroValue3
  t4 := Tryd.underlying4
  a4 := Tryd.isAgg4
  z4 := Tryd.sizeOf4
  v4 := Tryd.zeroValue4
  t5 := Tryd.underlying5
  a5 := Tryd.isAgg5
  z5 := Tryd.sizeOf5
  v5 := Tryd.zeroValue5
  t9 := Tryd.underlying9
  a9 := Tryd.isAgg9
  z9 := Tryd.sizeOf9
  v9 := Tryd.zeroValue9
  t20 := Tryd.underlying20
  a20 := Tryd.isAgg20
  z20 := Tryd.sizeOf20
  v20 := Tryd.zeroValue20
  t37 := Tryd.underlying29
  a37 := Tryd.isAgg29
  z37 := Tryd.sizeOf29
  v37 := Tryd.zeroValue29
  t46 := Tryd.underlying51
  a46 := Tryd.isAgg51
  z46 := Tryd.sizeOf51
  v46 := Tryd.zeroValue51
  t51 := Tryd.underlying46
  a51 := Tryd.isAgg46
  z51 := Tryd.sizeOf46
  v51 := Tryd.zeroValue46
  t53 := Tryd.underlying24
  a53 := Tryd.isAgg24
  z53 := Tryd.sizeOf24
  v53 := Tryd.zeroValue24
  t171 := Tryd.underlying31
  a171 := Tryd.isAgg31
  z171 := Tryd.sizeOf31
  v171 := Tryd.zeroValue31
  t173 := Tryd.underlying49
  a173 := Tryd.isAgg49
  z173 := Tryd.sizeOf49
  v173 := Tryd.zeroValue49
  t212 := Tryd.underlying54
  a212 := Tryd.isAgg54
  z212 := Tryd.sizeOf54
  v212 := Tryd.zeroValue54
  t213 := Tryd.underlying55
  a213 := Tryd.isAgg55
  z213 := Tryd.sizeOf55
  t232 := Tryd.underlying58
  a232 := Tryd.isAgg58
  z232 := Tryd.sizeOf58
  v232 := Tryd.zeroValue58
  t233 := Tryd.underlying59
  a233 := Tryd.isAgg59
  z233 := Tryd.sizeOf59
  v233 := Tryd.zeroValue59
  g17 := by kernel_rfl
  g18 := by kernel_rfl
  g19 := by kernel_rfl }
open Go.RowKit Go.Sort Go.Lib in
theorem Tryd.internal_strconv_Itoa_small (i : Nat) (hi : i < 100) (w : World) :
    Calls Tryd.prog 16 #[.int .i64 i] w fun e w' => e = .returned (.string ⟨(Lib.decDigits i).toArray⟩) ∧ w' = w := Any.internal_strconv_Itoa_small Tryd.lays243 i hi w
def Tryd.laysM171_ren : Go.Shelf.Ren := ⟨fun | 171 => 12 | 243 => 16 | 246 => 19 | 283 => 22 | 284 => 23 | 285 => 24 | 286 => 25 | 129 => 27 | 317 => 26 | 318 => 28 | 319 => 29 | 320 => 30 | 337 => 31 | 338 => 32 | n => n, fun | 3 => 3 | 9 => 9 | 2 => 2 | 4 => 4 | 171 => 31 | 0 => 0 | 53 => 24 | 37 => 29 | 5 => 5 | 173 => 49 | 212 => 54 | 51 => 46 | 20 => 20 | 213 => 55 | 46 => 51 | 232 => 58 | 233 => 59 | n => n, fun | 17 => 0 | 18 => 1 | 19 => 2 | n => n⟩
theorem Tryd.laysM171 : Go.Proofs.LaysM.n171 Tryd.prog Tryd.laysM171_ren := {
  mixed := by kernel_rfl
  f129 := Tryd.func27.trans (congrArg some (by kernel_rfl))
  f171 := Tryd.func12.trans (congrArg some (by kernel_rfl))
  f243 := Tryd.func16.trans (congrArg some (by kernel_rfl))
  f246 := Tryd.func19.trans (congrArg some (by kernel_rfl))
  f283 := Tryd.func22.trans (congrArg some (by kernel_rfl))
  f284 := Tryd.func23.trans (congrArg some (by kernel_rfl))
  f285 := Tryd.func24.trans (congrArg some (by kernel_rfl))
  f286 := Tryd.func25.trans (congrArg some (by kernel_rfl))
  f317 := Tryd.func26.trans (congrArg some (by kernel_rfl))
  f318 := Tryd.func28.trans (congrArg some (by kernel_rfl))
  f319 := Tryd.func29.trans (congrArg some (by kernel_rfl))
  f320 := Tryd.func30.trans (congrArg some (by kernel_rfl))
  f337 := Tryd.func31.trans (congrArg some (by kernel_rfl))
  f338 := Tryd.func32.trans (congrArg some (by kernel_rfl))
  t0 := Tryd.underlying0
  a0 := Tryd.isAgg0
  z0 := Tryd.sizeOf0
  v0 := Tryd.zeroValue0
  t2 := Tryd.underlying2
  a2 := Tryd.isAgg2
  z2 := Tryd.sizeOf2
  v2 := Tryd.zeroValue2
  t3 := Tryd.underlying3
  a3 := Tryd.isAgg3
  z3 := Tryd.sizeOf3
  v3 := Tryd.zeroValue3
  t4 := Tryd.underlying4
  a4 := Tryd.isAgg4
  z4 := Tryd.sizeOf4
  v4 := Tryd.zeroValue4
  t5 := Tryd.underlying5
  a5 := Tryd.isAgg5
  z5 := Tryd.sizeOf5
  v5 := Tryd.zeroValue5
  t9 := Tryd.underlying9
  a9 := Tryd.isAgg9
  z9 := Tryd.sizeOf9
  v9 := Tryd.zeroValue9
  t20 := Tryd.underlying20
  a20 := Tryd.isAgg20
  z20 := Tryd.sizeOf20
  v20 := Tryd.zeroValue20
  t37 := Tryd.underlying29
  a37 := Tryd.isAgg29
  z37 := Tryd.sizeOf29
  v37 := Tryd.zeroValue29
  t46 := Tryd.underlying51
  a46 := Tryd.isAgg51
  z46 := Tryd.sizeOf51
  v46 := Tryd.zeroValue51
  t51 := Tryd.underlying46
  a51 := Tryd.isAgg46
  z51 := Tryd.sizeOf46
  v51 := Tryd.zeroValue46
  t53 := Tryd.underlying24
  a53 := Tryd.isAgg24
  z53 := Tryd.sizeOf24
  v53 := Tryd.zeroValue24
  t171 := Tryd.underlying31
  a171 := Tryd.isAgg31
  z171 := Tryd.sizeOf31
  v171 := Tryd.zeroValue31
  t173 := Tryd.underlying49
  a173 := Tryd.isAgg49
  z173 := Tryd.sizeOf49
  v173 := Tryd.zeroValue49
  t212 := Tryd.underlying54
  a212 := Tryd.isAgg54
  z212 := Tryd.sizeOf54
  v212 := Tryd.zeroValue54
  t213 := Tryd.underlying55
  a213 := Tryd.isAgg55
  z213 := Tryd.sizeOf55
  t232 := Tryd.underlying58
  a232 := Tryd.isAgg58
  z232 := Tryd.sizeOf58
  v232 := Tryd.zeroValue58
  t233 := Tryd.underlying59
  a233 := Tryd.isAgg59
  z233 := Tryd.sizeOf59
  v233 := Tryd.zeroValue59
  g17 := by kernel_rfl
  g18 := by kernel_rfl
  g19 := by kernel_rfl
  i0 := by kernel_rfl
  i2 := by kernel_rfl
  i3 := by kernel_rfl
  i4 := by kernel_rfl
  i5 := by kernel_rfl
  i9 := by kernel_rfl
  i20 := by kernel_rfl
  i37 := by kernel_rfl
  i46 := by kernel_rfl
  i51 := by kernel_rfl
  i53 := by kernel_rfl
  i171 := by kernel_rfl
  i173 := by kernel_rfl
  i212 := by kernel_rfl
  i232 := by kernel_rfl
  i233 := by kernel_rfl
  m17 := by kernel_rfl
  m18 := by kernel_rfl
  m19 := by kernel_rfl }
open Go.RowKit Go.Sort Go.Lib in
theorem Tryd.strconv_Itoa (n : Int) (h0 : -9223372036854775808 ≤ n) (h1 : n ≤ 9223372036854775807) (w : World) (htab : Lib.TabIs Tryd.prog w "internal/strconv.uint64pow10" .u64 Lib.pow10Tab) :
    Calls Tryd.prog 12 #[.int .i64 n] w fun e w' => e = .returned (.string ⟨(Lib.itoa n).toArray⟩) ∧ ∃ k os, w' = grow (w.drewN k) os := Any.strconv_Itoa Tryd.laysM171 n h0 h1 w htab
def Tryd.lays171_ren : Go.Shelf.Ren := ⟨fun | 171 => 12 | 243 => 16 | 246 => 19 | 283 => 22 | 284 => 23 | 285 => 24 | 286 => 25 | 129 => 27 | 317 => 26 | 318 => 28 | 319 => 29 | 320 => 30 | 337 => 31 | 338 => 32 | n => n, fun | 3 => 3 | 9 => 9 | 2 => 2 | 4 => 4 | 171 => 31 | 0 => 0 | 53 => 24 | 37 => 29 | 5 => 5 | 173 => 49 | 212 => 54 | 51 => 46 | 20 => 20 | 213 => 55 | 46 => 51 | 232 => 58 | 233 => 59 | n => n, fun | 17 => 0 | 18 => 1 | 19 => 2 | n => n⟩
theorem Tryd.lays171 : Go.Proofs.Lays.n171 Tryd.prog Tryd.lays171_ren := {
  mixed := by kernel_rfl
  f129 := Tryd.func27.trans (congrArg some (by kernel_rfl))
  f171 := Tryd.func12.trans (congrArg some (by kernel_rfl))
  f243 := Tryd.func16.trans (congrArg some (by kernel_rfl))
  f246 := Tryd.func19.trans (congrArg some (by kernel_rfl))
  f283 := Tryd.func22.trans (congrArg some (by kernel_rfl))
  f284 := Tryd.func23.trans (congrArg some (by kernel_rfl))
  f285 := Tryd.func24.trans (congrArg some (by kernel_rfl))
  f286 := Tryd.func25.trans (congrArg some (by kernel_rfl))
  f317 := Tryd.func26.trans (congrArg some (by kernel_rfl))
  f318 := Tryd.func28.trans (congrArg some (by kernel_rfl))
  f319 := Tryd.func29.trans (congrArg some (by kernel_rfl))
  f320 := Tryd.func30.trans (congrArg some (by kernel_rfl))
  f337 := Tryd.func31.trans (congrArg some (by kernel_rfl))
  f338 := Tryd.func32.trans (congrArg some (by kernel_rfl))
  t0 := Tryd.underlying0
  a0 := Tryd.isAgg0
  z0 := Tryd.sizeOf0
  v0 := Tryd.zeroValue0
  t2 := Tryd.underlying2
  a2 := Tryd.isAgg2
  z2 := Tryd.sizeOf2
  v2 := Tryd.zeroValue2
  t3 := Tryd.underlying3
  a3 := Tryd.isAgg3
  z3 := Tryd.sizeOf3
  v3 := Tryd.zeroValue3
  t4 := Tryd.underlying4
  a4 := Tryd.isAgg4
  z4 := Tryd.sizeOf4
  v4 := Tryd.zeroValue4
  t5 := Tryd.underlying5
  a5 := Tryd.isAgg5
  z5 := Tryd.sizeOf5
  v5 := Tryd.zeroValue5
  t9 := Tryd.underlying9
  a9 := Tryd.isAgg9
  z9 := Tryd.sizeOf9
  v9 := Tryd.zeroValue9
  t20 := Tryd.underlying20
  a20 := Tryd.isAgg20
  z20 := Tryd.sizeOf20
  v20 := Tryd.zeroValue20
  t37 := Tryd.underlying29
  a37 := Tryd.isAgg29
  z37 := Tryd.sizeOf29
  v37 := Tryd.zeroValue29
  t46 := Tryd.underlying51
  a46 := Tryd.isAgg51
  z46 := Tryd.sizeOf51
  v46 := Tryd.zeroValue51
  t51 := Tryd.underlying46
  a51 := Tryd.isAgg46
  z51 := Tryd.sizeOf46
  v51 := Tryd.zeroValue46
  t53 := Tryd.underlying24
  a53 := Tryd.isAgg24
  z53 := Tryd.sizeOf24
  v53 := Tryd.zeroValue24
  t171 := Tryd.underlying31
  a171 := Tryd.isAgg31
  z171 := Tryd.sizeOf31
  v171 := Tryd.zeroValue31
  t173 := Tryd.underlying49
  a173 := Tryd.isAgg49
  z173 := Tryd.sizeOf49
  v173 := Tryd.zeroValue49
  t212 := Tryd.underlying54
  a212 := Tryd.isAgg54
  z212 := Tryd.sizeOf54
  v212 := Tryd.zeroValue54
  t213 := Tryd.underlying55
  a213 := Tryd.isAgg55
  z213 := Tryd.sizeOf55
  t232 := Tryd.underlying58
  a232 := Tryd.isAgg58
  z232 := Tryd.sizeOf58
  v232 := Tryd.zeroValue58
  t233 := Tryd.underlying59
  a233 := Tryd.isAgg59
  z233 := Tryd.sizeOf59
  v233 := Tryd.zeroValue59
  g17 := by kernel_rfl
  g18 := by kernel_rfl
  g19 := by kernel_rfl }
open Go.RowKit Go.Sort Go.Lib in
theorem Tryd.strconv_Itoa_small (i : Nat) (hi : i < 100) (w : World) :
    Calls Tryd.prog 12 #[.int .i64 i] w fun e w' => e = .returned (.string ⟨(Lib.decDigits i).toArray⟩) ∧ w' = w := Any.strconv_Itoa_small Tryd.lays171 i hi w
def Tryd.lays240_ren : Go.Shelf.Ren := ⟨fun | 240 => 17 | 276 => 20 | n => n, fun | 70 => 32 | 0 => 0 | 72 => 34 | 4 => 4 | 164 => 44 | 9 => 9 | 20 => 20 | 37 => 29 | n => n, fun | n => n⟩
theorem Tryd.lays240 : Go.Proofs.Lays.n240 Tryd.prog Tryd.lays240_ren := {
  mixed := by kernel_rfl
  f240 := Tryd.func17.trans (congrArg some (by kernel_rfl))
  f276 := Tryd.func20.trans (congrArg some (by kernel_rfl))
  t0 := Tryd.underlying0
  a0 := Tryd.isAgg0
  z0 := Tryd.sizeOf0
  v0 := Tryd.zeroValue0
  t4 := Tryd.underlying4
  a4 := Tryd.isAgg4
  z4 := Tryd.sizeOf4
  v4 := Tryd.zeroValue4
  t9 := Tryd.underlying9
  a9 := Tryd.isAgg9
  z9 := Tryd.sizeOf9
  v9 := Tryd.zeroValue9
  t20 := Tryd.underlying20
  a20 := Tryd.isAgg20
  z20 := Tryd.sizeOf20
  v20 := Tryd.zeroValue20
  t70 := Tryd.underlying32
  a70 := Tryd.isAgg32
  z70 := Tryd.sizeOf32
  v70 := Tryd.zeroValue32
  t72 := Tryd.underlying34
  a72 := Tryd.isAgg34
  z72 := Tryd.sizeOf34
  v72 := Tryd.zeroValue34
  t164 := Tryd.underlying44
  a164 := Tryd.isAgg44
  z164 := Tryd.sizeOf44
  v164 := Tryd.zeroValue44 }
theorem Tryd.Builder_X72_240 : Builder.X72 Tryd.prog Tryd.lays240_ren := {
  sizeBuilder := by kernel_rfl
  liesBuilder := by kernel_rfl }
def Tryd.lays167_ren : Go.Shelf.Ren := ⟨fun | 167 => 13 | 240 => 17 | 276 => 20 | n => n, fun | 70 => 32 | 0 => 0 | 72 => 34 | 4 => 4 | 164 => 44 | 9 => 9 | 20 => 20 | 37 => 29 | 5 => 5 | 75 => 36 | 80 => 40 | n => n, fun | n => n⟩
theorem Tryd.lays167 : Go.Proofs.Lays.n167 Tryd.prog Tryd.lays167_ren := {
  mixed := by kernel_rfl
  f167 := Tryd.func13.trans (congrArg some (by kernel_rfl))
  f240 := Tryd.func17.trans (congrArg some (by kernel_rfl))
  f276 := Tryd.func20.trans (congrArg some (by kernel_rfl))
  t0 := Tryd.underlying0
  a0 := Tryd.isAgg0
  z0 := Tryd.sizeOf0
  v0 := Tryd.zeroValue0
  t4 := Tryd.underlying4
  a4 := Tryd.isAgg4
  z4 := Tryd.sizeOf4
  v4 := Tryd.zeroValue4
  t5 := Tryd.underlying5
  a5 := Tryd.isAgg5
  z5 := Tryd.sizeOf5
  v5 := Tryd.zeroValue5
  t9 := Tryd.underlying9
  a9 := Tryd.isAgg9
  z9 := Tryd.sizeOf9
  v9 := Tryd.zeroValue9
  t20 := Tryd.underlying20
  a20 := Tryd.isAgg20
  z20 := Tryd.sizeOf20
  v20 := Tryd.zeroValue20
  t37 := Tryd.underlying29
  a37 := Tryd.isAgg29
  z37 := Tryd.sizeOf29
  v37 := Tryd.zeroValue29
  t70 := Tryd.underlying32
  a70 := Tryd.isAgg32
  z70 := Tryd.sizeOf32
  v70 := Tryd.zeroValue32
  t72 := Tryd.underlying34
  a72 := Tryd.isAgg34
  z72 := Tryd.sizeOf34
  v72 := Tryd.zeroValue34
  t75 := Tryd.underlying36
  a75 := Tryd.isAgg36
  z75 := Tryd.sizeOf36
  v75 := Tryd.zeroValue36
  t164 := Tryd.underlying44
  a164 := Tryd.isAgg44
  z164 := Tryd.sizeOf44
  v164 := Tryd.zeroValue44 }
theorem Tryd.Builder_Extra_167 : Builder.Extra Tryd.prog Tryd.lays167_ren := {
  sizeBuilder := by kernel_rfl
  liesBuilder := by kernel_rfl
  t5 := Tryd.underlying5
  a5 := Tryd.isAgg5
  z5 := Tryd.sizeOf5
  v5 := Tryd.zeroValue5
  infoByte := by kernel_rfl
  cellsByte := by kernel_rfl
  sizeByte := by kernel_rfl
  neB5 := by decide }
def Tryd.lays168_ren : Go.Shelf.Ren := ⟨fun | 168 => 14 | 240 => 17 | 242 => 18 | 276 => 20 | 278 => 21 | n => n, fun | 70 => 32 | 0 => 0 | 72 => 34 | 4 => 4 | 164 => 44 | 9 => 9 | 20 => 20 | 37 => 29 | 5 => 5 | 75 => 36 | 80 => 40 | 3 => 3 | 21 => 21 | 46 => 51 | 51 => 46 | n => n, fun | n => n⟩
theorem Tryd.lays168 : Go.Proofs.Lays.n168 Tryd.prog Tryd.lays168_ren := {
  mixed := by kernel_rfl
  f168 := Tryd.func14.trans (congrArg some (by kernel_rfl))
  f240 := Tryd.func17.trans (congrArg some (by kernel_rfl))
  f242 := Tryd.func18.trans (congrArg some (by kernel_rfl))
  f276 := Tryd.func20.trans (congrArg some (by kernel_rfl))
  f278 := Tryd.func21.trans (congrArg some (by kernel_rfl))
  t0 := Tryd.underlying0
  a0 := Tryd.isAgg0
  z0 := Tryd.sizeOf0
  v0 := Tryd.zeroValue0
  t3 := Tryd.underlying3
  a3 := Tryd.isAgg3
  z3 := Tryd.sizeOf3
  v3 := Tryd.zeroValue3
  t4 := Tryd.underlying4
  a4 := Tryd.isAgg4
  z4 := Tryd.sizeOf4
  v4 := Tryd.zeroValue4
  t5 := Tryd.underlying5
  a5 := Tryd.isAgg5
  z5 := Tryd.sizeOf5
  v5 := Tryd.zeroValue5
  t9 := Tryd.underlying9
  a9 := Tryd.isAgg9
  z9 := Tryd.sizeOf9
  v9 := Tryd.zeroValue9
  t20 := Tryd.underlying20
  a20 := Tryd.isAgg20
  z20 := Tryd.sizeOf20
  v20 := Tryd.zeroValue20
  t21 := Tryd.underlying21
  a21 := Tryd.isAgg21
  z21 := Tryd.sizeOf21
  v21 := Tryd.zeroValue21
  t37 := Tryd.underlying29
  a37 := Tryd.isAgg29
  z37 := Tryd.sizeOf29
  v37 := Tryd.zeroValue29
  t46 := Tryd.underlying51
  a46 := Tryd.isAgg51
  z46 := Tryd.sizeOf51
  v46 := Tryd.zeroValue51
  t51 := Tryd.underlying46
  a51 := Tryd.isAgg46
  z51 := Tryd.sizeOf46
  v51 := Tryd.zeroValue46
  t70 := Tryd.underlying32
  a70 := Tryd.isAgg32
  z70 := Tryd.sizeOf32
  v70 := Tryd.zeroValue32
  t72 := Tryd.underlying34
  a72 := Tryd.isAgg34
  z72 := Tryd.sizeOf34
  v72 := Tryd.zeroValue34
  t75 := Tryd.underlying36
  a75 := Tryd.isAgg36
  z75 := Tryd.sizeOf36
  v75 := Tryd.zeroValue36
  t164 := Tryd.underlying44
  a164 := Tryd.isAgg44
  z164 := Tryd.sizeOf44
  v164 := Tryd.zeroValue44 }
theorem Tryd.Builder_Extra_168 : Builder.Extra Tryd.prog Tryd.lays168_ren := {
  sizeBuilder := by kernel_rfl
  liesBuilder := by kernel_rfl
  t5 := Tryd.underlying5
  a5 := Tryd.isAgg5
  z5 := Tryd.sizeOf5
  v5 := Tryd.zeroValue5
  infoByte := by kernel_rfl
  cellsByte := by kernel_rfl
  sizeByte := by kernel_rfl
  neB5 := by decide }
open Go.RowKit in
theorem Tryd.Builder_copyCheck_k (B b : Nat) (bs : List Value) (w : World) (h : Lib.IsBuilderF 34 5 B b bs w) :
    Calls Tryd.prog 17 #[.pointer (some ⟨b, 0, none⟩)] w fun e w' => e = .returned (.tuple #[]) ∧ (Lib.BuilderAtF 34 5 B b (.pointer (some ⟨b, 0, none⟩)) bs w' ∧ Below B w w' ∧ Lib.OthersKept 5 (some b) w w') := Any.Builder_copyCheck_k Tryd.lays240 Tryd.Builder_X72_240 B b bs w h
open Go.RowKit in
theorem Tryd.Builder_WriteByte_k (B b : Nat) (bs : List Value) (c : Int) (w : World) (h : Lib.IsBuilderF 34 5 B b bs w) (hlen : bs.length + 1 ≤ 140737488355328) (hBw : B ≤ w.heap.size) :
    Calls Tryd.prog 13 #[.pointer (some ⟨b, 0, none⟩), .int .u8 c] w fun e w' => e = .returned .nilIface ∧ (Lib.BuilderAtF 34 5 B b (.pointer (some ⟨b, 0, none⟩)) (bs ++ [.int .u8 c]) w' ∧ Below B w w' ∧ Lib.OthersKept 5 (some b) w w') := Any.Builder_WriteByte_k Tryd.lays167 Tryd.Builder_Extra_167 B b bs c w h hlen hBw
open Go.RowKit in
theorem Tryd.Builder_WriteRune_k (B b : Nat) (bs : List Value) (r : Int) (hr0 : -2147483648 ≤ r) (hr1 : r ≤ 2147483647) (w : World) (h : Lib.IsBuilderF 34 5 B b bs w) (hlen : bs.length + 4 ≤ 140737488355328) (hBw : B ≤ w.heap.size) :
    Calls Tryd.prog 14 #[.pointer (some ⟨b, 0, none⟩), .int .i32 r] w fun e w' => e = .returned (.tuple #[.int .i64 (Lib.runeCells r).length, .nilIface]) ∧ (Lib.BuilderAtF 34 5 B b (.pointer (some ⟨b, 0, none⟩)) (bs ++ Lib.runeCells r) w' ∧ Below B w w' ∧ Lib.OthersKept 5 (some b) w w') := Any.Builder_WriteRune_k Tryd.lays168 Tryd.Builder_Extra_168 B b bs r hr0 hr1 w h hlen hBw
end Go.Proofs
