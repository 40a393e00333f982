/-
  THE LAYINGS of the shelf at this program (laid by the kit, its remarks struck).
-/
import Derived.Shelf.Strings.Builder1
import Derived.Shelf.Strings.Builder2
import Derived.Shelf.Small.Bits
import Derived.Shelf.Strings.BuilderF
import Derived.Shelf.Strings.BuilderK
import Derived.Shelf.Strings.Builder2Cap
import Derived.Shelf.Strconv.Itoa0
import Derived.Ground.MnProg
import Derived.Shelf.Bin.BEPutUint64
import Derived.Ground.SlgnProg
import Derived.Shelf.SlicesE.Compact
import Derived.Shelf.SlicesE.Clone
import Derived.Ground.SlgmProg
import Derived.Shelf.SortM.Plain
import Derived.Shelf.SortM.SortNone
import Derived.Test.YbulkdczcFmtProg
namespace Go.Proofs
open Go.Shelf
def Ybaf.lays169_ren : Go.Shelf.Ren := ⟨fun | 169 => 25 | n => n, fun | 70 => 44 | 9 => 9 | 0 => 0 | 72 => 47 | 37 => 45 | 127 => 74 | 3 => 3 | 5 => 5 | n => n, fun | n => n⟩
theorem Ybaf.lays169 : Go.Proofs.Lays.n169 Ybaf.prog Ybaf.lays169_ren := {
  mixed := by kernel_rfl
  f169 := Ybaf.func25.trans (congrArg some (by kernel_rfl))
  t0 := Ybaf.underlying0
  a0 := Ybaf.isAgg0
  z0 := Ybaf.sizeOf0
  v0 := Ybaf.zeroValue0
  t3 := Ybaf.underlying3
  a3 := Ybaf.isAgg3
  z3 := Ybaf.sizeOf3
  v3 := Ybaf.zeroValue3
  t9 := Ybaf.underlying9
  a9 := Ybaf.isAgg9
  z9 := Ybaf.sizeOf9
  v9 := Ybaf.zeroValue9
  t37 := Ybaf.underlying45
  a37 := Ybaf.isAgg45
  z37 := Ybaf.sizeOf45
  v37 := Ybaf.zeroValue45
  t70 := Ybaf.underlying44
  a70 := Ybaf.isAgg44
  z70 := Ybaf.sizeOf44
  v70 := Ybaf.zeroValue44
  t72 := Ybaf.underlying47
  a72 := Ybaf.isAgg47
  z72 := Ybaf.sizeOf47
  v72 := Ybaf.zeroValue47
  t127 := Ybaf.underlying74
  a127 := Ybaf.isAgg74
  z127 := Ybaf.sizeOf74
  v127 := Ybaf.zeroValue74 }
theorem Ybaf.Builder_Extra_169 : Builder.Extra Ybaf.prog Ybaf.lays169_ren := {
  sizeBuilder := by kernel_rfl
  liesBuilder := by kernel_rfl
  t5 := Ybaf.underlying5
  a5 := Ybaf.isAgg5
  z5 := Ybaf.sizeOf5
  v5 := Ybaf.zeroValue5
  infoByte := by kernel_rfl
  cellsByte := by kernel_rfl
  sizeByte := by kernel_rfl
  neB5 := by decide }
open Go.RowKit in
theorem Ybaf.Builder_String (B b : Nat) (l : List UInt8) (w : World) (h : Lib.IsBuilder 47 5 B b (Lib.byteCells l) w) (h0 : l ≠ []) :
    Calls Ybaf.prog 25 #[.pointer (some ⟨b, 0, none⟩)] w fun e w' => e = .returned (.string ⟨l.toArray⟩) ∧ Below B w w' := Any.Builder_String Ybaf.lays169 Ybaf.Builder_Extra_169 B b l w h h0
open Go.RowKit in
theorem Ybaf.Builder_String_empty (B b : Nat) (w : World) (h : Lib.IsBuilder 47 5 B b [] w) (hBw : B ≤ w.heap.size) :
    Calls Ybaf.prog 25 #[.pointer (some ⟨b, 0, none⟩)] w fun e w' => e = .returned (.string ⟨#[]⟩) ∧ Below B w w' := Any.Builder_String_empty Ybaf.lays169 Ybaf.Builder_Extra_169 B b w h hBw
open Go.RowKit in
theorem Ybaf.Builder_String_any (B b : Nat) (l : List UInt8) (w : World) (h : Lib.IsBuilder 47 5 B b (Lib.byteCells l) w) (hBw : B ≤ w.heap.size) :
    Calls Ybaf.prog 25 #[.pointer (some ⟨b, 0, none⟩)] w fun e w' => e = .returned (.string ⟨l.toArray⟩) ∧ Below B w w' := Any.Builder_String_any Ybaf.lays169 Ybaf.Builder_Extra_169 B b l w h hBw
def Ybaf.lays241_ren : Go.Shelf.Ren := ⟨fun | 241 => 39 | 277 => 49 | n => n, fun | 70 => 44 | 3 => 3 | 0 => 0 | 72 => 47 | 37 => 45 | 5 => 5 | n => n, fun | n => n⟩
theorem Ybaf.lays241 : Go.Proofs.Lays.n241 Ybaf.prog Ybaf.lays241_ren := {
  mixed := by kernel_rfl
  f241 := Ybaf.func39.trans (congrArg some (by kernel_rfl))
  f277 := Ybaf.func49.trans (congrArg some (by kernel_rfl))
  t0 := Ybaf.underlying0
  a0 := Ybaf.isAgg0
  z0 := Ybaf.sizeOf0
  v0 := Ybaf.zeroValue0
  t3 := Ybaf.underlying3
  a3 := Ybaf.isAgg3
  z3 := Ybaf.sizeOf3
  v3 := Ybaf.zeroValue3
  t37 := Ybaf.underlying45
  a37 := Ybaf.isAgg45
  z37 := Ybaf.sizeOf45
  v37 := Ybaf.zeroValue45
  t70 := Ybaf.underlying44
  a70 := Ybaf.isAgg44
  z70 := Ybaf.sizeOf44
  v70 := Ybaf.zeroValue44
  t72 := Ybaf.underlying47
  a72 := Ybaf.isAgg47
  z72 := Ybaf.sizeOf47
  v72 := Ybaf.zeroValue47 }
theorem Ybaf.Builder_Extra_241 : Builder.Extra Ybaf.prog Ybaf.lays241_ren := {
  sizeBuilder := by kernel_rfl
  liesBuilder := by kernel_rfl
  t5 := Ybaf.underlying5
  a5 := Ybaf.isAgg5
  z5 := Ybaf.sizeOf5
  v5 := Ybaf.zeroValue5
  infoByte := by kernel_rfl
  cellsByte := by kernel_rfl
  sizeByte := by kernel_rfl
  neB5 := by decide }
open Go.RowKit in
theorem Ybaf.Builder_grow_fresh (B b n : Nat) (w : World) (hB : B ≤ b) (hbk : w.heap[b]? = some (.cells #[.pointer (some ⟨b, 0, none⟩), .slice none 0 0] 47 (0, 0))) (hBw : B ≤ w.heap.size) (hn : n ≤ 281474976710656) :
    Calls Ybaf.prog 39 #[.pointer (some ⟨b, 0, none⟩), .int .i64 n] w fun e w' => e = .returned (.tuple #[]) ∧ (Lib.BuilderAt 47 5 B b (.pointer (some ⟨b, 0, none⟩)) [] w' ∧ Below B w w') := Any.Builder_grow_fresh Ybaf.lays241 Ybaf.Builder_Extra_241 B b n w hB hbk hBw hn
def Ybaf.lays165_ren : Go.Shelf.Ren := ⟨fun | 165 => 22 | 240 => 38 | 241 => 39 | 276 => 48 | 277 => 49 | n => n, fun | 70 => 44 | 3 => 3 | 0 => 0 | 4 => 4 | 9 => 9 | 20 => 20 | 72 => 47 | 37 => 45 | 164 => 83 | 5 => 5 | n => n, fun | n => n⟩
theorem Ybaf.lays165 : Go.Proofs.Lays.n165 Ybaf.prog Ybaf.lays165_ren := {
  mixed := by kernel_rfl
  f165 := Ybaf.func22.trans (congrArg some (by kernel_rfl))
  f240 := Ybaf.func38.trans (congrArg some (by kernel_rfl))
  f241 := Ybaf.func39.trans (congrArg some (by kernel_rfl))
  f276 := Ybaf.func48.trans (congrArg some (by kernel_rfl))
  f277 := Ybaf.func49.trans (congrArg some (by kernel_rfl))
  t0 := Ybaf.underlying0
  a0 := Ybaf.isAgg0
  z0 := Ybaf.sizeOf0
  v0 := Ybaf.zeroValue0
  t3 := Ybaf.underlying3
  a3 := Ybaf.isAgg3
  z3 := Ybaf.sizeOf3
  v3 := Ybaf.zeroValue3
  t4 := Ybaf.underlying4
  a4 := Ybaf.isAgg4
  z4 := Ybaf.sizeOf4
  v4 := Ybaf.zeroValue4
  t9 := Ybaf.underlying9
  a9 := Ybaf.isAgg9
  z9 := Ybaf.sizeOf9
  v9 := Ybaf.zeroValue9
  t20 := Ybaf.underlying20
  a20 := Ybaf.isAgg20
  z20 := Ybaf.sizeOf20
  v20 := Ybaf.zeroValue20
  t37 := Ybaf.underlying45
  a37 := Ybaf.isAgg45
  z37 := Ybaf.sizeOf45
  v37 := Ybaf.zeroValue45
  t70 := Ybaf.underlying44
  a70 := Ybaf.isAgg44
  z70 := Ybaf.sizeOf44
  v70 := Ybaf.zeroValue44
  t72 := Ybaf.underlying47
  a72 := Ybaf.isAgg47
  z72 := Ybaf.sizeOf47
  v72 := Ybaf.zeroValue47
  t164 := Ybaf.underlying83
  a164 := Ybaf.isAgg83
  z164 := Ybaf.sizeOf83
  v164 := Ybaf.zeroValue83 }
theorem Ybaf.Builder_Extra_165 : Builder.Extra Ybaf.prog Ybaf.lays165_ren := {
  sizeBuilder := by kernel_rfl
  liesBuilder := by kernel_rfl
  t5 := Ybaf.underlying5
  a5 := Ybaf.isAgg5
  z5 := Ybaf.sizeOf5
  v5 := Ybaf.zeroValue5
  infoByte := by kernel_rfl
  cellsByte := by kernel_rfl
  sizeByte := by kernel_rfl
  neB5 := by decide }
open Go.RowKit in
theorem Ybaf.Builder_Grow_fresh (B b n : Nat) (w : World) (hB : B ≤ b) (hbk : w.heap[b]? = some (.cells #[.pointer none, .slice none 0 0] 47 (0, 0))) (hBw : B ≤ w.heap.size) (hn : n ≤ 281474976710656) :
    Calls Ybaf.prog 22 #[.pointer (some ⟨b, 0, none⟩), .int .i64 n] w fun e w' => e = .returned (.tuple #[]) ∧ (Lib.BuilderAt 47 5 B b (.pointer (some ⟨b, 0, none⟩)) [] w' ∧ Below B w w') := Any.Builder_Grow_fresh Ybaf.lays165 Ybaf.Builder_Extra_165 B b n w hB hbk hBw hn
def Ybaf.lays128_ren : Go.Shelf.Ren := ⟨fun | 128 => 36 | n => n, fun | 51 => 65 | 3 => 3 | 4 => 4 | 46 => 41 | 5 => 5 | 9 => 9 | n => n, fun | n => n⟩
theorem Ybaf.lays128 : Go.Proofs.Lays.n128 Ybaf.prog Ybaf.lays128_ren := {
  mixed := by kernel_rfl
  f128 := Ybaf.func36.trans (congrArg some (by kernel_rfl))
  t3 := Ybaf.underlying3
  a3 := Ybaf.isAgg3
  z3 := Ybaf.sizeOf3
  v3 := Ybaf.zeroValue3
  t4 := Ybaf.underlying4
  a4 := Ybaf.isAgg4
  z4 := Ybaf.sizeOf4
  v4 := Ybaf.zeroValue4
  t5 := Ybaf.underlying5
  a5 := Ybaf.isAgg5
  z5 := Ybaf.sizeOf5
  v5 := Ybaf.zeroValue5
  t9 := Ybaf.underlying9
  a9 := Ybaf.isAgg9
  z9 := Ybaf.sizeOf9
  v9 := Ybaf.zeroValue9
  t46 := Ybaf.underlying41
  a46 := Ybaf.isAgg41
  z46 := Ybaf.sizeOf41
  v46 := Ybaf.zeroValue41
  t51 := Ybaf.underlying65
  a51 := Ybaf.isAgg65
  z51 := Ybaf.sizeOf65
  v51 := Ybaf.zeroValue65 }
theorem Ybaf.bits_Len32 (x : Int) (w : World) (h0 : 0 ≤ x) (h1 : x ≤ 4294967295) :
    Calls Ybaf.prog 36 #[.int .u32 x] w fun e w' => e = .returned (.int .i64 (Lib.bitLen x.toNat)) ∧ w' = w := Any.bits_Len32 Ybaf.lays128 x w h0 h1
def Ybaf.lays125_ren : Go.Shelf.Ren := ⟨fun | 125 => 19 | 128 => 36 | 129 => 37 | n => n, fun | 46 => 41 | 3 => 3 | 51 => 65 | 53 => 67 | 4 => 4 | 5 => 5 | 9 => 9 | n => n, fun | n => n⟩
theorem Ybaf.lays125 : Go.Proofs.Lays.n125 Ybaf.prog Ybaf.lays125_ren := {
  mixed := by kernel_rfl
  f125 := Ybaf.func19.trans (congrArg some (by kernel_rfl))
  f128 := Ybaf.func36.trans (congrArg some (by kernel_rfl))
  f129 := Ybaf.func37.trans (congrArg some (by kernel_rfl))
  t3 := Ybaf.underlying3
  a3 := Ybaf.isAgg3
  z3 := Ybaf.sizeOf3
  v3 := Ybaf.zeroValue3
  t4 := Ybaf.underlying4
  a4 := Ybaf.isAgg4
  z4 := Ybaf.sizeOf4
  v4 := Ybaf.zeroValue4
  t5 := Ybaf.underlying5
  a5 := Ybaf.isAgg5
  z5 := Ybaf.sizeOf5
  v5 := Ybaf.zeroValue5
  t9 := Ybaf.underlying9
  a9 := Ybaf.isAgg9
  z9 := Ybaf.sizeOf9
  v9 := Ybaf.zeroValue9
  t46 := Ybaf.underlying41
  a46 := Ybaf.isAgg41
  z46 := Ybaf.sizeOf41
  v46 := Ybaf.zeroValue41
  t51 := Ybaf.underlying65
  a51 := Ybaf.isAgg65
  z51 := Ybaf.sizeOf65
  v51 := Ybaf.zeroValue65
  t53 := Ybaf.underlying67
  a53 := Ybaf.isAgg67
  z53 := Ybaf.sizeOf67
  v53 := Ybaf.zeroValue67 }
theorem Ybaf.bits_Len (x : Int) (w : World) (h0 : 0 ≤ x) (h1 : x ≤ 18446744073709551615) :
    Calls Ybaf.prog 19 #[.int .u64 x] w fun e w' => e = .returned (.int .i64 (Lib.bitLen x.toNat)) ∧ w' = w := Any.bits_Len Ybaf.lays125 x w h0 h1
open Go.RowKit in
theorem Ybaf.Builder_String_f (B b : Nat) (l : List UInt8) (w : World) (h : Lib.IsBuilderF 47 5 B b (Lib.byteCells l) w) (h0 : l ≠ []) :
    Calls Ybaf.prog 25 #[.pointer (some ⟨b, 0, none⟩)] w fun e w' => e = .returned (.string ⟨l.toArray⟩) ∧ (Lib.IsBuilderF 47 5 B b (Lib.byteCells l) w' ∧ Below B w w') := Any.Builder_String_f Ybaf.lays169 Ybaf.Builder_Extra_169 B b l w h h0
open Go.RowKit in
theorem Ybaf.Builder_String_empty_f (B b : Nat) (w : World) (h : Lib.IsBuilderF 47 5 B b [] w) (hBw : B ≤ w.heap.size) :
    Calls Ybaf.prog 25 #[.pointer (some ⟨b, 0, none⟩)] w fun e w' => e = .returned (.string ⟨#[]⟩) ∧ (Lib.IsBuilderF 47 5 B b [] w' ∧ Below B w w') := Any.Builder_String_empty_f Ybaf.lays169 Ybaf.Builder_Extra_169 B b w h hBw
open Go.RowKit in
theorem Ybaf.Builder_String_any_f (B b : Nat) (l : List UInt8) (w : World) (h : Lib.IsBuilderF 47 5 B b (Lib.byteCells l) w) (hBw : B ≤ w.heap.size) :
    Calls Ybaf.prog 25 #[.pointer (some ⟨b, 0, none⟩)] w fun e w' => e = .returned (.string ⟨l.toArray⟩) ∧ (Lib.IsBuilderF 47 5 B b (Lib.byteCells l) w' ∧ Below B w w') := Any.Builder_String_any_f Ybaf.lays169 Ybaf.Builder_Extra_169 B b l w h hBw
open Go.RowKit in
theorem Ybaf.Builder_String_k (B b : Nat) (l : List UInt8) (w : World) (h : Lib.IsBuilderF 47 5 B b (Lib.byteCells l) w) (h0 : l ≠ []) :
    Calls Ybaf.prog 25 #[.pointer (some ⟨b, 0, none⟩)] w fun e w' => e = .returned (.string ⟨l.toArray⟩) ∧ (Lib.IsBuilderF 47 5 B b (Lib.byteCells l) w' ∧ Below B w w' ∧ Lib.OthersKept 5 (some b) w w') := Any.Builder_String_k Ybaf.lays169 Ybaf.Builder_Extra_169 B b l w h h0
open Go.RowKit in
theorem Ybaf.Builder_String_empty_k (B b : Nat) (w : World) (h : Lib.IsBuilderF 47 5 B b [] w) (hBw : B ≤ w.heap.size) :
    Calls Ybaf.prog 25 #[.pointer (some ⟨b, 0, none⟩)] w fun e w' => e = .returned (.string ⟨#[]⟩) ∧ (Lib.IsBuilderF 47 5 B b [] w' ∧ Below B w w' ∧ Lib.OthersKept 5 (some b) w w') := Any.Builder_String_empty_k Ybaf.lays169 Ybaf.Builder_Extra_169 B b w h hBw
open Go.RowKit in
theorem Ybaf.Builder_String_any_k (B b : Nat) (l : List UInt8) (w : World) (h : Lib.IsBuilderF 47 5 B b (Lib.byteCells l) w) (hBw : B ≤ w.heap.size) :
    Calls Ybaf.prog 25 #[.pointer (some ⟨b, 0, none⟩)] w fun e w' => e = .returned (.string ⟨l.toArray⟩) ∧ (Lib.IsBuilderF 47 5 B b (Lib.byteCells l) w' ∧ Below B w w' ∧ Lib.OthersKept 5 (some b) w w') := Any.Builder_String_any_k Ybaf.lays169 Ybaf.Builder_Extra_169 B b l w h hBw
open Go.RowKit in
theorem Ybaf.Builder_grow_fresh_cap (B b n : Nat) (w : World) (hB : B ≤ b) (hbk : w.heap[b]? = some (.cells #[.pointer (some ⟨b, 0, none⟩), .slice none 0 0] 47 (0, 0))) (hBw : B ≤ w.heap.size) (hn : n ≤ 281474976710656) :
    Calls Ybaf.prog 39 #[.pointer (some ⟨b, 0, none⟩), .int .i64 n] w fun e w' => e = .returned (.tuple #[]) ∧ (Lib.BuilderAt 47 5 B b (.pointer (some ⟨b, 0, none⟩)) [] w' ∧ Below B w w') ∧ ∃ p cap, w'.cell? ⟨b, 1, none⟩ = some (.slice p 0 cap) ∧ n ≤ cap := Any.Builder_grow_fresh_cap Ybaf.lays241 Ybaf.Builder_Extra_241 B b n w hB hbk hBw hn
open Go.RowKit in
theorem Ybaf.Builder_Grow_fresh_cap (B b n : Nat) (w : World) (hB : B ≤ b) (hbk : w.heap[b]? = some (.cells #[.pointer none, .slice none 0 0] 47 (0, 0))) (hBw : B ≤ w.heap.size) (hn : n ≤ 281474976710656) :
    Calls Ybaf.prog 22 #[.pointer (some ⟨b, 0, none⟩), .int .i64 n] w fun e w' => e = .returned (.tuple #[]) ∧ (Lib.BuilderAt 47 5 B b (.pointer (some ⟨b, 0, none⟩)) [] w' ∧ Below B w w') ∧ ∃ p cap, w'.cell? ⟨b, 1, none⟩ = some (.slice p 0 cap) ∧ n ≤ cap := Any.Builder_Grow_fresh_cap Ybaf.lays165 Ybaf.Builder_Extra_165 B b n w hB hbk hBw hn
def Ybaf.lays129_ren : Go.Shelf.Ren := ⟨fun | 129 => 37 | n => n, fun | 53 => 67 | 3 => 3 | 4 => 4 | 46 => 41 | 5 => 5 | 9 => 9 | n => n, fun | n => n⟩
theorem Ybaf.lays129 : Go.Proofs.Lays.n129 Ybaf.prog Ybaf.lays129_ren := {
  mixed := by kernel_rfl
  f129 := Ybaf.func37.trans (congrArg some (by kernel_rfl))
  t3 := Ybaf.underlying3
  a3 := Ybaf.isAgg3
  z3 := Ybaf.sizeOf3
  v3 := Ybaf.zeroValue3
  t4 := Ybaf.underlying4
  a4 := Ybaf.isAgg4
  z4 := Ybaf.sizeOf4
  v4 := Ybaf.zeroValue4
  t5 := Ybaf.underlying5
  a5 := Ybaf.isAgg5
  z5 := Ybaf.sizeOf5
  v5 := Ybaf.zeroValue5
  t9 := Ybaf.underlying9
  a9 := Ybaf.isAgg9
  z9 := Ybaf.sizeOf9
  v9 := Ybaf.zeroValue9
  t46 := Ybaf.underlying41
  a46 := Ybaf.isAgg41
  z46 := Ybaf.sizeOf41
  v46 := Ybaf.zeroValue41
  t53 := Ybaf.underlying67
  a53 := Ybaf.isAgg67
  z53 := Ybaf.sizeOf67
  v53 := Ybaf.zeroValue67 }
theorem Ybaf.bits_Len64 (x : Int) (w : World) (h0 : 0 ≤ x) (h1 : x ≤ 18446744073709551615) :
    Calls Ybaf.prog 37 #[.int .u64 x] w fun e w' => e = .returned (.int .i64 (Lib.bitLen x.toNat)) ∧ w' = w := Any.bits_Len64 Ybaf.lays129 x w h0 h1
def Ybaf.laysBin43_ren : Go.Shelf.Ren := ⟨fun | 43 => 40 | n => n, fun | 37 => 70 | 22 => 45 | 33 => 67 | 0 => 0 | 5 => 5 | 45 => 41 | n => n, fun | n => n⟩
theorem Ybaf.laysBin43 : Go.Proofs.LaysBin.n43 Ybaf.prog Ybaf.laysBin43_ren := {
  mixed := by kernel_rfl
  f43 := Ybaf.func40.trans (congrArg some (by kernel_rfl))
  t0 := Ybaf.underlying0
  a0 := Ybaf.isAgg0
  z0 := Ybaf.sizeOf0
  v0 := Ybaf.zeroValue0
  i0 := by kernel_rfl
  t5 := Ybaf.underlying5
  a5 := Ybaf.isAgg5
  z5 := Ybaf.sizeOf5
  v5 := Ybaf.zeroValue5
  i5 := by kernel_rfl
  t22 := Ybaf.underlying45
  a22 := Ybaf.isAgg45
  z22 := Ybaf.sizeOf45
  v22 := Ybaf.zeroValue45
  i22 := by kernel_rfl
  t33 := Ybaf.underlying67
  a33 := Ybaf.isAgg67
  z33 := Ybaf.sizeOf67
  v33 := Ybaf.zeroValue67
  i33 := by kernel_rfl
  t37 := Ybaf.underlying70
  a37 := Ybaf.isAgg70
  z37 := Ybaf.sizeOf70
  v37 := Ybaf.zeroValue70
  i37 := by kernel_rfl
  t45 := Ybaf.underlying41
  a45 := Ybaf.isAgg41
  z45 := Ybaf.sizeOf41
  v45 := Ybaf.zeroValue41
  i45 := by kernel_rfl }
open Go.RowKit in
theorem Ybaf.binary_BE_PutUint64 (g o n c v : Nat) (hv : v < 18446744073709551616) (x0 x1 x2 x3 x4 x5 x6 x7 : Value) (w : World) (hn : 8 ≤ n) (c0 : w.cell? ⟨g, o, none⟩ = some x0) (c1 : w.cell? ⟨g, o + 1, none⟩ = some x1) (c2 : w.cell? ⟨g, o + 2, none⟩ = some x2) (c3 : w.cell? ⟨g, o + 3, none⟩ = some x3) (c4 : w.cell? ⟨g, o + 4, none⟩ = some x4) (c5 : w.cell? ⟨g, o + 5, none⟩ = some x5) (c6 : w.cell? ⟨g, o + 6, none⟩ = some x6) (c7 : w.cell? ⟨g, o + 7, none⟩ = some x7) (f0 : w.frozen? ⟨g, o, none⟩ = false) (f1 : w.frozen? ⟨g, o + 1, none⟩ = false) (f2 : w.frozen? ⟨g, o + 2, none⟩ = false) (f3 : w.frozen? ⟨g, o + 3, none⟩ = false) (f4 : w.frozen? ⟨g, o + 4, none⟩ = false) (f5 : w.frozen? ⟨g, o + 5, none⟩ = false) (f6 : w.frozen? ⟨g, o + 6, none⟩ = false) (f7 : w.frozen? ⟨g, o + 7, none⟩ = false) :
    Calls Ybaf.prog 40 #[.agg #[], .slice (some ⟨g, o, none⟩) n c, .int .u64 v] w fun e w' => e = .returned (.tuple #[]) ∧ w' = (w.alloc (.cells #[] 70)).setCells g o (Lib.byteCells (Lib.beBytes 8 v)) := Any.binary_BE_PutUint64 Ybaf.laysBin43 g o n c v hv x0 x1 x2 x3 x4 x5 x6 x7 w hn c0 c1 c2 c3 c4 c5 c6 c7 f0 f1 f2 f3 f4 f5 f6 f7
def Ybaf.laysSlE43_f14_ren : Go.Shelf.Ren := ⟨fun | 43 => 14 | n => n, fun | 22 => 22 | 23 => 2 | 3 => 3 | 4 => 4 | 0 => 0 | n => n, fun | n => n⟩
theorem Ybaf.laysSlE43_f14 : Go.Proofs.SlLaysE.n43 Ybaf.prog Ybaf.laysSlE43_f14_ren := {
  mixed := by kernel_rfl
  f43 := ⟨Ybaf.f14.name, by decide, Ybaf.func14.trans (congrArg some (by kernel_rfl))⟩
  t0 := Ybaf.underlying0
  a0 := Ybaf.isAgg0
  z0 := Ybaf.sizeOf0
  v0 := Ybaf.zeroValue0
  t3 := Ybaf.underlying3
  a3 := Ybaf.isAgg3
  z3 := Ybaf.sizeOf3
  v3 := Ybaf.zeroValue3
  t4 := Ybaf.underlying4
  a4 := Ybaf.isAgg4
  z4 := Ybaf.sizeOf4
  v4 := Ybaf.zeroValue4
  t22 := Ybaf.underlying22
  a22 := Ybaf.isAgg22
  z22 := Ybaf.sizeOf22
  v22 := Ybaf.zeroValue22
  a23 := Ybaf.isAgg2
  z23 := Ybaf.sizeOf2 }
open Go.RowKit Go.Lib Go.Sort in
theorem Ybaf.slices_Compact {α : Type} [Inhabited α] [DecidableEq α] (enc : α → Value) (hO : OneCell enc) (heq : EqlAt Ybaf.prog 2 enc (fun x y => decide (x = y))) (hne : NeqAt Ybaf.prog 2 enc (fun x y => decide (x = y))) (zr : α) (v23 : ∀ w, (zeroValue 2).run Ybaf.prog w = .ok (enc zr) w) (blk off cap : Nat) (d : Array α) (w : World) (hH : Holds enc w blk off d) (hsz : d.size ≤ 9223372036854775807) (hcap : d.size ≤ cap) :
    Calls Ybaf.prog 14 #[.slice (some ⟨blk, off, none⟩) d.size cap] w fun e w' => e = .returned (.slice (some ⟨blk, off, none⟩) (compactUpTo d d.size).length cap) ∧ ∃ q, w' = putRow enc (Sort.ahead w q) blk off (compactUpTo d d.size ++ List.replicate (d.size - (compactUpTo d d.size).length) zr).toArray := AnyE.slices_Compact Ybaf.laysSlE43_f14 enc hO heq hne zr v23 blk off cap d w hH hsz hcap
def Ybaf.laysSlE041_f11_ren : Go.Shelf.Ren := ⟨fun | 41 => 11 | n => n, fun | 22 => 22 | 23 => 2 | 4 => 4 | n => n, fun | n => n⟩
theorem Ybaf.laysSlE041_f11 : Go.Proofs.SlLaysE0.n41 Ybaf.prog Ybaf.laysSlE041_f11_ren := {
  mixed := by kernel_rfl
  f41 := ⟨Ybaf.f11.name, by decide, Ybaf.func11.trans (congrArg some (by kernel_rfl))⟩
  t4 := Ybaf.underlying4
  a4 := Ybaf.isAgg4
  z4 := Ybaf.sizeOf4
  v4 := Ybaf.zeroValue4
  t22 := Ybaf.underlying22
  a22 := Ybaf.isAgg22
  z22 := Ybaf.sizeOf22
  v22 := Ybaf.zeroValue22 }
open Go.RowKit Go.Lib in
theorem Ybaf.slices_Clone (i0 : TypeInfo) (z : Value) (size bytes : Nat) (hi : Ybaf.prog.info? 2 = some i0) (hz0 : i0.zero = some z) (hz1 : i0.size = size) (hz2 : i0.bytes = bytes) (hzs : z.cells.size = size) (hsz : 0 < size) (z23 : ∀ w, (Go.sizeOf 2).run Ybaf.prog w = .ok size w) (b off n c : Nat) (news : List Value) (w : World) (hl : news.length = n * size) (hn : n ≤ maxLen) (hbig : n * bytes ≤ 140737488355328) (hc : ∀ j u, news[j]? = some u → w.cell? ⟨b, off + j, none⟩ = some u) (h1 : ∀ u ∈ news, u.oneCell' = true) :
    Calls Ybaf.prog 11 #[.slice (some ⟨b, off, none⟩) n c] w fun e w' => ∃ v', e = .returned v' ∧ w'.ownsRow w.heap.size 2 size v' n news ∧ v' ≠ .slice none 0 0 ∧ Below w.heap.size w w' := AnyE.slices_Clone Ybaf.laysSlE041_f11 i0 z size bytes hi hz0 hz1 hz2 hzs hsz z23 b off n c news w hl hn hbig hc h1
open Go.RowKit Go.Lib in
theorem Ybaf.slices_Clone_nil (n c : Nat) (w : World) :
    Calls Ybaf.prog 11 #[.slice none n c] w fun e w' => e = .returned (.slice none 0 0) ∧ w' = w := AnyE.slices_Clone_nil Ybaf.laysSlE041_f11 n c w
def Ybaf.laysSlM5_f12_ren : Go.Shelf.Ren := ⟨fun | 5 => 12 | 8 => 19 | 7 => 18 | 19 => 36 | 20 => 37 | 10 => 27 | 11 => 28 | 12 => 29 | 13 => 30 | 14 => 31 | 15 => 32 | 16 => 33 | 17 => 34 | 18 => 35 | 30 => 42 | 31 => 43 | 32 => 44 | 33 => 45 | 34 => 46 | 35 => 47 | 40 => 50 | n => n, fun | 23 => 22 | 25 => 2 | 3 => 3 | 32 => 41 | 22 => 22 | 0 => 0 | 44 => 65 | 46 => 67 | 4 => 4 | 36 => 57 | 35 => 56 | 41 => 62 | 5 => 5 | 9 => 9 | 53 => 77 | 57 => 81 | 63 => 86 | 64 => 87 | n => n, fun | n => n⟩
theorem Ybaf.laysSlM5_f12 : Go.Proofs.SlLaysM.n5 Ybaf.prog Ybaf.laysSlM5_f12_ren := {
  mixed := by kernel_rfl
  f5 := ⟨Ybaf.f12.name, by decide, Ybaf.func12.trans (congrArg some (by kernel_rfl))⟩
  f7 := ⟨Ybaf.f18.name, by decide, Ybaf.func18.trans (congrArg some (by kernel_rfl))⟩
  f8 := Ybaf.func19.trans (congrArg some (by kernel_rfl))
  f10 := ⟨Ybaf.f27.name, by decide, Ybaf.func27.trans (congrArg some (by kernel_rfl))⟩
  f11 := ⟨Ybaf.f28.name, by decide, Ybaf.func28.trans (congrArg some (by kernel_rfl))⟩
  f12 := ⟨Ybaf.f29.name, by decide, Ybaf.func29.trans (congrArg some (by kernel_rfl))⟩
  f13 := ⟨Ybaf.f30.name, by decide, Ybaf.func30.trans (congrArg some (by kernel_rfl))⟩
  f14 := ⟨Ybaf.f31.name, by decide, Ybaf.func31.trans (congrArg some (by kernel_rfl))⟩
  f15 := ⟨Ybaf.f32.name, by decide, Ybaf.func32.trans (congrArg some (by kernel_rfl))⟩
  f16 := ⟨Ybaf.f33.name, by decide, Ybaf.func33.trans (congrArg some (by kernel_rfl))⟩
  f17 := ⟨Ybaf.f34.name, by decide, Ybaf.func34.trans (congrArg some (by kernel_rfl))⟩
  f18 := ⟨Ybaf.f35.name, by decide, Ybaf.func35.trans (congrArg some (by kernel_rfl))⟩
  f19 := Ybaf.func36.trans (congrArg some (by kernel_rfl))
  f20 := Ybaf.func37.trans (congrArg some (by kernel_rfl))
  f30 := ⟨Ybaf.f42.name, by decide, Ybaf.func42.trans (congrArg some (by kernel_rfl))⟩
  f31 := Ybaf.func43.trans (congrArg some (by kernel_rfl))
  f32 := Ybaf.func44.trans (congrArg some (by kernel_rfl))
  f33 := ⟨Ybaf.f45.name, by decide, Ybaf.func45.trans (congrArg some (by kernel_rfl))⟩
  f34 := ⟨Ybaf.f46.name, by decide, Ybaf.func46.trans (congrArg some (by kernel_rfl))⟩
  f35 := ⟨Ybaf.f47.name, by decide, Ybaf.func47.trans (congrArg some (by kernel_rfl))⟩
  f40 := ⟨Ybaf.f50.name, by decide, Ybaf.func50.trans (congrArg some (by kernel_rfl))⟩
  t0 := Ybaf.underlying0
  a0 := Ybaf.isAgg0
  z0 := Ybaf.sizeOf0
  v0 := Ybaf.zeroValue0
  t3 := Ybaf.underlying3
  a3 := Ybaf.isAgg3
  z3 := Ybaf.sizeOf3
  v3 := Ybaf.zeroValue3
  t4 := Ybaf.underlying4
  a4 := Ybaf.isAgg4
  z4 := Ybaf.sizeOf4
  v4 := Ybaf.zeroValue4
  t5 := Ybaf.underlying5
  a5 := Ybaf.isAgg5
  z5 := Ybaf.sizeOf5
  v5 := Ybaf.zeroValue5
  t9 := Ybaf.underlying9
  a9 := Ybaf.isAgg9
  z9 := Ybaf.sizeOf9
  v9 := Ybaf.zeroValue9
  t22 := Ybaf.underlying22
  a22 := Ybaf.isAgg22
  z22 := Ybaf.sizeOf22
  v22 := Ybaf.zeroValue22
  t23 := Ybaf.underlying22
  a23 := Ybaf.isAgg22
  z23 := Ybaf.sizeOf22
  v23 := Ybaf.zeroValue22
  t25 := Ybaf.underlying2
  a25 := Ybaf.isAgg2
  z25 := Ybaf.sizeOf2
  v25 := Ybaf.zeroValue2
  t32 := Ybaf.underlying41
  a32 := Ybaf.isAgg41
  z32 := Ybaf.sizeOf41
  v32 := Ybaf.zeroValue41
  t35 := Ybaf.underlying56
  a35 := Ybaf.isAgg56
  z35 := Ybaf.sizeOf56
  v35 := Ybaf.zeroValue56
  t36 := Ybaf.underlying57
  a36 := Ybaf.isAgg57
  z36 := Ybaf.sizeOf57
  v36 := Ybaf.zeroValue57
  t41 := Ybaf.underlying62
  a41 := Ybaf.isAgg62
  z41 := Ybaf.sizeOf62
  v41 := Ybaf.zeroValue62
  t44 := Ybaf.underlying65
  a44 := Ybaf.isAgg65
  z44 := Ybaf.sizeOf65
  v44 := Ybaf.zeroValue65
  t46 := Ybaf.underlying67
  a46 := Ybaf.isAgg67
  z46 := Ybaf.sizeOf67
  v46 := Ybaf.zeroValue67
  t53 := Ybaf.underlying77
  a53 := Ybaf.isAgg77
  z53 := Ybaf.sizeOf77
  v53 := Ybaf.zeroValue77
  t57 := Ybaf.underlying81
  a57 := Ybaf.isAgg81
  z57 := Ybaf.sizeOf81
  v57 := Ybaf.zeroValue81
  t63 := Ybaf.underlying86
  a63 := Ybaf.isAgg86
  z63 := Ybaf.sizeOf86
  v63 := Ybaf.zeroValue86
  t64 := Ybaf.underlying87
  a64 := Ybaf.isAgg87
  z64 := Ybaf.sizeOf87
  v64 := Ybaf.zeroValue87 }
open Go.Sort Go.RowKit in
theorem Ybaf.slices_Sort_int (blk off cap : Nat) (zs : List Int) (w : World) (hH : Holds (Value.int .i64) w blk off zs.toArray) (hblk : blk < w.heap.size) (hsz : zs.length < 4611686018427387904) :
    Calls Ybaf.prog 12 #[.slice (some ⟨blk, off, none⟩) zs.length cap] w fun e w' =>
      e = .returned (.tuple #[]) ∧ ∃ n os, w' = grow (putRow (Value.int .i64) (Sort.ahead w n) blk off (zs.mergeSort fun x y => decide (x ≤ y)).toArray) os := AnyM.slices_Sort_int Ybaf.laysSlM5_f12 blk off cap zs w hH hblk hsz
open Go.RowKit Go.Sort in
theorem Ybaf.slices_Sort_int_none (p : Option Addr) (cap : Nat) (w : World) :
    Calls Ybaf.prog 12 #[.slice p 0 cap] w fun e w' => e = .returned (.tuple #[]) ∧ w' = w := AnyM.slices_Sort_int_none Ybaf.laysSlM5_f12 p cap w
end Go.Proofs
