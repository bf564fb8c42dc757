/- The shelf's contracts at this program (written by the kit's tools, cut to the four that are used): math/bits.LeadingZeros32, LeadingZeros64; (bigEndian).Uint32, Uint64. -/
import Derived.Shelf.Small.Bits
import Derived.Ground.MnProg
import Derived.Shelf.Bin.BEUint32
import Derived.Shelf.Bin.BEUint64
import Derived.Shelf.Bin.ReadersZ
import Derived.Test.YbulkeeroProg
namespace Go.Proofs
open Go.Shelf
def Yba.lays133_ren : Go.Shelf.Ren := ⟨fun | 133 => 49 | 128 => 39 | n => n, fun | 51 => 23 | 3 => 3 | 4 => 4 | 46 => 106 | 5 => 5 | 9 => 9 | n => n, fun | n => n⟩
theorem Yba.lays133 : Go.Proofs.Lays.n133 Yba.prog Yba.lays133_ren := {
  mixed := by kernel_rfl
  f128 := Yba.func39.trans (congrArg some (by kernel_rfl))
  f133 := Yba.func49.trans (congrArg some (by kernel_rfl))
  t3 := Yba.underlying3
  a3 := Yba.isAgg3
  z3 := Yba.sizeOf3
  v3 := Yba.zeroValue3
  t4 := Yba.underlying4
  a4 := Yba.isAgg4
  z4 := Yba.sizeOf4
  v4 := Yba.zeroValue4
  t5 := Yba.underlying5
  a5 := Yba.isAgg5
  z5 := Yba.sizeOf5
  v5 := Yba.zeroValue5
  t9 := Yba.underlying9
  a9 := Yba.isAgg9
  z9 := Yba.sizeOf9
  v9 := Yba.zeroValue9
  t46 := Yba.underlying106
  a46 := Yba.isAgg106
  z46 := Yba.sizeOf106
  v46 := Yba.zeroValue106
  t51 := Yba.underlying23
  a51 := Yba.isAgg23
  z51 := Yba.sizeOf23
  v51 := Yba.zeroValue23 }
theorem Yba.bits_LeadingZeros32 (x : Int) (w : World) (h0 : 0 ≤ x) (h1 : x ≤ 4294967295) :
    Calls Yba.prog 49 #[.int .u32 x] w fun e w' => e = .returned (.int .i64 (32 - (Lib.bitLen x.toNat : Int))) ∧ w' = w := Any.bits_LeadingZeros32 Yba.lays133 x w h0 h1
def Yba.lays134_ren : Go.Shelf.Ren := ⟨fun | 134 => 47 | 129 => 40 | n => n, fun | 53 => 92 | 3 => 3 | 4 => 4 | 46 => 106 | 5 => 5 | 9 => 9 | n => n, fun | n => n⟩
theorem Yba.lays134 : Go.Proofs.Lays.n134 Yba.prog Yba.lays134_ren := {
  mixed := by kernel_rfl
  f129 := Yba.func40.trans (congrArg some (by kernel_rfl))
  f134 := Yba.func47.trans (congrArg some (by kernel_rfl))
  t3 := Yba.underlying3
  a3 := Yba.isAgg3
  z3 := Yba.sizeOf3
  v3 := Yba.zeroValue3
  t4 := Yba.underlying4
  a4 := Yba.isAgg4
  z4 := Yba.sizeOf4
  v4 := Yba.zeroValue4
  t5 := Yba.underlying5
  a5 := Yba.isAgg5
  z5 := Yba.sizeOf5
  v5 := Yba.zeroValue5
  t9 := Yba.underlying9
  a9 := Yba.isAgg9
  z9 := Yba.sizeOf9
  v9 := Yba.zeroValue9
  t46 := Yba.underlying106
  a46 := Yba.isAgg106
  z46 := Yba.sizeOf106
  v46 := Yba.zeroValue106
  t53 := Yba.underlying92
  a53 := Yba.isAgg92
  z53 := Yba.sizeOf92
  v53 := Yba.zeroValue92 }
theorem Yba.bits_LeadingZeros64 (x : Int) (w : World) (h0 : 0 ≤ x) (h1 : x ≤ 18446744073709551615) :
    Calls Yba.prog 47 #[.int .u64 x] w fun e w' => e = .returned (.int .i64 (64 - (Lib.bitLen x.toNat : Int))) ∧ w' = w := Any.bits_LeadingZeros64 Yba.lays134 x w h0 h1
def Yba.laysBin39_ren : Go.Shelf.Ren := ⟨fun | 39 => 48 | n => n, fun | 37 => 180 | 22 => 25 | 29 => 23 | 0 => 0 | 5 => 5 | 45 => 106 | n => n, fun | n => n⟩
theorem Yba.laysBin39 : Go.Proofs.LaysBin.n39 Yba.prog Yba.laysBin39_ren := {
  mixed := by kernel_rfl
  f39 := Yba.func48.trans (congrArg some (by kernel_rfl))
  t0 := Yba.underlying0
  a0 := Yba.isAgg0
  z0 := Yba.sizeOf0
  v0 := Yba.zeroValue0
  i0 := by kernel_rfl
  t5 := Yba.underlying5
  a5 := Yba.isAgg5
  z5 := Yba.sizeOf5
  v5 := Yba.zeroValue5
  i5 := by kernel_rfl
  t22 := Yba.underlying25
  a22 := Yba.isAgg25
  z22 := Yba.sizeOf25
  v22 := Yba.zeroValue25
  i22 := by kernel_rfl
  t29 := Yba.underlying23
  a29 := Yba.isAgg23
  z29 := Yba.sizeOf23
  v29 := Yba.zeroValue23
  i29 := by kernel_rfl
  t37 := Yba.underlying180
  a37 := Yba.isAgg180
  z37 := Yba.sizeOf180
  v37 := Yba.zeroValue180
  i37 := by kernel_rfl
  t45 := Yba.underlying106
  a45 := Yba.isAgg106
  z45 := Yba.sizeOf106
  v45 := Yba.zeroValue106
  i45 := by kernel_rfl }
def Yba.laysBin42_ren : Go.Shelf.Ren := ⟨fun | 42 => 46 | n => n, fun | 37 => 180 | 22 => 25 | 33 => 92 | 0 => 0 | 5 => 5 | 45 => 106 | n => n, fun | n => n⟩
theorem Yba.laysBin42 : Go.Proofs.LaysBin.n42 Yba.prog Yba.laysBin42_ren := {
  mixed := by kernel_rfl
  f42 := Yba.func46.trans (congrArg some (by kernel_rfl))
  t0 := Yba.underlying0
  a0 := Yba.isAgg0
  z0 := Yba.sizeOf0
  v0 := Yba.zeroValue0
  i0 := by kernel_rfl
  t5 := Yba.underlying5
  a5 := Yba.isAgg5
  z5 := Yba.sizeOf5
  v5 := Yba.zeroValue5
  i5 := by kernel_rfl
  t22 := Yba.underlying25
  a22 := Yba.isAgg25
  z22 := Yba.sizeOf25
  v22 := Yba.zeroValue25
  i22 := by kernel_rfl
  t33 := Yba.underlying92
  a33 := Yba.isAgg92
  z33 := Yba.sizeOf92
  v33 := Yba.zeroValue92
  i33 := by kernel_rfl
  t37 := Yba.underlying180
  a37 := Yba.isAgg180
  z37 := Yba.sizeOf180
  v37 := Yba.zeroValue180
  i37 := by kernel_rfl
  t45 := Yba.underlying106
  a45 := Yba.isAgg106
  z45 := Yba.sizeOf106
  v45 := Yba.zeroValue106
  i45 := by kernel_rfl }
open Go.RowKit in
theorem Yba.binary_BE_Uint32_z (a : Addr) (n c : Nat) (zs : List Int) (w : World) (hn : 4 ≤ n) (hl : 4 ≤ zs.length) (hcell : ∀ i, i < zs.length → w.cell? (a.add i) = some (.int .u8 (zs.getD i 0))) (hw : ∀ z ∈ zs, (Lit.int .u8 z).wf = true) :
    Calls Yba.prog 48 #[.agg #[], .slice (some a) n c] w fun e w' => e = .returned (.int .u32 (Lib.beZ (zs.take 4))) ∧ Below w.heap.size w w' := Any.binary_BE_Uint32_z Yba.laysBin39 a n c zs w hn hl hcell hw
open Go.RowKit in
theorem Yba.binary_BE_Uint64_z (a : Addr) (n c : Nat) (zs : List Int) (w : World) (hn : 8 ≤ n) (hl : 8 ≤ zs.length) (hcell : ∀ i, i < zs.length → w.cell? (a.add i) = some (.int .u8 (zs.getD i 0))) (hw : ∀ z ∈ zs, (Lit.int .u8 z).wf = true) :
    Calls Yba.prog 46 #[.agg #[], .slice (some a) n c] w fun e w' => e = .returned (.int .u64 (Lib.beZ (zs.take 8))) ∧ Below w.heap.size w w' := Any.binary_BE_Uint64_z Yba.laysBin42 a n c zs w hn hl hcell hw
end Go.Proofs
