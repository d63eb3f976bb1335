/-
  The contracts of the Go library's functions on the road, laid at this program's own numbers (in plain words).
-/
import Derived.Shelf.Bytes.Small
import Derived.Shelf.Bytes.IndexByte
import Derived.Test.Qxb6613793aDoorProg
namespace Go.Proofs
open Go.Shelf
def Tryd.lays115_ren : Go.Shelf.Ren := ⟨fun | 115 => 53 | n => n, fun | 37 => 22 | 4 => 4 | 9 => 9 | 5 => 5 | n => n, fun | n => n⟩
theorem Tryd.lays115 : Go.Proofs.Lays.n115 Tryd.prog Tryd.lays115_ren := {
  mixed := by kernel_rfl
  f115 := Tryd.func53.trans (congrArg some (by kernel_rfl))
  t4 := Tryd.underlying4
  a4 := Tryd.isAgg4
  z4 := Tryd.sizeOf4
  v4 := Tryd.zeroValue4
  t9 := Tryd.underlying9
  a9 := Tryd.isAgg9
  z9 := Tryd.sizeOf9
  v9 := Tryd.zeroValue9
  t37 := Tryd.underlying22
  a37 := Tryd.isAgg22
  z37 := Tryd.sizeOf22
  v37 := Tryd.zeroValue22 }
theorem Tryd.bytes_Equal (v1 v2 : Value) (xs ys : List Int) (w : World) (h1 : (convert 22 9 v1).run Tryd.prog w = .ok (.string (strOfNums xs)) w) (h2 : (convert 22 9 v2).run Tryd.prog w = .ok (.string (strOfNums ys)) w) :
    Calls Tryd.prog 53 #[v1, v2] w fun e w' => e = .returned (.bool (Lib.bytesOf xs == Lib.bytesOf ys)) ∧ w' = w := Any.bytes_Equal Tryd.lays115 v1 v2 xs ys w h1 h2
def Tryd.laysnb117_ren : Go.Shelf.Ren := ⟨fun | 117 => 47 | 115 => 53 | n => n, fun | 37 => 22 | 4 => 4 | 3 => 3 | 9 => 9 | 5 => 5 | n => n, fun | n => n⟩
theorem Tryd.laysnb117 : Go.Proofs.Lays.nb117 Tryd.prog Tryd.laysnb117_ren := {
  mixed := by kernel_rfl
  f115 := Tryd.func53.trans (congrArg some (by kernel_rfl))
  f117 := Tryd.func47.trans (congrArg some (by kernel_rfl))
  t3 := Tryd.underlying3
  a3 := Tryd.isAgg3
  z3 := Tryd.sizeOf3
  v3 := Tryd.zeroValue3
  t4 := Tryd.underlying4
  a4 := Tryd.isAgg4
  z4 := Tryd.sizeOf4
  v4 := Tryd.zeroValue4
  t9 := Tryd.underlying9
  a9 := Tryd.isAgg9
  z9 := Tryd.sizeOf9
  v9 := Tryd.zeroValue9
  t37 := Tryd.underlying22
  a37 := Tryd.isAgg22
  z37 := Tryd.sizeOf22
  v37 := Tryd.zeroValue22
  t5 := Tryd.underlying5
  a5 := Tryd.isAgg5
  z5 := Tryd.sizeOf5
  v5 := Tryd.zeroValue5 }
theorem Tryd.bytes_HasSuffix (b1 o1 n c b2 o2 m d : Nat) (xs ys : List Int) (w : World) (hx : xs.length = n) (hy : ys.length = m) (hnc : n ≤ c) (hbig : n ≤ 9223372036854775807) (hc1 : ∀ i, i < n → w.cell? ⟨b1, o1 + i, none⟩ = some (.int .u8 (xs.getD i 0))) (hc2 : ∀ i, i < m → w.cell? ⟨b2, o2 + i, none⟩ = some (.int .u8 (ys.getD i 0))) :
    Calls Tryd.prog 47 #[.slice (some ⟨b1, o1, none⟩) n c, .slice (some ⟨b2, o2, none⟩) m d] w fun e w' => e = .returned (.bool (Lib.hasSuffix (Lib.bytesOf xs) (Lib.bytesOf ys))) ∧ w' = w := Any.bytes_HasSuffix Tryd.laysnb117 b1 o1 n c b2 o2 m d xs ys w hx hy hnc hbig hc1 hc2
def Tryd.laysnb140_ren : Go.Shelf.Ren := ⟨fun | 140 => 42 | 117 => 47 | 115 => 53 | n => n, fun | 37 => 22 | 4 => 4 | 3 => 3 | 9 => 9 | 5 => 5 | n => n, fun | n => n⟩
theorem Tryd.laysnb140 : Go.Proofs.Lays.nb140 Tryd.prog Tryd.laysnb140_ren := {
  mixed := by kernel_rfl
  f115 := Tryd.func53.trans (congrArg some (by kernel_rfl))
  f117 := Tryd.func47.trans (congrArg some (by kernel_rfl))
  f140 := Tryd.func42.trans (congrArg some (by kernel_rfl))
  t3 := Tryd.underlying3
  a3 := Tryd.isAgg3
  z3 := Tryd.sizeOf3
  v3 := Tryd.zeroValue3
  t4 := Tryd.underlying4
  a4 := Tryd.isAgg4
  z4 := Tryd.sizeOf4
  v4 := Tryd.zeroValue4
  t9 := Tryd.underlying9
  a9 := Tryd.isAgg9
  z9 := Tryd.sizeOf9
  v9 := Tryd.zeroValue9
  t37 := Tryd.underlying22
  a37 := Tryd.isAgg22
  z37 := Tryd.sizeOf22
  v37 := Tryd.zeroValue22
  t5 := Tryd.underlying5
  a5 := Tryd.isAgg5
  z5 := Tryd.sizeOf5
  v5 := Tryd.zeroValue5 }
theorem Tryd.bytes_TrimSuffix (b1 o1 n c b2 o2 m d : Nat) (xs ys : List Int) (w : World) (hx : xs.length = n) (hy : ys.length = m) (hnc : n ≤ c) (hbig : n ≤ 9223372036854775807) (hc1 : ∀ i, i < n → w.cell? ⟨b1, o1 + i, none⟩ = some (.int .u8 (xs.getD i 0))) (hc2 : ∀ i, i < m → w.cell? ⟨b2, o2 + i, none⟩ = some (.int .u8 (ys.getD i 0))) :
    Calls Tryd.prog 42 #[.slice (some ⟨b1, o1, none⟩) n c, .slice (some ⟨b2, o2, none⟩) m d] w fun e w' => e = .returned (Lib.bytesTrimSuffix b1 o1 n c xs ys) ∧ w' = w := Any.bytes_TrimSuffix Tryd.laysnb140 b1 o1 n c b2 o2 m d xs ys w hx hy hnc hbig hc1 hc2
def Tryd.lays187_ren : Go.Shelf.Ren := ⟨fun | 187 => 49 | 255 => 54 | n => n, fun | 37 => 22 | 5 => 5 | 3 => 3 | n => n, fun | n => n⟩
theorem Tryd.lays187 : Go.Proofs.Lays.n187 Tryd.prog Tryd.lays187_ren := {
  mixed := by kernel_rfl
  f187 := Tryd.func49.trans (congrArg some (by kernel_rfl))
  f255 := Tryd.func54.trans (congrArg some (by kernel_rfl))
  t3 := Tryd.underlying3
  a3 := Tryd.isAgg3
  z3 := Tryd.sizeOf3
  v3 := Tryd.zeroValue3
  t5 := Tryd.underlying5
  a5 := Tryd.isAgg5
  z5 := Tryd.sizeOf5
  v5 := Tryd.zeroValue5
  t37 := Tryd.underlying22
  a37 := Tryd.isAgg22
  z37 := Tryd.sizeOf22
  v37 := Tryd.zeroValue22 }
theorem Tryd.bytes_IndexByte (b o n c : Nat) (xs : List Int) (cv : Int) (w : World) (hx : xs.length = n) (hc : ∀ i, i < n → w.cell? ⟨b, o + i, none⟩ = some (.int .u8 (xs.getD i 0))) :
    Calls Tryd.prog 49 #[.slice (some ⟨b, o, none⟩) n c, .int .u8 cv] w fun e w' => e = .returned (.int .i64 (Lib.indexByte (Lib.bytesOf xs) cv.toNat.toUInt8)) ∧ w' = w := Any.bytes_IndexByte Tryd.lays187 b o n c xs cv w hx hc
theorem Tryd.bytes_IndexByte_nil (cv : Int) (w : World) :
    Calls Tryd.prog 49 #[.slice none 0 0, .int .u8 cv] w fun e w' => e = .returned (.int .i64 (-1)) ∧ w' = w := Any.bytes_IndexByte_nil Tryd.lays187 cv w
end Go.Proofs
