import Derived.Shelf.Strings.Search1
import Derived.Shelf.Bytes.SlIndexSmall
import Derived.Shelf.Bytes.SlIndexAt
import Derived.Shelf.Bytes.SlSearch0
import Derived.Shelf.Bytes.Small
import Derived.Shelf.Bytes.IndexByte
import Derived.Test.Qxb6001093aProg
namespace Go.Proofs
open Go.Shelf
def Try.lays224_ren : Go.Shelf.Ren := ⟨fun | 224 => 40 | n => n, fun | 3 => 3 | n => n, fun | n => n⟩
theorem Try.lays224 : Go.Proofs.Lays.n224 Try.prog Try.lays224_ren := {
  mixed := by kernel_rfl
  f224 := Try.func40.trans (congrArg some (by kernel_rfl))
  t3 := Try.underlying3
  a3 := Try.isAgg3
  z3 := Try.sizeOf3
  v3 := Try.zeroValue3 }
open Go.RowKit Go.Lib in
theorem Try.bytealg_Cutover (n : Int) (h0 : 0 ≤ n) (h1 : n < 4611686018427387904) (w : World) :
    Calls Try.prog 40 #[.int .i64 n] w fun e w' => e = .returned (.int .i64 ((n + 16) / 8)) ∧ w' = w := Any.bytealg_Cutover Try.lays224 n h0 h1 w
def Try.lays185_ren : Go.Shelf.Ren := ⟨fun | 185 => 34 | 187 => 35 | 115 => 38 | 253 => 39 | 224 => 40 | 254 => 41 | 255 => 42 | 291 => 43 | n => n, fun | 37 => 22 | 3 => 3 | 4 => 4 | 0 => 0 | 5 => 5 | 46 => 58 | 9 => 9 | 146 => 60 | 51 => 59 | n => n, fun | 1 => 0 | n => n⟩
theorem Try.lays185 : Go.Proofs.Lays.n185 Try.prog Try.lays185_ren := {
  mixed := by kernel_rfl
  f115 := Try.func38.trans (congrArg some (by kernel_rfl))
  f185 := Try.func34.trans (congrArg some (by kernel_rfl))
  f187 := Try.func35.trans (congrArg some (by kernel_rfl))
  f224 := Try.func40.trans (congrArg some (by kernel_rfl))
  f253 := Try.func39.trans (congrArg some (by kernel_rfl))
  f254 := Try.func41.trans (congrArg some (by kernel_rfl))
  f255 := Try.func42.trans (congrArg some (by kernel_rfl))
  f291 := Try.func43.trans (congrArg some (by kernel_rfl))
  t0 := Try.underlying0
  a0 := Try.isAgg0
  z0 := Try.sizeOf0
  v0 := Try.zeroValue0
  t3 := Try.underlying3
  a3 := Try.isAgg3
  z3 := Try.sizeOf3
  v3 := Try.zeroValue3
  t4 := Try.underlying4
  a4 := Try.isAgg4
  z4 := Try.sizeOf4
  v4 := Try.zeroValue4
  t5 := Try.underlying5
  a5 := Try.isAgg5
  z5 := Try.sizeOf5
  v5 := Try.zeroValue5
  t9 := Try.underlying9
  a9 := Try.isAgg9
  z9 := Try.sizeOf9
  v9 := Try.zeroValue9
  t37 := Try.underlying22
  a37 := Try.isAgg22
  z37 := Try.sizeOf22
  v37 := Try.zeroValue22
  t46 := Try.underlying58
  a46 := Try.isAgg58
  z46 := Try.sizeOf58
  v46 := Try.zeroValue58
  t51 := Try.underlying59
  a51 := Try.isAgg59
  z51 := Try.sizeOf59
  v51 := Try.zeroValue59
  t146 := Try.underlying60
  a146 := Try.isAgg60
  z146 := Try.sizeOf60
  v146 := Try.zeroValue60
  g1 := by kernel_rfl }
open Go.RowKit Go.Lib in
theorem Try.bytes_Index_one (b o n c b2 o2 d : Nat) (xs : List Int) (cv : Int) (w : World) (hx : xs.length = n) (hc : ∀ i, i < n → w.cell? ⟨b, o + i, none⟩ = some (.int .u8 (xs.getD i 0))) (hc2 : w.cell? ⟨b2, o2, none⟩ = some (.int .u8 cv)) :
    Calls Try.prog 34 #[.slice (some ⟨b, o, none⟩) n c, .slice (some ⟨b2, o2, none⟩) 1 d] w fun e w' => e = .returned (.int .i64 (Lib.indexByte (Lib.bytesOf xs) cv.toNat.toUInt8)) ∧ w' = w := Any.bytes_Index_one Try.lays185 b o n c b2 o2 d xs cv w hx hc hc2
open Go.RowKit Go.Lib in
theorem Try.bytes_Index_one_nil (b2 o2 d : Nat) (cv : Int) (w : World) (hc2 : w.cell? ⟨b2, o2, none⟩ = some (.int .u8 cv)) :
    Calls Try.prog 34 #[.slice none 0 0, .slice (some ⟨b2, o2, none⟩) 1 d] w fun e w' => e = .returned (.int .i64 (-1)) ∧ w' = w := Any.bytes_Index_one_nil Try.lays185 b2 o2 d cv w hc2
open Go.RowKit Go.Lib in
theorem Try.bytes_Index_none (p q : Option Addr) (n c d : Nat) (w : World) :
    Calls Try.prog 34 #[.slice p n c, .slice q 0 d] w fun e w' => e = .returned (.int .i64 0) ∧ w' = w := Any.bytes_Index_none Try.lays185 p q n c d w
open Go.RowKit Go.Lib in
theorem Try.bytes_Index_longer (p q : Option Addr) (n c m d : Nat) (w : World) (h2 : 2 ≤ m) (hnm : n < m) (hm : m ≤ 9223372036854775807) :
    Calls Try.prog 34 #[.slice p n c, .slice q m d] w fun e w' => e = .returned (.int .i64 (-1)) ∧ w' = w := Any.bytes_Index_longer Try.lays185 p q n c m d w h2 hnm hm
open Go.RowKit Go.Lib in
theorem Try.bytes_Index_same (b o c b2 o2 d n : Nat) (xs ys : List Int) (w : World) (h2 : 2 ≤ n) (hm : n ≤ 9223372036854775807) (hx : xs.length = n) (hy : ys.length = n) (hc : ∀ i, i < n → w.cell? ⟨b, o + i, none⟩ = some (.int .u8 (xs.getD i 0))) (hc2 : ∀ i, i < n → w.cell? ⟨b2, o2 + i, none⟩ = some (.int .u8 (ys.getD i 0))) :
    Calls Try.prog 34 #[.slice (some ⟨b, o, none⟩) n c, .slice (some ⟨b2, o2, none⟩) n d] w fun e w' => e = .returned (.int .i64 (if Lib.bytesOf ys == Lib.bytesOf xs then 0 else -1)) ∧ w' = w := Any.bytes_Index_same Try.lays185 b o c b2 o2 d n xs ys w h2 hm hx hy hc hc2
def Try.lays187_ren : Go.Shelf.Ren := ⟨fun | 187 => 35 | 255 => 42 | n => n, fun | 37 => 22 | 5 => 5 | 3 => 3 | n => n, fun | n => n⟩
theorem Try.lays187 : Go.Proofs.Lays.n187 Try.prog Try.lays187_ren := {
  mixed := by kernel_rfl
  f187 := Try.func35.trans (congrArg some (by kernel_rfl))
  f255 := Try.func42.trans (congrArg some (by kernel_rfl))
  t3 := Try.underlying3
  a3 := Try.isAgg3
  z3 := Try.sizeOf3
  v3 := Try.zeroValue3
  t5 := Try.underlying5
  a5 := Try.isAgg5
  z5 := Try.sizeOf5
  v5 := Try.zeroValue5
  t37 := Try.underlying22
  a37 := Try.isAgg22
  z37 := Try.sizeOf22
  v37 := Try.zeroValue22 }
open Go.RowKit Go.Lib in
theorem Try.bytes_IndexByte_at (a : Addr) (n c : Nat) (xs : List Int) (cv : Int) (w : World) (hx : xs.length = n) (hc : ∀ i, i < n → w.cell? (a.add i) = some (.int .u8 (xs.getD i 0))) :
    Calls Try.prog 35 #[.slice (some a) n c, .int .u8 cv] w fun e w' => e = .returned (.int .i64 (Lib.indexByte (Lib.bytesOf xs) cv.toNat.toUInt8)) ∧ w' = w := Any.bytes_IndexByte_at Try.lays187 a n c xs cv w hx hc
open Go.RowKit Go.Lib in
theorem Try.bytes_Index_one_at (a : Addr) (n c b2 o2 d : Nat) (xs : List Int) (cv : Int) (w : World) (hx : xs.length = n) (hc : ∀ i, i < n → w.cell? (a.add i) = some (.int .u8 (xs.getD i 0))) (hc2 : w.cell? ⟨b2, o2, none⟩ = some (.int .u8 cv)) :
    Calls Try.prog 34 #[.slice (some a) n c, .slice (some ⟨b2, o2, none⟩) 1 d] w fun e w' => e = .returned (.int .i64 (Lib.indexByte (Lib.bytesOf xs) cv.toNat.toUInt8)) ∧ w' = w := Any.bytes_Index_one_at Try.lays185 a n c b2 o2 d xs cv w hx hc hc2
open Go.Proofs Go.RowKit Go.Lib in
theorem Try.bytes_IndexByte_bytes (b o cap : Nat) (t : ByteArray) (cv : Int) (w : World) (hc : Lib.Bytes w b o t) :
    Calls Try.prog 35 #[.slice (some ⟨b, o, none⟩) t.size cap, .int .u8 cv] w fun e w' => e = .returned (.int .i64 (Lib.indexByte t.data.toList cv.toNat.toUInt8)) ∧ w' = w := Any.bytes_IndexByte_bytes Try.lays187 b o cap t cv w hc
def Try.lays115_ren : Go.Shelf.Ren := ⟨fun | 115 => 38 | n => n, fun | 37 => 22 | 4 => 4 | 9 => 9 | 5 => 5 | n => n, fun | n => n⟩
theorem Try.lays115 : Go.Proofs.Lays.n115 Try.prog Try.lays115_ren := {
  mixed := by kernel_rfl
  f115 := Try.func38.trans (congrArg some (by kernel_rfl))
  t4 := Try.underlying4
  a4 := Try.isAgg4
  z4 := Try.sizeOf4
  v4 := Try.zeroValue4
  t9 := Try.underlying9
  a9 := Try.isAgg9
  z9 := Try.sizeOf9
  v9 := Try.zeroValue9
  t37 := Try.underlying22
  a37 := Try.isAgg22
  z37 := Try.sizeOf22
  v37 := Try.zeroValue22 }
open Go.Proofs Go.RowKit Go.Lib in
theorem Try.bytes_Equal_strs (v1 v2 : Value) (t1 t2 : ByteArray) (w : World) (h1 : (convert 22 9 v1).run Try.prog w = .ok (.string t1) w) (h2 : (convert 22 9 v2).run Try.prog w = .ok (.string t2) w) :
    Calls Try.prog 38 #[v1, v2] w fun e w' => e = .returned (.bool (t1.toList == t2.toList)) ∧ w' = w := Any.bytes_Equal_strs Try.lays115 v1 v2 t1 t2 w h1 h2
theorem Try.bytes_Equal (v1 v2 : Value) (xs ys : List Int) (w : World) (h1 : (convert 22 9 v1).run Try.prog w = .ok (.string (strOfNums xs)) w) (h2 : (convert 22 9 v2).run Try.prog w = .ok (.string (strOfNums ys)) w) :
    Calls Try.prog 38 #[v1, v2] w fun e w' => e = .returned (.bool (Lib.bytesOf xs == Lib.bytesOf ys)) ∧ w' = w := Any.bytes_Equal Try.lays115 v1 v2 xs ys w h1 h2
def Try.laysnb116_ren : Go.Shelf.Ren := ⟨fun | 116 => 32 | 115 => 38 | n => n, fun | 37 => 22 | 4 => 4 | 3 => 3 | 9 => 9 | 5 => 5 | n => n, fun | n => n⟩
theorem Try.laysnb116 : Go.Proofs.Lays.nb116 Try.prog Try.laysnb116_ren := {
  mixed := by kernel_rfl
  f115 := Try.func38.trans (congrArg some (by kernel_rfl))
  f116 := Try.func32.trans (congrArg some (by kernel_rfl))
  t3 := Try.underlying3
  a3 := Try.isAgg3
  z3 := Try.sizeOf3
  v3 := Try.zeroValue3
  t4 := Try.underlying4
  a4 := Try.isAgg4
  z4 := Try.sizeOf4
  v4 := Try.zeroValue4
  t9 := Try.underlying9
  a9 := Try.isAgg9
  z9 := Try.sizeOf9
  v9 := Try.zeroValue9
  t37 := Try.underlying22
  a37 := Try.isAgg22
  z37 := Try.sizeOf22
  v37 := Try.zeroValue22
  t5 := Try.underlying5
  a5 := Try.isAgg5
  z5 := Try.sizeOf5
  v5 := Try.zeroValue5 }
theorem Try.bytes_HasPrefix (b1 o1 n c b2 o2 m d : Nat) (xs ys : List Int) (w : World) (hx : xs.length = n) (hy : ys.length = m) (hnc : n ≤ c) (hc1 : ∀ i, i < n → w.cell? ⟨b1, o1 + i, none⟩ = some (.int .u8 (xs.getD i 0))) (hc2 : ∀ i, i < m → w.cell? ⟨b2, o2 + i, none⟩ = some (.int .u8 (ys.getD i 0))) :
    Calls Try.prog 32 #[.slice (some ⟨b1, o1, none⟩) n c, .slice (some ⟨b2, o2, none⟩) m d] w fun e w' => e = .returned (.bool (Lib.hasPrefix (Lib.bytesOf xs) (Lib.bytesOf ys))) ∧ w' = w := Any.bytes_HasPrefix Try.laysnb116 b1 o1 n c b2 o2 m d xs ys w hx hy hnc hc1 hc2
theorem Try.bytes_IndexByte (b o n c : Nat) (xs : List Int) (cv : Int) (w : World) (hx : xs.length = n) (hc : ∀ i, i < n → w.cell? ⟨b, o + i, none⟩ = some (.int .u8 (xs.getD i 0))) :
    Calls Try.prog 35 #[.slice (some ⟨b, o, none⟩) n c, .int .u8 cv] w fun e w' => e = .returned (.int .i64 (Lib.indexByte (Lib.bytesOf xs) cv.toNat.toUInt8)) ∧ w' = w := Any.bytes_IndexByte Try.lays187 b o n c xs cv w hx hc
theorem Try.bytes_IndexByte_nil (cv : Int) (w : World) :
    Calls Try.prog 35 #[.slice none 0 0, .int .u8 cv] w fun e w' => e = .returned (.int .i64 (-1)) ∧ w' = w := Any.bytes_IndexByte_nil Try.lays187 cv w
end Go.Proofs
