/- Contracts of the library, laid by the kit at this seat: the writers of a buffer, its bytes, comparisons of bytes. -/
import Derived.Shelf.LaysM
import Derived.Shelf.Bytes.Bytes
import Derived.Shelf.Bytes.WriteByteKept
import Derived.Shelf.Bytes.WriteStringKept
import Derived.Shelf.Bytes.WriteKept
import Derived.Shelf.Bytes.BufferK
import Derived.Shelf.Bytes.WriteAny
import Derived.Shelf.Bytes.SlSearch0
import Derived.Shelf.Bytes.Small
import Derived.Test.YtghmbpogniopoaaDoorProg
namespace Go.Proofs.YtghmbpogniopoaaDoor
open Go.Shelf
set_option linter.unusedVariables false
def Tryd.laysM183_ren : Go.Shelf.Ren := ⟨fun | 183 => 14 | n => n, fun | 130 => 38 | 37 => 22 | 0 => 0 | 93 => 33 | 3 => 3 | 5 => 5 | 91 => 31 | n => n, fun | n => n⟩
theorem Tryd.laysM183 : Go.Proofs.LaysM.n183 Tryd.prog Tryd.laysM183_ren := {
  mixed := by kernel_rfl
  f183 := Tryd.func14.trans (congrArg some (by kernel_rfl))
  t0 := Tryd.underlying0
  a0 := Tryd.isAgg0
  z0 := Tryd.sizeOf0
  v0 := Tryd.zeroValue0
  t3 := Tryd.underlying3
  a3 := Tryd.isAgg3
  z3 := Tryd.sizeOf3
  v3 := Tryd.zeroValue3
  t37 := Tryd.underlying22
  a37 := Tryd.isAgg22
  z37 := Tryd.sizeOf22
  v37 := Tryd.zeroValue22
  t93 := Tryd.underlying33
  a93 := Tryd.isAgg33
  z93 := Tryd.sizeOf33
  v93 := Tryd.zeroValue33
  t130 := Tryd.underlying38
  a130 := Tryd.isAgg38
  z130 := Tryd.sizeOf38
  v130 := Tryd.zeroValue38
  t5 := Tryd.underlying5
  a5 := Tryd.isAgg5
  z5 := Tryd.sizeOf5
  v5 := Tryd.zeroValue5
  t91 := Tryd.underlying31
  a91 := Tryd.isAgg31
  z91 := Tryd.sizeOf31
  v91 := Tryd.zeroValue31
  i0 := by kernel_rfl
  i3 := by kernel_rfl
  i5 := by kernel_rfl
  i37 := by kernel_rfl
  i91 := by kernel_rfl
  i93 := by kernel_rfl
  i130 := by kernel_rfl }
open Go.RowKit in
theorem Tryd.Buffer_Bytes (B b : Nat) (bs : List Value) (w : World) (h : Lib.IsBuffer 33 5 B b bs w) :
    Calls Tryd.prog 14 #[.pointer (some ⟨b, 0, none⟩)] w fun e w' => ∃ v, e = .returned v ∧ w'.ownsRow B 5 1 v bs.length bs ∧ ∃ n, w' = w.drewN n := Any.Buffer_Bytes Tryd.laysM183 B b bs w h
def Tryd.laysM179_ren : Go.Shelf.Ren := ⟨fun | 179 => 34 | 251 => 40 | 252 => 41 | 181 => 44 | 184 => 45 | 290 => 46 | 324 => 47 | n => n, fun | 130 => 38 | 5 => 5 | 75 => 49 | 0 => 0 | 93 => 33 | 91 => 31 | 3 => 3 | 131 => 60 | 4 => 4 | 37 => 22 | 20 => 20 | 80 => 66 | 9 => 9 | n => n, fun | 14 => 0 | n => n⟩
theorem Tryd.laysM179 : Go.Proofs.LaysM.n179 Tryd.prog Tryd.laysM179_ren := {
  mixed := by kernel_rfl
  f179 := Tryd.func34.trans (congrArg some (by kernel_rfl))
  f181 := Tryd.func44.trans (congrArg some (by kernel_rfl))
  f184 := Tryd.func45.trans (congrArg some (by kernel_rfl))
  f251 := Tryd.func40.trans (congrArg some (by kernel_rfl))
  f252 := Tryd.func41.trans (congrArg some (by kernel_rfl))
  f290 := Tryd.func46.trans (congrArg some (by kernel_rfl))
  f324 := Tryd.func47.trans (congrArg some (by kernel_rfl))
  t0 := Tryd.underlying0
  a0 := Tryd.isAgg0
  z0 := Tryd.sizeOf0
  v0 := Tryd.zeroValue0
  t3 := Tryd.underlying3
  a3 := Tryd.isAgg3
  z3 := Tryd.sizeOf3
  v3 := Tryd.zeroValue3
  t4 := Tryd.underlying4
  a4 := Tryd.isAgg4
  z4 := Tryd.sizeOf4
  v4 := Tryd.zeroValue4
  t5 := Tryd.underlying5
  a5 := Tryd.isAgg5
  z5 := Tryd.sizeOf5
  v5 := Tryd.zeroValue5
  t20 := Tryd.underlying20
  a20 := Tryd.isAgg20
  z20 := Tryd.sizeOf20
  v20 := Tryd.zeroValue20
  t37 := Tryd.underlying22
  a37 := Tryd.isAgg22
  z37 := Tryd.sizeOf22
  v37 := Tryd.zeroValue22
  t75 := Tryd.underlying49
  a75 := Tryd.isAgg49
  z75 := Tryd.sizeOf49
  v75 := Tryd.zeroValue49
  t91 := Tryd.underlying31
  a91 := Tryd.isAgg31
  z91 := Tryd.sizeOf31
  v91 := Tryd.zeroValue31
  t93 := Tryd.underlying33
  a93 := Tryd.isAgg33
  z93 := Tryd.sizeOf33
  v93 := Tryd.zeroValue33
  t130 := Tryd.underlying38
  a130 := Tryd.isAgg38
  z130 := Tryd.sizeOf38
  v130 := Tryd.zeroValue38
  t131 := Tryd.underlying60
  a131 := Tryd.isAgg60
  z131 := Tryd.sizeOf60
  v131 := Tryd.zeroValue60
  g14 := by kernel_rfl
  t9 := Tryd.underlying9
  a9 := Tryd.isAgg9
  z9 := Tryd.sizeOf9
  v9 := Tryd.zeroValue9
  t80 := Tryd.underlying66
  a80 := Tryd.isAgg66
  z80 := Tryd.sizeOf66
  v80 := Tryd.zeroValue66
  i0 := by kernel_rfl
  i3 := by kernel_rfl
  i4 := by kernel_rfl
  i5 := by kernel_rfl
  i9 := by kernel_rfl
  i20 := by kernel_rfl
  i37 := by kernel_rfl
  i75 := by kernel_rfl
  i80 := by kernel_rfl
  i91 := by kernel_rfl
  i93 := by kernel_rfl
  i130 := by kernel_rfl
  i131 := by kernel_rfl
  m14 := by kernel_rfl }
def Tryd.laysM178_ren : Go.Shelf.Ren := ⟨fun | 178 => 33 | 251 => 40 | 252 => 41 | 181 => 44 | 184 => 45 | 290 => 46 | 324 => 47 | n => n, fun | 130 => 38 | 9 => 9 | 3 => 3 | 75 => 49 | 0 => 0 | 93 => 33 | 91 => 31 | 131 => 60 | 4 => 4 | 37 => 22 | 20 => 20 | 80 => 66 | 5 => 5 | n => n, fun | 14 => 0 | n => n⟩
theorem Tryd.laysM178 : Go.Proofs.LaysM.n178 Tryd.prog Tryd.laysM178_ren := {
  mixed := by kernel_rfl
  f178 := Tryd.func33.trans (congrArg some (by kernel_rfl))
  f181 := Tryd.func44.trans (congrArg some (by kernel_rfl))
  f184 := Tryd.func45.trans (congrArg some (by kernel_rfl))
  f251 := Tryd.func40.trans (congrArg some (by kernel_rfl))
  f252 := Tryd.func41.trans (congrArg some (by kernel_rfl))
  f290 := Tryd.func46.trans (congrArg some (by kernel_rfl))
  f324 := Tryd.func47.trans (congrArg some (by kernel_rfl))
  t0 := Tryd.underlying0
  a0 := Tryd.isAgg0
  z0 := Tryd.sizeOf0
  v0 := Tryd.zeroValue0
  t3 := Tryd.underlying3
  a3 := Tryd.isAgg3
  z3 := Tryd.sizeOf3
  v3 := Tryd.zeroValue3
  t4 := Tryd.underlying4
  a4 := Tryd.isAgg4
  z4 := Tryd.sizeOf4
  v4 := Tryd.zeroValue4
  t9 := Tryd.underlying9
  a9 := Tryd.isAgg9
  z9 := Tryd.sizeOf9
  v9 := Tryd.zeroValue9
  t20 := Tryd.underlying20
  a20 := Tryd.isAgg20
  z20 := Tryd.sizeOf20
  v20 := Tryd.zeroValue20
  t37 := Tryd.underlying22
  a37 := Tryd.isAgg22
  z37 := Tryd.sizeOf22
  v37 := Tryd.zeroValue22
  t75 := Tryd.underlying49
  a75 := Tryd.isAgg49
  z75 := Tryd.sizeOf49
  v75 := Tryd.zeroValue49
  t91 := Tryd.underlying31
  a91 := Tryd.isAgg31
  z91 := Tryd.sizeOf31
  v91 := Tryd.zeroValue31
  t93 := Tryd.underlying33
  a93 := Tryd.isAgg33
  z93 := Tryd.sizeOf33
  v93 := Tryd.zeroValue33
  t130 := Tryd.underlying38
  a130 := Tryd.isAgg38
  z130 := Tryd.sizeOf38
  v130 := Tryd.zeroValue38
  t131 := Tryd.underlying60
  a131 := Tryd.isAgg60
  z131 := Tryd.sizeOf60
  v131 := Tryd.zeroValue60
  g14 := by kernel_rfl
  t5 := Tryd.underlying5
  a5 := Tryd.isAgg5
  z5 := Tryd.sizeOf5
  v5 := Tryd.zeroValue5
  t80 := Tryd.underlying66
  a80 := Tryd.isAgg66
  z80 := Tryd.sizeOf66
  v80 := Tryd.zeroValue66
  i0 := by kernel_rfl
  i3 := by kernel_rfl
  i4 := by kernel_rfl
  i5 := by kernel_rfl
  i9 := by kernel_rfl
  i20 := by kernel_rfl
  i37 := by kernel_rfl
  i75 := by kernel_rfl
  i80 := by kernel_rfl
  i91 := by kernel_rfl
  i93 := by kernel_rfl
  i130 := by kernel_rfl
  i131 := by kernel_rfl
  m14 := by kernel_rfl }
def Tryd.laysM180_ren : Go.Shelf.Ren := ⟨fun | 180 => 36 | 251 => 40 | 252 => 41 | 181 => 44 | 184 => 45 | 290 => 46 | 324 => 47 | n => n, fun | 130 => 38 | 37 => 22 | 3 => 3 | 75 => 49 | 0 => 0 | 93 => 33 | 91 => 31 | 131 => 60 | 4 => 4 | 20 => 20 | 5 => 5 | 80 => 66 | 9 => 9 | n => n, fun | 14 => 0 | n => n⟩
theorem Tryd.laysM180 : Go.Proofs.LaysM.n180 Tryd.prog Tryd.laysM180_ren := {
  mixed := by kernel_rfl
  f180 := Tryd.func36.trans (congrArg some (by kernel_rfl))
  f181 := Tryd.func44.trans (congrArg some (by kernel_rfl))
  f184 := Tryd.func45.trans (congrArg some (by kernel_rfl))
  f251 := Tryd.func40.trans (congrArg some (by kernel_rfl))
  f252 := Tryd.func41.trans (congrArg some (by kernel_rfl))
  f290 := Tryd.func46.trans (congrArg some (by kernel_rfl))
  f324 := Tryd.func47.trans (congrArg some (by kernel_rfl))
  t0 := Tryd.underlying0
  a0 := Tryd.isAgg0
  z0 := Tryd.sizeOf0
  v0 := Tryd.zeroValue0
  t3 := Tryd.underlying3
  a3 := Tryd.isAgg3
  z3 := Tryd.sizeOf3
  v3 := Tryd.zeroValue3
  t4 := Tryd.underlying4
  a4 := Tryd.isAgg4
  z4 := Tryd.sizeOf4
  v4 := Tryd.zeroValue4
  t20 := Tryd.underlying20
  a20 := Tryd.isAgg20
  z20 := Tryd.sizeOf20
  v20 := Tryd.zeroValue20
  t37 := Tryd.underlying22
  a37 := Tryd.isAgg22
  z37 := Tryd.sizeOf22
  v37 := Tryd.zeroValue22
  t75 := Tryd.underlying49
  a75 := Tryd.isAgg49
  z75 := Tryd.sizeOf49
  v75 := Tryd.zeroValue49
  t91 := Tryd.underlying31
  a91 := Tryd.isAgg31
  z91 := Tryd.sizeOf31
  v91 := Tryd.zeroValue31
  t93 := Tryd.underlying33
  a93 := Tryd.isAgg33
  z93 := Tryd.sizeOf33
  v93 := Tryd.zeroValue33
  t130 := Tryd.underlying38
  a130 := Tryd.isAgg38
  z130 := Tryd.sizeOf38
  v130 := Tryd.zeroValue38
  t131 := Tryd.underlying60
  a131 := Tryd.isAgg60
  z131 := Tryd.sizeOf60
  v131 := Tryd.zeroValue60
  g14 := by kernel_rfl
  t5 := Tryd.underlying5
  a5 := Tryd.isAgg5
  z5 := Tryd.sizeOf5
  v5 := Tryd.zeroValue5
  t9 := Tryd.underlying9
  a9 := Tryd.isAgg9
  z9 := Tryd.sizeOf9
  v9 := Tryd.zeroValue9
  t80 := Tryd.underlying66
  a80 := Tryd.isAgg66
  z80 := Tryd.sizeOf66
  v80 := Tryd.zeroValue66
  i0 := by kernel_rfl
  i3 := by kernel_rfl
  i4 := by kernel_rfl
  i5 := by kernel_rfl
  i9 := by kernel_rfl
  i20 := by kernel_rfl
  i37 := by kernel_rfl
  i75 := by kernel_rfl
  i80 := by kernel_rfl
  i91 := by kernel_rfl
  i93 := by kernel_rfl
  i130 := by kernel_rfl
  i131 := by kernel_rfl
  m14 := by kernel_rfl }
open Go.RowKit in
theorem Tryd.Buffer_WriteByte_k (B b : Nat) (bs : List Value) (c : Int) (w : World) (h : Lib.IsBuffer 33 5 B b bs w) (hBw : B ≤ w.heap.size) (h1 : ∀ v ∈ bs, v.oneCell' = true) (hlim : bs.length + 1 ≤ 140737488355328) :
    Calls Tryd.prog 34 #[.pointer (some ⟨b, 0, none⟩), .int .u8 c] w fun e w' => e = .returned .nilIface ∧ Lib.IsBuffer 33 5 B b (bs ++ [.int .u8 c]) w' ∧ Below B w w' ∧ Lib.OthersKept 5 (some b) w w' := Any.Buffer_WriteByte_k Tryd.laysM179 B b bs c w h hBw h1 hlim
open Go.RowKit in
theorem Tryd.Buffer_WriteString_k (B b : Nat) (bs : List Value) (s : ByteArray) (w : World) (h : Lib.IsBuffer 33 5 B b bs w) (hBw : B ≤ w.heap.size) (h1 : ∀ v ∈ bs, v.oneCell' = true) (hlim : bs.length + s.size ≤ 140737488355328) :
    Calls Tryd.prog 33 #[.pointer (some ⟨b, 0, none⟩), .string s] w fun e w' => e = .returned (.tuple #[.int .i64 s.size, .nilIface]) ∧ Lib.IsBuffer 33 5 B b (bs ++ Lib.byteCells s.data.toList) w' ∧ Below B w w' ∧ Lib.OthersKept 5 (some b) w w' := Any.Buffer_WriteString_k Tryd.laysM178 B b bs s w h hBw h1 hlim
open Go.RowKit in
theorem Tryd.Buffer_Write_k (B b : Nat) (bs cs : List Value) (a : Addr) (n c : Nat) (w : World) (h : Lib.IsBuffer 33 5 B b bs w) (hBw : B ≤ w.heap.size) (h1 : ∀ v ∈ bs, v.oneCell' = true) (hn : cs.length = n) (haB : a.block < B) (hsrc : ∀ j v, cs[j]? = some v → w.cell? (a.add j) = some v) (h1c : ∀ v ∈ cs, v.oneCell' = true) (hlim : bs.length + n ≤ 140737488355328) :
    Calls Tryd.prog 36 #[.pointer (some ⟨b, 0, none⟩), .slice (some a) n c] w fun e w' => e = .returned (.tuple #[.int .i64 n, .nilIface]) ∧ Lib.IsBuffer 33 5 B b (bs ++ cs) w' ∧ Below B w w' ∧ Lib.OthersKept 5 (some b) w w' := Any.Buffer_Write_k Tryd.laysM180 B b bs cs a n c w h hBw h1 hn haB hsrc h1c hlim
open Go.RowKit in
theorem Tryd.Buffer_Write_any (B b : Nat) (bs cs : List Value) (a : Addr) (n c : Nat) (w : World) (h : Lib.IsBuffer 33 5 B b bs w) (hBw : B ≤ w.heap.size) (h1 : ∀ v ∈ bs, v.oneCell' = true) (hn : cs.length = n) (hab : a.block ≠ b) (hsrc : ∀ j v, cs[j]? = some v → w.cell? (a.add j) = some v) (h1c : ∀ v ∈ cs, v.oneCell' = true) (hlim : bs.length + n ≤ 140737488355328) :
    Calls Tryd.prog 36 #[.pointer (some ⟨b, 0, none⟩), .slice (some a) n c] w fun e w' => e = .returned (.tuple #[.int .i64 n, .nilIface]) ∧ Lib.IsBuffer 33 5 B b (bs ++ cs) w' ∧ Below B w w' ∧ Lib.OthersKept 5 (some b) w w' := Any.Buffer_Write_any Tryd.laysM180 B b bs cs a n c w h hBw h1 hn hab hsrc h1c hlim
def Tryd.lays115_ren : Go.Shelf.Ren := ⟨fun | 115 => 9 | n => n, fun | 37 => 22 | 4 => 4 | 9 => 9 | 5 => 5 | n => n, fun | n => n⟩
theorem Tryd.lays115 : Go.Proofs.Lays.n115 Tryd.prog Tryd.lays115_ren := {
  mixed := by kernel_rfl
  f115 := Tryd.func9.trans (congrArg some (by kernel_rfl))
  t4 := Tryd.underlying4
  a4 := Tryd.isAgg4
  z4 := Tryd.sizeOf4
  v4 := Tryd.zeroValue4
  t9 := Tryd.underlying9
  a9 := Tryd.isAgg9
  z9 := Tryd.sizeOf9
  v9 := Tryd.zeroValue9
  t37 := Tryd.underlying22
  a37 := Tryd.isAgg22
  z37 := Tryd.sizeOf22
  v37 := Tryd.zeroValue22 }
theorem Tryd.bytes_Equal (v1 v2 : Value) (xs ys : List Int) (w : World) (h1 : (convert 22 9 v1).run Tryd.prog w = .ok (.string (strOfNums xs)) w) (h2 : (convert 22 9 v2).run Tryd.prog w = .ok (.string (strOfNums ys)) w) :
    Calls Tryd.prog 9 #[v1, v2] w fun e w' => e = .returned (.bool (Lib.bytesOf xs == Lib.bytesOf ys)) ∧ w' = w := Any.bytes_Equal Tryd.lays115 v1 v2 xs ys w h1 h2
def Tryd.laysnb116_ren : Go.Shelf.Ren := ⟨fun | 116 => 37 | 115 => 9 | n => n, fun | 37 => 22 | 4 => 4 | 3 => 3 | 9 => 9 | 5 => 5 | n => n, fun | n => n⟩
theorem Tryd.laysnb116 : Go.Proofs.Lays.nb116 Tryd.prog Tryd.laysnb116_ren := {
  mixed := by kernel_rfl
  f115 := Tryd.func9.trans (congrArg some (by kernel_rfl))
  f116 := Tryd.func37.trans (congrArg some (by kernel_rfl))
  t3 := Tryd.underlying3
  a3 := Tryd.isAgg3
  z3 := Tryd.sizeOf3
  v3 := Tryd.zeroValue3
  t4 := Tryd.underlying4
  a4 := Tryd.isAgg4
  z4 := Tryd.sizeOf4
  v4 := Tryd.zeroValue4
  t9 := Tryd.underlying9
  a9 := Tryd.isAgg9
  z9 := Tryd.sizeOf9
  v9 := Tryd.zeroValue9
  t37 := Tryd.underlying22
  a37 := Tryd.isAgg22
  z37 := Tryd.sizeOf22
  v37 := Tryd.zeroValue22
  t5 := Tryd.underlying5
  a5 := Tryd.isAgg5
  z5 := Tryd.sizeOf5
  v5 := Tryd.zeroValue5 }
theorem Tryd.bytes_HasPrefix (b1 o1 n c b2 o2 m d : Nat) (xs ys : List Int) (w : World) (hx : xs.length = n) (hy : ys.length = m) (hnc : n ≤ c) (hc1 : ∀ i, i < n → w.cell? ⟨b1, o1 + i, none⟩ = some (.int .u8 (xs.getD i 0))) (hc2 : ∀ i, i < m → w.cell? ⟨b2, o2 + i, none⟩ = some (.int .u8 (ys.getD i 0))) :
    Calls Tryd.prog 37 #[.slice (some ⟨b1, o1, none⟩) n c, .slice (some ⟨b2, o2, none⟩) m d] w fun e w' => e = .returned (.bool (Lib.hasPrefix (Lib.bytesOf xs) (Lib.bytesOf ys))) ∧ w' = w := Any.bytes_HasPrefix Tryd.laysnb116 b1 o1 n c b2 o2 m d xs ys w hx hy hnc hc1 hc2
end Go.Proofs.YtghmbpogniopoaaDoor
