/- The contracts of (*bytes.Buffer).WriteString and (*bytes.Buffer).String at this seat's translation: the kit's shelf, laid in plain words by its own tool (lay-plain.mjs); cut to these two. -/
import Derived.Shelf.LaysM
import Derived.Shelf.Bytes.WriteString
import Derived.Shelf.Bytes.String
import Derived.Test.YtcolmmohbfadoaaDoorProg
namespace Go.Proofs
open Go.Shelf
def Tryd.laysM178_ren : Go.Shelf.Ren := ⟨fun | 178 => 17 | 251 => 21 | 252 => 22 | 181 => 27 | 184 => 28 | 290 => 29 | 324 => 35 | n => n, fun | 130 => 47 | 9 => 9 | 3 => 3 | 75 => 41 | 0 => 0 | 93 => 39 | 91 => 37 | 131 => 48 | 4 => 4 | 37 => 35 | 20 => 20 | 80 => 28 | 5 => 5 | n => n, fun | 14 => 1 | n => n⟩
theorem Tryd.laysM178 : Go.Proofs.LaysM.n178 Tryd.prog Tryd.laysM178_ren := {
  mixed := by kernel_rfl
  f178 := Tryd.func17.trans (congrArg some (by kernel_rfl))
  f181 := Tryd.func27.trans (congrArg some (by kernel_rfl))
  f184 := Tryd.func28.trans (congrArg some (by kernel_rfl))
  f251 := Tryd.func21.trans (congrArg some (by kernel_rfl))
  f252 := Tryd.func22.trans (congrArg some (by kernel_rfl))
  f290 := Tryd.func29.trans (congrArg some (by kernel_rfl))
  f324 := Tryd.func35.trans (congrArg some (by kernel_rfl))
  t0 := Tryd.underlying0
  a0 := Tryd.isAgg0
  z0 := Tryd.sizeOf0
  v0 := Tryd.zeroValue0
  t3 := Tryd.underlying3
  a3 := Tryd.isAgg3
  z3 := Tryd.sizeOf3
  v3 := Tryd.zeroValue3
  t4 := Tryd.underlying4
  a4 := Tryd.isAgg4
  z4 := Tryd.sizeOf4
  v4 := Tryd.zeroValue4
  t9 := Tryd.underlying9
  a9 := Tryd.isAgg9
  z9 := Tryd.sizeOf9
  v9 := Tryd.zeroValue9
  t20 := Tryd.underlying20
  a20 := Tryd.isAgg20
  z20 := Tryd.sizeOf20
  v20 := Tryd.zeroValue20
  t37 := Tryd.underlying35
  a37 := Tryd.isAgg35
  z37 := Tryd.sizeOf35
  v37 := Tryd.zeroValue35
  t75 := Tryd.underlying41
  a75 := Tryd.isAgg41
  z75 := Tryd.sizeOf41
  v75 := Tryd.zeroValue41
  t91 := Tryd.underlying37
  a91 := Tryd.isAgg37
  z91 := Tryd.sizeOf37
  v91 := Tryd.zeroValue37
  t93 := Tryd.underlying39
  a93 := Tryd.isAgg39
  z93 := Tryd.sizeOf39
  v93 := Tryd.zeroValue39
  t130 := Tryd.underlying47
  a130 := Tryd.isAgg47
  z130 := Tryd.sizeOf47
  v130 := Tryd.zeroValue47
  t131 := Tryd.underlying48
  a131 := Tryd.isAgg48
  z131 := Tryd.sizeOf48
  v131 := Tryd.zeroValue48
  g14 := by kernel_rfl
  t5 := Tryd.underlying5
  a5 := Tryd.isAgg5
  z5 := Tryd.sizeOf5
  v5 := Tryd.zeroValue5
  t80 := Tryd.underlying28
  a80 := Tryd.isAgg28
  z80 := Tryd.sizeOf28
  v80 := Tryd.zeroValue28
  i0 := by kernel_rfl
  i3 := by kernel_rfl
  i4 := by kernel_rfl
  i5 := by kernel_rfl
  i9 := by kernel_rfl
  i20 := by kernel_rfl
  i37 := by kernel_rfl
  i75 := by kernel_rfl
  i80 := by kernel_rfl
  i91 := by kernel_rfl
  i93 := by kernel_rfl
  i130 := by kernel_rfl
  i131 := by kernel_rfl
  m14 := by kernel_rfl }
open Go.RowKit in
/-- (*bytes.Buffer).WriteString: "WriteString appends the contents of s to the buffer, growing the buffer as needed. The return value n is the length of s; err is always nil." (LAID: no walk: one application.) -/
theorem Tryd.Buffer_WriteString (B b : Nat) (bs : List Value) (s : ByteArray) (w : World) (h : Lib.IsBuffer 39 5 B b bs w) (hBw : B ≤ w.heap.size) (h1 : ∀ v ∈ bs, v.oneCell' = true) (hlim : bs.length + s.size ≤ 140737488355328) :
    Calls Tryd.prog 17 #[.pointer (some ⟨b, 0, none⟩), .string s] w fun e w' => e = .returned (.tuple #[.int .i64 s.size, .nilIface]) ∧ Lib.IsBuffer 39 5 B b (bs ++ Lib.byteCells s.data.toList) w' ∧ Below B w w' := Any.Buffer_WriteString Tryd.laysM178 B b bs s w h hBw h1 hlim
def Tryd.laysM182_ren : Go.Shelf.Ren := ⟨fun | 182 => 18 | n => n, fun | 130 => 47 | 9 => 9 | 4 => 4 | 0 => 0 | 93 => 39 | 37 => 35 | 3 => 3 | 91 => 37 | 5 => 5 | n => n, fun | n => n⟩
theorem Tryd.laysM182 : Go.Proofs.LaysM.n182 Tryd.prog Tryd.laysM182_ren := {
  mixed := by kernel_rfl
  f182 := Tryd.func18.trans (congrArg some (by kernel_rfl))
  t0 := Tryd.underlying0
  a0 := Tryd.isAgg0
  z0 := Tryd.sizeOf0
  v0 := Tryd.zeroValue0
  t3 := Tryd.underlying3
  a3 := Tryd.isAgg3
  z3 := Tryd.sizeOf3
  v3 := Tryd.zeroValue3
  t4 := Tryd.underlying4
  a4 := Tryd.isAgg4
  z4 := Tryd.sizeOf4
  v4 := Tryd.zeroValue4
  t9 := Tryd.underlying9
  a9 := Tryd.isAgg9
  z9 := Tryd.sizeOf9
  v9 := Tryd.zeroValue9
  t37 := Tryd.underlying35
  a37 := Tryd.isAgg35
  z37 := Tryd.sizeOf35
  v37 := Tryd.zeroValue35
  t93 := Tryd.underlying39
  a93 := Tryd.isAgg39
  z93 := Tryd.sizeOf39
  v93 := Tryd.zeroValue39
  t130 := Tryd.underlying47
  a130 := Tryd.isAgg47
  z130 := Tryd.sizeOf47
  v130 := Tryd.zeroValue47
  t5 := Tryd.underlying5
  a5 := Tryd.isAgg5
  z5 := Tryd.sizeOf5
  v5 := Tryd.zeroValue5
  t91 := Tryd.underlying37
  a91 := Tryd.isAgg37
  z91 := Tryd.sizeOf37
  v91 := Tryd.zeroValue37
  i0 := by kernel_rfl
  i3 := by kernel_rfl
  i4 := by kernel_rfl
  i5 := by kernel_rfl
  i9 := by kernel_rfl
  i37 := by kernel_rfl
  i91 := by kernel_rfl
  i93 := by kernel_rfl
  i130 := by kernel_rfl }
open Go.RowKit in
/-- (*bytes.Buffer).String: "String returns the contents of the unread portion of the buffer as a string.": THE BYTES THAT WERE WRITTEN. The world is as it was but for the count of draws (the statement has two reads: its order is drawn). (LAID: no walk: one application.) -/
theorem Tryd.Buffer_String (B b : Nat) (l : List UInt8) (w : World) (h : Lib.IsBuffer 39 5 B b (Lib.byteCells l) w) :
    Calls Tryd.prog 18 #[.pointer (some ⟨b, 0, none⟩)] w fun e w' => e = .returned (.string ⟨l.toArray⟩) ∧ ∃ n, w' = w.drewN n := Any.Buffer_String Tryd.laysM182 B b l w h
end Go.Proofs
