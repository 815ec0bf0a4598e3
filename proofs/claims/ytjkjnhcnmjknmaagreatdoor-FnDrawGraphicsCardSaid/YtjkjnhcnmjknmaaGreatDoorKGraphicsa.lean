/- Texts of this claim, joined: XShelfG WWords WApart Q0 Q1D Q1 XGfx XGfx2. Of each, what the claim uses. -/
import Derived.Test.YtjkjnhcnmjknmaaGreatDoorKaa
import Derived.Test.YtjkjnhcnmjknmaaGreatDoorKab
import Derived.Test.YtjkjnhcnmjknmaaGreatDoorKac
import Derived.Test.YtjkjnhcnmjknmaaGreatDoorKad
import Derived.Test.YtjkjnhcnmjknmaaGreatDoorKae
import Derived.Test.YtjkjnhcnmjknmaaGreatDoorKaf
import Derived.Test.YtjkjnhcnmjknmaaGreatDoorKag
import Derived.Test.YtjkjnhcnmjknmaaGreatDoorKah
import Derived.Test.YtjkjnhcnmjknmaaGreatDoorKai
import Derived.Test.YtjkjnhcnmjknmaaGreatDoorKaj
import Derived.Test.YtjkjnhcnmjknmaaGreatDoorKak
import Derived.Test.YtjkjnhcnmjknmaaGreatDoorKal
import Derived.Test.YtjkjnhcnmjknmaaGreatDoorKam
import Derived.Test.YtjkjnhcnmjknmaaGreatDoorKan
import Derived.Test.YtjkjnhcnmjknmaaGreatDoorKao
import Derived.Test.YtjkjnhcnmjknmaaGreatDoorKap
import Derived.Test.YtjkjnhcnmjknmaaGreatDoorKaq
import Derived.Test.YtjkjnhcnmjknmaaGreatDoorKar
import Derived.Test.YtjkjnhcnmjknmaaGreatDoorKas
import Derived.Test.YtjkjnhcnmjknmaaGreatDoorKat
import Derived.Test.YtjkjnhcnmjknmaaGreatDoorKau
import Derived.Test.YtjkjnhcnmjknmaaGreatDoorKaz
import Derived.Shelf.Strings.Builder1
import Derived.Shelf.Small.Utf8
import Derived.Shelf.Strconv.Itoa0
import Derived.Shelf.Strconv.Itoa1
import Derived.Shelf.LaysM
import Derived.Shelf.Strconv.Itoa2
import Derived.Shelf.Strconv.Itoa3
import Derived.Shelf.Bytes.Len
import Derived.Shelf.Bytes.TryGrow
import Derived.Shelf.Bytes.GrowSliceCatch
import Derived.Shelf.Bytes.GrowSlice
import Derived.Shelf.Bytes.GrowRow0
import Derived.Shelf.Bytes.GrowRow
import Derived.Shelf.Bytes.GrowNil
import Derived.Shelf.Bytes.Grow
import Derived.Shelf.Bytes.WriteByte
import Derived.Shelf.Bytes.WriteString
import Derived.Shelf.Bytes.String
import Derived.Shelf.Bytes.Write
import Derived.Shelf.Unicode.Decode
import Derived.Shelf.Unicode.DecodeSlow
import Derived.Shelf.Unicode.DecodeAny
import Derived.Shelf.Unicode.DecodeLast
import Derived.Test.YtjkjnhcnmjknmaaGreatDoorProg
import Derived.Below
import Derived.Deep.Draws
import Derived.Deep.AppendLies
import Derived.Maps.AppendAt
import Derived.OwnWalk
import Derived.Laws.BytesArg
import Derived.Laws.MakeOwn
import Derived.Laws.OwnMore
import Derived.Deep.OwnRows
import Derived.Tactics
import Derived.Lib.ConvBytes
import Derived.Laws.Slices
import Derived.WalkKit
import Derived.KernelRfl
import Derived.RowKit3
import Derived.Deep.LoopGhost
import Derived.Deep.QuietTactic
import Derived.BigQuiet
import Derived.WideLaws
import Derived.Deep.DeepCutAuto
import Derived.Deep.CutBlock
import Derived.Deep.RegionHeld3
import Derived.Laws.Rows
import Derived.Lib.AppendStr
import Derived.ArgAppend
import Derived.Laws.IdiomCopy
import Derived.RowKit
import Derived.OrdersHeld
import Derived.Laws.BitsLemmas
import Derived.Lib.BufferKept
import Derived.Lib.Hide
section
namespace Go.Proofs
open Go.Shelf
def Tryz.laysM179_ren : Go.Shelf.Ren := ⟨fun | 179 => 117 | 251 => 128 | 252 => 129 | 181 => 140 | 184 => 141 | 290 => 142 | 324 => 156 | n => n, fun | 130 => 149 | 5 => 5 | 75 => 127 | 0 => 0 | 93 => 125 | 91 => 123 | 3 => 3 | 131 => 150 | 4 => 4 | 37 => 32 | 20 => 20 | 80 => 131 | 9 => 9 | n => n, fun | 14 => 0 | n => n⟩
theorem Tryz.laysM179 : Go.Proofs.LaysM.n179 Tryz.prog Tryz.laysM179_ren := {
  mixed := by kernel_rfl
  f179 := Tryz.func117.trans (congrArg some (by kernel_rfl))
  f181 := Tryz.func140.trans (congrArg some (by kernel_rfl))
  f184 := Tryz.func141.trans (congrArg some (by kernel_rfl))
  f251 := Tryz.func128.trans (congrArg some (by kernel_rfl))
  f252 := Tryz.func129.trans (congrArg some (by kernel_rfl))
  f290 := Tryz.func142.trans (congrArg some (by kernel_rfl))
  f324 := Tryz.func156.trans (congrArg some (by kernel_rfl))
  t0 := Tryz.underlying0
  a0 := Tryz.isAgg0
  z0 := Tryz.sizeOf0
  v0 := Tryz.zeroValue0
  t3 := Tryz.underlying3
  a3 := Tryz.isAgg3
  z3 := Tryz.sizeOf3
  v3 := Tryz.zeroValue3
  t4 := Tryz.underlying4
  a4 := Tryz.isAgg4
  z4 := Tryz.sizeOf4
  v4 := Tryz.zeroValue4
  t5 := Tryz.underlying5
  a5 := Tryz.isAgg5
  z5 := Tryz.sizeOf5
  v5 := Tryz.zeroValue5
  t20 := Tryz.underlying20
  a20 := Tryz.isAgg20
  z20 := Tryz.sizeOf20
  v20 := Tryz.zeroValue20
  t37 := Tryz.underlying32
  a37 := Tryz.isAgg32
  z37 := Tryz.sizeOf32
  v37 := Tryz.zeroValue32
  t75 := Tryz.underlying127
  a75 := Tryz.isAgg127
  z75 := Tryz.sizeOf127
  v75 := Tryz.zeroValue127
  t91 := Tryz.underlying123
  a91 := Tryz.isAgg123
  z91 := Tryz.sizeOf123
  v91 := Tryz.zeroValue123
  t93 := Tryz.underlying125
  a93 := Tryz.isAgg125
  z93 := Tryz.sizeOf125
  v93 := Tryz.zeroValue125
  t130 := Tryz.underlying149
  a130 := Tryz.isAgg149
  z130 := Tryz.sizeOf149
  v130 := Tryz.zeroValue149
  t131 := Tryz.underlying150
  a131 := Tryz.isAgg150
  z131 := Tryz.sizeOf150
  v131 := Tryz.zeroValue150
  g14 := by kernel_rfl
  t9 := Tryz.underlying9
  a9 := Tryz.isAgg9
  z9 := Tryz.sizeOf9
  v9 := Tryz.zeroValue9
  t80 := Tryz.underlying131
  a80 := Tryz.isAgg131
  z80 := Tryz.sizeOf131
  v80 := Tryz.zeroValue131
  i0 := by kernel_rfl
  i3 := by kernel_rfl
  i4 := by kernel_rfl
  i5 := by kernel_rfl
  i9 := by kernel_rfl
  i20 := by kernel_rfl
  i37 := by kernel_rfl
  i75 := by kernel_rfl
  i80 := by kernel_rfl
  i91 := by kernel_rfl
  i93 := by kernel_rfl
  i130 := by kernel_rfl
  i131 := by kernel_rfl
  m14 := by kernel_rfl }
open Go.RowKit in
/-- (*bytes.Buffer).WriteByte: "WriteByte appends the byte c to the buffer, growing the buffer as needed. The returned error is always nil". (LAID: no walk: one application.) -/
theorem Tryz.Buffer_WriteByte (B b : Nat) (bs : List Value) (c : Int) (w : World) (h : Lib.IsBuffer 125 5 B b bs w) (hBw : B ≤ w.heap.size) (h1 : ∀ v ∈ bs, v.oneCell' = true) (hlim : bs.length + 1 ≤ 140737488355328) :
    Calls Tryz.prog 117 #[.pointer (some ⟨b, 0, none⟩), .int .u8 c] w fun e w' => e = .returned .nilIface ∧ Lib.IsBuffer 125 5 B b (bs ++ [.int .u8 c]) w' ∧ Below B w w' := Any.Buffer_WriteByte Tryz.laysM179 B b bs c w h hBw h1 hlim
def Tryz.laysM178_ren : Go.Shelf.Ren := ⟨fun | 178 => 114 | 251 => 128 | 252 => 129 | 181 => 140 | 184 => 141 | 290 => 142 | 324 => 156 | n => n, fun | 130 => 149 | 9 => 9 | 3 => 3 | 75 => 127 | 0 => 0 | 93 => 125 | 91 => 123 | 131 => 150 | 4 => 4 | 37 => 32 | 20 => 20 | 80 => 131 | 5 => 5 | n => n, fun | 14 => 0 | n => n⟩
theorem Tryz.laysM178 : Go.Proofs.LaysM.n178 Tryz.prog Tryz.laysM178_ren := {
  mixed := by kernel_rfl
  f178 := Tryz.func114.trans (congrArg some (by kernel_rfl))
  f181 := Tryz.func140.trans (congrArg some (by kernel_rfl))
  f184 := Tryz.func141.trans (congrArg some (by kernel_rfl))
  f251 := Tryz.func128.trans (congrArg some (by kernel_rfl))
  f252 := Tryz.func129.trans (congrArg some (by kernel_rfl))
  f290 := Tryz.func142.trans (congrArg some (by kernel_rfl))
  f324 := Tryz.func156.trans (congrArg some (by kernel_rfl))
  t0 := Tryz.underlying0
  a0 := Tryz.isAgg0
  z0 := Tryz.sizeOf0
  v0 := Tryz.zeroValue0
  t3 := Tryz.underlying3
  a3 := Tryz.isAgg3
  z3 := Tryz.sizeOf3
  v3 := Tryz.zeroValue3
  t4 := Tryz.underlying4
  a4 := Tryz.isAgg4
  z4 := Tryz.sizeOf4
  v4 := Tryz.zeroValue4
  t9 := Tryz.underlying9
  a9 := Tryz.isAgg9
  z9 := Tryz.sizeOf9
  v9 := Tryz.zeroValue9
  t20 := Tryz.underlying20
  a20 := Tryz.isAgg20
  z20 := Tryz.sizeOf20
  v20 := Tryz.zeroValue20
  t37 := Tryz.underlying32
  a37 := Tryz.isAgg32
  z37 := Tryz.sizeOf32
  v37 := Tryz.zeroValue32
  t75 := Tryz.underlying127
  a75 := Tryz.isAgg127
  z75 := Tryz.sizeOf127
  v75 := Tryz.zeroValue127
  t91 := Tryz.underlying123
  a91 := Tryz.isAgg123
  z91 := Tryz.sizeOf123
  v91 := Tryz.zeroValue123
  t93 := Tryz.underlying125
  a93 := Tryz.isAgg125
  z93 := Tryz.sizeOf125
  v93 := Tryz.zeroValue125
  t130 := Tryz.underlying149
  a130 := Tryz.isAgg149
  z130 := Tryz.sizeOf149
  v130 := Tryz.zeroValue149
  t131 := Tryz.underlying150
  a131 := Tryz.isAgg150
  z131 := Tryz.sizeOf150
  v131 := Tryz.zeroValue150
  g14 := by kernel_rfl
  t5 := Tryz.underlying5
  a5 := Tryz.isAgg5
  z5 := Tryz.sizeOf5
  v5 := Tryz.zeroValue5
  t80 := Tryz.underlying131
  a80 := Tryz.isAgg131
  z80 := Tryz.sizeOf131
  v80 := Tryz.zeroValue131
  i0 := by kernel_rfl
  i3 := by kernel_rfl
  i4 := by kernel_rfl
  i5 := by kernel_rfl
  i9 := by kernel_rfl
  i20 := by kernel_rfl
  i37 := by kernel_rfl
  i75 := by kernel_rfl
  i80 := by kernel_rfl
  i91 := by kernel_rfl
  i93 := by kernel_rfl
  i130 := by kernel_rfl
  i131 := by kernel_rfl
  m14 := by kernel_rfl }
open Go.RowKit in
/-- (*bytes.Buffer).WriteString: "WriteString appends the contents of s to the buffer, growing the buffer as needed. The return value n is the length of s; err is always nil." (LAID: no walk: one application.) -/
theorem Tryz.Buffer_WriteString (B b : Nat) (bs : List Value) (s : ByteArray) (w : World) (h : Lib.IsBuffer 125 5 B b bs w) (hBw : B ≤ w.heap.size) (h1 : ∀ v ∈ bs, v.oneCell' = true) (hlim : bs.length + s.size ≤ 140737488355328) :
    Calls Tryz.prog 114 #[.pointer (some ⟨b, 0, none⟩), .string s] w fun e w' => e = .returned (.tuple #[.int .i64 s.size, .nilIface]) ∧ Lib.IsBuffer 125 5 B b (bs ++ Lib.byteCells s.data.toList) w' ∧ Below B w w' := Any.Buffer_WriteString Tryz.laysM178 B b bs s w h hBw h1 hlim
def Tryz.laysM182_ren : Go.Shelf.Ren := ⟨fun | 182 => 116 | n => n, fun | 130 => 149 | 9 => 9 | 4 => 4 | 0 => 0 | 93 => 125 | 37 => 32 | 3 => 3 | 91 => 123 | 5 => 5 | n => n, fun | n => n⟩
theorem Tryz.laysM182 : Go.Proofs.LaysM.n182 Tryz.prog Tryz.laysM182_ren := {
  mixed := by kernel_rfl
  f182 := Tryz.func116.trans (congrArg some (by kernel_rfl))
  t0 := Tryz.underlying0
  a0 := Tryz.isAgg0
  z0 := Tryz.sizeOf0
  v0 := Tryz.zeroValue0
  t3 := Tryz.underlying3
  a3 := Tryz.isAgg3
  z3 := Tryz.sizeOf3
  v3 := Tryz.zeroValue3
  t4 := Tryz.underlying4
  a4 := Tryz.isAgg4
  z4 := Tryz.sizeOf4
  v4 := Tryz.zeroValue4
  t9 := Tryz.underlying9
  a9 := Tryz.isAgg9
  z9 := Tryz.sizeOf9
  v9 := Tryz.zeroValue9
  t37 := Tryz.underlying32
  a37 := Tryz.isAgg32
  z37 := Tryz.sizeOf32
  v37 := Tryz.zeroValue32
  t93 := Tryz.underlying125
  a93 := Tryz.isAgg125
  z93 := Tryz.sizeOf125
  v93 := Tryz.zeroValue125
  t130 := Tryz.underlying149
  a130 := Tryz.isAgg149
  z130 := Tryz.sizeOf149
  v130 := Tryz.zeroValue149
  t5 := Tryz.underlying5
  a5 := Tryz.isAgg5
  z5 := Tryz.sizeOf5
  v5 := Tryz.zeroValue5
  t91 := Tryz.underlying123
  a91 := Tryz.isAgg123
  z91 := Tryz.sizeOf123
  v91 := Tryz.zeroValue123
  i0 := by kernel_rfl
  i3 := by kernel_rfl
  i4 := by kernel_rfl
  i5 := by kernel_rfl
  i9 := by kernel_rfl
  i37 := by kernel_rfl
  i91 := by kernel_rfl
  i93 := by kernel_rfl
  i130 := by kernel_rfl }
open Go.RowKit in
/-- (*bytes.Buffer).String: "String returns the contents of the unread portion of the buffer as a string.": THE BYTES THAT WERE WRITTEN. The world is as it was but for the count of draws (the statement has two reads: its order is drawn). (LAID: no walk: one application.) -/
theorem Tryz.Buffer_String (B b : Nat) (l : List UInt8) (w : World) (h : Lib.IsBuffer 125 5 B b (Lib.byteCells l) w) :
    Calls Tryz.prog 116 #[.pointer (some ⟨b, 0, none⟩)] w fun e w' => e = .returned (.string ⟨l.toArray⟩) ∧ ∃ n, w' = w.drewN n := Any.Buffer_String Tryz.laysM182 B b l w h
def Tryz.laysM180_ren : Go.Shelf.Ren := ⟨fun | 180 => 115 | 251 => 128 | 252 => 129 | 181 => 140 | 184 => 141 | 290 => 142 | 324 => 156 | n => n, fun | 130 => 149 | 37 => 32 | 3 => 3 | 75 => 127 | 0 => 0 | 93 => 125 | 91 => 123 | 131 => 150 | 4 => 4 | 20 => 20 | 5 => 5 | 80 => 131 | 9 => 9 | n => n, fun | 14 => 0 | n => n⟩
theorem Tryz.laysM180 : Go.Proofs.LaysM.n180 Tryz.prog Tryz.laysM180_ren := {
  mixed := by kernel_rfl
  f180 := Tryz.func115.trans (congrArg some (by kernel_rfl))
  f181 := Tryz.func140.trans (congrArg some (by kernel_rfl))
  f184 := Tryz.func141.trans (congrArg some (by kernel_rfl))
  f251 := Tryz.func128.trans (congrArg some (by kernel_rfl))
  f252 := Tryz.func129.trans (congrArg some (by kernel_rfl))
  f290 := Tryz.func142.trans (congrArg some (by kernel_rfl))
  f324 := Tryz.func156.trans (congrArg some (by kernel_rfl))
  t0 := Tryz.underlying0
  a0 := Tryz.isAgg0
  z0 := Tryz.sizeOf0
  v0 := Tryz.zeroValue0
  t3 := Tryz.underlying3
  a3 := Tryz.isAgg3
  z3 := Tryz.sizeOf3
  v3 := Tryz.zeroValue3
  t4 := Tryz.underlying4
  a4 := Tryz.isAgg4
  z4 := Tryz.sizeOf4
  v4 := Tryz.zeroValue4
  t20 := Tryz.underlying20
  a20 := Tryz.isAgg20
  z20 := Tryz.sizeOf20
  v20 := Tryz.zeroValue20
  t37 := Tryz.underlying32
  a37 := Tryz.isAgg32
  z37 := Tryz.sizeOf32
  v37 := Tryz.zeroValue32
  t75 := Tryz.underlying127
  a75 := Tryz.isAgg127
  z75 := Tryz.sizeOf127
  v75 := Tryz.zeroValue127
  t91 := Tryz.underlying123
  a91 := Tryz.isAgg123
  z91 := Tryz.sizeOf123
  v91 := Tryz.zeroValue123
  t93 := Tryz.underlying125
  a93 := Tryz.isAgg125
  z93 := Tryz.sizeOf125
  v93 := Tryz.zeroValue125
  t130 := Tryz.underlying149
  a130 := Tryz.isAgg149
  z130 := Tryz.sizeOf149
  v130 := Tryz.zeroValue149
  t131 := Tryz.underlying150
  a131 := Tryz.isAgg150
  z131 := Tryz.sizeOf150
  v131 := Tryz.zeroValue150
  g14 := by kernel_rfl
  t5 := Tryz.underlying5
  a5 := Tryz.isAgg5
  z5 := Tryz.sizeOf5
  v5 := Tryz.zeroValue5
  t9 := Tryz.underlying9
  a9 := Tryz.isAgg9
  z9 := Tryz.sizeOf9
  v9 := Tryz.zeroValue9
  t80 := Tryz.underlying131
  a80 := Tryz.isAgg131
  z80 := Tryz.sizeOf131
  v80 := Tryz.zeroValue131
  i0 := by kernel_rfl
  i3 := by kernel_rfl
  i4 := by kernel_rfl
  i5 := by kernel_rfl
  i9 := by kernel_rfl
  i20 := by kernel_rfl
  i37 := by kernel_rfl
  i75 := by kernel_rfl
  i80 := by kernel_rfl
  i91 := by kernel_rfl
  i93 := by kernel_rfl
  i130 := by kernel_rfl
  i131 := by kernel_rfl
  m14 := by kernel_rfl }
open Go.RowKit in
/-- (*bytes.Buffer).Write: "Write appends the contents of p to the buffer, growing the buffer as needed. The return value n is the length of p; err is always nil." (LAID: no walk: one application.) -/
theorem Tryz.Buffer_Write (B b : Nat) (bs cs : List Value) (a : Addr) (n c : Nat) (w : World) (h : Lib.IsBuffer 125 5 B b bs w) (hBw : B ≤ w.heap.size) (h1 : ∀ v ∈ bs, v.oneCell' = true) (hn : cs.length = n) (haB : a.block < B) (hsrc : ∀ j v, cs[j]? = some v → w.cell? (a.add j) = some v) (h1c : ∀ v ∈ cs, v.oneCell' = true) (hlim : bs.length + n ≤ 140737488355328) :
    Calls Tryz.prog 115 #[.pointer (some ⟨b, 0, none⟩), .slice (some a) n c] w fun e w' => e = .returned (.tuple #[.int .i64 n, .nilIface]) ∧ Lib.IsBuffer 125 5 B b (bs ++ cs) w' ∧ Below B w w' := Any.Buffer_Write Tryz.laysM180 B b bs cs a n c w h hBw h1 hn haB hsrc h1c hlim
end Go.Proofs
end
section
set_option linter.unusedVariables false
set_option linter.unusedSimpArgs false
namespace Go.Proofs.YtjkjnhcnmjknmaaGreatDoorW.PrintWords
open Go.RowKit
/-! ### 5. append(v, x): behind 'at_builtin'; the goal's world is 'W.alloc' of the variadic's box -/
section
variable {P : Program} {ops : Array Oper} {rest : List Oper} {o : Oper} {a : Act} {Q : Exit → Act → World → Prop}
end
/-! ### 6. make([]T, n), n an Int; a literal -/
section
variable {P : Program}
end
/-! ### 8. append(v, ys...): ys a slice that is read, nil let in; behind 'at_builtin' -/
section
variable {P : Program} {ops : Array Oper} {rest : List Oper} {o : Oper} {a : Act} {Q : Exit → Act → World → Prop}
end
section
variable {P : Program} {ops : Array Oper} {rest : List Oper} {o : Oper} {a : Act} {Q : Exit → Act → World → Prop}
end
/-! ### 14. append as_ one step of a region that draws its order: for 'go_region_law' (and a region walked by hand) -/
section
variable {P : Program} {ops : Array Oper} {o : Oper} {a : Act} {Q : Exit → Act → World → Prop} {K : Act → World → Prop}
end
/-! ### 16. Parts 3 to 9 for ANY element of one cell: 'enc' (Value.int k, Value.string, Value.bool), a default 'd' -/
section
variable {α : Type} {enc : α → Value} {d : α}
end
section
variable {α : Type} {P : Program} {ops : Array Oper} {rest : List Oper} {o : Oper} {a : Act} {Q : Exit → Act → World → Prop}
end
/-! ### 19. Results that lie in memory beside others -/
section
variable {P : Program}
end
section
variable {α : Type} {R R' : α → List Value → Prop} {e : TypeId} {size : Nat} {w w1 : World} {base : Nat} {v : Value} {ps : List α}
end
section
variable {P : Program} {ops : Array Oper} {rest : List Oper} {o : Oper} {a : Act} {Q : Exit → Act → World → Prop} {α : Type} {R : α → List Value → Prop}
end
section
variable {P : Program} {ops : Array Oper} {o : Oper} {a : Act} {Q : Exit → Act → World → Prop} {K : Act → World → Prop} {α : Type} {R : α → List Value → Prop}
end
/-! ### 21. Cuts of a slice that came in, lengths spelled as_ the lists' -/
section
variable {α : Type} {P : Program}
end
/-! ### 22. append([]byte, s...), s a string; behind 'at_builtin'. (No word on where the new row lies: two rows of bytes at once don't go by it.) -/
section
variable {P : Program} {ops : Array Oper} {rest : List Oper} {o : Oper} {a : Act} {Q : Exit → Act → World → Prop}
end
namespace Kd
section
variable {α : Type} {d : Kd α} {e : Nat} {w w1 : World} {base : Nat} {ok ok' : Nat → Prop} {v : Value} {xs : List α}
end
section
variable {P : Program} {ops : Array Oper} {rest : List Oper} {o : Oper} {a : Act} {Q : Exit → Act → World → Prop} {α : Type}
end
section
variable {P : Program} {ops : Array Oper} {o : Oper} {a : Act} {Q : Exit → Act → World → Prop} {Kc : Act → World → Prop} {α : Type}
end
end Kd
/-! ### 24. Kinds nested in themselves -/
namespace Kd
section
variable {α : Type} {F : Kd α → Kd α} {sz : Nat} {E : List Nat} {hs : ∀ n, (upto F sz E n).sz = sz} {hE : ∀ n q, q ∈ (upto F sz E n).E → q ∈ E}
end
end Kd
/-! ### 25. What is held while another row is written: 'ok' says that its rows are none of that row's block -/
namespace Kd
end Kd
/-! ### 26. Words for a printer that takes every slice by its kind -/
namespace Kd
section
variable {α β : Type} {d : Kd α} {d' : Kd β} {e e' : Nat} {w w1 W : World} {base b b' : Nat} {ok ok' okv oku : Nat → Prop} {v u : Value} {xs : List α} {ys : List β}
end
/-! #### scalars -/
section
variable {w W : World} {A : Option Addr} {n : Nat}
variable {α : Type} {enc : α → Value} {h1 : ∀ x, (enc x).oneCell' = true} {e base g cap : Nat} {ok : Nat → Prop} {xs : List α}
end
/-! #### events: a letter for what make and a literal leave -/
section
variable {P : Program} {ops : Array Oper} {rest : List Oper} {o : Oper} {a : Act} {Q : Exit → Act → World → Prop}
variable {α : Type}
end
end Kd
section
variable {P : Program}
end
section
variable {w w1 : World} {base n size : Nat} {e : TypeId} {v : Value} {xs : List Value}
end
section
variable {P : Program}
end
/-! ### 28. The kinds' words for cuts: R_take; Q (a row that may begin inside its block) with all of R's movers -/
namespace Kd
section
variable {α : Type} {d : Kd α} {e : Nat} {w w1 W : World} {base : Nat} {ok ok' : Nat → Prop} {v : Value} {xs : List α}
end
section
variable {P : Program} {ops : Array Oper} {rest : List Oper} {o : Oper} {a : Act} {Q' : Exit → Act → World → Prop} {Kc : Act → World → Prop} {α : Type}
end
end Kd
/-! ### 29. Movers that ask of another row no more than they need: for R and for Q -/
namespace Kd
section
variable {α : Type} {d : Kd α} {e e' : Nat} {w w1 W : World} {base : Nat} {ok : Nat → Prop} {u v : Value} {xs : List α}
end
end Kd
namespace Kd
section
variable {α : Type} {d : Kd α} {e base g n cap : Nat} {ok okp : Nat → Prop} {W : World} {xs : List α}
end
end Kd
/-! ### 31. What came in, put into what is made: 'fixed d w0' (read in w0, whatever happens since), 'or_ a b', 'mix' (a slice that came in, or one that is made) -/
namespace Kd
section
variable {α : Type} {F : Kd α → Kd α} {sz : Nat} {E : List Nat} {hs : ∀ n, (upto F sz E n).sz = sz} {hE : ∀ n q, q ∈ (upto F sz E n).E → q ∈ E}
end
end Kd
/-! ### 32. A whole row appended, of elements of any kind; copy onto a row of scalars of one's own -/
namespace Kd
section
variable {P : Program} {ops : Array Oper} {rest : List Oper} {o : Oper} {a : Act} {Q : Exit → Act → World → Prop} {α : Type}
end
end Kd
namespace Kd
section
variable {P : Program} {ops : Array Oper} {rest : List Oper} {o : Oper} {a : Act} {Q : Exit → Act → World → Prop} {α : Type}
end
end Kd
namespace Kd
section
variable {α : Type} {k : Kd α} {w : World} {A : Option Addr} {xs : List α} {m c : Nat}
end
end Kd
section
variable {P : Program}
end
namespace Kd
section
variable {α β : Type} {d : Kd α} {d' : Kd β} {e e' base base' n : Nat} {ok ok' : Nat → Prop} {w W w1 W1 : World} {v u : Value} {xs : List α} {ys : List β} {A : Option Addr} {c : Nat}
end
section
variable {α : Type} {enc : α → Value} {h1 : ∀ x, (enc x).oneCell' = true} {w W : World} {A : Option Addr} {n g : Nat} {xs : List α}
end
end Kd
namespace Kd
section
variable {α : Type} {d : Kd α} {e base g : Nat} {ok : Nat → Prop} {w w1 : World} {v : Value} {xs : List α} {o : Obj}
end
end Kd
section
variable {P : Program} {ops : Array Oper} {rest : List Oper} {o : Oper} {a : Act} {Q : Exit → Act → World → Prop}
end
namespace Kd
section
variable {α : Type} {enc : α → Value} {h1 : ∀ x, (enc x).oneCell' = true} {e base g n cap : Nat} {ok : Nat → Prop} {W : World} {xs : List α}
end
end Kd
section
variable {P : Program} {ops : Array Oper} {rest : List Oper} {o : Oper} {a : Act} {Q : Exit → Act → World → Prop}
end
namespace Kd
section
variable {α : Type} {enc : α → Value} {h1 : ∀ x, (enc x).oneCell' = true} {e base g n cap : Nat} {ok : Nat → Prop} {W : World} {xs : List α}
end
end Kd
section
variable {P : Program} {ops : Array Oper} {rest : List Oper} {o : Oper} {a : Act} {Q : Exit → Act → World → Prop} {W : World}
end
/-! ### 36. Events as_ one step of a region that draws (for one_, two_, three_) -/
section
variable {P : Program} {ops : Array Oper} {o : Oper} {a : Act} {Q : Exit → Act → World → Prop} {Kc : Act → World → Prop}
theorem event_step {W w1 : World} {v : Value} (hw : Region.wanted o (yielded ops a.tmps) = true) (hrun : (execOp a.eval o).run P W = .ok (.value v) w1) (h : Kc (a.put o.dst v) w1) : if Region.wanted o (yielded ops a.tmps) = true then Oper.wp P o a W Kc Q else Kc (a.put o.dst undef) W := by
  rw [if_pos hw]
  unfold Oper.wp
  rw [hrun]
  exact h
namespace Kd
variable {α : Type}
end Kd
end
section
variable {P : Program} {tmps : Array Value} {w : World}
end
/-! ### 38. 'out = append(out[:k], out[k+1:]...)': an element taken out of a row of one's own, in place -/
namespace Kd
section
variable {P : Program} {α : Type}
end
section
variable {P : Program} {ops : Array Oper} {rest : List Oper} {o : Oper} {a : Act} {Q : Exit → Act → World → Prop} {Kc : Act → World → Prop} {α : Type}
end
end Kd
end Go.Proofs.YtjkjnhcnmjknmaaGreatDoorW.PrintWords
end
section
/-! ### 40. Elements whose inner rows lie apart: what is stored into one says nothing of the others.
   S: asx R, with an owner function f (block to element's index). H: asx S with a hole: of element i its cells alone are told, its blocks are oki. -/
namespace Go.Proofs.YtjkjnhcnmjknmaaGreatDoorW.PrintWords
open Go.RowKit
namespace Kd
section
variable {α β : Type} {d : Kd α} {d' : Kd β} {e e' : Nat} {w w1 W : World} {base b : Nat} {ok ok' okv oku : Nat → Prop} {u v : Value} {xs : List α} {ys : List β}
theorem S_alloc (h : S d e w base ok v xs) (o : Obj) : S d e (w.alloc o) base ok v xs := S_below h (below_alloc (Below.refl _ _) o)
theorem S_drew (h : S d e w base ok v xs) : S d e w.drew base ok v xs := S_below h (below_drew (Below.refl _ _))
theorem S_drewN (h : S d e w base ok v xs) (m : Nat) : S d e (w.drewN m) base ok v xs := S_below h (pw_below_drewN (Below.refl _ _) m)
theorem S_new' (h : S d e w1 W.heap.size ok v xs) (hlt : ∀ k, u.ownBlock = some k → k < W.heap.size) : S d e w1 W.heap.size (fun k => ok k ∧ some k ≠ u.ownBlock) v xs := by
  obtain ⟨f, h⟩ := h
  exact ⟨f, R_new' h hlt⟩
end
section
variable {α β : Type} {d : Kd α} {d' : Kd β} {e e' g : Nat} {w w1 W : World} {base b : Nat} {ok ok' okv oku : Nat → Prop} {u v : Value} {xs : List α} {ys : List β}
end
/-! #### append, make, literals: the new element's blocks are none of the elder ones' -/
section
variable {P : Program} {ops : Array Oper} {rest : List Oper} {o : Oper} {a : Act} {Q : Exit → Act → World → Prop} {Kc : Act → World → Prop} {α : Type}
end
section
variable {α β : Type} {d : Kd α} {e e' g n cap : Nat} {w w1 W : World} {base : Nat} {ok ok' oki okp : Nat → Prop} {u v : Value} {xs : List α} {i : Int} {c : List Value}
end
section
variable {P : Program} {ops : Array Oper} {rest : List Oper} {o : Oper} {a : Act} {Q : Exit → Act → World → Prop} {α : Type}
end
end Kd
end Go.Proofs.YtjkjnhcnmjknmaaGreatDoorW.PrintWords
end
section
namespace Go.Proofs.YtjkjnhcnmjknmaaGreatDoor.Q
open Go.RowKit Go.Proofs.YtjkjnhcnmjknmaaGreatDoorW.PrintWords Go.Proofs.YtjkjnhcnmjknmaaGreatDoorW.PrintLast Go.Proofs.YtjkjnhcnmjknmaaGreatDoorW.PrintMore
attribute [local go_sem] max2_int min2_int max_two min_two max_three min_three max_four min_four   -- for this text's walks alone
set_option linter.unusedVariables false
set_option linter.unusedSimpArgs false
def errW : Option Int → Value
  | none => .nilIface
  | some c => .iface 0 (.int .i64 c)
theorem errW_none : errW none = .nilIface := rfl
theorem errW_some (c : Int) : errW (some c) = .iface 0 (.int .i64 c) := rfl
-- the values' own types
end Go.Proofs.YtjkjnhcnmjknmaaGreatDoor.Q
end
section
namespace Go.Proofs.YtjkjnhcnmjknmaaGreatDoor.Q
open Go.RowKit Go.Proofs.YtjkjnhcnmjknmaaGreatDoorW.PrintWords Go.Proofs.YtjkjnhcnmjknmaaGreatDoorW.PrintLast Go.Proofs.YtjkjnhcnmjknmaaGreatDoorW.PrintMore
attribute [local go_sem] max2_int min2_int max_two min_two max_three min_three max_four min_four   -- for this text's walks alone
set_option linter.unusedVariables false
set_option linter.unusedSimpArgs false
/-! ### xansi_zzJoin: function 113 -/
def xansi_zzJoin.l0 : Nat → ByteArray → ByteArray → List ByteArray → Int → Int → Option (ByteArray)
  | 0, _, _, _, _, _ => none
  | k + 1, x1, x5, x8, x9, x10 => if x10 < x9 then (if 0 ≤ x10 then (if x10 < (x8.length : Int) then (if x10 > 0 then (if x5.size + x1.size ≤ 9223372036854775807 then (if x5.size + x1.size + (rdOf ByteArray.empty x8 x10).size ≤ 9223372036854775807 then (xansi_zzJoin.l0 k x1 ((x5 ++ x1) ++ (rdOf ByteArray.empty x8 x10)) x8 x9 (wrap64 (x10 + 1))) else (none)) else (none)) else (if x5.size + (rdOf ByteArray.empty x8 x10).size ≤ 9223372036854775807 then (xansi_zzJoin.l0 k x1 (x5 ++ (rdOf ByteArray.empty x8 x10)) x8 x9 (wrap64 (x10 + 1))) else (none))) else (none)) else (none)) else (some x5)
def xansi_zzJoin.f (k : Nat) (l0 : List ByteArray) (a1 : ByteArray) : Option (ByteArray) := xansi_zzJoin.l0 k a1 (⟨#[]⟩ : ByteArray) l0 (l0.length : Int) 0
theorem xansi_zzJoin.mono_l : ∀ k, (∀ y0 y1 y2 y3 y4, LeO (xansi_zzJoin.l0 k y0 y1 y2 y3 y4) (xansi_zzJoin.l0 (k + 1) y0 y1 y2 y3 y4))
  | 0 => fun _ _ _ _ _ r h => by simp [xansi_zzJoin.l0] at h
  | k + 1 => by
    have ih0 := xansi_zzJoin.mono_l k
    · intro y0 y1 y2 y3 y4
      unfold xansi_zzJoin.l0
      repeat' first
      | (with_reducible exact ih0 _ _ _ _ _)
      | (with_reducible exact LeO.refl _)
      | (with_reducible exact LeO.none _)
      | (with_reducible refine LeO.ite ?_ ?_)
      | (with_reducible refine LeO.bind ?_ (fun _ => ?_))
      | exact ih0 _ _ _ _ _
      | exact LeO.none _
      | refine LeO.ite ?_ ?_
      | refine LeO.bind ?_ (fun _ => ?_)
theorem xansi_zzJoin.mono : ∀ a0 a1 k, LeO (xansi_zzJoin.f k a0 a1) (xansi_zzJoin.f (k + 1) a0 a1) := by
  intro a0 a1 k
  have ih0 := xansi_zzJoin.mono_l k
  unfold xansi_zzJoin.f
  repeat' first
      | (with_reducible exact ih0 _ _ _ _ _)
      | (with_reducible exact LeO.refl _)
      | (with_reducible exact LeO.none _)
      | (with_reducible refine LeO.ite ?_ ?_)
      | (with_reducible refine LeO.bind ?_ (fun _ => ?_))
      | exact ih0 _ _ _ _ _
      | exact LeO.none _
      | refine LeO.ite ?_ ?_
      | refine LeO.bind ?_ (fun _ => ?_)
end Go.Proofs.YtjkjnhcnmjknmaaGreatDoor.Q
end
section
namespace Go.Proofs.YtjkjnhcnmjknmaaGreatDoor.Q
open Go.RowKit Go.Proofs.YtjkjnhcnmjknmaaGreatDoorW.PrintWords Go.Proofs.YtjkjnhcnmjknmaaGreatDoorW.PrintLast Go.Proofs.YtjkjnhcnmjknmaaGreatDoorW.PrintMore
attribute [local go_sem] max2_int min2_int max_two min_two max_three min_three max_four min_four   -- for this text's walks alone
set_option linter.unusedVariables false
set_option linter.unusedSimpArgs false
set_option maxHeartbeats 8000000 in
set_option maxRecDepth 100000 in
theorem xansi_zzJoin.calls (k : Nat) (A0 : Option Addr) (c0 : Nat) (l0 : List ByteArray) (a1 : ByteArray) (r : ByteArray) (w : World) (hr0 : Kd.C Kd.string w A0 l0.length l0) (hc0 : l0.length ≤ c0) (h : xansi_zzJoin.f k l0 a1 = some r) :
    Calls Tryz.prog 113 #[.slice A0 l0.length c0, .string a1] w fun e w' => e = .returned (.string r) ∧ Drawn0 w w' := by
  have HR0 := Aside0.mk hr0
  have HC0 := Aside0.mk hc0
  clear hr0 hc0
  have H : (xansi_zzJoin.l0 k a1 (⟨#[]⟩ : ByteArray) l0 (l0.length : Int) 0) = some r := h
  clear h
  have H' := Aside0.mk H
  clear H
  go_enter Tryz.func113, Tryz.ntmps113
  go_wp2
  go_loopg [5, 10] k (fun kq v5 v10 w' => ∃ (x5_1 : ByteArray) (x10_1 : Int), v5 = .string x5_1 ∧ v10 = .int .i64 x10_1 ∧ Aside0 (xansi_zzJoin.l0 kq a1 x5_1 l0 (l0.length : Int) x10_1 = some r) ∧ Aside0 (kq ≤ k) ∧ Drawn0 w w')
  case atStart => exact ⟨((⟨#[]⟩ : ByteArray)), (0), (by first | rfl | (simp; done) | (simp [*]; done)), (by first | rfl | (simp; done) | (simp [*]; done)), H', ⟨Nat.le_refl _⟩, by repeat (first | exact Drawn0.refl _ | apply Drawn0.step)⟩
  case round =>
    clear H'
    try clear c1
    try clear p2
    obtain ⟨x5_1, x10_1, rfl, rfl, HA, HK1, ⟨m1, rfl⟩⟩ := hrel
    cases gk with
    | zero => exact absurd HA.out (by simp [xansi_zzJoin.l0])
    | succ k1 =>
      have H := HA.out
      clear HA
      simp only [xansi_zzJoin.l0] at H
      by_cases c3 : x10_1 < (l0.length : Int)
      · rw [if_pos c3] at H
        have c3b0 : decide (x10_1 < (l0.length : Int)) = true := decide_eq_true c3
        clear c3
        by_cases c4 : 0 ≤ x10_1
        · rw [if_pos c4] at H
          have c4b0 : decide (0 ≤ x10_1) = true := decide_eq_true c4
          clear c4
          by_cases c5 : x10_1 < (l0.length : Int)
          · rw [if_pos c5] at H
            have c5b0 : decide (x10_1 < (l0.length : Int)) = true := decide_eq_true c5
            clear c5
            by_cases c6 : x10_1 > 0
            · rw [if_pos c6] at H
              have c6b0 : decide (0 < x10_1) = true := decide_eq_true c6
              clear c6
              by_cases c7 : x5_1.size + a1.size ≤ 9223372036854775807
              · rw [if_pos c7] at H
                have c7b0 := eq_true c7
                have c7b1 : decide (x5_1.size + a1.size ≤ 9223372036854775807) = true := decide_eq_true c7
                try have c7b2 : (9223372036854775807 < x5_1.size + a1.size) = False := eq_false (Nat.not_lt.2 c7)
                by_cases c8 : x5_1.size + a1.size + (rdOf ByteArray.empty l0 x10_1).size ≤ 9223372036854775807
                · rw [if_pos c8] at H
                  have c8b0 := eq_true c8
                  have c8b1 : decide (x5_1.size + a1.size + (rdOf ByteArray.empty l0 x10_1).size ≤ 9223372036854775807) = true := decide_eq_true c8
                  try have c8b2 : (9223372036854775807 < x5_1.size + a1.size + (rdOf ByteArray.empty l0 x10_1).size) = False := eq_false (Nat.not_lt.2 c8)
                  have H' := Aside0.mk H
                  clear H
                  have p101 : 0 ≤ (x10_1 : Int) := of_decide_eq_true (by first | (with_reducible assumption) | assumption)
                  have q101 : x10_1 < (l0.length : Int) := of_decide_eq_true (by first | (with_reducible assumption) | assumption)
                  obtain ⟨ad101, e101, hx101_0⟩ := Kd.at_string HR0.out x10_1 p101 q101
                  cases e101
                  replace p101 := eq_true p101
                  replace q101 := eq_true q101
                  go_wp2
                  go_roundg k1
                  case measure => have := HK1.out; omega
                  case rel => exact ⟨((x5_1 ++ a1) ++ (rdOf ByteArray.empty l0 x10_1)), (wrap64 (x10_1 + 1)), (by first | rfl | (simp; done) | (simp [*]; done)), (by first | rfl | (simp; done) | (simp [*]; done)), H', ⟨by have := HK1.out; omega⟩, by repeat (first | exact Drawn0.refl _ | apply Drawn0.step)⟩
                · rw [if_neg c8] at H
                  exact absurd H (by simp)
              · rw [if_neg c7] at H
                exact absurd H (by simp)
            · rw [if_neg c6] at H
              have c6b0 : decide (0 < x10_1) = false := decide_eq_false c6
              clear c6
              by_cases c9 : x5_1.size + (rdOf ByteArray.empty l0 x10_1).size ≤ 9223372036854775807
              · rw [if_pos c9] at H
                have c9b0 := eq_true c9
                have c9b1 : decide (x5_1.size + (rdOf ByteArray.empty l0 x10_1).size ≤ 9223372036854775807) = true := decide_eq_true c9
                try have c9b2 : (9223372036854775807 < x5_1.size + (rdOf ByteArray.empty l0 x10_1).size) = False := eq_false (Nat.not_lt.2 c9)
                have H' := Aside0.mk H
                clear H
                have p101 : 0 ≤ (x10_1 : Int) := of_decide_eq_true (by first | (with_reducible assumption) | assumption)
                have q101 : x10_1 < (l0.length : Int) := of_decide_eq_true (by first | (with_reducible assumption) | assumption)
                obtain ⟨ad101, e101, hx101_0⟩ := Kd.at_string HR0.out x10_1 p101 q101
                cases e101
                replace p101 := eq_true p101
                replace q101 := eq_true q101
                go_wp2
                go_roundg k1
                case measure => have := HK1.out; omega
                case rel => exact ⟨(x5_1 ++ (rdOf ByteArray.empty l0 x10_1)), (wrap64 (x10_1 + 1)), (by first | rfl | (simp; done) | (simp [*]; done)), (by first | rfl | (simp; done) | (simp [*]; done)), H', ⟨by have := HK1.out; omega⟩, by repeat (first | exact Drawn0.refl _ | apply Drawn0.step)⟩
              · rw [if_neg c9] at H
                exact absurd H (by simp)
          · rw [if_neg c5] at H
            exact absurd H (by simp)
        · rw [if_neg c4] at H
          exact absurd H (by simp)
      · rw [if_neg c3] at H
        have c3b0 : decide (x10_1 < (l0.length : Int)) = false := decide_eq_false c3
        clear c3
        obtain rfl := Option.some.inj H
        go_wp2
        go_ret
        exact ⟨by first | rfl | (simp; done) | (simp [*]; done), by repeat (first | exact Drawn0.refl _ | apply Drawn0.step)⟩
end Go.Proofs.YtjkjnhcnmjknmaaGreatDoor.Q
end
section
namespace Go.Proofs.YtjkjnhcnmjknmaaGreatDoor.X
open Go.RowKit Go.Proofs.YtjkjnhcnmjknmaaGreatDoorW.PrintWords Go.Proofs.YtjkjnhcnmjknmaaGreatDoorW.PrintLast Go.Proofs.YtjkjnhcnmjknmaaGreatDoorW.PrintMore
set_option linter.unusedSimpArgs false
set_option linter.unusedVariables false
theorem gb_one (l : List UInt8) : ∀ v ∈ Lib.byteCells l, v.oneCell' = true := fun v hv => by
  obtain ⟨b, _, rfl⟩ := List.mem_map.1 hv
  rfl
theorem gb_len (l : List UInt8) : (Lib.byteCells l).length = l.length := by simp [Lib.byteCells]
theorem gb_app (a b : List UInt8) : Lib.byteCells a ++ Lib.byteCells b = Lib.byteCells (a ++ b) := by simp [Lib.byteCells]
/-- The buffer, at work. -/
def Buf (W0 w : World) (acc : List UInt8) : Prop := Lib.IsBuffer 125 5 W0.heap.size W0.heap.size (Lib.byteCells acc) w ∧ Below W0.heap.size W0 w
theorem buf_new (w : World) : Buf w (w.alloc (.cells #[.slice none 0 0, .int .i64 0, .int .i8 0] 125)) [] := ⟨Lib.fresh_isBuffer _ _ w, below_alloc (Below.refl _ w) _⟩
theorem buf_below {W0 w w1 : World} {acc : List UInt8} (h : Buf W0 w acc) (hb : Below w.heap.size w w1) : Buf W0 w1 acc := by
  obtain ⟨⟨h0, v, lr, h1, h2, h3⟩, h4⟩ := h
  have hlt : W0.heap.size < w.heap.size := by
    rcases Nat.lt_or_ge W0.heap.size w.heap.size with h' | h'
    · exact h'
    · simp [Array.getElem?_eq_none h'] at h1
  exact ⟨⟨h0, v, lr, (hb.block _ hlt).trans h1, own_move h2 (fun k hk => hb.block k (own_lt h2 k hk)), h3⟩, h4.trans (hb.mono h4.size)⟩
theorem buf_text (W0 : World) (acc : List UInt8) (s : ByteArray) (w : World) (h : Buf W0 w acc) (ha : acc.length ≤ 10000000) (hs : s.size ≤ 10000000) :
    Calls Tryz.prog 114 #[.pointer (some ⟨W0.heap.size, 0, none⟩), .string s] w fun e w' => e = .returned (.tuple #[.int .i64 s.size, .nilIface]) ∧ Hid (Buf W0 w' (acc ++ s.data.toList)) := by
  refine (Tryz.Buffer_WriteString _ _ _ _ _ h.1 h.2.size (gb_one acc) (by rw [gb_len]; omega)).mono ?_
  rintro e w' ⟨rfl, h1, h2⟩
  rw [gb_app] at h1
  exact ⟨rfl, h1, h.2.trans h2⟩
theorem buf_byte (W0 : World) (acc : List UInt8) (c : UInt8) (w : World) (h : Buf W0 w acc) (ha : acc.length ≤ 10000000) :
    Calls Tryz.prog 117 #[.pointer (some ⟨W0.heap.size, 0, none⟩), .int .u8 c.toNat] w fun e w' => e = .returned .nilIface ∧ Hid (Buf W0 w' (acc ++ [c])) := by
  refine (Tryz.Buffer_WriteByte _ _ _ (c.toNat : Int) _ h.1 h.2.size (gb_one acc) (by rw [gb_len]; omega)).mono ?_
  rintro e w' ⟨rfl, h1, h2⟩
  have e1 : Lib.byteCells acc ++ [.int .u8 (c.toNat : Int)] = Lib.byteCells (acc ++ [c]) := by simp [Lib.byteCells]
  rw [e1] at h1
  exact ⟨rfl, h1, h.2.trans h2⟩
def bys (p : List UInt8) : List Int := p.map fun b => (b.toNat : Int)
theorem buf_row (W0 : World) (acc p : List UInt8) (A0 : Option Addr) (c0 : Nat) (w : World) (h : Buf W0 w acc) (hr : Kd.C (Kd.int .u8) W0 A0 (bys p).length (bys p)) (hp : 0 < p.length) (ha : acc.length ≤ 10000000) (hl : p.length ≤ 10000000) :
    Calls Tryz.prog 115 #[.pointer (some ⟨W0.heap.size, 0, none⟩), .slice A0 (bys p).length c0] w fun e w' => e = .returned (.tuple #[.int .i64 (p.length : Int), .nilIface]) ∧ Hid (Buf W0 w' (acc ++ p)) := by
  have hi : (bys p).length = p.length := by simp [bys]
  obtain ⟨ad, ea, hx⟩ := Kd.at_int hr 0 (by omega) (by omega)
  subst ea
  have hlt := World.block_lt_of_cell? W0 _ hx
  have hsrc : ∀ j v, (Lib.byteCells p)[j]? = some v → w.cell? (ad.add j) = some v := fun j v hv => by
    have hj : j < p.length := by
      have := (List.getElem?_eq_some_iff.1 hv).1
      rwa [gb_len] at this
    obtain ⟨ad2, ea2, hx2⟩ := Kd.at_int hr (j : Int) (by omega) (by omega)
    injection ea2 with ea2
    subst ea2
    rw [Int.toNat_natCast] at hx2
    rw [(h.2.cell (World.block_lt_of_cell? W0 _ hx2)).trans hx2]
    simp only [Lib.byteCells, List.getElem?_map, List.getElem?_eq_getElem hj, Option.map_some] at hv
    rw [← Option.some.inj hv]
    simp [rd, bys, hj]
  have hbk : ad.block < W0.heap.size := by
    have : (ad.add (0 : Int).toNat).block = ad.block := by
      unfold Addr.add
      split <;> rfl
    rw [← this]
    exact hlt
  refine (Tryz.Buffer_Write _ _ _ (Lib.byteCells p) ad (bys p).length c0 _ h.1 h.2.size (gb_one acc) (by rw [gb_len, hi]) hbk hsrc (gb_one p) (by rw [gb_len]; omega)).mono ?_
  rintro e w' ⟨rfl, h1, h2⟩
  rw [gb_app] at h1
  exact ⟨by rw [hi], h1, h.2.trans h2⟩
theorem bys_len (p : List UInt8) : (bys p).length = p.length := by simp [bys]
theorem wrap64_in (a : Int) (h0 : -9223372036854775808 ≤ a) (h1 : a ≤ 9223372036854775807) : wrap64 a = a := by unfold wrap64; omega
def kittyT (p : List UInt8) (j : ByteArray) : List UInt8 := [27, 95, 71] ++ j.data.toList ++ (if p = [] then [] else 59 :: p) ++ [27, 92]
set_option maxRecDepth 100000 in
set_option maxHeartbeats 2000000 in
theorem kittyg_calls (A0 A1 : Option Addr) (c0 c1 : Nat) (p : List UInt8) (opts : List ByteArray) (k : Nat) (j : ByteArray) (w : World) (hr : Kd.C (Kd.int .u8) w A0 (bys p).length (bys p)) (hc : (bys p).length ≤ c0) (hr1 : Kd.C Kd.string w A1 opts.length opts) (hc1 : opts.length ≤ c1)
    (hj : Q.xansi_zzJoin.f k opts ⟨#[44]⟩ = some j) (hl : p.length ≤ 1000000) (hz : j.size ≤ 1000000) :
    Calls Tryz.prog 43 #[.slice A0 (bys p).length c0, .slice A1 opts.length c1] w fun e w' => e = .returned (.string ⟨(kittyT p j).toArray⟩) ∧ Below w.heap.size w w' := by
  have HR := Lib.hid (And.intro hr hr1)
  have HJ := Lib.hid hj
  have hjl : j.data.toList.length = j.size := rfl
  clear hr hr1 hj
  go_enter Tryz.func43, Tryz.ntmps43
  go_wp2_with fail
  refine (buf_text w [] _ _ (buf_new w) (by simp) (by show 3 ≤ _; omega)).mono ?_
  rintro e w1 ⟨rfl, h1⟩
  go_wp2_with fail
  refine (Q.xansi_zzJoin.calls k _ _ opts ⟨#[44]⟩ j _ (Kd.C_below (d := Kd.string) HR.out.2 h1.out.2) hc1 HJ.out).mono ?_
  rintro e w2 ⟨rfl, ⟨nd, rfl⟩⟩
  go_wp2_with fail
  refine (buf_text w _ j _ (show Buf w (w1.drewN nd) _ from ⟨h1.out.1, pw_below_drewN h1.out.2 nd⟩) (by simp) (by omega)).mono ?_
  rintro e w3 ⟨rfl, h3⟩
  by_cases hp : p = []
  · have d1 : decide (0 < (bys p).length) = false := decide_eq_false (by rw [bys_len, hp]; simp)
    go_wp2_with fail
    refine (buf_text w _ ⟨#[27, 92]⟩ _ h3.out (by simp; omega) (by show 2 ≤ _; omega)).mono ?_
    rintro e w4 ⟨rfl, h4⟩
    go_wp2_with fail
    refine (Tryz.Buffer_String _ _ _ _ h4.out.1).mono ?_
    rintro e w5 ⟨rfl, q, rfl⟩
    go_wp2_with fail
    go_ret
    refine ⟨?_, pw_below_drewN h4.out.2 q⟩
    show Ending.returned (Value.string _) = _
    congr 2
    unfold kittyT
    rw [if_pos hp]
    simp
  · have hpl : 0 < p.length := List.length_pos_iff.2 hp
    have d1 : decide (0 < (bys p).length) = true := decide_eq_true (by rw [bys_len]; exact hpl)
    go_wp2_with fail
    refine (buf_text w _ ⟨#[59]⟩ _ h3.out (by simp; omega) (by show 1 ≤ _; omega)).mono ?_
    rintro e w4 ⟨rfl, h4⟩
    go_wp2_with fail
    refine (buf_row w _ p A0 c0 _ h4.out HR.out.1 hpl (by simp; omega) (by omega)).mono ?_
    rintro e w5 ⟨rfl, h5⟩
    go_wp2_with fail
    refine (buf_text w _ ⟨#[27, 92]⟩ _ h5.out (by simp; omega) (by show 2 ≤ _; omega)).mono ?_
    rintro e w6 ⟨rfl, h6⟩
    go_wp2_with fail
    refine (Tryz.Buffer_String _ _ _ _ h6.out.1).mono ?_
    rintro e w7 ⟨rfl, q, rfl⟩
    go_wp2_with fail
    go_ret
    refine ⟨?_, pw_below_drewN h6.out.2 q⟩
    show Ending.returned (Value.string _) = _
    congr 2
    unfold kittyT
    rw [if_neg hp]
    simp
set_option maxRecDepth 100000 in
theorem kitty_calls (A0 A1 : Option Addr) (c0 c1 : Nat) (p : List UInt8) (opts : List ByteArray) (k : Nat) (j : ByteArray) (w : World) (hr : Kd.C (Kd.int .u8) w A0 (bys p).length (bys p)) (hc : (bys p).length ≤ c0) (hr1 : Kd.C Kd.string w A1 opts.length opts) (hc1 : opts.length ≤ c1)
    (hj : Q.xansi_zzJoin.f k opts ⟨#[44]⟩ = some j) (hl : p.length ≤ 1000000) (hz : j.size ≤ 1000000) :
    Calls Tryz.prog 23 #[.slice A0 (bys p).length c0, .slice A1 opts.length c1] w fun e w' => e = .returned (.string ⟨(kittyT p j).toArray⟩) ∧ Below w.heap.size w w' := by
  have hi : (bys p).length = p.length := by simp [bys]
  have HO := Lib.hid (own_calls A0 c0 (bys p) w hr hc (by omega))
  clear hi
  have HR := Lib.hid hr1
  have HJ := Lib.hid hj
  clear hr hr1 hj
  go_enter Tryz.func23, Tryz.ntmps23
  go_wp2_with fail
  refine HO.out.mono ?_
  rintro e w1 ⟨v, rfl, hR, hb⟩
  obtain ⟨Av, cv, rfl⟩ := Kd.R_slice hR
  have HV := Lib.hid (And.intro (Kd.R_reads' hR).2 hb)
  clear hR hb HO
  go_wp2_with fail
  refine (kittyg_calls _ _ _ _ p opts k j w1 HV.out.1.2 HV.out.1.1 (Kd.C_below (d := Kd.string) HR.out HV.out.2) hc1 HJ.out hl hz).mono ?_
  rintro e w2 ⟨rfl, hb2⟩
  have HB := Lib.hid (HV.out.2.trans (hb2.mono HV.out.2.size))
  clear hb2
  go_wp2_with fail
  go_ret
  exact ⟨rfl, HB.out⟩
def sixelT (ta tb tc : ByteArray) (p : List UInt8) : List UInt8 := [27, 80] ++ ta.data.toList ++ [59] ++ tb.data.toList ++ [59] ++ tc.data.toList ++ [113] ++ p ++ [27, 92]
set_option maxRecDepth 100000 in
set_option maxHeartbeats 4000000 in
theorem sixelg_calls (a b c : Int) (ha : 1 ≤ a) (hb : 1 ≤ b) (hc : 1 ≤ c) (ta tb tc : ByteArray) (hta : Y.strconv_Itoa.f a = some ta) (htb : Y.strconv_Itoa.f b = some tb) (htc : Y.strconv_Itoa.f c = some tc) (za : ta.size ≤ 1000) (zb : tb.size ≤ 1000) (zc : tc.size ≤ 1000)
    (A0 : Option Addr) (c0 : Nat) (p : List UInt8) (w : World) (hT : XTab w) (hr : Kd.C (Kd.int .u8) w A0 (bys p).length (bys p)) (hp : 0 < p.length) (hl : p.length ≤ 1000000) :
    Calls Tryz.prog 44 #[.int .i64 a, .int .i64 b, .int .i64 c, .slice A0 (bys p).length c0] w fun e w' => e = .returned (.string ⟨(sixelT ta tb tc p).toArray⟩) ∧ Below w.heap.size w w' := by
  have HR := Lib.hid (And.intro hr hT)
  have HI := Lib.hid (And.intro hta (And.intro htb htc))
  have na : ta.data.toList.length = ta.size := rfl
  have nb : tb.data.toList.length = tb.size := rfl
  have nc : tc.data.toList.length = tc.size := rfl
  have d1 : decide (a ≥ 0) = true := decide_eq_true (by omega)
  have d2 : decide (b ≥ 0) = true := decide_eq_true (by omega)
  have d3 : decide (c > 0) = true := decide_eq_true (by omega)
  have d4 : decide (0 ≤ a) = true := decide_eq_true (by omega)
  have d5 : decide (0 ≤ b) = true := decide_eq_true (by omega)
  have d6 : decide (0 < c) = true := decide_eq_true (by omega)
  clear hr hT hta htb htc
  go_enter Tryz.func44, Tryz.ntmps44
  go_wp2_with fail
  refine (buf_text w [] _ _ (buf_new w) (by simp) (by show 2 ≤ _; omega)).mono ?_
  rintro e w1 ⟨rfl, h1⟩
  go_wp2_with fail
  refine (Y.strconv_Itoa.calls a ta _ (HR.out.2.below h1.out.2) HI.out.1).mono ?_
  rintro e w2 ⟨rfl, b2⟩
  go_wp2_with fail
  refine (buf_text w _ ta _ (buf_below h1.out b2) (by simp) (by omega)).mono ?_
  rintro e w3 ⟨rfl, h3⟩
  go_wp2_with fail
  refine (buf_byte w _ 59 _ h3.out (by simp; omega)).mono ?_
  rintro e w4 ⟨rfl, h4⟩
  go_wp2_with fail
  refine (Y.strconv_Itoa.calls b tb _ (HR.out.2.below h4.out.2) HI.out.2.1).mono ?_
  rintro e w5 ⟨rfl, b5⟩
  go_wp2_with fail
  refine (buf_text w _ tb _ (buf_below h4.out b5) (by simp; omega) (by omega)).mono ?_
  rintro e w6 ⟨rfl, h6⟩
  go_wp2_with fail
  refine (buf_byte w _ 59 _ h6.out (by simp; omega)).mono ?_
  rintro e w7 ⟨rfl, h7⟩
  go_wp2_with fail
  refine (Y.strconv_Itoa.calls c tc _ (HR.out.2.below h7.out.2) HI.out.2.2).mono ?_
  rintro e w8 ⟨rfl, b8⟩
  go_wp2_with fail
  refine (buf_text w _ tc _ (buf_below h7.out b8) (by simp; omega) (by omega)).mono ?_
  rintro e w9 ⟨rfl, h9⟩
  go_wp2_with fail
  refine (buf_byte w _ 113 _ h9.out (by simp; omega)).mono ?_
  rintro e wa ⟨rfl, h10⟩
  go_wp2_with fail
  refine (buf_row w _ p A0 c0 _ h10.out HR.out.1 hp (by simp; omega) (by omega)).mono ?_
  rintro e wb ⟨rfl, h11⟩
  go_wp2_with fail
  refine (buf_text w _ ⟨#[27, 92]⟩ _ h11.out (by simp; omega) (by show 2 ≤ _; omega)).mono ?_
  rintro e wc ⟨rfl, h12⟩
  go_wp2_with fail
  refine (Tryz.Buffer_String _ _ _ _ h12.out.1).mono ?_
  rintro e wd ⟨rfl, q, rfl⟩
  go_wp2_with fail
  go_ret
  refine ⟨?_, pw_below_drewN h12.out.2 q⟩
  show Ending.returned (Value.string _) = _
  congr 2
  simp [sixelT]
set_option maxRecDepth 100000 in
theorem sixel_calls (a b c : Int) (ha : 1 ≤ a) (hb : 1 ≤ b) (hc : 1 ≤ c) (ta tb tc : ByteArray) (hta : Y.strconv_Itoa.f a = some ta) (htb : Y.strconv_Itoa.f b = some tb) (htc : Y.strconv_Itoa.f c = some tc) (za : ta.size ≤ 1000) (zb : tb.size ≤ 1000) (zc : tc.size ≤ 1000)
    (A0 : Option Addr) (c0 : Nat) (p : List UInt8) (w : World) (hT : XTab w) (hr : Kd.C (Kd.int .u8) w A0 (bys p).length (bys p)) (hcc : (bys p).length ≤ c0) (hp : 0 < p.length) (hl : p.length ≤ 1000000) :
    Calls Tryz.prog 24 #[.int .i64 a, .int .i64 b, .int .i64 c, .slice A0 (bys p).length c0] w fun e w' => e = .returned (.string ⟨(sixelT ta tb tc p).toArray⟩) ∧ Below w.heap.size w w' := by
  have hi : (bys p).length = p.length := by simp [bys]
  have HO := Lib.hid (own_calls A0 c0 (bys p) w hr hcc (by omega))
  clear hi
  have HT := Lib.hid (And.intro hT (And.intro hta (And.intro htb htc)))
  have ka : a ≤ 9223372036854775807 := by
    have h := hta
    unfold Y.strconv_Itoa.f at h
    split at h
    · omega
    · cases h
  have kb : b ≤ 9223372036854775807 := by
    have h := htb
    unfold Y.strconv_Itoa.f at h
    split at h
    · omega
    · cases h
  have kc : c ≤ 9223372036854775807 := by
    have h := htc
    unfold Y.strconv_Itoa.f at h
    split at h
    · omega
    · cases h
  have m1 : IntKind.i64.wrap a = a := by rw [IntKind.wrap_i64]; omega
  have m2 : IntKind.i64.wrap b = b := by rw [IntKind.wrap_i64]; omega
  have m3 : IntKind.i64.wrap c = c := by rw [IntKind.wrap_i64]; omega
  have m4 := wrap64_in a (by omega) ka
  have m5 := wrap64_in b (by omega) kb
  have m6 := wrap64_in c (by omega) kc
  clear hT hr hta htb htc
  go_enter Tryz.func24, Tryz.ntmps24
  go_wp2_with fail
  refine HO.out.mono ?_
  rintro e w1 ⟨v, rfl, hR, hb⟩
  obtain ⟨Av, cv, rfl⟩ := Kd.R_slice hR
  have HV := Lib.hid (And.intro (Kd.R_reads' hR).2 hb)
  clear hR hb HO
  go_wp2_with fail
  refine (sixelg_calls a b c ha hb hc ta tb tc HT.out.2.1 HT.out.2.2.1 HT.out.2.2.2 za zb zc _ _ p w1 (HT.out.1.below HV.out.2) HV.out.1.2 hp hl).mono ?_
  rintro e w2 ⟨rfl, hb2⟩
  have HB := Lib.hid (HV.out.2.trans (hb2.mono HV.out.2.size))
  clear hb2
  go_wp2_with fail
  go_ret
  exact ⟨rfl, HB.out⟩
end Go.Proofs.YtjkjnhcnmjknmaaGreatDoor.X
end
section
namespace Go.Proofs.YtjkjnhcnmjknmaaGreatDoor.Y
open Go.RowKit Go.Proofs.YtjkjnhcnmjknmaaGreatDoorW.PrintWords Go.Proofs.YtjkjnhcnmjknmaaGreatDoorW.PrintLast Go.Proofs.YtjkjnhcnmjknmaaGreatDoorW.PrintMore
def toB (l : List Int) : List UInt8 := l.map fun x => UInt8.ofNat x.toNat
theorem bys_toB (l : List Int) (h : ∀ x ∈ l, 0 ≤ x ∧ x ≤ 255) : X.bys (toB l) = l := by
  unfold X.bys toB
  rw [List.map_map]
  conv => rhs; rw [← List.map_id l]
  apply List.map_congr_left
  intro x hx
  have := h x hx
  show ((UInt8.ofNat x.toNat).toNat : Int) = x
  simp
  omega
def impl_Kitty.f (l0 : List Int) (l1 : List ByteArray) : Option (ByteArray) :=
  if (∀ x ∈ l0, 0 ≤ x ∧ x ≤ 255) ∧ l0.length ≤ 1000000 then (Q.xansi_zzJoin.f 10 l1 ⟨#[44]⟩).bind fun j => if j.size ≤ 1000000 then some ⟨(X.kittyT (toB l0) j).toArray⟩ else none else none
theorem impl_Kitty.calls (A0 : Option Addr) (c0 : Nat) (l0 : List Int) (A1 : Option Addr) (c1 : Nat) (l1 : List ByteArray) (r : ByteArray) (w : World) (hr0 : Kd.C (Kd.int .u8) w A0 l0.length l0) (hc0 : l0.length ≤ c0) (hr1 : Kd.C Kd.string w A1 l1.length l1) (hc1 : l1.length ≤ c1) (h : impl_Kitty.f l0 l1 = some r) :
    Calls Tryz.prog 23 #[.slice A0 l0.length c0, .slice A1 l1.length c1] w fun e w' => e = .returned (.string r) ∧ Below w.heap.size w w' := by
  unfold impl_Kitty.f at h
  split at h
  · rename_i hc
    obtain ⟨q1, q2⟩ := hc
    obtain ⟨j, hj, h2⟩ := Option.bind_eq_some_iff.1 h
    split at h2
    · rename_i hz
      obtain rfl := Option.some.inj h2
      have e := bys_toB l0 q1
      have := X.kitty_calls A0 A1 c0 c1 (toB l0) l1 10 j w (by rw [e]; exact hr0) (by rw [e]; exact hc0) hr1 hc1 hj (by unfold toB; rw [List.length_map]; exact q2) hz
      rw [e] at this
      exact this
    · exact absurd h2 (by simp)
  · exact absurd h (by simp)
def impl_Sixel.f (a0 : Int) (a1 : Int) (a2 : Int) (l3 : List Int) : Option (ByteArray) :=
  if (∀ x ∈ l3, 0 ≤ x ∧ x ≤ 255) ∧ l3.length ≤ 1000000 ∧ 0 < l3.length ∧ 1 ≤ a0 ∧ 1 ≤ a1 ∧ 1 ≤ a2 then
    (strconv_Itoa.f a0).bind fun ta => (strconv_Itoa.f a1).bind fun tb => (strconv_Itoa.f a2).bind fun tc => if ta.size ≤ 1000 ∧ tb.size ≤ 1000 ∧ tc.size ≤ 1000 then some ⟨(X.sixelT ta tb tc (toB l3)).toArray⟩ else none
  else none
theorem impl_Sixel.calls (a0 : Int) (a1 : Int) (a2 : Int) (A3 : Option Addr) (c3 : Nat) (l3 : List Int) (r : ByteArray) (w : World) (hT : XTab w) (hr3 : Kd.C (Kd.int .u8) w A3 l3.length l3) (hc3 : l3.length ≤ c3) (h : impl_Sixel.f a0 a1 a2 l3 = some r) :
    Calls Tryz.prog 24 #[.int .i64 a0, .int .i64 a1, .int .i64 a2, .slice A3 l3.length c3] w fun e w' => e = .returned (.string r) ∧ Below w.heap.size w w' := by
  unfold impl_Sixel.f at h
  split at h
  · rename_i hc
    obtain ⟨q1, q2, q3, q4, q5, q6⟩ := hc
    obtain ⟨ta, h1, h⟩ := Option.bind_eq_some_iff.1 h
    obtain ⟨tb, h2, h⟩ := Option.bind_eq_some_iff.1 h
    obtain ⟨tc, h3, h⟩ := Option.bind_eq_some_iff.1 h
    split at h
    · rename_i hz
      obtain rfl := Option.some.inj h
      have e := bys_toB l3 q1
      have hl : (toB l3).length = l3.length := by unfold toB; rw [List.length_map]
      have := X.sixel_calls a0 a1 a2 q4 q5 q6 ta tb tc h1 h2 h3 hz.1 hz.2.1 hz.2.2 A3 c3 (toB l3) w hT (by rw [e]; exact hr3) (by rw [e]; exact hc3) (by omega) (by omega)
      rw [e] at this
      exact this
    · exact absurd h (by simp)
  · exact absurd h (by simp)
end Go.Proofs.YtjkjnhcnmjknmaaGreatDoor.Y
end
