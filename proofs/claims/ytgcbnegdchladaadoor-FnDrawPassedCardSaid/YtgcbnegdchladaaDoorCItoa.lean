/-
  DERIVED: THE SHELF's CONTRACTS AT THIS DUMP, IN PLAIN WORDS (tools/lay-plain.mjs out of 'TrydShelf.lean', which tools/lay-shelf.mjs wrote): THE SAME DECLARATIONS UNDER THE SAME NAMES: 'import', 'namespace', 'open', 'def', 'theorem' AND NOTHING ELSE: no command of the shelf's: FOR A HAND-IN. Each laying: the table of numbers ('.._ren') and one theorem, a field a fact of the dump's own or the kernel's comparison; each contract: ONE APPLICATION.
-/
/- strconv.Itoa, as the shelf tells it. Conditions: the number is an int64; Go's table of powers of ten is as its text lays it. -/
import Derived.Shelf.Strconv.Itoa0
import Derived.Shelf.Strconv.Itoa1
import Derived.Shelf.LaysM
import Derived.Shelf.Strconv.Itoa2
import Derived.Shelf.Strconv.Itoa3
import Derived.Shelf.Bytes.Len
import Derived.Shelf.Bytes.TryGrow
import Derived.Shelf.Bytes.GrowSliceCatch
import Derived.Shelf.Bytes.GrowSlice
import Derived.Shelf.Bytes.GrowRow0
import Derived.Shelf.Bytes.GrowRow
import Derived.Shelf.Bytes.GrowNil
import Derived.Shelf.Bytes.Grow
import Derived.Shelf.Bytes.WriteString
import Derived.Shelf.Bytes.String
import Derived.Shelf.Bytes.GrowRow0Kept
import Derived.Shelf.Bytes.GrowRowKept
import Derived.Shelf.Bytes.GrowNilKept
import Derived.Shelf.Bytes.GrowKept
import Derived.Shelf.Bytes.WriteStringKept
import Derived.Shelf.Bytes.ResetKept
import Derived.Shelf.Bytes.BufferK
import Derived.Shelf.Bytes.LenAt
import Derived.Shelf.Bytes.StringAt
import Derived.Shelf.Bytes.TryGrowAt
import Derived.Shelf.Bytes.GrowRow0At
import Derived.Shelf.Bytes.GrowRowAt
import Derived.Shelf.Bytes.GrowNilAt
import Derived.Shelf.Bytes.GrowAt
import Derived.Shelf.Bytes.WriteStringAt
import Derived.Test.YtgcbnegdchladaaDoorProg
import Derived.Test.YtgcbnegdchladaaDoorCY0
namespace Go.Proofs
open Go.Shelf
def Tryd.laysM171_ren : Go.Shelf.Ren := ⟨fun | 171 => 69 | 243 => 91 | 246 => 101 | 283 => 109 | 284 => 110 | 285 => 111 | 286 => 112 | 129 => 116 | 317 => 115 | 318 => 117 | 319 => 118 | 320 => 119 | 337 => 120 | 338 => 121 | n => n, fun | 3 => 3 | 9 => 9 | 2 => 2 | 4 => 4 | 171 => 121 | 0 => 0 | 53 => 122 | 37 => 32 | 5 => 5 | 173 => 125 | 212 => 128 | 51 => 65 | 20 => 20 | 213 => 129 | 46 => 66 | 232 => 137 | 233 => 138 | n => n, fun | 17 => 1 | 18 => 4 | 19 => 5 | n => n⟩
theorem Tryd.laysM171 : Go.Proofs.LaysM.n171 Tryd.prog Tryd.laysM171_ren := {
  mixed := by kernel_rfl
  f129 := Tryd.func116.trans (congrArg some (by kernel_rfl))
  f171 := Tryd.func69.trans (congrArg some (by kernel_rfl))
  f243 := Tryd.func91.trans (congrArg some (by kernel_rfl))
  f246 := Tryd.func101.trans (congrArg some (by kernel_rfl))
  f283 := Tryd.func109.trans (congrArg some (by kernel_rfl))
  f284 := Tryd.func110.trans (congrArg some (by kernel_rfl))
  f285 := Tryd.func111.trans (congrArg some (by kernel_rfl))
  f286 := Tryd.func112.trans (congrArg some (by kernel_rfl))
  f317 := Tryd.func115.trans (congrArg some (by kernel_rfl))
  f318 := Tryd.func117.trans (congrArg some (by kernel_rfl))
  f319 := Tryd.func118.trans (congrArg some (by kernel_rfl))
  f320 := Tryd.func119.trans (congrArg some (by kernel_rfl))
  f337 := Tryd.func120.trans (congrArg some (by kernel_rfl))
  f338 := Tryd.func121.trans (congrArg some (by kernel_rfl))
  t0 := Tryd.underlying0
  a0 := Tryd.isAgg0
  z0 := Tryd.sizeOf0
  v0 := Tryd.zeroValue0
  t2 := Tryd.underlying2
  a2 := Tryd.isAgg2
  z2 := Tryd.sizeOf2
  v2 := Tryd.zeroValue2
  t3 := Tryd.underlying3
  a3 := Tryd.isAgg3
  z3 := Tryd.sizeOf3
  v3 := Tryd.zeroValue3
  t4 := Tryd.underlying4
  a4 := Tryd.isAgg4
  z4 := Tryd.sizeOf4
  v4 := Tryd.zeroValue4
  t5 := Tryd.underlying5
  a5 := Tryd.isAgg5
  z5 := Tryd.sizeOf5
  v5 := Tryd.zeroValue5
  t9 := Tryd.underlying9
  a9 := Tryd.isAgg9
  z9 := Tryd.sizeOf9
  v9 := Tryd.zeroValue9
  t20 := Tryd.underlying20
  a20 := Tryd.isAgg20
  z20 := Tryd.sizeOf20
  v20 := Tryd.zeroValue20
  t37 := Tryd.underlying32
  a37 := Tryd.isAgg32
  z37 := Tryd.sizeOf32
  v37 := Tryd.zeroValue32
  t46 := Tryd.underlying66
  a46 := Tryd.isAgg66
  z46 := Tryd.sizeOf66
  v46 := Tryd.zeroValue66
  t51 := Tryd.underlying65
  a51 := Tryd.isAgg65
  z51 := Tryd.sizeOf65
  v51 := Tryd.zeroValue65
  t53 := Tryd.underlying122
  a53 := Tryd.isAgg122
  z53 := Tryd.sizeOf122
  v53 := Tryd.zeroValue122
  t171 := Tryd.underlying121
  a171 := Tryd.isAgg121
  z171 := Tryd.sizeOf121
  v171 := Tryd.zeroValue121
  t173 := Tryd.underlying125
  a173 := Tryd.isAgg125
  z173 := Tryd.sizeOf125
  v173 := Tryd.zeroValue125
  t212 := Tryd.underlying128
  a212 := Tryd.isAgg128
  z212 := Tryd.sizeOf128
  v212 := Tryd.zeroValue128
  t213 := Tryd.underlying129
  a213 := Tryd.isAgg129
  z213 := Tryd.sizeOf129
  t232 := Tryd.underlying137
  a232 := Tryd.isAgg137
  z232 := Tryd.sizeOf137
  v232 := Tryd.zeroValue137
  t233 := Tryd.underlying138
  a233 := Tryd.isAgg138
  z233 := Tryd.sizeOf138
  v233 := Tryd.zeroValue138
  g17 := by kernel_rfl
  g18 := by kernel_rfl
  g19 := by kernel_rfl
  i0 := by kernel_rfl
  i2 := by kernel_rfl
  i3 := by kernel_rfl
  i4 := by kernel_rfl
  i5 := by kernel_rfl
  i9 := by kernel_rfl
  i20 := by kernel_rfl
  i37 := by kernel_rfl
  i46 := by kernel_rfl
  i51 := by kernel_rfl
  i53 := by kernel_rfl
  i171 := by kernel_rfl
  i173 := by kernel_rfl
  i212 := by kernel_rfl
  i232 := by kernel_rfl
  i233 := by kernel_rfl
  m17 := by kernel_rfl
  m18 := by kernel_rfl
  m19 := by kernel_rfl }
open Go.RowKit Go.Sort Go.Lib in
/-- strconv.Itoa: "Itoa is equivalent to FormatInt(int64(i), 10).": i's DECIMAL NUMERAL ('Lib.itoa': a '-' where i is negative, then the digits), FOR EVERY int. The world behind the call: the world before it, new blocks behind the heap (the library's 'var a [24]byte'), draws. (LAID: no walk: one application.) -/
theorem Tryd.strconv_Itoa (n : Int) (h0 : -9223372036854775808 ≤ n) (h1 : n ≤ 9223372036854775807) (w : World) (htab : Lib.TabIs Tryd.prog w "internal/strconv.uint64pow10" .u64 Lib.pow10Tab) :
    Calls Tryd.prog 69 #[.int .i64 n] w fun e w' => e = .returned (.string ⟨(Lib.itoa n).toArray⟩) ∧ ∃ k os, w' = grow (w.drewN k) os := Any.strconv_Itoa Tryd.laysM171 n h0 h1 w htab
end Go.Proofs
namespace Go.Proofs.YtgcbnegdchladaaDoor.Y
open Go.RowKit Go.Proofs.YtgcbnegdchladaaDoorW.PrintWords Go.Proofs.YtgcbnegdchladaaDoorW.PrintLast Go.Proofs.YtgcbnegdchladaaDoorW.PrintMore

theorem below_grow (w : World) (k : Nat) (os : Array Obj) : Below w.heap.size w (Go.Sort.grow (w.drewN k) os) := by
  have h := pw_below_drewN (Below.refl w.heap.size w) k
  refine ⟨h.os, h.tape, h.output, ?_, fun i hi => ?_⟩
  · show w.heap.size ≤ (w.heap ++ os).size
    rw [Array.size_append]
    omega
  · show (w.heap ++ os)[i]? = _
    rw [Array.getElem?_append_left hi]
def strconv_Itoa.f (a0 : Int) : Option ByteArray := if -9223372036854775808 ≤ a0 ∧ a0 ≤ 9223372036854775807 then some ⟨(Lib.itoa a0).toArray⟩ else none
theorem strconv_Itoa.calls (a0 : Int) (r : ByteArray) (w : World) (hT : XTab w) (h : strconv_Itoa.f a0 = some r) :
    Calls Tryd.prog 69 #[.int .i64 a0] w fun e w' => e = .returned (.string r) ∧ Below w.heap.size w w' := by
  unfold strconv_Itoa.f at h
  split at h
  · rename_i hc
    obtain rfl := Option.some.inj h
    refine (Tryd.strconv_Itoa a0 hc.1 hc.2 w hT).mono ?_
    rintro e w' ⟨rfl, k, os, rfl⟩
    exact ⟨rfl, below_grow w k os⟩
  · exact absurd h (by simp)
end Go.Proofs.YtgcbnegdchladaaDoor.Y
