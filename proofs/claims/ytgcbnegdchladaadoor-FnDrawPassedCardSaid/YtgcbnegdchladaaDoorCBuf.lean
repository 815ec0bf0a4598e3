/-
  DERIVED: THE SHELF's CONTRACTS AT THIS DUMP, IN PLAIN WORDS (tools/lay-plain.mjs out of 'TrydShelf.lean', which tools/lay-shelf.mjs wrote): THE SAME DECLARATIONS UNDER THE SAME NAMES: 'import', 'namespace', 'open', 'def', 'theorem' AND NOTHING ELSE: no command of the shelf's: FOR A HAND-IN. Each laying: the table of numbers ('.._ren') and one theorem, a field a fact of the dump's own or the kernel's comparison; each contract: ONE APPLICATION.
-/
/- ScreenPassthrough by the shelf's bytes.Buffer: a text in pieces, each in a string of its own. Conditions: pieces of 1 to a million, a text of at most a million bytes. -/
import Derived.Shelf.Strconv.Itoa0
import Derived.Shelf.Strconv.Itoa1
import Derived.Shelf.LaysM
import Derived.Shelf.Strconv.Itoa2
import Derived.Shelf.Strconv.Itoa3
import Derived.Shelf.Bytes.Len
import Derived.Shelf.Bytes.TryGrow
import Derived.Shelf.Bytes.GrowSliceCatch
import Derived.Shelf.Bytes.GrowSlice
import Derived.Shelf.Bytes.GrowRow0
import Derived.Shelf.Bytes.GrowRow
import Derived.Shelf.Bytes.GrowNil
import Derived.Shelf.Bytes.Grow
import Derived.Shelf.Bytes.WriteString
import Derived.Shelf.Bytes.String
import Derived.Shelf.Bytes.GrowRow0Kept
import Derived.Shelf.Bytes.GrowRowKept
import Derived.Shelf.Bytes.GrowNilKept
import Derived.Shelf.Bytes.GrowKept
import Derived.Shelf.Bytes.WriteStringKept
import Derived.Shelf.Bytes.ResetKept
import Derived.Shelf.Bytes.BufferK
import Derived.Shelf.Bytes.LenAt
import Derived.Shelf.Bytes.StringAt
import Derived.Shelf.Bytes.TryGrowAt
import Derived.Shelf.Bytes.GrowRow0At
import Derived.Shelf.Bytes.GrowRowAt
import Derived.Shelf.Bytes.GrowNilAt
import Derived.Shelf.Bytes.GrowAt
import Derived.Shelf.Bytes.WriteStringAt
import Derived.Test.YtgcbnegdchladaaDoorProg
import Derived.Test.YtgcbnegdchladaaDoorCY0
import Derived.Lib.Hide
import Derived.Lib.Buffer
import Derived.Laws.DeepStrings4
namespace Go.Proofs
open Go.Shelf
def Tryd.laysM178_ren : Go.Shelf.Ren := ⟨fun | 178 => 89 | 251 => 99 | 252 => 100 | 181 => 106 | 184 => 107 | 290 => 108 | 324 => 114 | n => n, fun | 130 => 110 | 9 => 9 | 3 => 3 | 75 => 96 | 0 => 0 | 93 => 94 | 91 => 92 | 131 => 111 | 4 => 4 | 37 => 32 | 20 => 20 | 80 => 99 | 5 => 5 | n => n, fun | 14 => 0 | n => n⟩
theorem Tryd.laysM178 : Go.Proofs.LaysM.n178 Tryd.prog Tryd.laysM178_ren := {
  mixed := by kernel_rfl
  f178 := Tryd.func89.trans (congrArg some (by kernel_rfl))
  f181 := Tryd.func106.trans (congrArg some (by kernel_rfl))
  f184 := Tryd.func107.trans (congrArg some (by kernel_rfl))
  f251 := Tryd.func99.trans (congrArg some (by kernel_rfl))
  f252 := Tryd.func100.trans (congrArg some (by kernel_rfl))
  f290 := Tryd.func108.trans (congrArg some (by kernel_rfl))
  f324 := Tryd.func114.trans (congrArg some (by kernel_rfl))
  t0 := Tryd.underlying0
  a0 := Tryd.isAgg0
  z0 := Tryd.sizeOf0
  v0 := Tryd.zeroValue0
  t3 := Tryd.underlying3
  a3 := Tryd.isAgg3
  z3 := Tryd.sizeOf3
  v3 := Tryd.zeroValue3
  t4 := Tryd.underlying4
  a4 := Tryd.isAgg4
  z4 := Tryd.sizeOf4
  v4 := Tryd.zeroValue4
  t9 := Tryd.underlying9
  a9 := Tryd.isAgg9
  z9 := Tryd.sizeOf9
  v9 := Tryd.zeroValue9
  t20 := Tryd.underlying20
  a20 := Tryd.isAgg20
  z20 := Tryd.sizeOf20
  v20 := Tryd.zeroValue20
  t37 := Tryd.underlying32
  a37 := Tryd.isAgg32
  z37 := Tryd.sizeOf32
  v37 := Tryd.zeroValue32
  t75 := Tryd.underlying96
  a75 := Tryd.isAgg96
  z75 := Tryd.sizeOf96
  v75 := Tryd.zeroValue96
  t91 := Tryd.underlying92
  a91 := Tryd.isAgg92
  z91 := Tryd.sizeOf92
  v91 := Tryd.zeroValue92
  t93 := Tryd.underlying94
  a93 := Tryd.isAgg94
  z93 := Tryd.sizeOf94
  v93 := Tryd.zeroValue94
  t130 := Tryd.underlying110
  a130 := Tryd.isAgg110
  z130 := Tryd.sizeOf110
  v130 := Tryd.zeroValue110
  t131 := Tryd.underlying111
  a131 := Tryd.isAgg111
  z131 := Tryd.sizeOf111
  v131 := Tryd.zeroValue111
  g14 := by kernel_rfl
  t5 := Tryd.underlying5
  a5 := Tryd.isAgg5
  z5 := Tryd.sizeOf5
  v5 := Tryd.zeroValue5
  t80 := Tryd.underlying99
  a80 := Tryd.isAgg99
  z80 := Tryd.sizeOf99
  v80 := Tryd.zeroValue99
  i0 := by kernel_rfl
  i3 := by kernel_rfl
  i4 := by kernel_rfl
  i5 := by kernel_rfl
  i9 := by kernel_rfl
  i20 := by kernel_rfl
  i37 := by kernel_rfl
  i75 := by kernel_rfl
  i80 := by kernel_rfl
  i91 := by kernel_rfl
  i93 := by kernel_rfl
  i130 := by kernel_rfl
  i131 := by kernel_rfl
  m14 := by kernel_rfl }
open Go.RowKit in
/-- (*bytes.Buffer).WriteString: "WriteString appends the contents of s to the buffer, growing the buffer as needed. The return value n is the length of s; err is always nil." (LAID: no walk: one application.) -/
theorem Tryd.Buffer_WriteString (B b : Nat) (bs : List Value) (s : ByteArray) (w : World) (h : Lib.IsBuffer 94 5 B b bs w) (hBw : B ≤ w.heap.size) (h1 : ∀ v ∈ bs, v.oneCell' = true) (hlim : bs.length + s.size ≤ 140737488355328) :
    Calls Tryd.prog 89 #[.pointer (some ⟨b, 0, none⟩), .string s] w fun e w' => e = .returned (.tuple #[.int .i64 s.size, .nilIface]) ∧ Lib.IsBuffer 94 5 B b (bs ++ Lib.byteCells s.data.toList) w' ∧ Below B w w' := Any.Buffer_WriteString Tryd.laysM178 B b bs s w h hBw h1 hlim
def Tryd.laysM182_ren : Go.Shelf.Ren := ⟨fun | 182 => 90 | n => n, fun | 130 => 110 | 9 => 9 | 4 => 4 | 0 => 0 | 93 => 94 | 37 => 32 | 3 => 3 | 91 => 92 | 5 => 5 | n => n, fun | n => n⟩
theorem Tryd.laysM182 : Go.Proofs.LaysM.n182 Tryd.prog Tryd.laysM182_ren := {
  mixed := by kernel_rfl
  f182 := Tryd.func90.trans (congrArg some (by kernel_rfl))
  t0 := Tryd.underlying0
  a0 := Tryd.isAgg0
  z0 := Tryd.sizeOf0
  v0 := Tryd.zeroValue0
  t3 := Tryd.underlying3
  a3 := Tryd.isAgg3
  z3 := Tryd.sizeOf3
  v3 := Tryd.zeroValue3
  t4 := Tryd.underlying4
  a4 := Tryd.isAgg4
  z4 := Tryd.sizeOf4
  v4 := Tryd.zeroValue4
  t9 := Tryd.underlying9
  a9 := Tryd.isAgg9
  z9 := Tryd.sizeOf9
  v9 := Tryd.zeroValue9
  t37 := Tryd.underlying32
  a37 := Tryd.isAgg32
  z37 := Tryd.sizeOf32
  v37 := Tryd.zeroValue32
  t93 := Tryd.underlying94
  a93 := Tryd.isAgg94
  z93 := Tryd.sizeOf94
  v93 := Tryd.zeroValue94
  t130 := Tryd.underlying110
  a130 := Tryd.isAgg110
  z130 := Tryd.sizeOf110
  v130 := Tryd.zeroValue110
  t5 := Tryd.underlying5
  a5 := Tryd.isAgg5
  z5 := Tryd.sizeOf5
  v5 := Tryd.zeroValue5
  t91 := Tryd.underlying92
  a91 := Tryd.isAgg92
  z91 := Tryd.sizeOf92
  v91 := Tryd.zeroValue92
  i0 := by kernel_rfl
  i3 := by kernel_rfl
  i4 := by kernel_rfl
  i5 := by kernel_rfl
  i9 := by kernel_rfl
  i37 := by kernel_rfl
  i91 := by kernel_rfl
  i93 := by kernel_rfl
  i130 := by kernel_rfl }
open Go.RowKit in
/-- (*bytes.Buffer).String: "String returns the contents of the unread portion of the buffer as a string.": THE BYTES THAT WERE WRITTEN. The world is as it was but for the count of draws (the statement has two reads: its order is drawn). (LAID: no walk: one application.) -/
theorem Tryd.Buffer_String (B b : Nat) (l : List UInt8) (w : World) (h : Lib.IsBuffer 94 5 B b (Lib.byteCells l) w) :
    Calls Tryd.prog 90 #[.pointer (some ⟨b, 0, none⟩)] w fun e w' => e = .returned (.string ⟨l.toArray⟩) ∧ ∃ n, w' = w.drewN n := Any.Buffer_String Tryd.laysM182 B b l w h
end Go.Proofs
namespace Go.Proofs.YtgcbnegdchladaaDoor.X
open Go.RowKit Go.Proofs.YtgcbnegdchladaaDoorW.PrintWords Go.Proofs.YtgcbnegdchladaaDoorW.PrintLast Go.Proofs.YtgcbnegdchladaaDoorW.PrintMore

/-- A text's pieces, with what stands between them. -/
def pieces (n : Nat) : Nat → List UInt8 → List UInt8
  | 0, _ => []
  | k + 1, l => if l.length ≤ n then l else l.take n ++ ([27, 92, 27, 80] ++ pieces n k (l.drop n))
theorem pieces_nil (n k : Nat) : pieces n k [] = [] := by
  cases k with
  | zero => rfl
  | succ k => simp [pieces]
theorem pieces_fuel (n : Nat) (hn : 1 ≤ n) : ∀ (k k' : Nat) (l : List UInt8), l.length ≤ k → l.length ≤ k' → pieces n k l = pieces n k' l
  | 0, k', l, h, _ => by
    rw [List.length_eq_zero_iff.1 (by omega : l.length = 0), pieces_nil, pieces_nil]
  | k + 1, 0, l, _, h => by
    rw [List.length_eq_zero_iff.1 (by omega : l.length = 0), pieces_nil, pieces_nil]
  | k + 1, k' + 1, l, h, h' => by
    unfold pieces
    by_cases hl : l.length ≤ n
    · rw [if_pos hl, if_pos hl]
    · rw [if_neg hl, if_neg hl, pieces_fuel n hn k k' (l.drop n) (by rw [List.length_drop]; omega) (by rw [List.length_drop]; omega)]
theorem pieces_len (n : Nat) (hn : 1 ≤ n) : ∀ (k : Nat) (l : List UInt8), (pieces n k l).length ≤ 5 * l.length
  | 0, l => by simp [pieces]
  | k + 1, l => by
    unfold pieces
    by_cases hl : l.length ≤ n
    · rw [if_pos hl]; omega
    · rw [if_neg hl]
      have := pieces_len n hn k (l.drop n)
      simp only [List.length_append, List.length_take, List.length_drop, List.length_cons, List.length_nil] at this ⊢
      omega

/-- What is left to write from a place on. -/
def left (n : Nat) (s : List UInt8) (i : Nat) : List UInt8 := pieces n (s.length - i) (s.drop i)
theorem left_end (n : Nat) (s : List UInt8) (i : Nat) (h : s.length ≤ i) : left n s i = [] := by
  unfold left
  rw [List.drop_of_length_le h, pieces_nil]
theorem left_last (n : Nat) (s : List UInt8) (i : Nat) (hi : i < s.length) (h : s.length ≤ i + n) : left n s i = s.drop i := by
  unfold left
  obtain ⟨k, hk⟩ : ∃ k, s.length - i = k + 1 := ⟨s.length - i - 1, by omega⟩
  rw [hk, pieces, if_pos (by rw [List.length_drop]; omega)]
theorem left_more (n : Nat) (hn : 1 ≤ n) (s : List UInt8) (i : Nat) (h : i + n < s.length) : left n s i = (s.drop i).take n ++ ([27, 92, 27, 80] ++ left n s (i + n)) := by
  unfold left
  obtain ⟨k, hk⟩ : ∃ k, s.length - i = k + 1 := ⟨s.length - i - 1, by omega⟩
  rw [hk, pieces, if_neg (by rw [List.length_drop]; omega), List.drop_drop]
  rw [pieces_fuel n hn k (s.length - (i + n)) (s.drop (i + n)) (by rw [List.length_drop]; omega) (by rw [List.length_drop]; omega)]

def screenText (s : ByteArray) (n : Nat) : List UInt8 := [27, 80] ++ left n s.data.toList 0 ++ [27, 92]

/-- The buffer in the round: what is written, and what is left. -/
def BufAt (w : World) (n : Nat) (s : ByteArray) (B : Nat) (wr : World) (i : Nat) : Prop :=
  ∃ acc : List UInt8, Lib.IsBuffer 94 5 B B (Lib.byteCells acc) wr ∧ Below w.heap.size w wr ∧ acc ++ left n s.data.toList i = [27, 80] ++ left n s.data.toList 0

theorem lim0 : ([] : List Value).length + (⟨#[27, 80]⟩ : ByteArray).size ≤ 140737488355328 := by show 0 + 2 ≤ _; omega
theorem bytes_one (l : List UInt8) : ∀ v ∈ Lib.byteCells l, v.oneCell' = true := fun v hv => by
  obtain ⟨b, _, rfl⟩ := List.mem_map.1 hv
  rfl
theorem bytes_len (l : List UInt8) : (Lib.byteCells l).length = l.length := by simp [Lib.byteCells]
theorem bytes_app (a b : List UInt8) : Lib.byteCells a ++ Lib.byteCells b = Lib.byteCells (a ++ b) := by simp [Lib.byteCells]
theorem text_len (n : Nat) (hn : 1 ≤ n) (s : List UInt8) (i : Nat) : (left n s i).length ≤ 5 * s.length := by
  unfold left
  have := pieces_len n hn (s.length - i) (s.drop i)
  rw [List.length_drop] at this
  omega

theorem sep_size : (⟨#[27, 92, 27, 80]⟩ : ByteArray).size ≤ 10000000 := by show 4 ≤ _; omega
theorem extract_list (s : ByteArray) (i n : Nat) : (s.extract i (i + n)).data.toList = (s.data.toList.drop i).take n := by
  simp [ByteArray.data_extract, List.take_drop]
theorem extract_rest (s : ByteArray) (i : Nat) : (s.extract i s.size).data.toList = s.data.toList.drop i := by
  simp only [ByteArray.data_extract, Array.toList_extract, List.extract_eq_take_drop]
  rw [List.take_of_length_le]
  rw [List.length_drop]
  show s.size - i ≤ _
  omega
theorem ext_len (acc : List UInt8) (s : ByteArray) (i n : Nat) (ha : acc.length ≤ 5000002) (hs : s.size ≤ 1000000) : (acc ++ (s.extract i (i + n)).data.toList).length ≤ 10000000 := by
  rw [List.length_append, extract_list, List.length_take, List.length_drop]
  have : s.data.toList.length = s.size := rfl
  omega
section
variable {w w1 w2 : World} {n : Nat} {s : ByteArray} {B i : Nat}
theorem buf_room (h : BufAt w n s B w1 i) (hn : 1 ≤ n) (hs : s.size ≤ 1000000) : ∃ acc : List UInt8, acc.length ≤ 5000002 ∧ Lib.IsBuffer 94 5 B B (Lib.byteCells acc) w1 ∧ Below w.heap.size w w1 ∧ acc ++ left n s.data.toList i = [27, 80] ++ left n s.data.toList 0 := by
  obtain ⟨acc, h1, h2, h3⟩ := h
  refine ⟨acc, ?_, h1, h2, h3⟩
  have e := congrArg List.length h3
  have := text_len n hn s.data.toList 0
  have e2 : s.data.toList.length = s.size := rfl
  simp only [List.length_append, List.length_cons, List.length_nil] at e
  omega
end

/-- What a write of a text to the buffer does. -/
theorem write_calls (W0 : World) (acc : List UInt8) (s : ByteArray) (w : World) (h : Lib.IsBuffer 94 5 W0.heap.size W0.heap.size (Lib.byteCells acc) w) (hB : Below W0.heap.size W0 w) (ha : acc.length ≤ 10000000) (hs : s.size ≤ 10000000) :
    Calls Tryd.prog 89 #[.pointer (some ⟨W0.heap.size, 0, none⟩), .string s] w fun e w' => e = .returned (.tuple #[.int .i64 s.size, .nilIface]) ∧ Hid (Lib.IsBuffer 94 5 W0.heap.size W0.heap.size (Lib.byteCells (acc ++ s.data.toList)) w' ∧ Below W0.heap.size W0 w') := by
  refine (Tryd.Buffer_WriteString _ _ _ _ _ h hB.size (bytes_one acc) (by rw [bytes_len]; omega)).mono ?_
  rintro e w' ⟨rfl, h1, h2⟩
  rw [bytes_app] at h1
  exact ⟨rfl, h1, hB.trans h2⟩

attribute [local go_sem] max2_int min2_int max_two min_two
set_option maxRecDepth 100000 in
set_option maxHeartbeats 1000000 in
theorem screenp_calls (s : ByteArray) (n : Nat) (hn : 1 ≤ n) (hn2 : n ≤ 1000000) (hs : s.size ≤ 1000000) (w : World) :
    Calls Tryd.prog 68 #[.string s, .int .i64 n] w fun e w' => e = .returned (.string ⟨(screenText s n).toArray⟩) ∧ Below w.heap.size w w' := by
  have g1 : decide ((n : Int) > 0) = true := decide_eq_true (by omega)
  have g2 : (n : Int) > 0 := by omega
  have g3 : decide (0 < n) = true := decide_eq_true (by omega)
  go_enter Tryd.func68, Tryd.ntmps68
  go_wp2_with (
    go_at_call 89
    refine (write_calls w [] _ _ (Lib.fresh_isBuffer _ _ w) (below_alloc (Below.refl _ w) _) (by simp) (by show 2 ≤ _; omega)).mono ?_
    rintro e w1 ⟨rfl, h1⟩
    have HF : Hid (BufAt w n s w.heap.size w1 0) := ⟨[27, 80], h1.out.1, h1.out.2, rfl⟩
    clear h1)
  go_loopg [6] s.size (fun kq v6 w' => ∃ i : Nat, v6 = .int .i64 (i : Int) ∧ kq = s.size - i ∧ BufAt w n s w.heap.size w' i)
  case atStart => exact ⟨0, rfl, by omega, HF.out⟩
  case round =>
    clear HF
    obtain ⟨i, rfl, hk, hF⟩ := hrel
    obtain ⟨acc, ha, hb, hB, hE⟩ := buf_room hF hn hs
    have HB := Lib.hid (And.intro hb hB)
    have HE := Lib.hid hE
    clear hb hB hE hF
    have ha2 : acc.length ≤ 10000000 := by omega
    by_cases hi : i < s.size
    · have c1 : decide ((i : Int) < (s.size : Int)) = true := decide_eq_true (by omega)
      have c2 : (0 : Int) ≤ (i : Int) := by omega
      have c3 : IntKind.i64.wrap ((i : Int) + (n : Int)) = (i : Int) + (n : Int) := by rw [IntKind.wrap_i64]; omega
      have c4 : (0 : Int) ≤ (i : Int) + (n : Int) := by omega
      have HK := Lib.hid hk
      clear hk
      by_cases hm : i + n < s.size
      · have m1 : (i : Int) + (n : Int) < (s.size : Int) := by omega
        have m2 : (i : Int) + (n : Int) ≤ (s.size : Int) := by omega
        have m3 : (i : Int) ≤ (i : Int) + (n : Int) := by omega
        have m4 : ((i : Int) + (n : Int)).toNat = i + n := by omega
        have m5 : ((i : Int)).toNat = i := by omega
        have m6 : decide ((i : Int) + (n : Int) < (s.size : Int)) = true := decide_eq_true m1
        have m7 : ¬ (s.size : Int) < (i : Int) + (n : Int) := by omega
        go_wp2_with fail
        with_reducible refine (write_calls w acc (s.extract i (i + n)) _ HB.out.1 HB.out.2 ha2 (by rw [ByteArray.size_extract]; omega)).mono ?_
        rintro e w2 ⟨rfl, h2⟩
        go_wp2_with fail
        with_reducible refine (write_calls w (acc ++ (s.extract i (i + n)).data.toList) ⟨#[27, 92, 27, 80]⟩ _ h2.out.1 h2.out.2 (ext_len acc s i n ha hs) sep_size).mono ?_
        rintro e w3 ⟨rfl, h3⟩
        go_wp2_with fail
        have hN : BufAt w n s w.heap.size w3 (i + n) := ⟨_, h3.out.1, h3.out.2, by
          rw [← HE.out, left_more n hn s.data.toList i hm, ← extract_list s i n, List.append_assoc, List.append_assoc]⟩
        go_roundg (s.size - (i + n))
        case measure => have := HK.out; omega
        case rel => exact ⟨i + n, by simp, rfl, hN⟩
      · have m1 : (s.size : Int) ≤ (i : Int) + (n : Int) := by omega
        have m2 : (i : Int) ≤ (s.size : Int) := by omega
        have m4 : ((s.size : Int)).toNat = s.size := by omega
        have m5 : ((i : Int)).toNat = i := by omega
        have m6 : decide ((s.size : Int) < (s.size : Int)) = false := by simp
        have mm : (if (s.size : Int) < (i : Int) + (n : Int) then (s.size : Int) else (i : Int) + (n : Int)) = (s.size : Int) := by split <;> omega
        go_wp2_with fail
        with_reducible refine (write_calls w acc (s.extract i s.size) _ HB.out.1 HB.out.2 ha2 (by rw [ByteArray.size_extract]; omega)).mono ?_
        rintro e w2 ⟨rfl, h2⟩
        go_wp2_with fail
        have hN : BufAt w n s w.heap.size w2 (i + n) := ⟨_, h2.out.1, h2.out.2, by
          rw [← HE.out, left_last n s.data.toList i hi (by show s.size ≤ _; omega), left_end n s.data.toList (i + n) (by show s.size ≤ _; omega), extract_rest, List.append_nil]⟩
        go_roundg (s.size - (i + n))
        case measure => have := HK.out; omega
        case rel => exact ⟨i + n, by simp, rfl, hN⟩
    · have c1 : decide ((i : Int) < (s.size : Int)) = false := decide_eq_false (by omega)
      go_wp2_with (first
        | (
          go_at_call 89
          refine (write_calls w acc _ _ HB.out.1 HB.out.2 ha2 (by show 2 ≤ _; omega)).mono ?_
          rintro e w2 ⟨rfl, h2⟩)
        | (
          go_at_call 90
          refine (Tryd.Buffer_String _ _ _ _ h2.out.1).mono ?_
          rintro e w3 ⟨rfl, q, rfl⟩))
      go_ret
      have e0 : left n s.data.toList i = [] := left_end n _ _ (by show s.size ≤ i; omega)
      have hE := HE.out
      rw [e0, List.append_nil] at hE
      subst hE
      exact ⟨rfl, pw_below_drewN h2.out.2 q⟩
end Go.Proofs.YtgcbnegdchladaaDoor.X
namespace Go.Proofs.YtgcbnegdchladaaDoor.Y
open Go.RowKit Go.Proofs.YtgcbnegdchladaaDoorW.PrintWords Go.Proofs.YtgcbnegdchladaaDoorW.PrintLast Go.Proofs.YtgcbnegdchladaaDoorW.PrintMore
def impl_Screen.f (a0 : ByteArray) (a1 : Int) : Option (ByteArray) := if 1 ≤ a1 ∧ a1 ≤ 1000000 ∧ a0.size ≤ 1000000 then some ⟨(X.screenText a0 a1.toNat).toArray⟩ else none
theorem impl_Screen.calls (a0 : ByteArray) (a1 : Int) (r : ByteArray) (w : World) (h : impl_Screen.f a0 a1 = some r) :
    Calls Tryd.prog 20 #[.string a0, .int .i64 a1] w fun e w' => e = .returned (.string r) ∧ Below w.heap.size w w' := by
  unfold impl_Screen.f at h
  split at h
  · rename_i hc
    obtain ⟨c1, c2, c3⟩ := hc
    obtain rfl := Option.some.inj h
    obtain ⟨n, rfl⟩ := Int.eq_ofNat_of_zero_le (show 0 ≤ a1 by omega)
    clear h
    have HC := Lib.hid (X.screenp_calls a0 n (by omega) (by omega) c3 w)
    go_enter Tryd.func20, Tryd.ntmps20
    go_wp2_with fail
    refine HC.out.mono ?_
    rintro e w2 ⟨rfl, h2⟩
    go_wp2_with fail
    go_ret
    exact ⟨rfl, h2⟩
  · exact absurd h (by simp)
end Go.Proofs.YtgcbnegdchladaaDoor.Y
