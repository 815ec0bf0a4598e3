/- Texts of this claim, joined: XDigs Y39D Y40D Y41D Y42D Y45D Y43D Y44D XNums Y46D XLawKeys Y39 Y40 Y41. Of each, what the claim uses. -/
import Derived.Test.YtjkjnhcnmjknmaaDoorKaq
import Derived.Test.YtjkjnhcnmjknmaaDoorKad
section
namespace Go.Proofs.YtjkjnhcnmjknmaaDoor.X
open Go.RowKit Go.Proofs.YtjkjnhcnmjknmaaDoorW.PrintWords
end Go.Proofs.YtjkjnhcnmjknmaaDoor.X
end
section
namespace Go.Proofs.YtjkjnhcnmjknmaaDoor.Y
open Go.RowKit Go.Proofs.YtjkjnhcnmjknmaaDoorW.PrintWords Go.Proofs.YtjkjnhcnmjknmaaDoorW.PrintLast Go.Proofs.YtjkjnhcnmjknmaaDoorW.PrintMore
attribute [local go_sem] max2_int min2_int max_two min_two max_three min_three max_four min_four   -- for this text's walks alone
set_option linter.unusedVariables false
set_option linter.unusedSimpArgs false
/-! ### spec_Value: function 88 -/
def spec_Value.f (a0 : Int) : Option (Int) := some (Go.bits .and .i64 a0 2147483647)
end Go.Proofs.YtjkjnhcnmjknmaaDoor.Y
end
section
namespace Go.Proofs.YtjkjnhcnmjknmaaDoor.Y
open Go.RowKit Go.Proofs.YtjkjnhcnmjknmaaDoorW.PrintWords Go.Proofs.YtjkjnhcnmjknmaaDoorW.PrintLast Go.Proofs.YtjkjnhcnmjknmaaDoorW.PrintMore
attribute [local go_sem] max2_int min2_int max_two min_two max_three min_three max_four min_four   -- for this text's walks alone
set_option linter.unusedVariables false
set_option linter.unusedSimpArgs false
/-! ### spec_Or: function 79 -/
def spec_Or.f (a0 : Int) (a1 : Int) : Option (Int) := (spec_Value.f a0).bind fun t122 => (if t122 = 2147483647 then (some a1) else ((spec_Value.f a0).bind fun t123 => (some t123)))
end Go.Proofs.YtjkjnhcnmjknmaaDoor.Y
end
section
namespace Go.Proofs.YtjkjnhcnmjknmaaDoor.Y
open Go.RowKit Go.Proofs.YtjkjnhcnmjknmaaDoorW.PrintWords Go.Proofs.YtjkjnhcnmjknmaaDoorW.PrintLast Go.Proofs.YtjkjnhcnmjknmaaDoorW.PrintMore
attribute [local go_sem] max2_int min2_int max_two min_two max_three min_three max_four min_four   -- for this text's walks alone
set_option linter.unusedVariables false
set_option linter.unusedSimpArgs false
/-! ### spec_DrawParam: function 53 -/
def spec_DrawParam.f (l0 : List Int) (a1 : Int) (a2 : Int) : Option (Int) := if a1 ≥ (l0.length : Int) then (some a2) else (if 0 ≤ a1 then (if a1 < (l0.length : Int) then ((spec_Or.f (rd l0 a1) a2).bind fun t125 => (some t125)) else (none)) else (none))
end Go.Proofs.YtjkjnhcnmjknmaaDoor.Y
end
section
namespace Go.Proofs.YtjkjnhcnmjknmaaDoor.Y
open Go.RowKit Go.Proofs.YtjkjnhcnmjknmaaDoorW.PrintWords Go.Proofs.YtjkjnhcnmjknmaaDoorW.PrintLast Go.Proofs.YtjkjnhcnmjknmaaDoorW.PrintMore
attribute [local go_sem] max2_int min2_int max_two min_two max_three min_three max_four min_four   -- for this text's walks alone
set_option linter.unusedVariables false
set_option linter.unusedSimpArgs false
/-! ### spec_DrawNumbers: function 8 -/
mutual
def spec_DrawNumbers.j0 : Nat → List (S33) → Bool → Option (Int × List Int × Bool)
  | 0, _, _ => none
  | k + 1, x0, x16 => if x16 = true then (some (0, ([] : List Int), false)) else (if 0 < (x0.length : Int) then (spec_DrawNumbers.l0 k x0 ([] : List Int) (((rd_T33 x0 0).f4).length : Int) 0) else (none))
def spec_DrawNumbers.l0 : Nat → List (S33) → List Int → Int → Int → Option (Int × List Int × Bool)
  | 0, _, _, _, _ => none
  | k + 1, x0, x5, x21, x22 => if x22 < x21 then (if 0 < (x0.length : Int) then ((spec_DrawParam.f ((rd_T33 x0 0).f4) x22 (-1)).bind fun t129 => (if x5.length < 17592186044416 then (spec_DrawNumbers.l0 k x0 (x5 ++ [t129]) x21 (wrap64 (x22 + 1))) else (none))) else (none)) else (if 0 < (x0.length : Int) then (some ((rd_T33 x0 0).f3, x5, true)) else (none))
end
def spec_DrawNumbers.f (k : Nat) (l0 : List (S33)) : Option (Int × List Int × Bool) := if (l0.length : Int) = 1 then (if 0 < (l0.length : Int) then (spec_DrawNumbers.j0 k l0 (((rd_T33 l0 0).f0) != 2)) else (none)) else (spec_DrawNumbers.j0 k l0 true)
theorem spec_DrawNumbers.mono_l : ∀ k, (∀ y0 y1, LeO (spec_DrawNumbers.j0 k y0 y1) (spec_DrawNumbers.j0 (k + 1) y0 y1)) ∧ (∀ y0 y1 y2 y3, LeO (spec_DrawNumbers.l0 k y0 y1 y2 y3) (spec_DrawNumbers.l0 (k + 1) y0 y1 y2 y3))
  | 0 => ⟨fun _ _ r h => by simp [spec_DrawNumbers.j0] at h, fun _ _ _ _ r h => by simp [spec_DrawNumbers.l0] at h⟩
  | k + 1 => by
    obtain ⟨ih0, ih1⟩ := spec_DrawNumbers.mono_l k
    refine ⟨?_, ?_⟩
    · intro y0 y1
      unfold spec_DrawNumbers.j0
      repeat' first
      | (with_reducible exact ih0 _ _)
      | (with_reducible exact ih1 _ _ _ _)
      | (with_reducible exact LeO.refl _)
      | (with_reducible exact LeO.none _)
      | (with_reducible refine LeO.ite ?_ ?_)
      | (with_reducible refine LeO.bind ?_ (fun _ => ?_))
      | exact ih0 _ _
      | exact ih1 _ _ _ _
      | exact LeO.none _
      | refine LeO.ite ?_ ?_
      | refine LeO.bind ?_ (fun _ => ?_)
    · intro y0 y1 y2 y3
      unfold spec_DrawNumbers.l0
      repeat' first
      | (with_reducible exact ih0 _ _)
      | (with_reducible exact ih1 _ _ _ _)
      | (with_reducible exact LeO.refl _)
      | (with_reducible exact LeO.none _)
      | (with_reducible refine LeO.ite ?_ ?_)
      | (with_reducible refine LeO.bind ?_ (fun _ => ?_))
      | exact ih0 _ _
      | exact ih1 _ _ _ _
      | exact LeO.none _
      | refine LeO.ite ?_ ?_
      | refine LeO.bind ?_ (fun _ => ?_)
theorem spec_DrawNumbers.mono : ∀ a0 k, LeO (spec_DrawNumbers.f k a0) (spec_DrawNumbers.f (k + 1) a0) := by
  intro a0 k
  obtain ⟨ih0, ih1⟩ := spec_DrawNumbers.mono_l k
  unfold spec_DrawNumbers.f
  repeat' first
      | (with_reducible exact ih0 _ _)
      | (with_reducible exact ih1 _ _ _ _)
      | (with_reducible exact LeO.refl _)
      | (with_reducible exact LeO.none _)
      | (with_reducible refine LeO.ite ?_ ?_)
      | (with_reducible refine LeO.bind ?_ (fun _ => ?_))
      | exact ih0 _ _
      | exact ih1 _ _ _ _
      | exact LeO.none _
      | refine LeO.ite ?_ ?_
      | refine LeO.bind ?_ (fun _ => ?_)
end Go.Proofs.YtjkjnhcnmjknmaaDoor.Y
end
section
namespace Go.Proofs.YtjkjnhcnmjknmaaDoor.Y
open Go.RowKit Go.Proofs.YtjkjnhcnmjknmaaDoorW.PrintWords Go.Proofs.YtjkjnhcnmjknmaaDoorW.PrintLast Go.Proofs.YtjkjnhcnmjknmaaDoorW.PrintMore
attribute [local go_sem] max2_int min2_int max_two min_two max_three min_three max_four min_four   -- for this text's walks alone
set_option linter.unusedVariables false
set_option linter.unusedSimpArgs false
/-! ### spec_SameInts: function 10 -/
def spec_SameInts.l0 : Nat → List Int → List Int → Int → Int → Option (Bool)
  | 0, _, _, _, _ => none
  | k + 1, x0, x1, x12, x13 => if x13 < x12 then (if 0 ≤ x13 then (if x13 < (x0.length : Int) then (if x13 < (x1.length : Int) then (if (rd x0 x13) = (rd x1 x13) then (spec_SameInts.l0 k x0 x1 x12 (wrap64 (x13 + 1))) else (some false)) else (none)) else (none)) else (none)) else (some true)
def spec_SameInts.f (k : Nat) (l0 : List Int) (l1 : List Int) : Option (Bool) := if (l0.length : Int) = (l1.length : Int) then (spec_SameInts.l0 k l0 l1 (l0.length : Int) 0) else (some false)
theorem spec_SameInts.mono_l : ∀ k, (∀ y0 y1 y2 y3, LeO (spec_SameInts.l0 k y0 y1 y2 y3) (spec_SameInts.l0 (k + 1) y0 y1 y2 y3))
  | 0 => fun _ _ _ _ r h => by simp [spec_SameInts.l0] at h
  | k + 1 => by
    have ih0 := spec_SameInts.mono_l k
    · intro y0 y1 y2 y3
      unfold spec_SameInts.l0
      repeat' first
      | (with_reducible exact ih0 _ _ _ _)
      | (with_reducible exact LeO.refl _)
      | (with_reducible exact LeO.none _)
      | (with_reducible refine LeO.ite ?_ ?_)
      | (with_reducible refine LeO.bind ?_ (fun _ => ?_))
      | exact ih0 _ _ _ _
      | exact LeO.none _
      | refine LeO.ite ?_ ?_
      | refine LeO.bind ?_ (fun _ => ?_)
theorem spec_SameInts.mono : ∀ a0 a1 k, LeO (spec_SameInts.f k a0 a1) (spec_SameInts.f (k + 1) a0 a1) := by
  intro a0 a1 k
  have ih0 := spec_SameInts.mono_l k
  unfold spec_SameInts.f
  repeat' first
      | (with_reducible exact ih0 _ _ _ _)
      | (with_reducible exact LeO.refl _)
      | (with_reducible exact LeO.none _)
      | (with_reducible refine LeO.ite ?_ ?_)
      | (with_reducible refine LeO.bind ?_ (fun _ => ?_))
      | exact ih0 _ _ _ _
      | exact LeO.none _
      | refine LeO.ite ?_ ?_
      | refine LeO.bind ?_ (fun _ => ?_)
end Go.Proofs.YtjkjnhcnmjknmaaDoor.Y
end
section
namespace Go.Proofs.YtjkjnhcnmjknmaaDoor.Y
open Go.RowKit Go.Proofs.YtjkjnhcnmjknmaaDoorW.PrintWords Go.Proofs.YtjkjnhcnmjknmaaDoorW.PrintLast Go.Proofs.YtjkjnhcnmjknmaaDoorW.PrintMore
attribute [local go_sem] max2_int min2_int max_two min_two max_three min_three max_four min_four   -- for this text's walks alone
set_option linter.unusedVariables false
set_option linter.unusedSimpArgs false
/-! ### xansi_Command: function 54 -/
def xansi_Command.f (a0 : Int) (a1 : Int) (a2 : Int) : Option (Int) := some (Go.bits .or .i64 (Go.bits .or .i64 (wrap64 (a2)) (wrap64 ((wrap64 (a0)) * 256))) (wrap64 ((wrap64 (a1)) * 65536)))
end Go.Proofs.YtjkjnhcnmjknmaaDoor.Y
end
section
namespace Go.Proofs.YtjkjnhcnmjknmaaDoor.Y
open Go.RowKit Go.Proofs.YtjkjnhcnmjknmaaDoorW.PrintWords Go.Proofs.YtjkjnhcnmjknmaaDoorW.PrintLast Go.Proofs.YtjkjnhcnmjknmaaDoorW.PrintMore
attribute [local go_sem] max2_int min2_int max_two min_two max_three min_three max_four min_four   -- for this text's walks alone
set_option linter.unusedVariables false
set_option linter.unusedSimpArgs false
/-! ### impl_Pack: function 9 -/
def impl_Pack.f (a0 : Int) (a1 : Int) (a2 : Int) : Option (Int) := (xansi_Command.f a0 a1 a2).bind fun t134 => (some t134)
end Go.Proofs.YtjkjnhcnmjknmaaDoor.Y
end
section
namespace Go.Proofs.YtjkjnhcnmjknmaaDoor.Y
open Go.RowKit Go.Proofs.YtjkjnhcnmjknmaaDoorW.PrintWords Go.Proofs.YtjkjnhcnmjknmaaDoorW.PrintLast Go.Proofs.YtjkjnhcnmjknmaaDoorW.PrintMore
theorem bits_low (a : Nat) (h : a < 2147483648) : Go.bits .and .i64 (a : Int) 2147483647 = (a : Int) := by
  have := bits_mask .i64 40 (by decide) (fun n h0 h1 => by rw [IntKind.wrap_i64]; omega) 31 (by decide) (a : Int) (by omega) (by omega)
  rw [show (2147483647 : Int) = 2 ^ 31 - 1 by decide, this]
  omega
theorem value_f (a : Int) (h0 : 0 ≤ a) (h1 : a < 2147483648) : spec_Value.f a = some a := by
  obtain ⟨n, rfl⟩ := Int.eq_ofNat_of_zero_le h0
  unfold spec_Value.f
  rw [bits_low n (by omega)]
theorem or_f (a d : Int) (h0 : 0 ≤ a) (h1 : a < 2147483647) : spec_Or.f a d = some a := by
  unfold spec_Or.f
  rw [value_f a h0 (by omega), Option.bind_some, if_neg (by omega), Option.bind_some]
theorem rd_at (l : List Int) (i : Nat) (h : i < l.length) : rd l (i : Int) = l[i] := by simp [rd, h]
/-- A parameter that is there. -/
theorem param_f (l : List Int) (i : Nat) (d : Int) (hi : i < l.length) (h0 : 0 ≤ l[i]) (h1 : l[i] < 2147483647) : spec_DrawParam.f l (i : Int) d = some l[i] := by
  unfold spec_DrawParam.f
  rw [if_neg (by omega), if_pos (by omega), if_pos (by omega), rd_at l i hi, or_f _ d h0 h1, Option.bind_some]
theorem numbers_l0 (e : S33) (hl : e.f4.length < 1000000) (hv : ∀ p ∈ e.f4, 0 ≤ p ∧ p < 2147483647) :
    ∀ (m i k : Nat), i + m = e.f4.length → m < k → spec_DrawNumbers.l0 k [e] (e.f4.take i) (e.f4.length : Int) (i : Int) = some (e.f3, e.f4, true)
  | 0, i, k + 1, h, hk => by
    have g : rd_T33 [e] 0 = e := rdU_at [e] 0 (by simp)
    rw [spec_DrawNumbers.l0, if_neg (by omega), if_pos (by simp), g, List.take_of_length_le (by omega)]
  | m + 1, i, k + 1, h, hk => by
    have g : rd_T33 [e] 0 = e := rdU_at [e] 0 (by simp)
    have hi : i < e.f4.length := by omega
    obtain ⟨p0, p1⟩ := hv _ (List.getElem_mem hi)
    rw [spec_DrawNumbers.l0, if_pos (by omega), if_pos (by simp), g, param_f _ i _ hi p0 p1, Option.bind_some, if_pos (by rw [List.length_take]; omega), wrap64_of _ (by omega) (by omega)]
    have e3 : e.f4.take i ++ [e.f4[i]] = e.f4.take (i + 1) := (List.take_succ_eq_append_getElem hi).symm
    rw [e3]
    exact numbers_l0 e hl hv m (i + 1) k (by omega) (by omega)
/-- One control sequence: its command, all its parameters. -/
theorem numbers_f (e : S33) (hk2 : e.f0 = 2) (hl : e.f4.length < 1000000) (hv : ∀ p ∈ e.f4, 0 ≤ p ∧ p < 2147483647) (k : Nat) (hk : e.f4.length + 1 < k) :
    spec_DrawNumbers.f k [e] = some (e.f3, e.f4, true) := by
  obtain ⟨k, rfl⟩ : ∃ k', k = k' + 1 := ⟨k - 1, by omega⟩
  have g : rd_T33 [e] 0 = e := rdU_at [e] 0 (by simp)
  unfold spec_DrawNumbers.f
  rw [if_pos (by simp), if_pos (by simp), g, hk2, spec_DrawNumbers.j0, if_neg (by simp), if_pos (by simp), g]
  exact numbers_l0 e hl hv e.f4.length 0 k (by omega) (by omega)
theorem same_l0 (a : List Int) (hl : a.length < 1000000) : ∀ (m i k : Nat), i + m = a.length → m < k → spec_SameInts.l0 k a a (a.length : Int) (i : Int) = some true
  | 0, i, k + 1, h, hk => by rw [spec_SameInts.l0, if_neg (by omega)]
  | m + 1, i, k + 1, h, hk => by
    rw [spec_SameInts.l0, if_pos (by omega), if_pos (by omega), if_pos (by omega), if_pos (by omega), if_pos rfl, wrap64_of _ (by omega) (by omega)]
    exact same_l0 a hl m (i + 1) k (by omega) (by omega)
theorem same_f (a : List Int) (hl : a.length < 1000000) (k : Nat) (hk : a.length < k) : spec_SameInts.f k a a = some true := by
  unfold spec_SameInts.f
  rw [if_pos rfl]
  exact same_l0 a hl a.length 0 k (by omega) hk
end Go.Proofs.YtjkjnhcnmjknmaaDoor.Y
end
section
namespace Go.Proofs.YtjkjnhcnmjknmaaDoor.Y
open Go.RowKit Go.Proofs.YtjkjnhcnmjknmaaDoorW.PrintWords Go.Proofs.YtjkjnhcnmjknmaaDoorW.PrintLast Go.Proofs.YtjkjnhcnmjknmaaDoorW.PrintMore
attribute [local go_sem] max2_int min2_int max_two min_two max_three min_three max_four min_four   -- for this text's walks alone
set_option linter.unusedVariables false
set_option linter.unusedSimpArgs false
/-! ### laws_FnDrawKeys: function 3 -/
mutual
def laws_FnDrawKeys.j0 : Nat → List Int → List Bool → Bool → Option (Bool)
  | 0, _, _, _ => none
  | k + 1, x0, x1, x22 => if x22 = true then (some true) else (if (x0.length : Int) < 1 then (laws_FnDrawKeys.j1 k x0 x1 true) else (if (x0.length : Int) > 10 then (laws_FnDrawKeys.j1 k x0 x1 true) else (laws_FnDrawKeys.j1 k x0 x1 ((x1.length : Int) != (x0.length : Int)))))
def laws_FnDrawKeys.j1 : Nat → List Int → List Bool → Bool → Option (Bool)
  | 0, _, _, _ => none
  | k + 1, x0, x1, x37 => if x37 = true then ((laws_drawAwake.f).bind fun t137 => (some t137)) else (laws_FnDrawKeys.l0 k x1 ([] : List Int) (⟨#[]⟩ : ByteArray) x0 (x0.length : Int) 0)
def laws_FnDrawKeys.l0 : Nat → List Bool → List Int → ByteArray → List Int → Int → Int → Option (Bool)
  | 0, _, _, _, _, _, _ => none
  | k + 1, x1, x5, x7, x39, x40, x41 => if x41 < x40 then (if 0 ≤ x41 then (if x41 < (x39.length : Int) then (if (rd x39 x41) < 1 then (laws_FnDrawKeys.j3 k x1 x5 x7 x41 (rd x39 x41) x39 x40 x41 true) else (laws_FnDrawKeys.j3 k x1 x5 x7 x41 (rd x39 x41) x39 x40 x41 (decide ((rd x39 x41) > 31)))) else (none)) else (none)) else ((gosem_conv.f x7).bind fun t149 => ((impl_Feed.f 32 4096 t149).bind fun t152 => (laws_FnDrawKeys.l1 k x5 ([] : List Int) t152 (t152.length : Int) 0)))
def laws_FnDrawKeys.j3 : Nat → List Bool → List Int → ByteArray → Int → Int → List Int → Int → Int → Bool → Option (Bool)
  | 0, _, _, _, _, _, _, _, _, _ => none
  | k + 1, x1, x5, x7, x8, x9, x39, x40, x41, x51 => if x51 = true then ((laws_drawAwake.f).bind fun t139 => (some t139)) else (if 0 ≤ x8 then (if x8 < (x1.length : Int) then (if rdOf false x1 x8 = true then (if 0 ≤ (mx 0 (wrap64 ((x5.length : Int) - x9))) then (if (mx 0 (wrap64 ((x5.length : Int) - x9))) ≤ (x5.length : Int) then ((impl_MakeNumber.f 27 x9).bind fun t144 => (if x7.size + t144.size ≤ 9223372036854775807 then (laws_FnDrawKeys.l0 k x1 (x5.take ((mx 0 (wrap64 ((x5.length : Int) - x9))) : Int).toNat) (x7 ++ t144) x39 x40 (wrap64 (x41 + 1))) else (none))) else (none)) else (none)) else (if x5.length < 17592186044416 then ((impl_MakeNumber.f 26 x9).bind fun t148 => (if x7.size + t148.size ≤ 9223372036854775807 then (laws_FnDrawKeys.l0 k x1 (x5 ++ [x9]) (x7 ++ t148) x39 x40 (wrap64 (x41 + 1))) else (none))) else (none))) else (none)) else (none))
def laws_FnDrawKeys.l1 : Nat → List Int → List Int → List (S30) → Int → Int → Option (Bool)
  | 0, _, _, _, _, _ => none
  | k + 1, x5, x6, x79, x80, x81 => if x81 < x80 then (if 0 ≤ x81 then (if x81 < (x79.length : Int) then ((spec_DrawNumbers.f k (([(⟨(rd_T30 x79 x81).f0, (rd_T30 x79 x81).f1, (rd_T30 x79 x81).f2, (rd_T30 x79 x81).f3, (rd_T30 x79 x81).f4, (rd_T30 x79 x81).f5⟩ : S33)] : List (S33)))).bind fun bt162 => (if bt162.2.2 = true then (laws_FnDrawKeys.j5 k x5 x6 bt162.1 bt162.2.1 x79 x80 x81 ((bt162.2.1.length : Int) != 1)) else (laws_FnDrawKeys.j5 k x5 x6 bt162.1 bt162.2.1 x79 x80 x81 true))) else (none)) else (none)) else ((spec_SameInts.f k x6 x5).bind fun t155 => (if t155 = true then ((laws_drawAwake.f).bind fun t156 => (some t156)) else (some false)))
def laws_FnDrawKeys.j5 : Nat → List Int → List Int → Int → List Int → List (S30) → Int → Int → Bool → Option (Bool)
  | 0, _, _, _, _, _, _, _, _ => none
  | k + 1, x5, x6, x12, x13, x79, x80, x81, x92 => if x92 = true then (some false) else ((impl_Pack.f 62 0 117).bind fun t167 => (if x12 = t167 then (if 0 < (x13.length : Int) then (if x6.length < 17592186044416 then (laws_FnDrawKeys.l1 k x5 (x6 ++ [rd x13 0]) x79 x80 (wrap64 (x81 + 1))) else (none)) else (none)) else ((impl_Pack.f 60 0 117).bind fun t172 => (if x12 = t172 then (if 0 < (x13.length : Int) then (if 0 ≤ (mx 0 (wrap64 ((x6.length : Int) - (rd x13 0)))) then (if (mx 0 (wrap64 ((x6.length : Int) - (rd x13 0)))) ≤ (x6.length : Int) then (laws_FnDrawKeys.l1 k x5 (x6.take ((mx 0 (wrap64 ((x6.length : Int) - (rd x13 0)))) : Int).toNat) x79 x80 (wrap64 (x81 + 1))) else (none)) else (none)) else (none)) else (some false)))))
end
def laws_FnDrawKeys.f (k : Nat) (l0 : List Int) (l1 : List Bool) : Option (Bool) := if (l0.length : Int) > 2147483647 then (laws_FnDrawKeys.j0 k l0 l1 true) else (laws_FnDrawKeys.j0 k l0 l1 (decide ((l1.length : Int) > 2147483647)))
theorem laws_FnDrawKeys.mono_l : ∀ k, (∀ y0 y1 y2, LeO (laws_FnDrawKeys.j0 k y0 y1 y2) (laws_FnDrawKeys.j0 (k + 1) y0 y1 y2)) ∧ (∀ y0 y1 y2, LeO (laws_FnDrawKeys.j1 k y0 y1 y2) (laws_FnDrawKeys.j1 (k + 1) y0 y1 y2)) ∧ (∀ y0 y1 y2 y3 y4 y5, LeO (laws_FnDrawKeys.l0 k y0 y1 y2 y3 y4 y5) (laws_FnDrawKeys.l0 (k + 1) y0 y1 y2 y3 y4 y5)) ∧ (∀ y0 y1 y2 y3 y4 y5 y6 y7 y8, LeO (laws_FnDrawKeys.j3 k y0 y1 y2 y3 y4 y5 y6 y7 y8) (laws_FnDrawKeys.j3 (k + 1) y0 y1 y2 y3 y4 y5 y6 y7 y8)) ∧ (∀ y0 y1 y2 y3 y4, LeO (laws_FnDrawKeys.l1 k y0 y1 y2 y3 y4) (laws_FnDrawKeys.l1 (k + 1) y0 y1 y2 y3 y4)) ∧ (∀ y0 y1 y2 y3 y4 y5 y6 y7, LeO (laws_FnDrawKeys.j5 k y0 y1 y2 y3 y4 y5 y6 y7) (laws_FnDrawKeys.j5 (k + 1) y0 y1 y2 y3 y4 y5 y6 y7))
  | 0 => ⟨fun _ _ _ r h => by simp [laws_FnDrawKeys.j0] at h, fun _ _ _ r h => by simp [laws_FnDrawKeys.j1] at h, fun _ _ _ _ _ _ r h => by simp [laws_FnDrawKeys.l0] at h, fun _ _ _ _ _ _ _ _ _ r h => by simp [laws_FnDrawKeys.j3] at h, fun _ _ _ _ _ r h => by simp [laws_FnDrawKeys.l1] at h, fun _ _ _ _ _ _ _ _ r h => by simp [laws_FnDrawKeys.j5] at h⟩
  | k + 1 => by
    obtain ⟨ih0, ih1, ih2, ih3, ih4, ih5⟩ := laws_FnDrawKeys.mono_l k
    refine ⟨?_, ?_, ?_, ?_, ?_, ?_⟩
    · intro y0 y1 y2
      unfold laws_FnDrawKeys.j0
      repeat' first
      | (with_reducible exact ih0 _ _ _)
      | (with_reducible exact ih1 _ _ _)
      | (with_reducible exact ih2 _ _ _ _ _ _)
      | (with_reducible exact ih3 _ _ _ _ _ _ _ _ _)
      | (with_reducible exact ih4 _ _ _ _ _)
      | (with_reducible exact ih5 _ _ _ _ _ _ _ _)
      | (with_reducible exact spec_DrawNumbers.mono _ _)
      | (with_reducible exact spec_SameInts.mono _ _ _)
      | (with_reducible exact LeO.refl _)
      | (with_reducible exact LeO.none _)
      | (with_reducible refine LeO.ite ?_ ?_)
      | (with_reducible refine LeO.bind ?_ (fun _ => ?_))
      | exact ih0 _ _ _
      | exact ih1 _ _ _
      | exact ih2 _ _ _ _ _ _
      | exact ih3 _ _ _ _ _ _ _ _ _
      | exact ih4 _ _ _ _ _
      | exact ih5 _ _ _ _ _ _ _ _
      | exact spec_DrawNumbers.mono _ _
      | exact spec_SameInts.mono _ _ _
      | exact LeO.none _
      | refine LeO.ite ?_ ?_
      | refine LeO.bind ?_ (fun _ => ?_)
    · intro y0 y1 y2
      unfold laws_FnDrawKeys.j1
      repeat' first
      | (with_reducible exact ih0 _ _ _)
      | (with_reducible exact ih1 _ _ _)
      | (with_reducible exact ih2 _ _ _ _ _ _)
      | (with_reducible exact ih3 _ _ _ _ _ _ _ _ _)
      | (with_reducible exact ih4 _ _ _ _ _)
      | (with_reducible exact ih5 _ _ _ _ _ _ _ _)
      | (with_reducible exact spec_DrawNumbers.mono _ _)
      | (with_reducible exact spec_SameInts.mono _ _ _)
      | (with_reducible exact LeO.refl _)
      | (with_reducible exact LeO.none _)
      | (with_reducible refine LeO.ite ?_ ?_)
      | (with_reducible refine LeO.bind ?_ (fun _ => ?_))
      | exact ih0 _ _ _
      | exact ih1 _ _ _
      | exact ih2 _ _ _ _ _ _
      | exact ih3 _ _ _ _ _ _ _ _ _
      | exact ih4 _ _ _ _ _
      | exact ih5 _ _ _ _ _ _ _ _
      | exact spec_DrawNumbers.mono _ _
      | exact spec_SameInts.mono _ _ _
      | exact LeO.none _
      | refine LeO.ite ?_ ?_
      | refine LeO.bind ?_ (fun _ => ?_)
    · intro y0 y1 y2 y3 y4 y5
      unfold laws_FnDrawKeys.l0
      repeat' first
      | (with_reducible exact ih0 _ _ _)
      | (with_reducible exact ih1 _ _ _)
      | (with_reducible exact ih2 _ _ _ _ _ _)
      | (with_reducible exact ih3 _ _ _ _ _ _ _ _ _)
      | (with_reducible exact ih4 _ _ _ _ _)
      | (with_reducible exact ih5 _ _ _ _ _ _ _ _)
      | (with_reducible exact spec_DrawNumbers.mono _ _)
      | (with_reducible exact spec_SameInts.mono _ _ _)
      | (with_reducible exact LeO.refl _)
      | (with_reducible exact LeO.none _)
      | (with_reducible refine LeO.ite ?_ ?_)
      | (with_reducible refine LeO.bind ?_ (fun _ => ?_))
      | exact ih0 _ _ _
      | exact ih1 _ _ _
      | exact ih2 _ _ _ _ _ _
      | exact ih3 _ _ _ _ _ _ _ _ _
      | exact ih4 _ _ _ _ _
      | exact ih5 _ _ _ _ _ _ _ _
      | exact spec_DrawNumbers.mono _ _
      | exact spec_SameInts.mono _ _ _
      | exact LeO.none _
      | refine LeO.ite ?_ ?_
      | refine LeO.bind ?_ (fun _ => ?_)
    · intro y0 y1 y2 y3 y4 y5 y6 y7 y8
      unfold laws_FnDrawKeys.j3
      repeat' first
      | (with_reducible exact ih0 _ _ _)
      | (with_reducible exact ih1 _ _ _)
      | (with_reducible exact ih2 _ _ _ _ _ _)
      | (with_reducible exact ih3 _ _ _ _ _ _ _ _ _)
      | (with_reducible exact ih4 _ _ _ _ _)
      | (with_reducible exact ih5 _ _ _ _ _ _ _ _)
      | (with_reducible exact spec_DrawNumbers.mono _ _)
      | (with_reducible exact spec_SameInts.mono _ _ _)
      | (with_reducible exact LeO.refl _)
      | (with_reducible exact LeO.none _)
      | (with_reducible refine LeO.ite ?_ ?_)
      | (with_reducible refine LeO.bind ?_ (fun _ => ?_))
      | exact ih0 _ _ _
      | exact ih1 _ _ _
      | exact ih2 _ _ _ _ _ _
      | exact ih3 _ _ _ _ _ _ _ _ _
      | exact ih4 _ _ _ _ _
      | exact ih5 _ _ _ _ _ _ _ _
      | exact spec_DrawNumbers.mono _ _
      | exact spec_SameInts.mono _ _ _
      | exact LeO.none _
      | refine LeO.ite ?_ ?_
      | refine LeO.bind ?_ (fun _ => ?_)
    · intro y0 y1 y2 y3 y4
      unfold laws_FnDrawKeys.l1
      repeat' first
      | (with_reducible exact ih0 _ _ _)
      | (with_reducible exact ih1 _ _ _)
      | (with_reducible exact ih2 _ _ _ _ _ _)
      | (with_reducible exact ih3 _ _ _ _ _ _ _ _ _)
      | (with_reducible exact ih4 _ _ _ _ _)
      | (with_reducible exact ih5 _ _ _ _ _ _ _ _)
      | (with_reducible exact spec_DrawNumbers.mono _ _)
      | (with_reducible exact spec_SameInts.mono _ _ _)
      | (with_reducible exact LeO.refl _)
      | (with_reducible exact LeO.none _)
      | (with_reducible refine LeO.ite ?_ ?_)
      | (with_reducible refine LeO.bind ?_ (fun _ => ?_))
      | exact ih0 _ _ _
      | exact ih1 _ _ _
      | exact ih2 _ _ _ _ _ _
      | exact ih3 _ _ _ _ _ _ _ _ _
      | exact ih4 _ _ _ _ _
      | exact ih5 _ _ _ _ _ _ _ _
      | exact spec_DrawNumbers.mono _ _
      | exact spec_SameInts.mono _ _ _
      | exact LeO.none _
      | refine LeO.ite ?_ ?_
      | refine LeO.bind ?_ (fun _ => ?_)
    · intro y0 y1 y2 y3 y4 y5 y6 y7
      unfold laws_FnDrawKeys.j5
      repeat' first
      | (with_reducible exact ih0 _ _ _)
      | (with_reducible exact ih1 _ _ _)
      | (with_reducible exact ih2 _ _ _ _ _ _)
      | (with_reducible exact ih3 _ _ _ _ _ _ _ _ _)
      | (with_reducible exact ih4 _ _ _ _ _)
      | (with_reducible exact ih5 _ _ _ _ _ _ _ _)
      | (with_reducible exact spec_DrawNumbers.mono _ _)
      | (with_reducible exact spec_SameInts.mono _ _ _)
      | (with_reducible exact LeO.refl _)
      | (with_reducible exact LeO.none _)
      | (with_reducible refine LeO.ite ?_ ?_)
      | (with_reducible refine LeO.bind ?_ (fun _ => ?_))
      | exact ih0 _ _ _
      | exact ih1 _ _ _
      | exact ih2 _ _ _ _ _ _
      | exact ih3 _ _ _ _ _ _ _ _ _
      | exact ih4 _ _ _ _ _
      | exact ih5 _ _ _ _ _ _ _ _
      | exact spec_DrawNumbers.mono _ _
      | exact spec_SameInts.mono _ _ _
      | exact LeO.none _
      | refine LeO.ite ?_ ?_
      | refine LeO.bind ?_ (fun _ => ?_)
theorem laws_FnDrawKeys.mono : ∀ a0 a1 k, LeO (laws_FnDrawKeys.f k a0 a1) (laws_FnDrawKeys.f (k + 1) a0 a1) := by
  intro a0 a1 k
  obtain ⟨ih0, ih1, ih2, ih3, ih4, ih5⟩ := laws_FnDrawKeys.mono_l k
  unfold laws_FnDrawKeys.f
  repeat' first
      | (with_reducible exact ih0 _ _ _)
      | (with_reducible exact ih1 _ _ _)
      | (with_reducible exact ih2 _ _ _ _ _ _)
      | (with_reducible exact ih3 _ _ _ _ _ _ _ _ _)
      | (with_reducible exact ih4 _ _ _ _ _)
      | (with_reducible exact ih5 _ _ _ _ _ _ _ _)
      | (with_reducible exact spec_DrawNumbers.mono _ _)
      | (with_reducible exact spec_SameInts.mono _ _ _)
      | (with_reducible exact LeO.refl _)
      | (with_reducible exact LeO.none _)
      | (with_reducible refine LeO.ite ?_ ?_)
      | (with_reducible refine LeO.bind ?_ (fun _ => ?_))
      | exact ih0 _ _ _
      | exact ih1 _ _ _
      | exact ih2 _ _ _ _ _ _
      | exact ih3 _ _ _ _ _ _ _ _ _
      | exact ih4 _ _ _ _ _
      | exact ih5 _ _ _ _ _ _ _ _
      | exact spec_DrawNumbers.mono _ _
      | exact spec_SameInts.mono _ _ _
      | exact LeO.none _
      | refine LeO.ite ?_ ?_
      | refine LeO.bind ?_ (fun _ => ?_)
theorem own_map (A : Option Addr) (n c : Nat) : (Value.slice A n c).ownBlock = A.map (fun a => a.block) := by cases A <;> rfl
end Go.Proofs.YtjkjnhcnmjknmaaDoor.Y
end
section
namespace Go.Proofs.YtjkjnhcnmjknmaaDoor.Y
open Go.RowKit Go.Proofs.YtjkjnhcnmjknmaaDoorW.PrintWords Go.Proofs.YtjkjnhcnmjknmaaDoorW.PrintLast Go.Proofs.YtjkjnhcnmjknmaaDoorW.PrintMore
abbrev KOp := Bool × Int
def keyStep (v : List Int) (o : KOp) : List Int := if o.1 then v.take (v.length - o.2.toNat) else v ++ [o.2]
def keyCmd (b : Bool) : Int := if b then 15477 else 15989
def keyEv (o : KOp) : X.Ev := X.evCsi (keyCmd o.1) [o.2]
def keyNo (b : Bool) : Int := if b then 27 else 26
def keyOk (b : Bool) (n : Nat) : Bool :=
  match impl_MakeNumber.f (keyNo b) n with
  | some t => decide (X.run .gr (X.nb t) = some (.gr, [keyEv (b, (n : Int))])) && decide (t.size ≤ 12)
  | none => false
theorem keys_ok : ([true, false].all fun b => (List.range 32).all fun n => n == 0 || keyOk b n) = true := by kernel_rfl
theorem key_text (b : Bool) (n : Nat) (h1 : 1 ≤ n) (h31 : n ≤ 31) : ∃ t, impl_MakeNumber.f (keyNo b) n = some t ∧ X.run .gr (X.nb t) = some (.gr, [keyEv (b, (n : Int))]) ∧ t.size ≤ 12 := by
  have h := List.all_eq_true.1 (List.all_eq_true.1 keys_ok b (by cases b <;> simp)) n (List.mem_range.2 (by omega))
  have h0 : (n == 0) = false := by simp; omega
  rw [h0, Bool.false_or] at h
  unfold keyOk at h
  split at h
  · rename_i t ht
    simp only [Bool.and_eq_true, decide_eq_true_eq] at h
    exact ⟨t, ht, h.1, h.2⟩
  · exact absurd h (by simp)
def KeyIn (o : KOp) : Prop := 1 ≤ o.2 ∧ o.2 ≤ 31
theorem keyFold_len (ops : List KOp) : ∀ v : List Int, (ops.foldl keyStep v).length ≤ v.length + ops.length := by
  induction ops with
  | nil => intro v; simp
  | cons o ops ih =>
    intro v
    have h1 : (keyStep v o).length ≤ v.length + 1 := by
      unfold keyStep
      split
      · rw [List.length_take]; omega
      · simp
    have := ih (keyStep v o)
    rw [List.foldl_cons, List.length_cons]
    omega
theorem mx_cut (a : Nat) (n : Int) (h1 : 1 ≤ n) (h2 : n ≤ 31) (ha : a ≤ 1000) : mx 0 (wrap64 ((a : Int) - n)) = ((a - n.toNat : Nat) : Int) := by
  rw [wrap64_of _ (by omega) (by omega)]
  unfold mx
  split <;> omega
theorem wup (i : Nat) (h : i < 1000000000000) : wrap64 ((i : Int) + 1) = ((i + 1 : Nat) : Int) := by rw [wrap64_of _ (by omega) (by omega)]; omega
theorem rdE_at2 {l : List S30} {a : S30} (i : Nat) (h : l[i]? = some a) : rd_T30 l (i : Int) = a := by
  obtain ⟨h1, h2⟩ := List.getElem?_eq_some_iff.1 h
  rw [rdT_at l i h1, h2]
theorem fold_up (ops : List KOp) (i : Nat) (hi : i < ops.length) : (ops.take (i + 1)).foldl keyStep [] = keyStep ((ops.take i).foldl keyStep []) ops[i] := by
  rw [List.take_succ_eq_append_getElem hi, List.foldl_append]
  rfl
theorem pack_push : impl_Pack.f 62 0 117 = some 15989 := by kernel_rfl
theorem pack_pop : impl_Pack.f 60 0 117 = some 15477 := by kernel_rfl
/-- What is read. -/
theorem keys_l1 (ops : List KOp) (hn : ops.length ≤ 10) (hin : ∀ o ∈ ops, KeyIn o) : ∀ (m i k : Nat), i + m = ops.length → 200 + 2 * m ≤ k →
    laws_FnDrawKeys.l1 k (ops.foldl keyStep []) ((ops.take i).foldl keyStep []) ((ops.map keyEv).map X.toS) (((ops.map keyEv).map X.toS).length : Int) (i : Int) = some true
  | 0, i, k + 1, h, hk => by
    have hL : ((ops.map keyEv).map X.toS).length = ops.length := by simp
    have hf := keyFold_len ops []
    simp only [List.length_nil] at hf
    rw [laws_FnDrawKeys.l1, if_neg (by rw [hL]; omega), List.take_of_length_le (by omega), same_f _ (by omega) k (by omega), Option.bind_some, if_pos rfl, awake, Option.bind_some]
  | m + 1, i, k + 2, h, hk => by
    have hi : i < ops.length := by omega
    have hL : ((ops.map keyEv).map X.toS).length = ops.length := by simp
    obtain ⟨n1, n31⟩ := hin _ (List.getElem_mem hi)
    have ih := keys_l1 ops hn hin m (i + 1) k (by omega) (by omega)
    rw [fold_up ops i hi] at ih
    have hf := keyFold_len (ops.take i) []
    rw [List.length_take, List.length_nil] at hf
    have hg : rd_T30 ((ops.map keyEv).map X.toS) (i : Int) = X.toS (keyEv ops[i]) := rdE_at2 i (by simp [hi])
    have hnum : spec_DrawNumbers.f (k + 1) [cv (X.toS (keyEv ops[i]))] = some ((cv (X.toS (keyEv ops[i]))).f3, (cv (X.toS (keyEv ops[i]))).f4, true) :=
      numbers_f _ rfl (by show [ops[i].2].length < _; simp) (fun p hp => by
        have : p = ops[i].2 := List.mem_singleton.1 hp
        omega) (k + 1) (by show [ops[i].2].length + 1 < _; simp; omega)
    rw [laws_FnDrawKeys.l1, if_pos (by rw [hL]; omega), if_pos (by omega), if_pos (by rw [hL]; omega), hg]
    have e0 : (⟨(X.toS (keyEv ops[i])).f0, (X.toS (keyEv ops[i])).f1, (X.toS (keyEv ops[i])).f2, (X.toS (keyEv ops[i])).f3, (X.toS (keyEv ops[i])).f4, (X.toS (keyEv ops[i])).f5⟩ : S33) = cv (X.toS (keyEv ops[i])) := rfl
    rw [e0, hnum, Option.bind_some]
    have e3 : (cv (X.toS (keyEv ops[i]))).f3 = keyCmd ops[i].1 := rfl
    have e4 : (cv (X.toS (keyEv ops[i]))).f4 = [ops[i].2] := rfl
    rw [e3, e4, if_pos rfl]
    have e5 : ((([ops[i].2] : List Int).length : Int) != 1) = false := by simp
    have e6 : rd [ops[i].2] 0 = ops[i].2 := rfl
    rw [e5, laws_FnDrawKeys.j5, if_neg (by simp), pack_push, Option.bind_some, wup i (by omega), e6]
    unfold keyStep at ih
    by_cases hb : ops[i].1 = true
    · have ec : keyCmd ops[i].1 = 15477 := by rw [hb]; rfl
      rw [if_pos hb] at ih
      rw [ec, if_neg (by omega), pack_pop, Option.bind_some, if_pos rfl, if_pos (by simp), mx_cut _ _ n1 n31 (by omega), if_pos (by omega), if_pos (by omega), Int.toNat_natCast]
      exact ih
    · have ec : keyCmd ops[i].1 = 15989 := by rw [Bool.eq_false_iff.2 hb]; rfl
      rw [if_neg hb] at ih
      rw [ec, if_pos rfl, if_pos (by simp), if_pos (by omega)]
      exact ih
theorem keys_l0 (l : List Int) (tk : List Bool) (hl : l.length ≤ 10) (ht : tk.length = l.length) : ∀ (m i k : Nat) (x7 : ByteArray), i + m = l.length → 400 + 2 * m ≤ k → (∀ o ∈ (tk.zip l).take i, KeyIn o) → X.run .gr (X.nb x7) = some (.gr, ((tk.zip l).take i).map keyEv) → x7.size ≤ 12 * i →
    laws_FnDrawKeys.l0 k tk (((tk.zip l).take i).foldl keyStep []) x7 l (l.length : Int) (i : Int) = some true
  | 0, i, k + 1, x7, h, hk, hin, hr, hs => by
    have hz : (tk.zip l).length = l.length := by rw [List.length_zip]; omega
    rw [List.take_of_length_le (by omega)] at hr hin ⊢
    rw [laws_FnDrawKeys.l0, if_neg (by omega), conv_f x7 (by omega), Option.bind_some, feed_f x7 (by omega) hr, Option.bind_some]
    exact keys_l1 (tk.zip l) (by omega) hin (tk.zip l).length 0 k (by omega) (by omega)
  | m + 1, i, k + 2, x7, h, hk, hin, hr, hs => by
    have hz : (tk.zip l).length = l.length := by rw [List.length_zip]; omega
    have hi : i < l.length := by omega
    have hi2 : i < (tk.zip l).length := by omega
    have hg : (tk.zip l)[i] = (tk[i], l[i]) := List.getElem_zip
    have hf := keyFold_len ((tk.zip l).take i) []
    rw [List.length_take, List.length_nil] at hf
    have hrd : rd l (i : Int) = l[i] := by simp [rd, hi]
    have hrb : rdOf false tk (i : Int) = tk[i] := by simp [rdOf, show i < tk.length by omega]
    rw [laws_FnDrawKeys.l0, if_pos (by omega), if_pos (by omega), if_pos (by omega), hrd]
    by_cases h1 : l[i] < 1
    · rw [if_pos h1, laws_FnDrawKeys.j3, if_pos rfl, awake, Option.bind_some]
    rw [if_neg h1]
    by_cases h2 : l[i] > 31
    · rw [decide_eq_true h2, laws_FnDrawKeys.j3, if_pos rfl, awake, Option.bind_some]
    rw [decide_eq_false h2, laws_FnDrawKeys.j3, if_neg (by simp), if_pos (by omega), if_pos (by omega), hrb, wup i (by omega)]
    obtain ⟨t, q1, q2, q3⟩ := key_text tk[i] l[i].toNat (by omega) (by omega)
    rw [Int.toNat_of_nonneg (by omega)] at q1 q2
    have e3 : (tk.zip l).take (i + 1) = (tk.zip l).take i ++ [(tk[i], l[i])] := by rw [List.take_succ_eq_append_getElem hi2, hg]
    have ih := keys_l0 l tk hl ht m (i + 1) k (x7 ++ t) (by omega) (by omega) (by
      rw [e3]
      intro o ho
      rcases List.mem_append.1 ho with ho | ho
      · exact hin o ho
      · rw [List.mem_singleton.1 ho]
        exact ⟨by show 1 ≤ l[i]; omega, by show l[i] ≤ 31; omega⟩) (by
      rw [e3, X.nb_append, List.map_append]
      exact X.run_of hr q2) (by rw [ByteArray.size_append]; omega)
    rw [fold_up _ i hi2, hg] at ih
    by_cases hb : tk[i] = true
    · have ek : impl_MakeNumber.f 27 l[i] = some t := by rw [← q1, hb]; rfl
      rw [if_pos hb, mx_cut _ _ (by omega) (by omega) (by omega), if_pos (by omega), if_pos (by omega), ek, Option.bind_some, if_pos (by omega), Int.toNat_natCast]
      unfold keyStep at ih
      rw [if_pos hb] at ih
      exact ih
    · have ek : impl_MakeNumber.f 26 l[i] = some t := by rw [← q1, Bool.eq_false_iff.2 hb]; rfl
      rw [if_neg hb, if_pos (by omega), ek, Option.bind_some, if_pos (by omega)]
      unfold keyStep at ih
      rw [if_neg hb] at ih
      exact ih
theorem FnDrawKeys_true (l : List Int) (_ : l.length ≤ maxLen) (_ : ∀ a ∈ l, (Lit.int .i64 a).wf = true) (tk : List Bool) (_ : tk.length ≤ maxLen) (_ : ∀ a ∈ tk, True) : laws_FnDrawKeys.f 1000 l tk = some true := by
  have bad : laws_FnDrawKeys.j0 1000 l tk true = some true := by rw [laws_FnDrawKeys.j0, if_pos rfl]
  have bad1 : laws_FnDrawKeys.j1 999 l tk true = some true := by rw [laws_FnDrawKeys.j1, if_pos rfl, awake, Option.bind_some]
  unfold laws_FnDrawKeys.f
  by_cases h1 : (l.length : Int) > 2147483647
  · rw [if_pos h1, bad]
  rw [if_neg h1]
  by_cases h2 : (tk.length : Int) > 2147483647
  · rw [decide_eq_true h2, bad]
  rw [decide_eq_false h2, laws_FnDrawKeys.j0, if_neg (by simp)]
  by_cases h3 : (l.length : Int) < 1
  · rw [if_pos h3, bad1]
  rw [if_neg h3]
  by_cases h4 : (l.length : Int) > 10
  · rw [if_pos h4, bad1]
  rw [if_neg h4]
  by_cases h5 : ((tk.length : Int) != (l.length : Int)) = true
  · rw [h5, bad1]
  rw [Bool.eq_false_iff.2 h5, laws_FnDrawKeys.j1, if_neg (by simp)]
  have h6 : tk.length = l.length := by
    have := Bool.eq_false_iff.2 h5
    rw [bne_eq_false_iff_eq] at this
    omega
  exact keys_l0 l tk (by omega) h6 l.length 0 998 ⟨#[]⟩ (by omega) (by omega) (by simp) (by rfl) (by decide)
end Go.Proofs.YtjkjnhcnmjknmaaDoor.Y
end
section
namespace Go.Proofs.YtjkjnhcnmjknmaaDoor.Y
open Go.RowKit Go.Proofs.YtjkjnhcnmjknmaaDoorW.PrintWords Go.Proofs.YtjkjnhcnmjknmaaDoorW.PrintLast Go.Proofs.YtjkjnhcnmjknmaaDoorW.PrintMore
attribute [local go_sem] max2_int min2_int max_two min_two max_three min_three max_four min_four   -- for this text's walks alone
set_option linter.unusedVariables false
set_option linter.unusedSimpArgs false
set_option maxHeartbeats 8000000 in
set_option maxRecDepth 100000 in
theorem spec_Value.calls (a0 : Int) (r : Int) (w : World) (h : spec_Value.f a0 = some r) :
    Calls Tryd.prog 88 #[.int .i64 a0] w fun e w' => e = .returned (.int .i64 r) ∧ Drawn0 w w' := by
  have H : (some (Go.bits .and .i64 a0 2147483647)) = some r := h
  clear h
  obtain rfl := Option.some.inj H
  go_enter Tryd.func88, Tryd.ntmps88
  go_wp2
  go_ret
  exact ⟨by first | rfl | (simp; done) | (simp [*]; done), by repeat (first | exact Drawn0.refl _ | apply Drawn0.step)⟩
end Go.Proofs.YtjkjnhcnmjknmaaDoor.Y
end
section
namespace Go.Proofs.YtjkjnhcnmjknmaaDoor.Y
open Go.RowKit Go.Proofs.YtjkjnhcnmjknmaaDoorW.PrintWords Go.Proofs.YtjkjnhcnmjknmaaDoorW.PrintLast Go.Proofs.YtjkjnhcnmjknmaaDoorW.PrintMore
attribute [local go_sem] max2_int min2_int max_two min_two max_three min_three max_four min_four   -- for this text's walks alone
set_option linter.unusedVariables false
set_option linter.unusedSimpArgs false
set_option maxHeartbeats 8000000 in
set_option maxRecDepth 100000 in
theorem spec_Or.calls (a0 : Int) (a1 : Int) (r : Int) (w : World) (h : spec_Or.f a0 a1 = some r) :
    Calls Tryd.prog 79 #[.int .i64 a0, .int .i64 a1] w fun e w' => e = .returned (.int .i64 r) ∧ Drawn0 w w' := by
  have H : ((spec_Value.f a0).bind fun t122 => (if t122 = 2147483647 then (some a1) else ((spec_Value.f a0).bind fun t123 => (some t123)))) = some r := h
  clear h
  replace H := Option.bind_eq_some_iff.mp H
  obtain ⟨t122, A30, H⟩ := H
  replace H : (if t122 = 2147483647 then (some a1) else ((spec_Value.f a0).bind fun t123 => (some t123))) = some r := H
  have A3 := Aside0.mk A30
  clear A30
  by_cases c4 : t122 = 2147483647
  · rw [if_pos c4] at H
    have c4b0 : (t122 == 2147483647) = true := beq_iff_eq.mpr c4
    have c4b1 : (t122 != 2147483647) = false := bne_eq_false_iff_eq.mpr c4
    clear c4
    obtain rfl := Option.some.inj H
    go_enter Tryd.func79, Tryd.ntmps79
    go_wp2_with (first | ((with_reducible refine gate_callee (f := 88) rfl ?_); refine goesL_ (some 6) rfl rfl Tryd.func88 (by kernel_rfl) rfl #[.int .i64 a0] rfl (by (try simp only [List.map_toArray, List.map_cons, List.map_nil]); first | done | rfl | (simp only [List.length_drop, List.length_take]; rfl)) ?_; (with_reducible refine (spec_Value.calls a0 t122 _ A3.out).mono ?_); rintro e w' ⟨rfl, ⟨nd, rfl⟩⟩; refine ⟨_, rfl, ?_⟩))
    go_ret
    exact ⟨by first | rfl | (simp; done) | (simp [*]; done), by repeat (first | exact Drawn0.refl _ | apply Drawn0.step)⟩
  · rw [if_neg c4] at H
    have c4b0 : (t122 == 2147483647) = false := beq_eq_false_iff_ne.mpr c4
    have c4b1 : (t122 != 2147483647) = true := bne_iff_ne.mpr c4
    replace H := Option.bind_eq_some_iff.mp H
    obtain ⟨t123, A50, H⟩ := H
    replace H : (some t123) = some r := H
    have A5 := Aside0.mk A50
    clear A50
    obtain rfl := Option.some.inj H
    go_enter Tryd.func79, Tryd.ntmps79
    go_wp2_with (first | ((with_reducible refine gate_callee (f := 88) rfl ?_); refine goesL_ (some 6) rfl rfl Tryd.func88 (by kernel_rfl) rfl #[.int .i64 a0] rfl (by (try simp only [List.map_toArray, List.map_cons, List.map_nil]); first | done | rfl | (simp only [List.length_drop, List.length_take]; rfl)) ?_; (with_reducible refine (spec_Value.calls a0 t122 _ A3.out).mono ?_); rintro e w' ⟨rfl, ⟨nd, rfl⟩⟩; refine ⟨_, rfl, ?_⟩) | ((with_reducible refine gate_callee (f := 88) rfl ?_); refine goesL_ (some 10) rfl rfl Tryd.func88 (by kernel_rfl) rfl #[.int .i64 a0] rfl (by (try simp only [List.map_toArray, List.map_cons, List.map_nil]); first | done | rfl | (simp only [List.length_drop, List.length_take]; rfl)) ?_; (with_reducible refine (spec_Value.calls a0 t123 _ A5.out).mono ?_); rintro e w' ⟨rfl, ⟨nd, rfl⟩⟩; refine ⟨_, rfl, ?_⟩))
    go_ret
    exact ⟨by first | rfl | (simp; done) | (simp [*]; done), by repeat (first | exact Drawn0.refl _ | apply Drawn0.step)⟩
end Go.Proofs.YtjkjnhcnmjknmaaDoor.Y
end
section
namespace Go.Proofs.YtjkjnhcnmjknmaaDoor.Y
open Go.RowKit Go.Proofs.YtjkjnhcnmjknmaaDoorW.PrintWords Go.Proofs.YtjkjnhcnmjknmaaDoorW.PrintLast Go.Proofs.YtjkjnhcnmjknmaaDoorW.PrintMore
attribute [local go_sem] max2_int min2_int max_two min_two max_three min_three max_four min_four   -- for this text's walks alone
set_option linter.unusedVariables false
set_option linter.unusedSimpArgs false
set_option maxHeartbeats 8000000 in
set_option maxRecDepth 100000 in
theorem spec_DrawParam.calls (A0 : Option Addr) (c0 : Nat) (l0 : List Int) (a1 : Int) (a2 : Int) (r : Int) (w : World) (hr0 : Kd.C (Kd.int .i64) w A0 l0.length l0) (hc0 : l0.length ≤ c0) (h : spec_DrawParam.f l0 a1 a2 = some r) :
    Calls Tryd.prog 53 #[.slice A0 l0.length c0, .int .i64 a1, .int .i64 a2] w fun e w' => e = .returned (.int .i64 r) ∧ Drawn0 w w' := by
  have HR0 := Aside0.mk hr0
  have HC0 := Aside0.mk hc0
  clear hr0 hc0
  have H : (if a1 ≥ (l0.length : Int) then (some a2) else (if 0 ≤ a1 then (if a1 < (l0.length : Int) then ((spec_Or.f (rd l0 a1) a2).bind fun t125 => (some t125)) else (none)) else (none))) = some r := h
  clear h
  by_cases c4 : a1 ≥ (l0.length : Int)
  · rw [if_pos c4] at H
    have c4b0 : decide ((l0.length : Int) ≤ a1) = true := decide_eq_true c4
    clear c4
    obtain rfl := Option.some.inj H
    go_enter Tryd.func53, Tryd.ntmps53
    go_wp2
    go_ret
    exact ⟨by first | rfl | (simp; done) | (simp [*]; done), by repeat (first | exact Drawn0.refl _ | apply Drawn0.step)⟩
  · rw [if_neg c4] at H
    have c4b0 : decide ((l0.length : Int) ≤ a1) = false := decide_eq_false c4
    clear c4
    by_cases c5 : 0 ≤ a1
    · rw [if_pos c5] at H
      have c5b0 : decide (0 ≤ a1) = true := decide_eq_true c5
      clear c5
      by_cases c6 : a1 < (l0.length : Int)
      · rw [if_pos c6] at H
        have c6b0 : decide (a1 < (l0.length : Int)) = true := decide_eq_true c6
        clear c6
        replace H := Option.bind_eq_some_iff.mp H
        obtain ⟨t125, A70, H⟩ := H
        replace H : (some t125) = some r := H
        have A7 := Aside0.mk A70
        clear A70
        obtain rfl := Option.some.inj H
        have p124 : 0 ≤ (a1 : Int) := of_decide_eq_true (by first | (with_reducible assumption) | assumption)
        have q124 : a1 < (l0.length : Int) := of_decide_eq_true (by first | (with_reducible assumption) | assumption)
        obtain ⟨ad124, e124, hx124_0⟩ := Kd.at_int HR0.out a1 p124 q124
        cases e124
        replace p124 := eq_true p124
        replace q124 := eq_true q124
        go_enter Tryd.func53, Tryd.ntmps53
        go_wp2_with (first | ((with_reducible refine gate_callee (f := 79) rfl ?_); refine goesL_ (some 17) rfl rfl Tryd.func79 (by kernel_rfl) rfl #[.int .i64 (rd l0 a1), .int .i64 a2] rfl (by (try simp only [List.map_toArray, List.map_cons, List.map_nil]); first | done | rfl | (simp only [List.length_drop, List.length_take]; rfl)) ?_; (with_reducible refine (spec_Or.calls (rd l0 a1) a2 t125 _ A7.out).mono ?_); rintro e w' ⟨rfl, ⟨nd, rfl⟩⟩; refine ⟨_, rfl, ?_⟩))
        go_ret
        exact ⟨by first | rfl | (simp; done) | (simp [*]; done), by repeat (first | exact Drawn0.refl _ | apply Drawn0.step)⟩
      · rw [if_neg c6] at H
        exact absurd H (by simp)
    · rw [if_neg c5] at H
      exact absurd H (by simp)
end Go.Proofs.YtjkjnhcnmjknmaaDoor.Y
end
