/- Texts of this claim, joined: XDigs Y62D Y63D Y64D Y65D Y70D Y68D Y69D XNums XModes1 Y71D XLawAsks Y62 Y63 Y64. Of each, what the claim uses. -/
import Derived.Test.YtjkjnhcnmjknmaaGreatDoorKaq
import Derived.Test.YtjkjnhcnmjknmaaGreatDoorKac
import Derived.Handy
section
namespace Go.Proofs.YtjkjnhcnmjknmaaGreatDoor.X
open Go.RowKit Go.Proofs.YtjkjnhcnmjknmaaGreatDoorW.PrintWords
theorem digs_pow (k : Nat) : ∀ n : Nat, n < 10 ^ (k + 1) → (digs n).length ≤ k + 1 := by
  induction k with
  | zero =>
    intro n h
    rw [digs_small (by simpa using h)]
    simp
  | succ k ih =>
    intro n h
    by_cases h10 : n < 10
    · rw [digs_small h10]; simp
    · rw [digs_more h10]
      have := ih (n / 10) (by rw [Nat.div_lt_iff_lt_mul (by omega)]; rw [Nat.pow_succ] at h; exact h)
      simp only [List.length_append, List.length_cons, List.length_nil]
      omega
theorem nb_len (s : ByteArray) : (nb s).length = s.size := by simp [nb]
/-- A number's text. -/
theorem itoa_text (n : Nat) (h : n < 9223372036854775808) : ∃ t, Y.strconv_Itoa.f (n : Int) = some t ∧ nb t = digs n ∧ t.size = (digs n).length := by
  refine ⟨⟨(Lib.itoa n).toArray⟩, ?_, ?_, ?_⟩
  · unfold Y.strconv_Itoa.f
    rw [if_pos (by omega)]
  · rw [nb_itoa _ (by omega)]
    rfl
  · rw [← nb_len, nb_itoa _ (by omega)]
    simp
end Go.Proofs.YtjkjnhcnmjknmaaGreatDoor.X
end
section
namespace Go.Proofs.YtjkjnhcnmjknmaaGreatDoor.Y
open Go.RowKit Go.Proofs.YtjkjnhcnmjknmaaGreatDoorW.PrintWords Go.Proofs.YtjkjnhcnmjknmaaGreatDoorW.PrintLast Go.Proofs.YtjkjnhcnmjknmaaGreatDoorW.PrintMore
attribute [local go_sem] max2_int min2_int max_two min_two max_three min_three max_four min_four   -- for this text's walks alone
set_option linter.unusedVariables false
set_option linter.unusedSimpArgs false
/-! ### spec_Value: function 118 -/
def spec_Value.f (a0 : Int) : Option (Int) := some (Go.bits .and .i64 a0 2147483647)
end Go.Proofs.YtjkjnhcnmjknmaaGreatDoor.Y
end
section
namespace Go.Proofs.YtjkjnhcnmjknmaaGreatDoor.Y
open Go.RowKit Go.Proofs.YtjkjnhcnmjknmaaGreatDoorW.PrintWords Go.Proofs.YtjkjnhcnmjknmaaGreatDoorW.PrintLast Go.Proofs.YtjkjnhcnmjknmaaGreatDoorW.PrintMore
attribute [local go_sem] max2_int min2_int max_two min_two max_three min_three max_four min_four   -- for this text's walks alone
set_option linter.unusedVariables false
set_option linter.unusedSimpArgs false
/-! ### spec_Or: function 45 -/
def spec_Or.f (a0 : Int) (a1 : Int) : Option (Int) := (spec_Value.f a0).bind fun t217 => (if t217 = 2147483647 then (some a1) else ((spec_Value.f a0).bind fun t218 => (some t218)))
end Go.Proofs.YtjkjnhcnmjknmaaGreatDoor.Y
end
section
namespace Go.Proofs.YtjkjnhcnmjknmaaGreatDoor.Y
open Go.RowKit Go.Proofs.YtjkjnhcnmjknmaaGreatDoorW.PrintWords Go.Proofs.YtjkjnhcnmjknmaaGreatDoorW.PrintLast Go.Proofs.YtjkjnhcnmjknmaaGreatDoorW.PrintMore
attribute [local go_sem] max2_int min2_int max_two min_two max_three min_three max_four min_four   -- for this text's walks alone
set_option linter.unusedVariables false
set_option linter.unusedSimpArgs false
/-! ### spec_DrawParam: function 25 -/
def spec_DrawParam.f (l0 : List Int) (a1 : Int) (a2 : Int) : Option (Int) := if a1 ≥ (l0.length : Int) then (some a2) else (if 0 ≤ a1 then (if a1 < (l0.length : Int) then ((spec_Or.f (rd l0 a1) a2).bind fun t220 => (some t220)) else (none)) else (none))
end Go.Proofs.YtjkjnhcnmjknmaaGreatDoor.Y
end
section
namespace Go.Proofs.YtjkjnhcnmjknmaaGreatDoor.Y
open Go.RowKit Go.Proofs.YtjkjnhcnmjknmaaGreatDoorW.PrintWords Go.Proofs.YtjkjnhcnmjknmaaGreatDoorW.PrintLast Go.Proofs.YtjkjnhcnmjknmaaGreatDoorW.PrintMore
attribute [local go_sem] max2_int min2_int max_two min_two max_three min_three max_four min_four   -- for this text's walks alone
set_option linter.unusedVariables false
set_option linter.unusedSimpArgs false
/-! ### spec_DrawNumbers: function 9 -/
mutual
def spec_DrawNumbers.j0 : Nat → List (S65) → Bool → Option (Int × List Int × Bool)
  | 0, _, _ => none
  | k + 1, x0, x16 => if x16 = true then (some (0, ([] : List Int), false)) else (if 0 < (x0.length : Int) then (spec_DrawNumbers.l0 k x0 ([] : List Int) (((rd_T65 x0 0).f4).length : Int) 0) else (none))
def spec_DrawNumbers.l0 : Nat → List (S65) → List Int → Int → Int → Option (Int × List Int × Bool)
  | 0, _, _, _, _ => none
  | k + 1, x0, x5, x21, x22 => if x22 < x21 then (if 0 < (x0.length : Int) then ((spec_DrawParam.f ((rd_T65 x0 0).f4) x22 (-1)).bind fun t224 => (if x5.length < 17592186044416 then (spec_DrawNumbers.l0 k x0 (x5 ++ [t224]) x21 (wrap64 (x22 + 1))) else (none))) else (none)) else (if 0 < (x0.length : Int) then (some ((rd_T65 x0 0).f3, x5, true)) else (none))
end
def spec_DrawNumbers.f (k : Nat) (l0 : List (S65)) : Option (Int × List Int × Bool) := if (l0.length : Int) = 1 then (if 0 < (l0.length : Int) then (spec_DrawNumbers.j0 k l0 (((rd_T65 l0 0).f0) != 2)) else (none)) else (spec_DrawNumbers.j0 k l0 true)
theorem spec_DrawNumbers.mono_l : ∀ k, (∀ y0 y1, LeO (spec_DrawNumbers.j0 k y0 y1) (spec_DrawNumbers.j0 (k + 1) y0 y1)) ∧ (∀ y0 y1 y2 y3, LeO (spec_DrawNumbers.l0 k y0 y1 y2 y3) (spec_DrawNumbers.l0 (k + 1) y0 y1 y2 y3))
  | 0 => ⟨fun _ _ r h => by simp [spec_DrawNumbers.j0] at h, fun _ _ _ _ r h => by simp [spec_DrawNumbers.l0] at h⟩
  | k + 1 => by
    obtain ⟨ih0, ih1⟩ := spec_DrawNumbers.mono_l k
    refine ⟨?_, ?_⟩
    · intro y0 y1
      unfold spec_DrawNumbers.j0
      repeat' first
      | (with_reducible exact ih0 _ _)
      | (with_reducible exact ih1 _ _ _ _)
      | (with_reducible exact LeO.refl _)
      | (with_reducible exact LeO.none _)
      | (with_reducible refine LeO.ite ?_ ?_)
      | (with_reducible refine LeO.bind ?_ (fun _ => ?_))
      | exact ih0 _ _
      | exact ih1 _ _ _ _
      | exact LeO.none _
      | refine LeO.ite ?_ ?_
      | refine LeO.bind ?_ (fun _ => ?_)
    · intro y0 y1 y2 y3
      unfold spec_DrawNumbers.l0
      repeat' first
      | (with_reducible exact ih0 _ _)
      | (with_reducible exact ih1 _ _ _ _)
      | (with_reducible exact LeO.refl _)
      | (with_reducible exact LeO.none _)
      | (with_reducible refine LeO.ite ?_ ?_)
      | (with_reducible refine LeO.bind ?_ (fun _ => ?_))
      | exact ih0 _ _
      | exact ih1 _ _ _ _
      | exact LeO.none _
      | refine LeO.ite ?_ ?_
      | refine LeO.bind ?_ (fun _ => ?_)
theorem spec_DrawNumbers.mono : ∀ a0 k, LeO (spec_DrawNumbers.f k a0) (spec_DrawNumbers.f (k + 1) a0) := by
  intro a0 k
  obtain ⟨ih0, ih1⟩ := spec_DrawNumbers.mono_l k
  unfold spec_DrawNumbers.f
  repeat' first
      | (with_reducible exact ih0 _ _)
      | (with_reducible exact ih1 _ _ _ _)
      | (with_reducible exact LeO.refl _)
      | (with_reducible exact LeO.none _)
      | (with_reducible refine LeO.ite ?_ ?_)
      | (with_reducible refine LeO.bind ?_ (fun _ => ?_))
      | exact ih0 _ _
      | exact ih1 _ _ _ _
      | exact LeO.none _
      | refine LeO.ite ?_ ?_
      | refine LeO.bind ?_ (fun _ => ?_)
end Go.Proofs.YtjkjnhcnmjknmaaGreatDoor.Y
end
section
namespace Go.Proofs.YtjkjnhcnmjknmaaGreatDoor.Y
open Go.RowKit Go.Proofs.YtjkjnhcnmjknmaaGreatDoorW.PrintWords Go.Proofs.YtjkjnhcnmjknmaaGreatDoorW.PrintLast Go.Proofs.YtjkjnhcnmjknmaaGreatDoorW.PrintMore
attribute [local go_sem] max2_int min2_int max_two min_two max_three min_three max_four min_four   -- for this text's walks alone
set_option linter.unusedVariables false
set_option linter.unusedSimpArgs false
/-! ### spec_SameInts: function 15 -/
def spec_SameInts.l0 : Nat → List Int → List Int → Int → Int → Option (Bool)
  | 0, _, _, _, _ => none
  | k + 1, x0, x1, x12, x13 => if x13 < x12 then (if 0 ≤ x13 then (if x13 < (x0.length : Int) then (if x13 < (x1.length : Int) then (if (rd x0 x13) = (rd x1 x13) then (spec_SameInts.l0 k x0 x1 x12 (wrap64 (x13 + 1))) else (some false)) else (none)) else (none)) else (none)) else (some true)
def spec_SameInts.f (k : Nat) (l0 : List Int) (l1 : List Int) : Option (Bool) := if (l0.length : Int) = (l1.length : Int) then (spec_SameInts.l0 k l0 l1 (l0.length : Int) 0) else (some false)
theorem spec_SameInts.mono_l : ∀ k, (∀ y0 y1 y2 y3, LeO (spec_SameInts.l0 k y0 y1 y2 y3) (spec_SameInts.l0 (k + 1) y0 y1 y2 y3))
  | 0 => fun _ _ _ _ r h => by simp [spec_SameInts.l0] at h
  | k + 1 => by
    have ih0 := spec_SameInts.mono_l k
    · intro y0 y1 y2 y3
      unfold spec_SameInts.l0
      repeat' first
      | (with_reducible exact ih0 _ _ _ _)
      | (with_reducible exact LeO.refl _)
      | (with_reducible exact LeO.none _)
      | (with_reducible refine LeO.ite ?_ ?_)
      | (with_reducible refine LeO.bind ?_ (fun _ => ?_))
      | exact ih0 _ _ _ _
      | exact LeO.none _
      | refine LeO.ite ?_ ?_
      | refine LeO.bind ?_ (fun _ => ?_)
theorem spec_SameInts.mono : ∀ a0 a1 k, LeO (spec_SameInts.f k a0 a1) (spec_SameInts.f (k + 1) a0 a1) := by
  intro a0 a1 k
  have ih0 := spec_SameInts.mono_l k
  unfold spec_SameInts.f
  repeat' first
      | (with_reducible exact ih0 _ _ _ _)
      | (with_reducible exact LeO.refl _)
      | (with_reducible exact LeO.none _)
      | (with_reducible refine LeO.ite ?_ ?_)
      | (with_reducible refine LeO.bind ?_ (fun _ => ?_))
      | exact ih0 _ _ _ _
      | exact LeO.none _
      | refine LeO.ite ?_ ?_
      | refine LeO.bind ?_ (fun _ => ?_)
end Go.Proofs.YtjkjnhcnmjknmaaGreatDoor.Y
end
section
namespace Go.Proofs.YtjkjnhcnmjknmaaGreatDoor.Y
open Go.RowKit Go.Proofs.YtjkjnhcnmjknmaaGreatDoorW.PrintWords Go.Proofs.YtjkjnhcnmjknmaaGreatDoorW.PrintLast Go.Proofs.YtjkjnhcnmjknmaaGreatDoorW.PrintMore
attribute [local go_sem] max2_int min2_int max_two min_two max_three min_three max_four min_four   -- for this text's walks alone
set_option linter.unusedVariables false
set_option linter.unusedSimpArgs false
/-! ### xansi_Command: function 37 -/
def xansi_Command.f (a0 : Int) (a1 : Int) (a2 : Int) : Option (Int) := some (Go.bits .or .i64 (Go.bits .or .i64 (wrap64 (a2)) (wrap64 ((wrap64 (a0)) * 256))) (wrap64 ((wrap64 (a1)) * 65536)))
end Go.Proofs.YtjkjnhcnmjknmaaGreatDoor.Y
end
section
namespace Go.Proofs.YtjkjnhcnmjknmaaGreatDoor.Y
open Go.RowKit Go.Proofs.YtjkjnhcnmjknmaaGreatDoorW.PrintWords Go.Proofs.YtjkjnhcnmjknmaaGreatDoorW.PrintLast Go.Proofs.YtjkjnhcnmjknmaaGreatDoorW.PrintMore
attribute [local go_sem] max2_int min2_int max_two min_two max_three min_three max_four min_four   -- for this text's walks alone
set_option linter.unusedVariables false
set_option linter.unusedSimpArgs false
/-! ### impl_Pack: function 14 -/
def impl_Pack.f (a0 : Int) (a1 : Int) (a2 : Int) : Option (Int) := (xansi_Command.f a0 a1 a2).bind fun t229 => (some t229)
end Go.Proofs.YtjkjnhcnmjknmaaGreatDoor.Y
end
section
namespace Go.Proofs.YtjkjnhcnmjknmaaGreatDoor.Y
open Go.RowKit Go.Proofs.YtjkjnhcnmjknmaaGreatDoorW.PrintWords Go.Proofs.YtjkjnhcnmjknmaaGreatDoorW.PrintLast Go.Proofs.YtjkjnhcnmjknmaaGreatDoorW.PrintMore
theorem bits_low (a : Nat) (h : a < 2147483648) : Go.bits .and .i64 (a : Int) 2147483647 = (a : Int) := by
  have := bits_mask .i64 40 (by decide) (fun n h0 h1 => by rw [IntKind.wrap_i64]; omega) 31 (by decide) (a : Int) (by omega) (by omega)
  rw [show (2147483647 : Int) = 2 ^ 31 - 1 by decide, this]
  omega
theorem value_f (a : Int) (h0 : 0 ≤ a) (h1 : a < 2147483648) : spec_Value.f a = some a := by
  obtain ⟨n, rfl⟩ := Int.eq_ofNat_of_zero_le h0
  unfold spec_Value.f
  rw [bits_low n (by omega)]
theorem or_f (a d : Int) (h0 : 0 ≤ a) (h1 : a < 2147483647) : spec_Or.f a d = some a := by
  unfold spec_Or.f
  rw [value_f a h0 (by omega), Option.bind_some, if_neg (by omega), Option.bind_some]
theorem rd_at (l : List Int) (i : Nat) (h : i < l.length) : rd l (i : Int) = l[i] := by simp [rd, h]
/-- A parameter that is there. -/
theorem param_f (l : List Int) (i : Nat) (d : Int) (hi : i < l.length) (h0 : 0 ≤ l[i]) (h1 : l[i] < 2147483647) : spec_DrawParam.f l (i : Int) d = some l[i] := by
  unfold spec_DrawParam.f
  rw [if_neg (by omega), if_pos (by omega), if_pos (by omega), rd_at l i hi, or_f _ d h0 h1, Option.bind_some]
theorem numbers_l0 (e : S65) (hl : e.f4.length < 1000000) (hv : ∀ p ∈ e.f4, 0 ≤ p ∧ p < 2147483647) :
    ∀ (m i k : Nat), i + m = e.f4.length → m < k → spec_DrawNumbers.l0 k [e] (e.f4.take i) (e.f4.length : Int) (i : Int) = some (e.f3, e.f4, true)
  | 0, i, k + 1, h, hk => by
    have g : rd_T65 [e] 0 = e := rdU_at [e] 0 (by simp)
    rw [spec_DrawNumbers.l0, if_neg (by omega), if_pos (by simp), g, List.take_of_length_le (by omega)]
  | m + 1, i, k + 1, h, hk => by
    have g : rd_T65 [e] 0 = e := rdU_at [e] 0 (by simp)
    have hi : i < e.f4.length := by omega
    obtain ⟨p0, p1⟩ := hv _ (List.getElem_mem hi)
    rw [spec_DrawNumbers.l0, if_pos (by omega), if_pos (by simp), g, param_f _ i _ hi p0 p1, Option.bind_some, if_pos (by rw [List.length_take]; omega), wrap64_of _ (by omega) (by omega)]
    have e3 : e.f4.take i ++ [e.f4[i]] = e.f4.take (i + 1) := (List.take_succ_eq_append_getElem hi).symm
    rw [e3]
    exact numbers_l0 e hl hv m (i + 1) k (by omega) (by omega)
/-- One control sequence: its command, all its parameters. -/
theorem numbers_f (e : S65) (hk2 : e.f0 = 2) (hl : e.f4.length < 1000000) (hv : ∀ p ∈ e.f4, 0 ≤ p ∧ p < 2147483647) (k : Nat) (hk : e.f4.length + 1 < k) :
    spec_DrawNumbers.f k [e] = some (e.f3, e.f4, true) := by
  obtain ⟨k, rfl⟩ : ∃ k', k = k' + 1 := ⟨k - 1, by omega⟩
  have g : rd_T65 [e] 0 = e := rdU_at [e] 0 (by simp)
  unfold spec_DrawNumbers.f
  rw [if_pos (by simp), if_pos (by simp), g, hk2, spec_DrawNumbers.j0, if_neg (by simp), if_pos (by simp), g]
  exact numbers_l0 e hl hv e.f4.length 0 k (by omega) (by omega)
theorem same_l0 (a : List Int) (hl : a.length < 1000000) : ∀ (m i k : Nat), i + m = a.length → m < k → spec_SameInts.l0 k a a (a.length : Int) (i : Int) = some true
  | 0, i, k + 1, h, hk => by rw [spec_SameInts.l0, if_neg (by omega)]
  | m + 1, i, k + 1, h, hk => by
    rw [spec_SameInts.l0, if_pos (by omega), if_pos (by omega), if_pos (by omega), if_pos (by omega), if_pos rfl, wrap64_of _ (by omega) (by omega)]
    exact same_l0 a hl m (i + 1) k (by omega) (by omega)
theorem same_f (a : List Int) (hl : a.length < 1000000) (k : Nat) (hk : a.length < k) : spec_SameInts.f k a a = some true := by
  unfold spec_SameInts.f
  rw [if_pos rfl]
  exact same_l0 a hl a.length 0 k (by omega) hk
end Go.Proofs.YtjkjnhcnmjknmaaGreatDoor.Y
end
section
namespace Go.Proofs.YtjkjnhcnmjknmaaGreatDoor.Y
open Go.RowKit Go.Proofs.YtjkjnhcnmjknmaaGreatDoorW.PrintWords Go.Proofs.YtjkjnhcnmjknmaaGreatDoorW.PrintLast Go.Proofs.YtjkjnhcnmjknmaaGreatDoorW.PrintMore
set_option linter.unusedSimpArgs false
set_option linter.unusedVariables false
/-- A mode, as the interface's value. -/
def modeV (d : Bool) (n : Int) : Value := if d then .iface 115 (.int .i64 n) else .iface 117 (.int .i64 n)
set_option maxRecDepth 100000 in
theorem modeOf_calls (d : Bool) (n : Int) (w : World) : Calls Tryz.prog 35 #[.agg #[.bool d, .int .i64 n]] w fun e w' => e = .returned (modeV d n) ∧ Below w.heap.size w w' := by
  cases d
  · go_enter Tryz.func35, Tryz.ntmps35
    go_wp2_with fail
    go_ret
    exact ⟨rfl, below_alloc (Below.refl _ w) _⟩
  · go_enter Tryz.func35, Tryz.ntmps35
    go_wp2_with fail
    go_ret
    exact ⟨rfl, below_alloc (Below.refl _ w) _⟩
def requestT (d : Bool) (t : ByteArray) : ByteArray := if d then (((⟨#[27, 91]⟩ : ByteArray) ++ (⟨#[63]⟩ : ByteArray)) ++ t) ++ (⟨#[36, 112]⟩ : ByteArray) else ((⟨#[27, 91]⟩ : ByteArray) ++ t) ++ (⟨#[36, 112]⟩ : ByteArray)
theorem as_dec (n : Int) (w : World) : (Instr.typeAssert (.iface 115 (.int .i64 n)) 75 115 true).run Tryz.prog w = .ok (.tuple #[.int .i64 n, .bool true]) w := by kernel_rfl
theorem as_ansi (n : Int) (w : World) : (Instr.typeAssert (.iface 117 (.int .i64 n)) 75 115 true).run Tryz.prog w = .ok (.tuple #[.int .i64 0, .bool false]) w := by kernel_rfl
theorem as_ansi2 (n : Int) (w : World) : (Instr.typeAssert (.iface 117 (.int .i64 n)) 75 117 true).run Tryz.prog w = .ok (.tuple #[.int .i64 n, .bool true]) w := by kernel_rfl
attribute [local go_sem] as_dec as_ansi as_ansi2
theorem mode_dec (n : Int) (w : World) : Calls Tryz.prog 196 #[.int .i64 n] w fun e w' => e = .returned (.int .i64 n) ∧ w' = w := by
  go_enter Tryz.func196, Tryz.ntmps196
  go_wp2_with fail
  go_ret
  exact ⟨rfl, rfl⟩
theorem mode_ansi (n : Int) (w : World) : Calls Tryz.prog 197 #[.int .i64 n] w fun e w' => e = .returned (.int .i64 n) ∧ w' = w := by
  go_enter Tryz.func197, Tryz.ntmps197
  go_wp2_with fail
  go_ret
  exact ⟨rfl, rfl⟩
set_option maxRecDepth 100000 in
theorem request_calls (d : Bool) (n : Int) (t : ByteArray) (w : World) (hT : XTab w) (ht : strconv_Itoa.f n = some t) (hs : t.size ≤ 1000) :
    Calls Tryz.prog 34 #[modeV d n] w fun e w' => e = .returned (.string (requestT d t)) ∧ Below w.heap.size w w' := by
  have HC := Lib.hid (strconv_Itoa.calls n t w hT ht)
  clear hT ht
  cases d
  · show Calls _ _ #[.iface 117 (.int .i64 n)] _ _
    go_enter Tryz.func34, Tryz.ntmps34
    go_wp2_with fail
    refine (mode_ansi n _).mono ?_
    rintro e w0 ⟨rfl, rfl⟩
    go_wp2_with fail
    refine HC.out.mono ?_
    rintro e w1 ⟨rfl, hb⟩
    go_wp2_with fail
    go_ret
    exact ⟨rfl, hb⟩
  · show Calls _ _ #[.iface 115 (.int .i64 n)] _ _
    go_enter Tryz.func34, Tryz.ntmps34
    go_wp2_with fail
    refine (mode_dec n _).mono ?_
    rintro e w0 ⟨rfl, rfl⟩
    go_wp2_with fail
    refine HC.out.mono ?_
    rintro e w1 ⟨rfl, hb⟩
    go_wp2_with fail
    go_ret
    exact ⟨rfl, hb⟩
def impl_MakeRequest.f (a0_0 : Bool) (a0_1 : Int) : Option (ByteArray) := (strconv_Itoa.f a0_1).bind fun t => if t.size ≤ 1000 then some (requestT a0_0 t) else none
theorem impl_MakeRequest.calls (a0_0 : Bool) (a0_1 : Int) (r : ByteArray) (w : World) (hT : XTab w) (h : impl_MakeRequest.f a0_0 a0_1 = some r) :
    Calls Tryz.prog 12 #[.agg #[.bool a0_0, .int .i64 a0_1]] w fun e w' => e = .returned (.string r) ∧ Below w.heap.size w w' := by
  obtain ⟨t, ht, h2⟩ := Option.bind_eq_some_iff.1 h
  clear h
  split at h2
  · rename_i hs
    obtain rfl := Option.some.inj h2
    clear h2
    have HT := Lib.hid (And.intro hT ht)
    clear hT ht
    go_enter Tryz.func12, Tryz.ntmps12
    go_wp2_with fail
    refine (modeOf_calls a0_0 a0_1 _).mono ?_
    rintro e w1 ⟨rfl, hb⟩
    have hb1 := (below_alloc (Below.refl _ w) _).trans (hb.mono (Nat.le_trans (Nat.le_refl _) (by first | exact Nat.le_succ _ | simp)))
    go_wp2_with fail
    refine (request_calls a0_0 a0_1 t w1 (HT.out.1.below hb1) HT.out.2 hs).mono ?_
    rintro e w2 ⟨rfl, hb2⟩
    go_wp2_with fail
    go_ret
    exact ⟨rfl, hb1.trans (hb2.mono hb1.size)⟩
  · exact absurd h2 (by simp)
def reportT (d : Bool) (t u : ByteArray) : ByteArray := if d then ((((⟨#[27, 91, 63]⟩ : ByteArray) ++ t) ++ (⟨#[59]⟩ : ByteArray)) ++ u) ++ (⟨#[36, 121]⟩ : ByteArray) else ((((⟨#[27, 91]⟩ : ByteArray) ++ t) ++ (⟨#[59]⟩ : ByteArray)) ++ u) ++ (⟨#[36, 121]⟩ : ByteArray)
set_option maxRecDepth 100000 in
theorem report_calls (d : Bool) (n v : Int) (h0 : 0 ≤ v) (h4 : v ≤ 4) (t u : ByteArray) (w : World) (hT : XTab w) (ht : strconv_Itoa.f n = some t) (hu : strconv_Itoa.f v = some u) (hs : t.size ≤ 1000) (hz : u.size ≤ 1000) :
    Calls Tryz.prog 36 #[modeV d n, .int .u8 v] w fun e w' => e = .returned (.string (reportT d t u)) ∧ Below w.heap.size w w' := by
  have HC := Lib.hid (strconv_Itoa.calls n t w hT ht)
  have HT := Lib.hid (And.intro hT hu)
  have c4 : decide (v > 4) = false := decide_eq_false (by omega)
  have c5 : decide (4 < v) = false := decide_eq_false (by omega)
  have c6 : IntKind.i64.wrap v = v := by rw [IntKind.wrap_i64]; omega
  clear hT ht hu
  cases d
  · show Calls _ _ #[.iface 117 (.int .i64 n), _] _ _
    go_enter Tryz.func36, Tryz.ntmps36
    go_wp2_with fail
    refine (mode_ansi n _).mono ?_
    rintro e w0 ⟨rfl, rfl⟩
    go_wp2_with fail
    refine HC.out.mono ?_
    rintro e w1 ⟨rfl, hb⟩
    go_wp2_with fail
    refine (strconv_Itoa.calls v u w1 (HT.out.1.below hb) HT.out.2).mono ?_
    rintro e w2 ⟨rfl, hb2⟩
    go_wp2_with fail
    go_ret
    exact ⟨rfl, hb.trans (hb2.mono hb.size)⟩
  · show Calls _ _ #[.iface 115 (.int .i64 n), _] _ _
    go_enter Tryz.func36, Tryz.ntmps36
    go_wp2_with fail
    refine (mode_dec n _).mono ?_
    rintro e w0 ⟨rfl, rfl⟩
    go_wp2_with fail
    refine HC.out.mono ?_
    rintro e w1 ⟨rfl, hb⟩
    go_wp2_with fail
    refine (strconv_Itoa.calls v u w1 (HT.out.1.below hb) HT.out.2).mono ?_
    rintro e w2 ⟨rfl, hb2⟩
    go_wp2_with fail
    go_ret
    exact ⟨rfl, hb.trans (hb2.mono hb.size)⟩
def impl_MakeReport.f (a0_0 : Bool) (a0_1 : Int) (a1 : Int) : Option (ByteArray) := (strconv_Itoa.f a0_1).bind fun t => (strconv_Itoa.f a1).bind fun u => if t.size ≤ 1000 ∧ u.size ≤ 1000 ∧ 0 ≤ a1 ∧ a1 ≤ 4 then some (reportT a0_0 t u) else none
set_option maxRecDepth 100000 in
theorem impl_MakeReport.calls (a0_0 : Bool) (a0_1 : Int) (a1 : Int) (r : ByteArray) (w : World) (hT : XTab w) (h : impl_MakeReport.f a0_0 a0_1 a1 = some r) :
    Calls Tryz.prog 13 #[.agg #[.bool a0_0, .int .i64 a0_1], .int .u8 a1] w fun e w' => e = .returned (.string r) ∧ Below w.heap.size w w' := by
  obtain ⟨t, ht, h2⟩ := Option.bind_eq_some_iff.1 h
  obtain ⟨u, hu, h3⟩ := Option.bind_eq_some_iff.1 h2
  clear h h2
  split at h3
  · rename_i hs
    obtain ⟨s1, s2, s3, s4⟩ := hs
    obtain rfl := Option.some.inj h3
    clear h3
    have HT := Lib.hid (And.intro hT (And.intro ht hu))
    clear hT ht hu
    have c6 : IntKind.u8.wrap a1 = a1 := by rw [IntKind.wrap_u8]; omega
    go_enter Tryz.func13, Tryz.ntmps13
    go_wp2_with fail
    refine (modeOf_calls a0_0 a0_1 _).mono ?_
    rintro e w1 ⟨rfl, hb⟩
    have hb1 := (below_alloc (Below.refl _ w) _).trans (hb.mono (Nat.le_trans (Nat.le_refl _) (by first | exact Nat.le_succ _ | simp)))
    go_wp2_with fail
    refine (report_calls a0_0 a0_1 a1 s3 s4 t u w1 (HT.out.1.below hb1) HT.out.2.1 HT.out.2.2 s1 s2).mono ?_
    rintro e w2 ⟨rfl, hb2⟩
    go_wp2_with fail
    go_ret
    exact ⟨rfl, hb1.trans (hb2.mono hb1.size)⟩
  · exact absurd h3 (by simp)
end Go.Proofs.YtjkjnhcnmjknmaaGreatDoor.Y
end
section
namespace Go.Proofs.YtjkjnhcnmjknmaaGreatDoor.Y
open Go.RowKit Go.Proofs.YtjkjnhcnmjknmaaGreatDoorW.PrintWords Go.Proofs.YtjkjnhcnmjknmaaGreatDoorW.PrintLast Go.Proofs.YtjkjnhcnmjknmaaGreatDoorW.PrintMore
attribute [local go_sem] max2_int min2_int max_two min_two max_three min_three max_four min_four   -- for this text's walks alone
set_option linter.unusedVariables false
set_option linter.unusedSimpArgs false
/-! ### laws_FnDrawAsks: function 3 -/
mutual
def laws_FnDrawAsks.j0 : Nat → Int → Bool → Bool → Int → Option (Bool)
  | 0, _, _, _, _ => none
  | k + 1, x1, x23, x233000, x233001 => if x23 = true then ((laws_drawAwake.f).bind fun t233 => (some t233)) else (if x233000 = true then (laws_FnDrawAsks.j1 k x1 63 x233000 x233001) else (laws_FnDrawAsks.j1 k x1 0 x233000 x233001))
def laws_FnDrawAsks.j1 : Nat → Int → Int → Bool → Int → Option (Bool)
  | 0, _, _, _, _ => none
  | k + 1, x1, x5, x233000, x233001 => (impl_MakeRequest.f x233000 x233001).bind fun t234 => ((gosem_conv.f t234).bind fun t235 => ((impl_Feed.f 32 4096 t235).bind fun t238 => ((laws_drawEvents.f k t238).bind fun t241 => ((spec_DrawNumbers.f k t241).bind fun bt244 => ((impl_MakeReport.f x233000 x233001 x1).bind fun t249 => ((gosem_conv.f t249).bind fun t250 => ((impl_Feed.f 32 4096 t250).bind fun t253 => ((laws_drawEvents.f k t253).bind fun t256 => ((spec_DrawNumbers.f k t256).bind fun bt259 => (if bt244.2.2 = true then (if bt259.2.2 = true then ((impl_Pack.f x5 36 112).bind fun t264 => (if bt244.1 = t264 then ((impl_Pack.f x5 36 121).bind fun t265 => (if bt259.1 = t265 then ((spec_SameInts.f k bt244.2.1 (([x233001] : List Int))).bind fun t269 => (if t269 = true then ((spec_SameInts.f k bt259.2.1 (([x233001, wrap64 (x1)] : List Int))).bind fun t273 => (if t273 = true then ((laws_drawAwake.f).bind fun t274 => (some t274)) else (some false))) else (some false))) else (some false))) else (some false))) else (some false)) else (some false)))))))))))
end
def laws_FnDrawAsks.f (k : Nat) (a0_0 : Bool) (a0_1 : Int) (a1 : Int) : Option (Bool) := if a0_1 < 1 then (laws_FnDrawAsks.j0 k a1 true a0_0 a0_1) else (if a0_1 > 9999 then (laws_FnDrawAsks.j0 k a1 true a0_0 a0_1) else (laws_FnDrawAsks.j0 k a1 (decide (a1 > 4)) a0_0 a0_1))
theorem laws_FnDrawAsks.mono_l : ∀ k, (∀ y0 y1 y2 y3, LeO (laws_FnDrawAsks.j0 k y0 y1 y2 y3) (laws_FnDrawAsks.j0 (k + 1) y0 y1 y2 y3)) ∧ (∀ y0 y1 y2 y3, LeO (laws_FnDrawAsks.j1 k y0 y1 y2 y3) (laws_FnDrawAsks.j1 (k + 1) y0 y1 y2 y3))
  | 0 => ⟨fun _ _ _ _ r h => by simp [laws_FnDrawAsks.j0] at h, fun _ _ _ _ r h => by simp [laws_FnDrawAsks.j1] at h⟩
  | k + 1 => by
    obtain ⟨ih0, ih1⟩ := laws_FnDrawAsks.mono_l k
    refine ⟨?_, ?_⟩
    · intro y0 y1 y2 y3
      unfold laws_FnDrawAsks.j0
      repeat' first
      | (with_reducible exact ih0 _ _ _ _)
      | (with_reducible exact ih1 _ _ _ _)
      | (with_reducible exact laws_drawEvents.mono _ _)
      | (with_reducible exact spec_DrawNumbers.mono _ _)
      | (with_reducible exact spec_SameInts.mono _ _ _)
      | (with_reducible exact LeO.refl _)
      | (with_reducible exact LeO.none _)
      | (with_reducible refine LeO.ite ?_ ?_)
      | (with_reducible refine LeO.bind ?_ (fun _ => ?_))
      | exact ih0 _ _ _ _
      | exact ih1 _ _ _ _
      | exact laws_drawEvents.mono _ _
      | exact spec_DrawNumbers.mono _ _
      | exact spec_SameInts.mono _ _ _
      | exact LeO.none _
      | refine LeO.ite ?_ ?_
      | refine LeO.bind ?_ (fun _ => ?_)
    · intro y0 y1 y2 y3
      unfold laws_FnDrawAsks.j1
      repeat' first
      | (with_reducible exact ih0 _ _ _ _)
      | (with_reducible exact ih1 _ _ _ _)
      | (with_reducible exact laws_drawEvents.mono _ _)
      | (with_reducible exact spec_DrawNumbers.mono _ _)
      | (with_reducible exact spec_SameInts.mono _ _ _)
      | (with_reducible exact LeO.refl _)
      | (with_reducible exact LeO.none _)
      | (with_reducible refine LeO.ite ?_ ?_)
      | (with_reducible refine LeO.bind ?_ (fun _ => ?_))
      | exact ih0 _ _ _ _
      | exact ih1 _ _ _ _
      | exact laws_drawEvents.mono _ _
      | exact spec_DrawNumbers.mono _ _
      | exact spec_SameInts.mono _ _ _
      | exact LeO.none _
      | refine LeO.ite ?_ ?_
      | refine LeO.bind ?_ (fun _ => ?_)
theorem laws_FnDrawAsks.mono : ∀ a0 a1 a2 k, LeO (laws_FnDrawAsks.f k a0 a1 a2) (laws_FnDrawAsks.f (k + 1) a0 a1 a2) := by
  intro a0 a1 a2 k
  obtain ⟨ih0, ih1⟩ := laws_FnDrawAsks.mono_l k
  unfold laws_FnDrawAsks.f
  repeat' first
      | (with_reducible exact ih0 _ _ _ _)
      | (with_reducible exact ih1 _ _ _ _)
      | (with_reducible exact laws_drawEvents.mono _ _)
      | (with_reducible exact spec_DrawNumbers.mono _ _)
      | (with_reducible exact spec_SameInts.mono _ _ _)
      | (with_reducible exact LeO.refl _)
      | (with_reducible exact LeO.none _)
      | (with_reducible refine LeO.ite ?_ ?_)
      | (with_reducible refine LeO.bind ?_ (fun _ => ?_))
      | exact ih0 _ _ _ _
      | exact ih1 _ _ _ _
      | exact laws_drawEvents.mono _ _
      | exact spec_DrawNumbers.mono _ _
      | exact spec_SameInts.mono _ _ _
      | exact LeO.none _
      | refine LeO.ite ?_ ?_
      | refine LeO.bind ?_ (fun _ => ?_)
end Go.Proofs.YtjkjnhcnmjknmaaGreatDoor.Y
end
section
namespace Go.Proofs.YtjkjnhcnmjknmaaGreatDoor.Y
open Go.RowKit Go.Proofs.YtjkjnhcnmjknmaaGreatDoorW.PrintWords Go.Proofs.YtjkjnhcnmjknmaaGreatDoorW.PrintLast Go.Proofs.YtjkjnhcnmjknmaaGreatDoorW.PrintMore
def askCmd (d : Bool) : Int := if d then 2375536 else 2359408
def tellCmd (d : Bool) : Int := if d then 2375545 else 2359417
theorem ask_run (d : Bool) (n : Nat) (hn : n ≤ 9999) (t : ByteArray) (ht : X.nb t = X.digs n) : X.run .gr (X.nb (requestT d t)) = some (.gr, [X.evCsi (askCmd d) [(n : Int)]]) := by
  have hm : ¬ ((n : Int) = X.Miss) := fun h => by unfold X.Miss at h; omega
  cases d
  · have h1 : X.run .gr [27, 91] = some (.csi 1 0 [] X.Miss, []) := by rfl
    have h2 := X.run_of h1 (X.run_digs 1 (by decide) 0 [] n (by omega))
    have h3 : X.run (.csi 3 0 [] (n : Int)) [36, 112] = some (.gr, [X.evCsi (askCmd false) [(n : Int)]]) := by
      simp [X.run, X.step, X.closed, askCmd, hm]
    have h4 := X.run_of h2 h3
    have e : X.nb (requestT false t) = [27, 91] ++ X.digs n ++ [36, 112] := by
      show X.nb (((⟨#[27, 91]⟩ : ByteArray) ++ t) ++ (⟨#[36, 112]⟩ : ByteArray)) = _
      rw [X.nb_append, X.nb_append, ht]
      rfl
    rw [e]
    simpa using h4
  · have h1 : X.run .gr [27, 91, 63] = some (.csi 3 16128 [] X.Miss, []) := by rfl
    have h2 := X.run_of h1 (X.run_digs 3 (by decide) 16128 [] n (by omega))
    have h3 : X.run (.csi 3 16128 [] (n : Int)) [36, 112] = some (.gr, [X.evCsi (askCmd true) [(n : Int)]]) := by
      simp [X.run, X.step, X.closed, askCmd, hm]
    have h4 := X.run_of h2 h3
    have e : X.nb (requestT true t) = [27, 91, 63] ++ X.digs n ++ [36, 112] := by
      show X.nb ((((⟨#[27, 91]⟩ : ByteArray) ++ (⟨#[63]⟩ : ByteArray)) ++ t) ++ (⟨#[36, 112]⟩ : ByteArray)) = _
      rw [X.nb_append, X.nb_append, X.nb_append, ht]
      rfl
    rw [e]
    simpa using h4
theorem tell_run (d : Bool) (n v : Nat) (hn : n ≤ 9999) (hv : v ≤ 4) (t u : ByteArray) (ht : X.nb t = X.digs n) (hu : X.nb u = X.digs v) : X.run .gr (X.nb (reportT d t u)) = some (.gr, [X.evCsi (tellCmd d) [(n : Int), (v : Int)]]) := by
  have hm : ¬ ((n : Int) = X.Miss) := fun h => by unfold X.Miss at h; omega
  have hm2 : ¬ ((v : Int) = X.Miss) := fun h => by unfold X.Miss at h; omega
  have main : ∀ c : Int, ∀ p : List Nat, (k : Nat) → k ≠ 2 → X.run .gr p = some (.csi k c [] X.Miss, []) → X.run .gr (p ++ X.digs n ++ [59] ++ X.digs v ++ [36, 121]) = some (.gr, [X.evCsi (c + 2359296 + 121) [(n : Int), (v : Int)]]) := fun c p k hk h1 => by
    have h2 := X.run_of h1 (X.run_digs k hk c [] n (by omega))
    have h3 : X.run (.csi 3 c [] (n : Int)) [59] = some (.csi 3 c [(n : Int)] X.Miss, []) := by simp [X.run, X.step]
    have h4 := X.run_of (X.run_of h2 h3) (X.run_digs 3 (by decide) c [(n : Int)] v (by omega))
    have h5 : X.run (.csi 3 c [(n : Int)] (v : Int)) [36, 121] = some (.gr, [X.evCsi (c + 2359296 + 121) [(n : Int), (v : Int)]]) := by
      simp [X.run, X.step, X.closed]
    exact X.run_of h4 h5
  cases d
  · have h4 := main 0 [27, 91] 1 (by decide) rfl
    have e : X.nb (reportT false t u) = [27, 91] ++ X.digs n ++ [59] ++ X.digs v ++ [36, 121] := by
      show X.nb (((((⟨#[27, 91]⟩ : ByteArray) ++ t) ++ (⟨#[59]⟩ : ByteArray)) ++ u) ++ (⟨#[36, 121]⟩ : ByteArray)) = _
      rw [X.nb_append, X.nb_append, X.nb_append, X.nb_append, ht, hu]
      rfl
    rw [e]
    simpa [tellCmd] using h4
  · have h4 := main 16128 [27, 91, 63] 3 (by decide) rfl
    have e : X.nb (reportT true t u) = [27, 91, 63] ++ X.digs n ++ [59] ++ X.digs v ++ [36, 121] := by
      show X.nb (((((⟨#[27, 91, 63]⟩ : ByteArray) ++ t) ++ (⟨#[59]⟩ : ByteArray)) ++ u) ++ (⟨#[36, 121]⟩ : ByteArray)) = _
      rw [X.nb_append, X.nb_append, X.nb_append, X.nb_append, ht, hu]
      rfl
    rw [e]
    simpa [tellCmd] using h4
theorem pack_ask (d : Bool) : impl_Pack.f (if d then 63 else 0) 36 112 = some (askCmd d) := by cases d <;> kernel_rfl
theorem pack_tell (d : Bool) : impl_Pack.f (if d then 63 else 0) 36 121 = some (tellCmd d) := by cases d <;> kernel_rfl
theorem one_told (c : Int) (ps : List Int) (hl : ps.length < 1000) (hv : ∀ p ∈ ps, 0 ≤ p ∧ p < 2147483647) (s : ByteArray) (hs : s.size ≤ 10000) (hr : X.run .gr (X.nb s) = some (.gr, [X.evCsi c ps])) (k : Nat) (hk : 2000 ≤ k) {α : Type} (F : Int × List Int × Bool → Option α) :
    ((gosem_conv.f s).bind fun t => (impl_Feed.f 32 4096 t).bind fun u => (laws_drawEvents.f k u).bind fun v => (spec_DrawNumbers.f k v).bind F) = F (c, ps, true) := by
  rw [conv_f s (by omega), Option.bind_some, feed_f s (by omega) hr, Option.bind_some, drawEvents_f _ (by simp) k (by simp; omega), Option.bind_some, List.map_cons, List.map_nil, List.map_cons, List.map_nil]
  have := numbers_f (cv (X.toS (X.evCsi c ps))) rfl (by show ps.length < _; omega) hv k (by show ps.length + 1 < _; omega)
  rw [this, Option.bind_some]
  rfl
theorem asks_j1 (d : Bool) (n v : Nat) (hn : n ≤ 9999) (hv : v ≤ 4) (k : Nat) (hk : 3000 ≤ k) : laws_FnDrawAsks.j1 k (v : Int) (if d then 63 else 0) d (n : Int) = some true := by
  obtain ⟨k, rfl⟩ : ∃ k', k = k' + 1 := ⟨k - 1, by omega⟩
  obtain ⟨t, a1, a2, a3⟩ := X.itoa_text n (by omega)
  obtain ⟨u, b1, b2, b3⟩ := X.itoa_text v (by omega)
  replace a3 : t.size ≤ 4 := by rw [a3]; exact X.digs_pow 3 n (by omega)
  replace b3 : u.size ≤ 1 := by rw [b3]; exact X.digs_pow 0 v (by omega)
  have q1 : impl_MakeRequest.f d (n : Int) = some (requestT d t) := by
    unfold impl_MakeRequest.f
    rw [a1, Option.bind_some, if_pos (by omega)]
  have q2 : impl_MakeReport.f d (n : Int) (v : Int) = some (reportT d t u) := by
    unfold impl_MakeReport.f
    rw [a1, Option.bind_some, b1, Option.bind_some, if_pos ⟨by omega, by omega, by omega, by omega⟩]
  have z1 : (requestT d t).size ≤ 10000 := by
    cases d <;> simp only [requestT, if_true, Bool.false_eq_true, if_false, ByteArray.size_append]
    · have e1 : (⟨#[27, 91]⟩ : ByteArray).size = 2 := rfl
      have e2 : (⟨#[36, 112]⟩ : ByteArray).size = 2 := rfl
      omega
    · have e1 : (⟨#[27, 91]⟩ : ByteArray).size = 2 := rfl
      have e2 : (⟨#[36, 112]⟩ : ByteArray).size = 2 := rfl
      have e3 : (⟨#[63]⟩ : ByteArray).size = 1 := rfl
      omega
  have z2 : (reportT d t u).size ≤ 10000 := by
    have e1 : (⟨#[27, 91]⟩ : ByteArray).size = 2 := rfl
    have e2 : (⟨#[36, 121]⟩ : ByteArray).size = 2 := rfl
    have e3 : (⟨#[27, 91, 63]⟩ : ByteArray).size = 3 := rfl
    have e4 : (⟨#[59]⟩ : ByteArray).size = 1 := rfl
    cases d <;> simp only [reportT, if_true, Bool.false_eq_true, if_false, ByteArray.size_append] <;> omega
  have w1 : wrap64 (v : Int) = (v : Int) := wrap64_of _ (by omega) (by omega)
  rw [laws_FnDrawAsks.j1, q1, Option.bind_some]
  rw [one_told (askCmd d) [(n : Int)] (by simp) (by simp; omega) _ z1 (ask_run d n hn t a2) k (by omega)]
  rw [q2, Option.bind_some]
  rw [one_told (tellCmd d) [(n : Int), (v : Int)] (by simp) (by simp; omega) _ z2 (tell_run d n v hn hv t u a2 b2) k (by omega)]
  rw [if_pos rfl, if_pos rfl, pack_ask, Option.bind_some, if_pos rfl, pack_tell, Option.bind_some, if_pos rfl, same_f _ (by simp) k (by simp; omega), Option.bind_some, if_pos rfl, w1, same_f _ (by simp) k (by simp; omega), Option.bind_some, if_pos rfl, awake, Option.bind_some]
theorem FnDrawAsks_true (d : Bool) (n : Int) (_ : (Lit.int .i64 n).wf = true) (v : Int) (hw : (Lit.int .u8 v).wf = true) : laws_FnDrawAsks.f 5000 d n v = some true := by
  have h : 0 ≤ v ∧ v ≤ 255 := by simpa [Lit.wf, IntKind.min, IntKind.max, IntKind.signed, IntKind.bits] using hw
  have bad : laws_FnDrawAsks.j0 5000 v true d n = some true := by
    rw [laws_FnDrawAsks.j0, if_pos rfl, awake, Option.bind_some]
  unfold laws_FnDrawAsks.f
  by_cases h1 : n < 1
  · rw [if_pos h1, bad]
  rw [if_neg h1]
  by_cases h2 : n > 9999
  · rw [if_pos h2, bad]
  rw [if_neg h2]
  by_cases h3 : v > 4
  · rw [decide_eq_true h3, bad]
  rw [decide_eq_false h3, laws_FnDrawAsks.j0, if_neg (by simp)]
  obtain ⟨m, rfl⟩ := Int.eq_ofNat_of_zero_le (show 0 ≤ n by omega)
  obtain ⟨u, rfl⟩ := Int.eq_ofNat_of_zero_le h.1
  have := asks_j1 d m u (by omega) (by omega) 4999 (by omega)
  cases d
  · rw [if_neg (by simp)]; simpa using this
  · rw [if_pos rfl]; simpa using this
end Go.Proofs.YtjkjnhcnmjknmaaGreatDoor.Y
end
section
namespace Go.Proofs.YtjkjnhcnmjknmaaGreatDoor.Y
open Go.RowKit Go.Proofs.YtjkjnhcnmjknmaaGreatDoorW.PrintWords Go.Proofs.YtjkjnhcnmjknmaaGreatDoorW.PrintLast Go.Proofs.YtjkjnhcnmjknmaaGreatDoorW.PrintMore
attribute [local go_sem] max2_int min2_int max_two min_two max_three min_three max_four min_four   -- for this text's walks alone
set_option linter.unusedVariables false
set_option linter.unusedSimpArgs false
set_option maxHeartbeats 8000000 in
set_option maxRecDepth 100000 in
theorem spec_Value.calls (a0 : Int) (r : Int) (w : World) (h : spec_Value.f a0 = some r) :
    Calls Tryz.prog 118 #[.int .i64 a0] w fun e w' => e = .returned (.int .i64 r) ∧ Drawn0 w w' := by
  have H : (some (Go.bits .and .i64 a0 2147483647)) = some r := h
  clear h
  obtain rfl := Option.some.inj H
  go_enter Tryz.func118, Tryz.ntmps118
  go_wp2
  go_ret
  exact ⟨by first | rfl | (simp; done) | (simp [*]; done), by repeat (first | exact Drawn0.refl _ | apply Drawn0.step)⟩
end Go.Proofs.YtjkjnhcnmjknmaaGreatDoor.Y
end
section
namespace Go.Proofs.YtjkjnhcnmjknmaaGreatDoor.Y
open Go.RowKit Go.Proofs.YtjkjnhcnmjknmaaGreatDoorW.PrintWords Go.Proofs.YtjkjnhcnmjknmaaGreatDoorW.PrintLast Go.Proofs.YtjkjnhcnmjknmaaGreatDoorW.PrintMore
attribute [local go_sem] max2_int min2_int max_two min_two max_three min_three max_four min_four   -- for this text's walks alone
set_option linter.unusedVariables false
set_option linter.unusedSimpArgs false
set_option maxHeartbeats 8000000 in
set_option maxRecDepth 100000 in
theorem spec_Or.calls (a0 : Int) (a1 : Int) (r : Int) (w : World) (h : spec_Or.f a0 a1 = some r) :
    Calls Tryz.prog 45 #[.int .i64 a0, .int .i64 a1] w fun e w' => e = .returned (.int .i64 r) ∧ Drawn0 w w' := by
  have H : ((spec_Value.f a0).bind fun t217 => (if t217 = 2147483647 then (some a1) else ((spec_Value.f a0).bind fun t218 => (some t218)))) = some r := h
  clear h
  replace H := Option.bind_eq_some_iff.mp H
  obtain ⟨t217, A30, H⟩ := H
  replace H : (if t217 = 2147483647 then (some a1) else ((spec_Value.f a0).bind fun t218 => (some t218))) = some r := H
  have A3 := Aside0.mk A30
  clear A30
  by_cases c4 : t217 = 2147483647
  · rw [if_pos c4] at H
    have c4b0 : (t217 == 2147483647) = true := beq_iff_eq.mpr c4
    have c4b1 : (t217 != 2147483647) = false := bne_eq_false_iff_eq.mpr c4
    clear c4
    obtain rfl := Option.some.inj H
    go_enter Tryz.func45, Tryz.ntmps45
    go_wp2_with (first | ((with_reducible refine gate_callee (f := 118) rfl ?_); refine goesL_ (some 6) rfl rfl Tryz.func118 (by kernel_rfl) rfl #[.int .i64 a0] rfl (by (try simp only [List.map_toArray, List.map_cons, List.map_nil]); first | done | rfl | (simp only [List.length_drop, List.length_take]; rfl)) ?_; (with_reducible refine (spec_Value.calls a0 t217 _ A3.out).mono ?_); rintro e w' ⟨rfl, ⟨nd, rfl⟩⟩; refine ⟨_, rfl, ?_⟩))
    go_ret
    exact ⟨by first | rfl | (simp; done) | (simp [*]; done), by repeat (first | exact Drawn0.refl _ | apply Drawn0.step)⟩
  · rw [if_neg c4] at H
    have c4b0 : (t217 == 2147483647) = false := beq_eq_false_iff_ne.mpr c4
    have c4b1 : (t217 != 2147483647) = true := bne_iff_ne.mpr c4
    replace H := Option.bind_eq_some_iff.mp H
    obtain ⟨t218, A50, H⟩ := H
    replace H : (some t218) = some r := H
    have A5 := Aside0.mk A50
    clear A50
    obtain rfl := Option.some.inj H
    go_enter Tryz.func45, Tryz.ntmps45
    go_wp2_with (first | ((with_reducible refine gate_callee (f := 118) rfl ?_); refine goesL_ (some 6) rfl rfl Tryz.func118 (by kernel_rfl) rfl #[.int .i64 a0] rfl (by (try simp only [List.map_toArray, List.map_cons, List.map_nil]); first | done | rfl | (simp only [List.length_drop, List.length_take]; rfl)) ?_; (with_reducible refine (spec_Value.calls a0 t217 _ A3.out).mono ?_); rintro e w' ⟨rfl, ⟨nd, rfl⟩⟩; refine ⟨_, rfl, ?_⟩) | ((with_reducible refine gate_callee (f := 118) rfl ?_); refine goesL_ (some 10) rfl rfl Tryz.func118 (by kernel_rfl) rfl #[.int .i64 a0] rfl (by (try simp only [List.map_toArray, List.map_cons, List.map_nil]); first | done | rfl | (simp only [List.length_drop, List.length_take]; rfl)) ?_; (with_reducible refine (spec_Value.calls a0 t218 _ A5.out).mono ?_); rintro e w' ⟨rfl, ⟨nd, rfl⟩⟩; refine ⟨_, rfl, ?_⟩))
    go_ret
    exact ⟨by first | rfl | (simp; done) | (simp [*]; done), by repeat (first | exact Drawn0.refl _ | apply Drawn0.step)⟩
end Go.Proofs.YtjkjnhcnmjknmaaGreatDoor.Y
end
section
namespace Go.Proofs.YtjkjnhcnmjknmaaGreatDoor.Y
open Go.RowKit Go.Proofs.YtjkjnhcnmjknmaaGreatDoorW.PrintWords Go.Proofs.YtjkjnhcnmjknmaaGreatDoorW.PrintLast Go.Proofs.YtjkjnhcnmjknmaaGreatDoorW.PrintMore
attribute [local go_sem] max2_int min2_int max_two min_two max_three min_three max_four min_four   -- for this text's walks alone
set_option linter.unusedVariables false
set_option linter.unusedSimpArgs false
set_option maxHeartbeats 8000000 in
set_option maxRecDepth 100000 in
theorem spec_DrawParam.calls (A0 : Option Addr) (c0 : Nat) (l0 : List Int) (a1 : Int) (a2 : Int) (r : Int) (w : World) (hr0 : Kd.C (Kd.int .i64) w A0 l0.length l0) (hc0 : l0.length ≤ c0) (h : spec_DrawParam.f l0 a1 a2 = some r) :
    Calls Tryz.prog 25 #[.slice A0 l0.length c0, .int .i64 a1, .int .i64 a2] w fun e w' => e = .returned (.int .i64 r) ∧ Drawn0 w w' := by
  have HR0 := Aside0.mk hr0
  have HC0 := Aside0.mk hc0
  clear hr0 hc0
  have H : (if a1 ≥ (l0.length : Int) then (some a2) else (if 0 ≤ a1 then (if a1 < (l0.length : Int) then ((spec_Or.f (rd l0 a1) a2).bind fun t220 => (some t220)) else (none)) else (none))) = some r := h
  clear h
  by_cases c4 : a1 ≥ (l0.length : Int)
  · rw [if_pos c4] at H
    have c4b0 : decide ((l0.length : Int) ≤ a1) = true := decide_eq_true c4
    clear c4
    obtain rfl := Option.some.inj H
    go_enter Tryz.func25, Tryz.ntmps25
    go_wp2
    go_ret
    exact ⟨by first | rfl | (simp; done) | (simp [*]; done), by repeat (first | exact Drawn0.refl _ | apply Drawn0.step)⟩
  · rw [if_neg c4] at H
    have c4b0 : decide ((l0.length : Int) ≤ a1) = false := decide_eq_false c4
    clear c4
    by_cases c5 : 0 ≤ a1
    · rw [if_pos c5] at H
      have c5b0 : decide (0 ≤ a1) = true := decide_eq_true c5
      clear c5
      by_cases c6 : a1 < (l0.length : Int)
      · rw [if_pos c6] at H
        have c6b0 : decide (a1 < (l0.length : Int)) = true := decide_eq_true c6
        clear c6
        replace H := Option.bind_eq_some_iff.mp H
        obtain ⟨t220, A70, H⟩ := H
        replace H : (some t220) = some r := H
        have A7 := Aside0.mk A70
        clear A70
        obtain rfl := Option.some.inj H
        have p219 : 0 ≤ (a1 : Int) := of_decide_eq_true (by first | (with_reducible assumption) | assumption)
        have q219 : a1 < (l0.length : Int) := of_decide_eq_true (by first | (with_reducible assumption) | assumption)
        obtain ⟨ad219, e219, hx219_0⟩ := Kd.at_int HR0.out a1 p219 q219
        cases e219
        replace p219 := eq_true p219
        replace q219 := eq_true q219
        go_enter Tryz.func25, Tryz.ntmps25
        go_wp2_with (first | ((with_reducible refine gate_callee (f := 45) rfl ?_); refine goesL_ (some 17) rfl rfl Tryz.func45 (by kernel_rfl) rfl #[.int .i64 (rd l0 a1), .int .i64 a2] rfl (by (try simp only [List.map_toArray, List.map_cons, List.map_nil]); first | done | rfl | (simp only [List.length_drop, List.length_take]; rfl)) ?_; (with_reducible refine (spec_Or.calls (rd l0 a1) a2 t220 _ A7.out).mono ?_); rintro e w' ⟨rfl, ⟨nd, rfl⟩⟩; refine ⟨_, rfl, ?_⟩))
        go_ret
        exact ⟨by first | rfl | (simp; done) | (simp [*]; done), by repeat (first | exact Drawn0.refl _ | apply Drawn0.step)⟩
      · rw [if_neg c6] at H
        exact absurd H (by simp)
    · rw [if_neg c5] at H
      exact absurd H (by simp)
end Go.Proofs.YtjkjnhcnmjknmaaGreatDoor.Y
end
