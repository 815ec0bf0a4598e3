-- Written by a program of this session (wip/tool/xprint.py, round the kit's print.py). Lean checks it.
import Derived.Test.YtgcbnegdchladaaDoorCY0
namespace Go.Proofs.YtgcbnegdchladaaDoor.Y
open Go.RowKit Go.Proofs.YtgcbnegdchladaaDoorW.PrintWords Go.Proofs.YtgcbnegdchladaaDoorW.PrintLast Go.Proofs.YtgcbnegdchladaaDoorW.PrintMore
attribute [local go_sem] max2_int min2_int max_two min_two max_three min_three max_four min_four   -- for this text's walks alone
set_option linter.unusedVariables false
set_option linter.unusedSimpArgs false

/-! ### spec_drawBehind: function 55 -/
def spec_drawBehind.l0 : Nat → ByteArray → Int → Int → Int → Option (ByteArray)
  | 0, _, _, _, _ => none
  | k + 1, x0, x1, x7, x8 => if x8 < x7 then (if 0 ≤ x8 then (if x8 < (x0.size : Int) then (if (bt x0 x8) = 59 then (if (wrap64 (x1 - 1)) = 0 then (if 0 ≤ (wrap64 (x8 + 1)) then (if (wrap64 (x8 + 1)) ≤ (x0.size : Int) then (some (x0.extract ((wrap64 (x8 + 1)) : Int).toNat x0.size)) else (none)) else (none)) else (spec_drawBehind.l0 k x0 (wrap64 (x1 - 1)) x7 (wrap64 (x8 + 1)))) else (spec_drawBehind.l0 k x0 x1 x7 (wrap64 (x8 + 1)))) else (none)) else (none)) else (some (⟨#[]⟩ : ByteArray))
def spec_drawBehind.f (k : Nat) (a0 : ByteArray) (a1 : Int) : Option (ByteArray) := spec_drawBehind.l0 k a0 a1 (a0.size : Int) 0
theorem spec_drawBehind.mono_l : ∀ k, (∀ y0 y1 y2 y3, LeO (spec_drawBehind.l0 k y0 y1 y2 y3) (spec_drawBehind.l0 (k + 1) y0 y1 y2 y3))
  | 0 => fun _ _ _ _ r h => by simp [spec_drawBehind.l0] at h
  | k + 1 => by
    have ih0 := spec_drawBehind.mono_l k
    · intro y0 y1 y2 y3
      unfold spec_drawBehind.l0
      repeat' first
      | (with_reducible exact ih0 _ _ _ _)
      | (with_reducible exact LeO.refl _)
      | (with_reducible exact LeO.none _)
      | (with_reducible refine LeO.ite ?_ ?_)
      | (with_reducible refine LeO.bind ?_ (fun _ => ?_))
      | exact ih0 _ _ _ _
      | exact LeO.none _
      | refine LeO.ite ?_ ?_
      | refine LeO.bind ?_ (fun _ => ?_)
theorem spec_drawBehind.mono : ∀ a0 a1 k, LeO (spec_drawBehind.f k a0 a1) (spec_drawBehind.f (k + 1) a0 a1) := by
  intro a0 a1 k
  have ih0 := spec_drawBehind.mono_l k
  unfold spec_drawBehind.f
  repeat' first
      | (with_reducible exact ih0 _ _ _ _)
      | (with_reducible exact LeO.refl _)
      | (with_reducible exact LeO.none _)
      | (with_reducible refine LeO.ite ?_ ?_)
      | (with_reducible refine LeO.bind ?_ (fun _ => ?_))
      | exact ih0 _ _ _ _
      | exact LeO.none _
      | refine LeO.ite ?_ ?_
      | refine LeO.bind ?_ (fun _ => ?_)
set_option maxHeartbeats 8000000 in
set_option maxRecDepth 100000 in
theorem spec_drawBehind.calls (k : Nat) (a0 : ByteArray) (a1 : Int) (r : ByteArray) (w : World) (h : spec_drawBehind.f k a0 a1 = some r) :
    Calls Tryd.prog 55 #[.string a0, .int .i64 a1] w fun e w' => e = .returned (.string r) ∧ Drawn0 w w' := by
  have H : (spec_drawBehind.l0 k a0 a1 (a0.size : Int) 0) = some r := h
  clear h
  have H' := Aside0.mk H
  clear H
  go_enter Tryd.func55, Tryd.ntmps55
  go_wp2
  go_loopg [1, 8] k (fun kq v1 v8 w' => ∃ (x1_1 : Int) (x8_1 : Int), v1 = .int .i64 x1_1 ∧ v8 = .int .i64 x8_1 ∧ Aside0 (spec_drawBehind.l0 kq a0 x1_1 (a0.size : Int) x8_1 = some r) ∧ Aside0 (kq ≤ k) ∧ Drawn0 w w')
  case atStart => exact ⟨(a1), (0), (by first | rfl | (simp; done) | (simp [*]; done)), (by first | rfl | (simp; done) | (simp [*]; done)), H', ⟨Nat.le_refl _⟩, by repeat (first | exact Drawn0.refl _ | apply Drawn0.step)⟩
  case round =>
    clear H'
    try clear p2
    obtain ⟨x1_1, x8_1, rfl, rfl, HA, HK1, ⟨m1, rfl⟩⟩ := hrel
    cases gk with
    | zero => exact absurd HA.out (by simp [spec_drawBehind.l0])
    | succ k1 =>
      have H := HA.out
      clear HA
      simp only [spec_drawBehind.l0] at H
      by_cases c3 : x8_1 < (a0.size : Int)
      · rw [if_pos c3] at H
        have c3b0 : decide (x8_1 < (a0.size : Int)) = true := decide_eq_true c3
        clear c3
        by_cases c4 : 0 ≤ x8_1
        · rw [if_pos c4] at H
          have c4b0 : decide (0 ≤ x8_1) = true := decide_eq_true c4
          clear c4
          by_cases c5 : x8_1 < (a0.size : Int)
          · rw [if_pos c5] at H
            have c5b0 : decide (x8_1 < (a0.size : Int)) = true := decide_eq_true c5
            clear c5
            by_cases c7 : (bt a0 x8_1) = 59
            · rw [if_pos c7] at H
              have c7b0 : ((bt a0 x8_1) == 59) = true := beq_iff_eq.mpr c7
              have c7b1 : ((bt a0 x8_1) != 59) = false := bne_eq_false_iff_eq.mpr c7
              clear c7
              by_cases c8 : (wrap64 (x1_1 - 1)) = 0
              · rw [if_pos c8] at H
                have c8b0 : ((wrap64 (x1_1 - 1)) == 0) = true := beq_iff_eq.mpr c8
                have c8b1 : ((wrap64 (x1_1 - 1)) != 0) = false := bne_eq_false_iff_eq.mpr c8
                clear c8
                obtain ⟨ji9, hji9⟩ : ∃ j_ : Int, (wrap64 (x8_1 + 1)) = j_ := ⟨_, rfl⟩
                replace H : (if 0 ≤ (ji9) then (if (ji9) ≤ (a0.size : Int) then (some (a0.extract ((ji9) : Int).toNat a0.size)) else (none)) else (none)) = some r := by first | (rw [hji9] at H; exact H) | (simp only [hji9] at H ⊢; exact H)
                have hji9w : (IntKind.i64.wrap (x8_1 + 1)) = ji9 := (i64_w _).trans hji9
                by_cases c10 : 0 ≤ (ji9)
                · rw [if_pos c10] at H
                  have c10b0 := eq_true c10
                  have c10b1 : decide (0 ≤ (ji9)) = true := decide_eq_true c10
                  clear c10
                  by_cases c11 : (ji9) ≤ (a0.size : Int)
                  · rw [if_pos c11] at H
                    have c11b0 := eq_true c11
                    have c11b1 : decide ((ji9) ≤ (a0.size : Int)) = true := decide_eq_true c11
                    clear c11
                    obtain rfl := Option.some.inj H
                    have p6 : 0 ≤ (x8_1 : Int) := of_decide_eq_true (by first | (with_reducible assumption) | assumption)
                    have q6 : x8_1 < (a0.size : Int) := of_decide_eq_true (by first | (with_reducible assumption) | assumption)
                    have hx6 := bt_at a0 x8_1
                    replace p6 := eq_true p6
                    replace q6 := eq_true q6
                    go_wp2
                    go_ret
                    exact ⟨by first | rfl | (simp; done) | (simp only [← hji9] <;> (first | rfl | simp)) | (simp [*]; done), by repeat (first | exact Drawn0.refl _ | apply Drawn0.step)⟩
                  · rw [if_neg c11] at H
                    exact absurd H (by simp)
                · rw [if_neg c10] at H
                  exact absurd H (by simp)
              · rw [if_neg c8] at H
                have c8b0 : ((wrap64 (x1_1 - 1)) == 0) = false := beq_eq_false_iff_ne.mpr c8
                have c8b1 : ((wrap64 (x1_1 - 1)) != 0) = true := bne_iff_ne.mpr c8
                have H' := Aside0.mk H
                clear H
                have p6 : 0 ≤ (x8_1 : Int) := of_decide_eq_true (by first | (with_reducible assumption) | assumption)
                have q6 : x8_1 < (a0.size : Int) := of_decide_eq_true (by first | (with_reducible assumption) | assumption)
                have hx6 := bt_at a0 x8_1
                replace p6 := eq_true p6
                replace q6 := eq_true q6
                go_wp2
                go_roundg k1
                case measure => have := HK1.out; omega
                case rel => exact ⟨(wrap64 (x1_1 - 1)), (wrap64 (x8_1 + 1)), (by first | rfl | (simp; done) | (simp [*]; done)), (by first | rfl | (simp; done) | (simp [*]; done)), H', ⟨by have := HK1.out; omega⟩, by repeat (first | exact Drawn0.refl _ | apply Drawn0.step)⟩
            · rw [if_neg c7] at H
              have c7b0 : ((bt a0 x8_1) == 59) = false := beq_eq_false_iff_ne.mpr c7
              have c7b1 : ((bt a0 x8_1) != 59) = true := bne_iff_ne.mpr c7
              have H' := Aside0.mk H
              clear H
              have p6 : 0 ≤ (x8_1 : Int) := of_decide_eq_true (by first | (with_reducible assumption) | assumption)
              have q6 : x8_1 < (a0.size : Int) := of_decide_eq_true (by first | (with_reducible assumption) | assumption)
              have hx6 := bt_at a0 x8_1
              replace p6 := eq_true p6
              replace q6 := eq_true q6
              go_wp2
              go_roundg k1
              case measure => have := HK1.out; omega
              case rel => exact ⟨(x1_1), (wrap64 (x8_1 + 1)), (by first | rfl | (simp; done) | (simp [*]; done)), (by first | rfl | (simp; done) | (simp [*]; done)), H', ⟨by have := HK1.out; omega⟩, by repeat (first | exact Drawn0.refl _ | apply Drawn0.step)⟩
          · rw [if_neg c5] at H
            exact absurd H (by simp)
        · rw [if_neg c4] at H
          exact absurd H (by simp)
      · rw [if_neg c3] at H
        have c3b0 : decide (x8_1 < (a0.size : Int)) = false := decide_eq_false c3
        clear c3
        obtain rfl := Option.some.inj H
        go_wp2
        go_ret
        exact ⟨by first | rfl | (simp; done) | (simp [*]; done), by repeat (first | exact Drawn0.refl _ | apply Drawn0.step)⟩

/-! ### spec_DrawTold: function 11 -/
mutual
def spec_DrawTold.l0 : Nat → List Int → List ByteArray → List (S39) → Int → Int → Option (List ByteArray)
  | 0, _, _, _, _, _ => none
  | k + 1, x1, x5, x13, x14, x15 => if x15 < x14 then (if 0 ≤ x15 then (if x15 < (x13.length : Int) then (spec_DrawTold.l1 k x1 x5 x13 x14 x15 x1 (x1.length : Int) 0 ((rd_T39 x13 x15).f0) ((rd_T39 x13 x15).f1) ((rd_T39 x13 x15).f2) ((rd_T39 x13 x15).f3) ((rd_T39 x13 x15).f4) ((rd_T39 x13 x15).f5)) else (none)) else (none)) else (some x5)
def spec_DrawTold.l1 : Nat → List Int → List ByteArray → List (S39) → Int → Int → List Int → Int → Int → Int → Int → Int → Int → List Int → List Int → Option (List ByteArray)
  | 0, _, _, _, _, _, _, _, _, _, _, _, _, _, _ => none
  | k + 1, x1, x5, x13, x14, x15, x19, x20, x21, x133000, x133001, x133002, x133003, x133004, x133005 => if x21 < x20 then (if 0 ≤ x21 then (if x21 < (x19.length : Int) then (if x133000 = 5 then (if x133003 = (rd x19 x21) then ((spec_drawBehind.f k (strOfNums x133005) 1).bind fun t134 => (if x21 < (x5.length : Int) then (spec_DrawTold.l1 k x1 (x5.set (x21 : Int).toNat t134) x13 x14 x15 x19 x20 (wrap64 (x21 + 1)) x133000 x133001 x133002 x133003 x133004 x133005) else (none))) else (spec_DrawTold.l1 k x1 x5 x13 x14 x15 x19 x20 (wrap64 (x21 + 1)) x133000 x133001 x133002 x133003 x133004 x133005)) else (spec_DrawTold.l1 k x1 x5 x13 x14 x15 x19 x20 (wrap64 (x21 + 1)) x133000 x133001 x133002 x133003 x133004 x133005)) else (none)) else (none)) else (spec_DrawTold.l0 k x1 x5 x13 x14 (wrap64 (x15 + 1)))
end
def spec_DrawTold.f (k : Nat) (l0 : List (S39)) (l1 : List Int) : Option (List ByteArray) := if 0 ≤ (l1.length : Int) then (if ((l1.length : Int) : Int).toNat ≤ 17592186044416 then (spec_DrawTold.l0 k l1 (List.replicate ((l1.length : Int) : Int).toNat (⟨#[]⟩ : ByteArray)) l0 (l0.length : Int) 0) else (none)) else (none)
theorem spec_DrawTold.mono_l : ∀ k, (∀ y0 y1 y2 y3 y4, LeO (spec_DrawTold.l0 k y0 y1 y2 y3 y4) (spec_DrawTold.l0 (k + 1) y0 y1 y2 y3 y4)) ∧ (∀ y0 y1 y2 y3 y4 y5 y6 y7 y8 y9 y10 y11 y12 y13, LeO (spec_DrawTold.l1 k y0 y1 y2 y3 y4 y5 y6 y7 y8 y9 y10 y11 y12 y13) (spec_DrawTold.l1 (k + 1) y0 y1 y2 y3 y4 y5 y6 y7 y8 y9 y10 y11 y12 y13))
  | 0 => ⟨fun _ _ _ _ _ r h => by simp [spec_DrawTold.l0] at h, fun _ _ _ _ _ _ _ _ _ _ _ _ _ _ r h => by simp [spec_DrawTold.l1] at h⟩
  | k + 1 => by
    obtain ⟨ih0, ih1⟩ := spec_DrawTold.mono_l k
    refine ⟨?_, ?_⟩
    · intro y0 y1 y2 y3 y4
      unfold spec_DrawTold.l0
      repeat' first
      | (with_reducible exact ih0 _ _ _ _ _)
      | (with_reducible exact ih1 _ _ _ _ _ _ _ _ _ _ _ _ _ _)
      | (with_reducible exact spec_drawBehind.mono _ _ _)
      | (with_reducible exact LeO.refl _)
      | (with_reducible exact LeO.none _)
      | (with_reducible refine LeO.ite ?_ ?_)
      | (with_reducible refine LeO.bind ?_ (fun _ => ?_))
      | exact ih0 _ _ _ _ _
      | exact ih1 _ _ _ _ _ _ _ _ _ _ _ _ _ _
      | exact spec_drawBehind.mono _ _ _
      | exact LeO.none _
      | refine LeO.ite ?_ ?_
      | refine LeO.bind ?_ (fun _ => ?_)
    · intro y0 y1 y2 y3 y4 y5 y6 y7 y8 y9 y10 y11 y12 y13
      unfold spec_DrawTold.l1
      repeat' first
      | (with_reducible exact ih0 _ _ _ _ _)
      | (with_reducible exact ih1 _ _ _ _ _ _ _ _ _ _ _ _ _ _)
      | (with_reducible exact spec_drawBehind.mono _ _ _)
      | (with_reducible exact LeO.refl _)
      | (with_reducible exact LeO.none _)
      | (with_reducible refine LeO.ite ?_ ?_)
      | (with_reducible refine LeO.bind ?_ (fun _ => ?_))
      | exact ih0 _ _ _ _ _
      | exact ih1 _ _ _ _ _ _ _ _ _ _ _ _ _ _
      | exact spec_drawBehind.mono _ _ _
      | exact LeO.none _
      | refine LeO.ite ?_ ?_
      | refine LeO.bind ?_ (fun _ => ?_)
theorem spec_DrawTold.mono : ∀ a0 a1 k, LeO (spec_DrawTold.f k a0 a1) (spec_DrawTold.f (k + 1) a0 a1) := by
  intro a0 a1 k
  obtain ⟨ih0, ih1⟩ := spec_DrawTold.mono_l k
  unfold spec_DrawTold.f
  repeat' first
      | (with_reducible exact ih0 _ _ _ _ _)
      | (with_reducible exact ih1 _ _ _ _ _ _ _ _ _ _ _ _ _ _)
      | (with_reducible exact spec_drawBehind.mono _ _ _)
      | (with_reducible exact LeO.refl _)
      | (with_reducible exact LeO.none _)
      | (with_reducible refine LeO.ite ?_ ?_)
      | (with_reducible refine LeO.bind ?_ (fun _ => ?_))
      | exact ih0 _ _ _ _ _
      | exact ih1 _ _ _ _ _ _ _ _ _ _ _ _ _ _
      | exact spec_drawBehind.mono _ _ _
      | exact LeO.none _
      | refine LeO.ite ?_ ?_
      | refine LeO.bind ?_ (fun _ => ?_)
set_option maxHeartbeats 8000000 in
set_option maxRecDepth 100000 in
theorem spec_DrawTold.calls (k : Nat) (A0 : Option Addr) (c0 : Nat) (l0 : List (S39)) (A1 : Option Addr) (c1 : Nat) (l1 : List Int) (r : List ByteArray) (w : World) (hr0 : Kd.C k39 w A0 l0.length l0) (hc0 : l0.length ≤ c0) (hr1 : Kd.C (Kd.int .i64) w A1 l1.length l1) (hc1 : l1.length ≤ c1) (h : spec_DrawTold.f k l0 l1 = some r) :
    Calls Tryd.prog 11 #[.slice A0 l0.length c0, .slice A1 l1.length c1] w fun e w' => ∃ v0_ : Value, e = .returned (v0_) ∧ Kd.R Kd.string 9 w' w.heap.size (fun _ => True) v0_ r ∧ Below w.heap.size w w' := by
  have hu39 := Tryd.underlying39
  have HR0 := Aside0.mk hr0
  have HC0 := Aside0.mk hc0
  clear hr0 hc0
  have HR1 := Aside0.mk hr1
  have HC1 := Aside0.mk hc1
  clear hr1 hc1
  have HB := Aside0.mk (Below.refl w.heap.size w)
  have H : (if 0 ≤ (l1.length : Int) then (if ((l1.length : Int) : Int).toNat ≤ 17592186044416 then (spec_DrawTold.l0 k l1 (List.replicate ((l1.length : Int) : Int).toNat (⟨#[]⟩ : ByteArray)) l0 (l0.length : Int) 0) else (none)) else (none)) = some r := h
  clear h
  by_cases c3 : 0 ≤ (l1.length : Int)
  · rw [if_pos c3] at H
    have c3b0 := eq_true c3
    have c3b1 : decide (0 ≤ (l1.length : Int)) = true := decide_eq_true c3
    clear c3
    by_cases c4 : ((l1.length : Int) : Int).toNat ≤ 17592186044416
    · rw [if_pos c4] at H
      have c4b0 := eq_true c4
      have c4b1 : decide (((l1.length : Int) : Int).toNat ≤ 17592186044416) = true := decide_eq_true c4
      clear c4
      obtain ⟨y128, hy128⟩ : ∃ y_ : List ByteArray, y_ = (List.replicate ((l1.length : Int) : Int).toNat (⟨#[]⟩ : ByteArray)) := ⟨_, rfl⟩
      replace H : (spec_DrawTold.l0 k l1 y128 l0 (l0.length : Int) 0) = some r := by first | (rw [hy128]; with_reducible exact H) | (have H2_ := (Option.bind_some _ _).symm.trans H; rw [hy128]; with_reducible exact H2_) | (have H2_ := (Option.bind_some _ _).symm.trans H; with_reducible exact H2_) | with_reducible exact H | (rw [hy128]; exact H) | exact H
      have Ny128 := Aside0.mk hy128
      clear hy128
      have H' := Aside0.mk H
      clear H
      go_enter Tryd.func11, Tryd.ntmps11
      go_wp2_with (first | ((with_reducible refine gate_dst (N := 12) rfl ?_); refine Kd.R_make Kd.string _ 9 rfl (N := 12) rfl 25 _ _ rfl (l1.length : Int) rfl rfl Tryd.underlying25 (.string ⟨#[]⟩) 16 info9 rfl (by decide) (by omega) (⟨#[]⟩ : ByteArray) (ok := fun _ => True) (okp := fun _ => True) rfl (fun _ hk => hk) trivial (of_decide_eq_true (by first | (with_reducible assumption) | assumption)) (Nat.le_trans (Nat.mul_le_mul_right _ (of_decide_eq_true (by first | (with_reducible assumption) | assumption) : (l1.length : Int).toNat ≤ 17592186044416)) (by omega)) (Below.refl _ _) (Nat.le_refl _) ?_; intro v129 w5 ho6 hb hg_ hnew_; clear hg_ hnew_; (first | rw [← Ny128.out] at ho6 | (simp only [Int.reduceToNat] at ho6; rw [← Ny128.out] at ho6)); have n0_ := Aside0.mk (Kd.R_lower ho6 (below_size (by repeat (first | (with_reducible first | exact HB.out | apply below_alloc | apply pw_below_drewN | apply below_drew1) | exact HB.out)))); have n1_ := Aside0.mk (below_step (by repeat (first | (with_reducible first | exact HB.out | apply below_alloc | apply pw_below_drewN | apply below_drew1) | exact HB.out)) hb); clear HB; have HO130 := n0_; have HB := n1_; clear n0_ n1_; clear hb ho6))
      go_loopg [15] k (fun kq v15 w' => ∃ (x5_1 : List ByteArray) (x15_1 : Int), v15 = .int .i64 x15_1 ∧ Aside0 (spec_DrawTold.l0 kq l1 x5_1 l0 (l0.length : Int) x15_1 = some r) ∧ Aside0 (kq ≤ k) ∧ Aside0 (Kd.R Kd.string 9 w' w.heap.size (fun _ => True) v129 x5_1) ∧ Aside0 (Below w.heap.size w w'))
      case atStart => exact ⟨(y128), (0), (by first | rfl | (simp; done) | (simp [*]; done)), H', ⟨Nat.le_refl _⟩, ⟨by (with_reducible repeat (first | apply Kd.R_alloc | apply Kd.R_drewN | apply Kd.R_drew)); exact HO130.out⟩, ⟨by repeat (first | (with_reducible first | exact HB.out | apply below_alloc | apply pw_below_drewN | apply below_drew1) | exact HB.out)⟩⟩
      case round =>
        clear H'
        try clear c1
        try clear p2
        try clear c3
        try clear c3b0
        try clear c3b1
        try clear c4
        try clear c4b0
        try clear c4b1
        obtain ⟨x5_1, x15_1, rfl, HA, HK1, HO_5, HB⟩ := hrel
        cases gk with
        | zero => exact absurd HA.out (by simp [spec_DrawTold.l0])
        | succ k1 =>
          have H := HA.out
          clear HA
          simp only [spec_DrawTold.l0] at H
          by_cases c7 : x15_1 < (l0.length : Int)
          · rw [if_pos c7] at H
            have c7b0 : decide (x15_1 < (l0.length : Int)) = true := decide_eq_true c7
            clear c7
            by_cases c8 : 0 ≤ x15_1
            · rw [if_pos c8] at H
              have c8b0 : decide (0 ≤ x15_1) = true := decide_eq_true c8
              clear c8
              by_cases c9 : x15_1 < (l0.length : Int)
              · rw [if_pos c9] at H
                have c9b0 : decide (x15_1 < (l0.length : Int)) = true := decide_eq_true c9
                clear c9
                have H' := Aside0.mk H
                clear H
                have p131 : 0 ≤ (x15_1 : Int) := of_decide_eq_true (by first | (with_reducible assumption) | assumption)
                have q131 : x15_1 < (l0.length : Int) := of_decide_eq_true (by first | (with_reducible assumption) | assumption)
                obtain ⟨ad131, A131_4, c131_4, A131_5, c131_5, e131, hx131_0, hx131_1, hx131_2, hx131_3, hx131_4, hx131_5, hl131_4, hi131_4, hl131_5, hi131_5⟩ := at_T39 HR0.out x15_1 p131 q131
                cases e131
                replace hx131_0 := (HB.out.cell (World.block_lt_of_cell? w _ hx131_0)).trans hx131_0
                replace hx131_1 := (HB.out.cell (World.block_lt_of_cell? w _ hx131_1)).trans hx131_1
                replace hx131_2 := (HB.out.cell (World.block_lt_of_cell? w _ hx131_2)).trans hx131_2
                replace hx131_3 := (HB.out.cell (World.block_lt_of_cell? w _ hx131_3)).trans hx131_3
                replace hx131_4 := (HB.out.cell (World.block_lt_of_cell? w _ hx131_4)).trans hx131_4
                replace hx131_5 := (HB.out.cell (World.block_lt_of_cell? w _ hx131_5)).trans hx131_5
                have HR131_4 := Aside0.mk hi131_4
                have HC131_4 := Aside0.mk hl131_4
                clear hi131_4 hl131_4
                have HR131_5 := Aside0.mk hi131_5
                have HC131_5 := Aside0.mk hl131_5
                clear hi131_5 hl131_5
                replace p131 := eq_true p131
                replace q131 := eq_true q131
                go_wp2_with (first | ((with_reducible refine gate_dst (N := 7) rfl ?_); refine box_event ?hg (N := 7) ?hd (cs := #[.int .i64 0, .int .i64 0, .int .u8 0, .int .i64 0, .slice none 0 0, .slice none 0 0]) (t := 39) ?hr ?_; (case hd => rfl); (case hg => rfl); (case hr => first | (go_simp; done) | (go_simp; rfl)); intro gb132 hg w10 hbox hb; have n0_ := Aside0.mk (Kd.R_below (by (with_reducible repeat (first | apply Kd.R_alloc | apply Kd.R_drewN | apply Kd.R_drew)); exact HO_5.out) hb); have n1_ := Aside0.mk (below_step (by repeat (first | (with_reducible first | exact HB.out | apply below_alloc | apply pw_below_drewN | apply below_drew1) | exact HB.out)) hb); have n2_ := Aside0.mk (hbox); have n3_ := Aside0.mk ((by rw [hg]; exact (below_size (by repeat (first | (with_reducible first | exact HB.out | apply below_alloc | apply pw_below_drewN | apply below_drew1) | exact HB.out))) : w.heap.size ≤ gb132)); have n4_ := Aside0.mk ((by rw [hg]; exact (below_size (by repeat (first | (with_reducible first | exact HB.out | apply below_alloc | apply pw_below_drewN | apply below_drew1) | exact HB.out))) : w.heap.size ≤ gb132)); clear HO_5; clear HB; have HO_5 := n0_; have HB := n1_; have BK132 := n2_; have GW132 := n3_; have GE132 := n4_; clear n0_ n1_ n2_ n3_ n4_; clear hb hbox hg; have hcz11_0 : w10.cell? ⟨gb132, 0, none⟩ = some (.int .i64 0) := (blk_cell BK132.out 0).trans rfl; have hcz11_1 : w10.cell? ⟨gb132, 1, none⟩ = some (.int .i64 0) := (blk_cell BK132.out 1).trans rfl; have hcz11_2 : w10.cell? ⟨gb132, 2, none⟩ = some (.int .u8 0) := (blk_cell BK132.out 2).trans rfl; have hcz11_3 : w10.cell? ⟨gb132, 3, none⟩ = some (.int .i64 0) := (blk_cell BK132.out 3).trans rfl; have hcz11_4 : w10.cell? ⟨gb132, 4, none⟩ = some (.slice none 0 0) := (blk_cell BK132.out 4).trans rfl; have hcz11_5 : w10.cell? ⟨gb132, 5, none⟩ = some (.slice none 0 0) := (blk_cell BK132.out 5).trans rfl; have hfz11_0 := blk_frozen BK132.out 0; have hfz11_1 := blk_frozen BK132.out 1; have hfz11_2 := blk_frozen BK132.out 2; have hfz11_3 := blk_frozen BK132.out 3; have hfz11_4 := blk_frozen BK132.out 4; have hfz11_5 := blk_frozen BK132.out 5))
                go_loopg [21] k1 (fun kq v21 w' => ∃ (x5_2 : List ByteArray) (x21_2 : Int), v21 = .int .i64 x21_2 ∧ Aside0 (spec_DrawTold.l1 kq l1 x5_2 l0 (l0.length : Int) x15_1 l1 (l1.length : Int) x21_2 ((rd_T39 l0 x15_1).f0) ((rd_T39 l0 x15_1).f1) ((rd_T39 l0 x15_1).f2) ((rd_T39 l0 x15_1).f3) ((rd_T39 l0 x15_1).f4) ((rd_T39 l0 x15_1).f5) = some r) ∧ Aside0 (kq ≤ k1) ∧ Aside0 (Kd.R Kd.string 9 w' w.heap.size (fun _ => True) v129 x5_2) ∧ Aside0 (w'.heap[gb132]? = some (.cells #[.int .i64 ((rd_T39 l0 x15_1).f0), .int .i64 ((rd_T39 l0 x15_1).f1), .int .u8 ((rd_T39 l0 x15_1).f2), .int .i64 ((rd_T39 l0 x15_1).f3), (.slice A131_4 ((rd_T39 l0 x15_1).f4).length c131_4), (.slice A131_5 ((rd_T39 l0 x15_1).f5).length c131_5)] 39 (0, 0))) ∧ Aside0 (Below w.heap.size w w'))
                case atStart => exact ⟨(x5_1), (0), (by first | rfl | (simp; done) | (simp [*]; done)), H', ⟨Nat.le_refl _⟩, ⟨by (with_reducible repeat (first | apply Kd.R_alloc | apply Kd.R_drewN | apply Kd.R_drew)); exact Kd.R_mono (Kd.R_far (p := ⟨gb132, 5, none⟩) (Kd.R_far (p := ⟨gb132, 4, none⟩) (Kd.R_far (p := ⟨gb132, 3, none⟩) (Kd.R_far (p := ⟨gb132, 2, none⟩) (Kd.R_far (p := ⟨gb132, 1, none⟩) (Kd.R_far (p := ⟨gb132, 0, none⟩) (Kd.R_types HO_5.out BK132.out (by decide)) (fun _ hk => hk.2) (.int .i64 ((rd_T39 l0 x15_1).f0))) (fun _ hk => hk.2) (.int .i64 ((rd_T39 l0 x15_1).f1))) (fun _ hk => hk.2) (.int .u8 ((rd_T39 l0 x15_1).f2))) (fun _ hk => hk.2) (.int .i64 ((rd_T39 l0 x15_1).f3))) (fun _ hk => hk.2) (.slice A131_4 ((rd_T39 l0 x15_1).f4).length c131_4)) (fun _ hk => hk.2) (.slice A131_5 ((rd_T39 l0 x15_1).f5).length c131_5)) (fun _ hk => trivial)⟩, ⟨by (with_reducible repeat (first | refine blk_drewN ?_ _ | refine blk_drew ?_ | refine blk_alloc ?_ _)); refine blk_put (cs := #[.int .i64 ((rd_T39 l0 x15_1).f0), .int .i64 ((rd_T39 l0 x15_1).f1), .int .u8 ((rd_T39 l0 x15_1).f2), .int .i64 ((rd_T39 l0 x15_1).f3), .slice A131_4 ((rd_T39 l0 x15_1).f4).length c131_4, .slice none 0 0]) ?_ 5 _ rfl; (with_reducible repeat (first | refine blk_drewN ?_ _ | refine blk_drew ?_ | refine blk_alloc ?_ _)); refine blk_put (cs := #[.int .i64 ((rd_T39 l0 x15_1).f0), .int .i64 ((rd_T39 l0 x15_1).f1), .int .u8 ((rd_T39 l0 x15_1).f2), .int .i64 ((rd_T39 l0 x15_1).f3), .slice none 0 0, .slice none 0 0]) ?_ 4 _ rfl; (with_reducible repeat (first | refine blk_drewN ?_ _ | refine blk_drew ?_ | refine blk_alloc ?_ _)); refine blk_put (cs := #[.int .i64 ((rd_T39 l0 x15_1).f0), .int .i64 ((rd_T39 l0 x15_1).f1), .int .u8 ((rd_T39 l0 x15_1).f2), .int .i64 0, .slice none 0 0, .slice none 0 0]) ?_ 3 _ rfl; (with_reducible repeat (first | refine blk_drewN ?_ _ | refine blk_drew ?_ | refine blk_alloc ?_ _)); refine blk_put (cs := #[.int .i64 ((rd_T39 l0 x15_1).f0), .int .i64 ((rd_T39 l0 x15_1).f1), .int .u8 0, .int .i64 0, .slice none 0 0, .slice none 0 0]) ?_ 2 _ rfl; (with_reducible repeat (first | refine blk_drewN ?_ _ | refine blk_drew ?_ | refine blk_alloc ?_ _)); refine blk_put (cs := #[.int .i64 ((rd_T39 l0 x15_1).f0), .int .i64 0, .int .u8 0, .int .i64 0, .slice none 0 0, .slice none 0 0]) ?_ 1 _ rfl; (with_reducible repeat (first | refine blk_drewN ?_ _ | refine blk_drew ?_ | refine blk_alloc ?_ _)); refine blk_put (cs := #[.int .i64 0, .int .i64 0, .int .u8 0, .int .i64 0, .slice none 0 0, .slice none 0 0]) ?_ 0 _ rfl; (with_reducible repeat (first | refine blk_drewN ?_ _ | refine blk_drew ?_ | refine blk_alloc ?_ _)); exact BK132.out⟩, ⟨by repeat (first | (with_reducible first | exact HB.out | apply below_alloc | apply pw_below_drewN | apply below_drew1 | refine below_set ?_ GE132.out) | exact HB.out)⟩⟩
                case round =>
                  clear H'
                  try clear c1
                  try clear p1
                  try clear q1
                  try clear hx1
                  try clear p2
                  try clear c3
                  try clear c3b0
                  try clear c3b1
                  try clear c4
                  try clear c4b0
                  try clear c4b1
                  try clear c7
                  try clear c7b0
                  try clear c8
                  try clear c8b0
                  try clear c9
                  try clear c9b0
                  try clear c11
                  try clear hcz11_0
                  try clear hcz11_1
                  try clear hcz11_2
                  try clear hcz11_3
                  try clear hcz11_4
                  try clear hcz11_5
                  try clear hfz11_0
                  try clear hfz11_1
                  try clear hfz11_2
                  try clear hfz11_3
                  try clear hfz11_4
                  try clear hfz11_5
                  try clear hx131_0
                  try clear hx131_1
                  try clear hx131_2
                  try clear hx131_3
                  try clear hx131_4
                  try clear hx131_5
                  try clear p131
                  try clear p2
                  try clear q131
                  obtain ⟨x5_2, x21_2, rfl, HA, HK2, HO_5, BK132, HB⟩ := hrel
                  cases gk with
                  | zero => exact absurd HA.out (by simp [spec_DrawTold.l1])
                  | succ k2 =>
                    have H := HA.out
                    clear HA
                    simp only [spec_DrawTold.l1] at H
                    by_cases c12 : x21_2 < (l1.length : Int)
                    · rw [if_pos c12] at H
                      have c12b0 : decide (x21_2 < (l1.length : Int)) = true := decide_eq_true c12
                      clear c12
                      by_cases c13 : 0 ≤ x21_2
                      · rw [if_pos c13] at H
                        have c13b0 : decide (0 ≤ x21_2) = true := decide_eq_true c13
                        clear c13
                        by_cases c14 : x21_2 < (l1.length : Int)
                        · rw [if_pos c14] at H
                          have c14b0 : decide (x21_2 < (l1.length : Int)) = true := decide_eq_true c14
                          clear c14
                          by_cases c15 : ((rd_T39 l0 x15_1).f0) = 5
                          · rw [if_pos c15] at H
                            have c15b0 : (((rd_T39 l0 x15_1).f0) == 5) = true := beq_iff_eq.mpr c15
                            have c15b1 : (((rd_T39 l0 x15_1).f0) != 5) = false := bne_eq_false_iff_eq.mpr c15
                            clear c15
                            by_cases c16 : ((rd_T39 l0 x15_1).f3) = (rd l1 x21_2)
                            · rw [if_pos c16] at H
                              have c16b0 : (((rd_T39 l0 x15_1).f3) == (rd l1 x21_2)) = true := beq_iff_eq.mpr c16
                              have c16b1 : (((rd_T39 l0 x15_1).f3) != (rd l1 x21_2)) = false := bne_eq_false_iff_eq.mpr c16
                              clear c16
                              replace H := Option.bind_eq_some_iff.mp H
                              obtain ⟨t134, A170, H⟩ := H
                              replace H : (if x21_2 < (x5_2.length : Int) then (spec_DrawTold.l1 k2 l1 (x5_2.set (x21_2 : Int).toNat t134) l0 (l0.length : Int) x15_1 l1 (l1.length : Int) (wrap64 (x21_2 + 1)) ((rd_T39 l0 x15_1).f0) ((rd_T39 l0 x15_1).f1) ((rd_T39 l0 x15_1).f2) ((rd_T39 l0 x15_1).f3) ((rd_T39 l0 x15_1).f4) ((rd_T39 l0 x15_1).f5)) else (none)) = some r := H
                              have A17 := Aside0.mk A170
                              clear A170
                              by_cases c18 : x21_2 < (x5_2.length : Int)
                              · rw [if_pos c18] at H
                                have c18b0 : decide (x21_2 < (x5_2.length : Int)) = true := decide_eq_true c18
                                clear c18
                                obtain ⟨y135, hy135⟩ : ∃ y_ : List ByteArray, y_ = (x5_2.set (x21_2 : Int).toNat t134) := ⟨_, rfl⟩
                                replace H : (spec_DrawTold.l1 k2 l1 y135 l0 (l0.length : Int) x15_1 l1 (l1.length : Int) (wrap64 (x21_2 + 1)) ((rd_T39 l0 x15_1).f0) ((rd_T39 l0 x15_1).f1) ((rd_T39 l0 x15_1).f2) ((rd_T39 l0 x15_1).f3) ((rd_T39 l0 x15_1).f4) ((rd_T39 l0 x15_1).f5)) = some r := by first | (rw [hy135]; with_reducible exact H) | (have H2_ := (Option.bind_some _ _).symm.trans H; rw [hy135]; with_reducible exact H2_) | (have H2_ := (Option.bind_some _ _).symm.trans H; with_reducible exact H2_) | with_reducible exact H | (rw [hy135]; exact H) | exact H
                                have Ny135 := Aside0.mk hy135
                                clear hy135
                                have H' := Aside0.mk H
                                clear H
                                have p133 : 0 ≤ (x21_2 : Int) := of_decide_eq_true (by first | (with_reducible assumption) | assumption)
                                have q133 : x21_2 < (l1.length : Int) := of_decide_eq_true (by first | (with_reducible assumption) | assumption)
                                obtain ⟨ad133, e133, hx133_0⟩ := Kd.at_int HR1.out x21_2 p133 q133
                                cases e133
                                replace hx133_0 := (HB.out.cell (World.block_lt_of_cell? w _ hx133_0)).trans hx133_0
                                replace p133 := eq_true p133
                                replace q133 := eq_true q133
                                have hcz20_0 : wr.cell? ⟨gb132, 0, none⟩ = some (.int .i64 ((rd_T39 l0 x15_1).f0)) := (blk_cell BK132.out 0).trans rfl
                                have hcz20_1 : wr.cell? ⟨gb132, 1, none⟩ = some (.int .i64 ((rd_T39 l0 x15_1).f1)) := (blk_cell BK132.out 1).trans rfl
                                have hcz20_2 : wr.cell? ⟨gb132, 2, none⟩ = some (.int .u8 ((rd_T39 l0 x15_1).f2)) := (blk_cell BK132.out 2).trans rfl
                                have hcz20_3 : wr.cell? ⟨gb132, 3, none⟩ = some (.int .i64 ((rd_T39 l0 x15_1).f3)) := (blk_cell BK132.out 3).trans rfl
                                have hcz20_4 : wr.cell? ⟨gb132, 4, none⟩ = some (.slice A131_4 ((rd_T39 l0 x15_1).f4).length c131_4) := (blk_cell BK132.out 4).trans rfl
                                have hcz20_5 : wr.cell? ⟨gb132, 5, none⟩ = some (.slice A131_5 ((rd_T39 l0 x15_1).f5).length c131_5) := (blk_cell BK132.out 5).trans rfl
                                have hfz20_0 := blk_frozen BK132.out 0
                                have hfz20_1 := blk_frozen BK132.out 1
                                have hfz20_2 := blk_frozen BK132.out 2
                                have hfz20_3 := blk_frozen BK132.out 3
                                have hfz20_4 := blk_frozen BK132.out 4
                                have hfz20_5 := blk_frozen BK132.out 5
                                have hcv21 := Kd.C_string (P := Tryd.prog) (A := A131_5) (c := c131_5) Tryd.underlying32 Tryd.underlying5 Tryd.underlying9 (Kd.C_below HR131_5.out HB.out)
                                go_wp2_with (first | ((with_reducible refine gate_callee (f := 55) rfl ?_); refine goesL_ (some 40) rfl rfl Tryd.func55 (by kernel_rfl) rfl #[.string (strOfNums ((rd_T39 l0 x15_1).f5)), .int .i64 1] rfl (by (try simp only [List.map_toArray, List.map_cons, List.map_nil]); first | done | rfl | (simp only [List.length_drop, List.length_take]; rfl)) ?_; (with_reducible refine (spec_drawBehind.calls k2 (strOfNums ((rd_T39 l0 x15_1).f5)) 1 t134 _ A17.out).mono ?_); rintro e w' ⟨rfl, ⟨nd, rfl⟩⟩; refine ⟨_, rfl, ?_⟩; (try (rw [drewN_self wr]; generalize hq_ : World.drewN wr _ = wr; have n0_ : Aside0 (Kd.R Kd.string 9 wr w.heap.size (fun _ => True) v129 x5_2) := ⟨by rw [← hq_]; exact (by (with_reducible repeat (first | apply Kd.R_alloc | apply Kd.R_drewN | apply Kd.R_drew)); exact HO_5.out)⟩; have n1_ : Aside0 (wr.heap[gb132]? = some (.cells #[.int .i64 ((rd_T39 l0 x15_1).f0), .int .i64 ((rd_T39 l0 x15_1).f1), .int .u8 ((rd_T39 l0 x15_1).f2), .int .i64 ((rd_T39 l0 x15_1).f3), .slice A131_4 ((rd_T39 l0 x15_1).f4).length c131_4, .slice A131_5 ((rd_T39 l0 x15_1).f5).length c131_5] 39 (0, 0))) := ⟨by rw [← hq_]; exact (by (with_reducible repeat (first | refine blk_drewN ?_ _ | refine blk_drew ?_ | refine blk_alloc ?_ _)); exact BK132.out)⟩; have n2_ : Aside0 (Below w.heap.size w wr) := ⟨by rw [← hq_]; exact (by repeat (first | (with_reducible first | exact HB.out | apply below_alloc | apply pw_below_drewN | apply below_drew1 | refine below_set ?_ GE132.out) | exact HB.out))⟩; clear HO_5 BK132 HB hq_; have HO_5 := n0_; have BK132 := n1_; have HB := n2_; clear n0_ n1_ n2_)); have p19 : 0 ≤ (x21_2 : Int) := of_decide_eq_true (by first | (with_reducible assumption) | assumption); have q19 : (x21_2 : Int) < ((x5_2.length : Int) : Int) := of_decide_eq_true (by first | (with_reducible assumption) | assumption); obtain ⟨go19, co19, eo19, gb19, gl19, cl19, HG19⟩ := Kd.R_form HO_5.out (by omega); (first | cases eo19 | (injection eo19 with ea_ en_ ec_; (first | subst ea_ | (injection ea_ with ea_; subst ea_)); subst ec_; clear en_)); have GB19 := Aside0.mk gb19; have GG19 := Aside0.mk HG19; clear gb19 gl19 HG19; obtain ⟨hx19_0, hf19_0⟩ := Kd.R_celln (⟨#[]⟩ : ByteArray) HO_5.out (x21_2 : Int) p19 q19; replace p19 := eq_true p19; replace q19 := eq_true q19; obtain ⟨hy22_, hz22_⟩ := Kd.R_celln (⟨#[]⟩ : ByteArray) HO_5.out (x21_2 : Int) (of_decide_eq_true (by first | (with_reducible assumption) | assumption)) (of_decide_eq_true (by first | (with_reducible assumption) | assumption)); have HP22 := Kd.R_putg HO_5.out (x21_2 : Int) t134) | ((with_reducible refine gate_store (t := 9) (p := 41) rfl ?_); refine store_event (t := 9) (p := 41) (v := ?vo_w23) (w1 := (wr.setCell ⟨go19, (x21_2 : Int).toNat, none⟩ (.string t134))) ?hg ?ho ?hn ?hr ?_; (case ho => rfl); (case hg => rfl); (case hn => rfl); (case hr => first | (go_simp; done) | (go_simp; rfl)); intro w23 hw; have hg : wr.grownBy w23 (some go19) := (by rw [hw]; exact HP22.2); have hp_ : Kd.R Kd.string 9 w23 w.heap.size (fun _ => True) (.slice (some ⟨go19, 0, none⟩) x5_2.length co19) y135 := (by rw [hw, Ny135.out]; exact HP22.1); clear HP22; have n0_ := Aside0.mk (hp_); have n1_ := Aside0.mk (blk_grown (g := gb132) (o := .cells #[.int .i64 ((rd_T39 l0 x15_1).f0), .int .i64 ((rd_T39 l0 x15_1).f1), .int .u8 ((rd_T39 l0 x15_1).f2), .int .i64 ((rd_T39 l0 x15_1).f3), .slice A131_4 ((rd_T39 l0 x15_1).f4).length c131_4, .slice A131_5 ((rd_T39 l0 x15_1).f5).length c131_5] 39 (0, 0)) (by (with_reducible repeat (first | refine blk_drewN ?_ _ | refine blk_drew ?_ | refine blk_alloc ?_ _)); exact BK132.out) hg (Kd.R_ne HO_5.out BK132.out (by decide))); have n2_ := Aside0.mk ((by rw [hw]; exact below_set (HB.out) GB19.out : Below w.heap.size w w23)); clear HO_5; clear BK132; clear HB; have HO_5 := n0_; have BK132 := n1_; have HB := n2_; clear n0_ n1_ n2_; clear hg hw hp_))
                                go_roundg k2
                                case measure => have := HK1.out; have := HK2.out; omega
                                case rel => exact ⟨(y135), (wrap64 (x21_2 + 1)), (by first | rfl | (simp; done) | (simp [*]; done)), H', ⟨by have := HK1.out; have := HK2.out; omega⟩, ⟨by (with_reducible repeat (first | apply Kd.R_alloc | apply Kd.R_drewN | apply Kd.R_drew)); exact HO_5.out⟩, ⟨by (with_reducible repeat (first | refine blk_drewN ?_ _ | refine blk_drew ?_ | refine blk_alloc ?_ _)); exact BK132.out⟩, ⟨by repeat (first | (with_reducible first | exact HB.out | apply below_alloc | apply pw_below_drewN | apply below_drew1 | refine below_set ?_ GE132.out) | exact HB.out)⟩⟩
                              · rw [if_neg c18] at H
                                exact absurd H (by simp)
                            · rw [if_neg c16] at H
                              have c16b0 : (((rd_T39 l0 x15_1).f3) == (rd l1 x21_2)) = false := beq_eq_false_iff_ne.mpr c16
                              have c16b1 : (((rd_T39 l0 x15_1).f3) != (rd l1 x21_2)) = true := bne_iff_ne.mpr c16
                              have H' := Aside0.mk H
                              clear H
                              have p133 : 0 ≤ (x21_2 : Int) := of_decide_eq_true (by first | (with_reducible assumption) | assumption)
                              have q133 : x21_2 < (l1.length : Int) := of_decide_eq_true (by first | (with_reducible assumption) | assumption)
                              obtain ⟨ad133, e133, hx133_0⟩ := Kd.at_int HR1.out x21_2 p133 q133
                              cases e133
                              replace hx133_0 := (HB.out.cell (World.block_lt_of_cell? w _ hx133_0)).trans hx133_0
                              replace p133 := eq_true p133
                              replace q133 := eq_true q133
                              have hcz24_0 : wr.cell? ⟨gb132, 0, none⟩ = some (.int .i64 ((rd_T39 l0 x15_1).f0)) := (blk_cell BK132.out 0).trans rfl
                              have hcz24_1 : wr.cell? ⟨gb132, 1, none⟩ = some (.int .i64 ((rd_T39 l0 x15_1).f1)) := (blk_cell BK132.out 1).trans rfl
                              have hcz24_2 : wr.cell? ⟨gb132, 2, none⟩ = some (.int .u8 ((rd_T39 l0 x15_1).f2)) := (blk_cell BK132.out 2).trans rfl
                              have hcz24_3 : wr.cell? ⟨gb132, 3, none⟩ = some (.int .i64 ((rd_T39 l0 x15_1).f3)) := (blk_cell BK132.out 3).trans rfl
                              have hcz24_4 : wr.cell? ⟨gb132, 4, none⟩ = some (.slice A131_4 ((rd_T39 l0 x15_1).f4).length c131_4) := (blk_cell BK132.out 4).trans rfl
                              have hcz24_5 : wr.cell? ⟨gb132, 5, none⟩ = some (.slice A131_5 ((rd_T39 l0 x15_1).f5).length c131_5) := (blk_cell BK132.out 5).trans rfl
                              have hfz24_0 := blk_frozen BK132.out 0
                              have hfz24_1 := blk_frozen BK132.out 1
                              have hfz24_2 := blk_frozen BK132.out 2
                              have hfz24_3 := blk_frozen BK132.out 3
                              have hfz24_4 := blk_frozen BK132.out 4
                              have hfz24_5 := blk_frozen BK132.out 5
                              go_wp2
                              go_roundg k2
                              case measure => have := HK1.out; have := HK2.out; omega
                              case rel => exact ⟨(x5_2), (wrap64 (x21_2 + 1)), (by first | rfl | (simp; done) | (simp [*]; done)), H', ⟨by have := HK1.out; have := HK2.out; omega⟩, ⟨by (with_reducible repeat (first | apply Kd.R_alloc | apply Kd.R_drewN | apply Kd.R_drew)); exact HO_5.out⟩, ⟨by (with_reducible repeat (first | refine blk_drewN ?_ _ | refine blk_drew ?_ | refine blk_alloc ?_ _)); exact BK132.out⟩, ⟨by repeat (first | (with_reducible first | exact HB.out | apply below_alloc | apply pw_below_drewN | apply below_drew1 | refine below_set ?_ GE132.out) | exact HB.out)⟩⟩
                          · rw [if_neg c15] at H
                            have c15b0 : (((rd_T39 l0 x15_1).f0) == 5) = false := beq_eq_false_iff_ne.mpr c15
                            have c15b1 : (((rd_T39 l0 x15_1).f0) != 5) = true := bne_iff_ne.mpr c15
                            have H' := Aside0.mk H
                            clear H
                            have p133 : 0 ≤ (x21_2 : Int) := of_decide_eq_true (by first | (with_reducible assumption) | assumption)
                            have q133 : x21_2 < (l1.length : Int) := of_decide_eq_true (by first | (with_reducible assumption) | assumption)
                            obtain ⟨ad133, e133, hx133_0⟩ := Kd.at_int HR1.out x21_2 p133 q133
                            cases e133
                            replace hx133_0 := (HB.out.cell (World.block_lt_of_cell? w _ hx133_0)).trans hx133_0
                            replace p133 := eq_true p133
                            replace q133 := eq_true q133
                            have hcz25_0 : wr.cell? ⟨gb132, 0, none⟩ = some (.int .i64 ((rd_T39 l0 x15_1).f0)) := (blk_cell BK132.out 0).trans rfl
                            have hcz25_1 : wr.cell? ⟨gb132, 1, none⟩ = some (.int .i64 ((rd_T39 l0 x15_1).f1)) := (blk_cell BK132.out 1).trans rfl
                            have hcz25_2 : wr.cell? ⟨gb132, 2, none⟩ = some (.int .u8 ((rd_T39 l0 x15_1).f2)) := (blk_cell BK132.out 2).trans rfl
                            have hcz25_3 : wr.cell? ⟨gb132, 3, none⟩ = some (.int .i64 ((rd_T39 l0 x15_1).f3)) := (blk_cell BK132.out 3).trans rfl
                            have hcz25_4 : wr.cell? ⟨gb132, 4, none⟩ = some (.slice A131_4 ((rd_T39 l0 x15_1).f4).length c131_4) := (blk_cell BK132.out 4).trans rfl
                            have hcz25_5 : wr.cell? ⟨gb132, 5, none⟩ = some (.slice A131_5 ((rd_T39 l0 x15_1).f5).length c131_5) := (blk_cell BK132.out 5).trans rfl
                            have hfz25_0 := blk_frozen BK132.out 0
                            have hfz25_1 := blk_frozen BK132.out 1
                            have hfz25_2 := blk_frozen BK132.out 2
                            have hfz25_3 := blk_frozen BK132.out 3
                            have hfz25_4 := blk_frozen BK132.out 4
                            have hfz25_5 := blk_frozen BK132.out 5
                            go_wp2
                            go_roundg k2
                            case measure => have := HK1.out; have := HK2.out; omega
                            case rel => exact ⟨(x5_2), (wrap64 (x21_2 + 1)), (by first | rfl | (simp; done) | (simp [*]; done)), H', ⟨by have := HK1.out; have := HK2.out; omega⟩, ⟨by (with_reducible repeat (first | apply Kd.R_alloc | apply Kd.R_drewN | apply Kd.R_drew)); exact HO_5.out⟩, ⟨by (with_reducible repeat (first | refine blk_drewN ?_ _ | refine blk_drew ?_ | refine blk_alloc ?_ _)); exact BK132.out⟩, ⟨by repeat (first | (with_reducible first | exact HB.out | apply below_alloc | apply pw_below_drewN | apply below_drew1 | refine below_set ?_ GE132.out) | exact HB.out)⟩⟩
                        · rw [if_neg c14] at H
                          exact absurd H (by simp)
                      · rw [if_neg c13] at H
                        exact absurd H (by simp)
                    · rw [if_neg c12] at H
                      have c12b0 : decide (x21_2 < (l1.length : Int)) = false := decide_eq_false c12
                      clear c12
                      have H' := Aside0.mk H
                      clear H
                      go_wp2
                      go_roundg k2
                      case measure => have := HK1.out; have := HK2.out; omega
                      case rel => exact ⟨(x5_2), (wrap64 (x15_1 + 1)), (by first | rfl | (simp; done) | (simp [*]; done)), H', ⟨by have := HK1.out; have := HK2.out; omega⟩, ⟨by (with_reducible repeat (first | apply Kd.R_alloc | apply Kd.R_drewN | apply Kd.R_drew)); exact HO_5.out⟩, ⟨by repeat (first | (with_reducible first | exact HB.out | apply below_alloc | apply pw_below_drewN | apply below_drew1 | refine below_set ?_ GE132.out) | exact HB.out)⟩⟩
              · rw [if_neg c9] at H
                exact absurd H (by simp)
            · rw [if_neg c8] at H
              exact absurd H (by simp)
          · rw [if_neg c7] at H
            have c7b0 : decide (x15_1 < (l0.length : Int)) = false := decide_eq_false c7
            clear c7
            obtain rfl := Option.some.inj H
            go_wp2
            go_ret
            exact ⟨_, by first | rfl | (simp [errW_none, errW_some] <;> rfl) | (simp [*, errW_none, errW_some] <;> rfl), by (with_reducible repeat (first | apply Kd.R_alloc | apply Kd.R_drewN | apply Kd.R_drew)); exact HO_5.out, by repeat (first | (with_reducible first | exact HB.out | apply below_alloc | apply pw_below_drewN | apply below_drew1) | exact HB.out)⟩
    · rw [if_neg c4] at H
      exact absurd H (by simp)
  · rw [if_neg c3] at H
    exact absurd H (by simp)

/-! ### laws_drawEvents: function 12 -/
def laws_drawEvents.l0 : Nat → List (S39) → List (S36) → Int → Int → Option ((List (S39)))
  | 0, _, _, _, _ => none
  | k + 1, x3, x6, x7, x8 => if x8 < x7 then (if 0 ≤ x8 then (if x8 < (x6.length : Int) then (if x3.length < 1759218604441 then (laws_drawEvents.l0 k (x3 ++ [(⟨(rd_T36 x6 x8).f0, (rd_T36 x6 x8).f1, (rd_T36 x6 x8).f2, (rd_T36 x6 x8).f3, (rd_T36 x6 x8).f4, (rd_T36 x6 x8).f5⟩ : S39)]) x6 x7 (wrap64 (x8 + 1))) else (none)) else (none)) else (none)) else (some x3)
def laws_drawEvents.f (k : Nat) (l0 : List (S36)) : Option ((List (S39))) := laws_drawEvents.l0 k ([] : List (S39)) l0 (l0.length : Int) 0
theorem laws_drawEvents.mono_l : ∀ k, (∀ y0 y1 y2 y3, LeO (laws_drawEvents.l0 k y0 y1 y2 y3) (laws_drawEvents.l0 (k + 1) y0 y1 y2 y3))
  | 0 => fun _ _ _ _ r h => by simp [laws_drawEvents.l0] at h
  | k + 1 => by
    have ih0 := laws_drawEvents.mono_l k
    · intro y0 y1 y2 y3
      unfold laws_drawEvents.l0
      repeat' first
      | (with_reducible exact ih0 _ _ _ _)
      | (with_reducible exact LeO.refl _)
      | (with_reducible exact LeO.none _)
      | (with_reducible refine LeO.ite ?_ ?_)
      | (with_reducible refine LeO.bind ?_ (fun _ => ?_))
      | exact ih0 _ _ _ _
      | exact LeO.none _
      | refine LeO.ite ?_ ?_
      | refine LeO.bind ?_ (fun _ => ?_)
theorem laws_drawEvents.mono : ∀ a0 k, LeO (laws_drawEvents.f k a0) (laws_drawEvents.f (k + 1) a0) := by
  intro a0 k
  have ih0 := laws_drawEvents.mono_l k
  unfold laws_drawEvents.f
  repeat' first
      | (with_reducible exact ih0 _ _ _ _)
      | (with_reducible exact LeO.refl _)
      | (with_reducible exact LeO.none _)
      | (with_reducible refine LeO.ite ?_ ?_)
      | (with_reducible refine LeO.bind ?_ (fun _ => ?_))
      | exact ih0 _ _ _ _
      | exact LeO.none _
      | refine LeO.ite ?_ ?_
      | refine LeO.bind ?_ (fun _ => ?_)
set_option maxHeartbeats 8000000 in
set_option maxRecDepth 100000 in
theorem laws_drawEvents.calls (k : Nat) (P0_ : Nat → Prop) (A0 : Option Addr) (c0 : Nat) (l0 : List (S36)) (r : List (S39)) (w : World) (hs0 : Kd.V k36 36 w w.heap.size (fun k_ => P0_ k_) (.slice A0 l0.length c0) l0) (h : laws_drawEvents.f k l0 = some r) :
    Calls Tryd.prog 12 #[.slice A0 l0.length c0] w fun e w' => ∃ v0_ : Value, e = .returned (v0_) ∧ Kd.N k39 39 w' w.heap.size (fun k_ => (P0_ k_ ∨ w.heap.size ≤ k_)) v0_ r ∧ Below w.heap.size w w' := by
  have hu36 := Tryd.underlying36
  have HO0 := Aside0.mk (show Kd.V k36 36 w w.heap.size (fun k_ => (P0_ k_ ∨ w.heap.size ≤ k_)) (.slice A0 l0.length c0) l0 from Kd.V_mono hs0 (fun k_ hk => .inl hk))
  have HB := Aside0.mk (Below.refl w.heap.size w)
  have H : (laws_drawEvents.l0 k ([] : List (S39)) l0 (l0.length : Int) 0) = some r := h
  clear h
  have H' := Aside0.mk H
  clear H
  go_enter Tryd.func12, Tryd.ntmps12
  go_wp2
  go_loopg [3, 8] k (fun kq v3 v8 w' => ∃ (x3_1 : List (S39)) (x8_1 : Int), v8 = .int .i64 x8_1 ∧ Aside0 (laws_drawEvents.l0 kq x3_1 l0 (l0.length : Int) x8_1 = some r) ∧ Aside0 (kq ≤ k) ∧ Aside0 (Kd.N k39 39 w' w.heap.size (fun k_ => (P0_ k_ ∨ w.heap.size ≤ k_)) v3 x3_1) ∧ Aside0 (Kd.V k36 36 w' w.heap.size (fun k_ => (P0_ k_ ∨ w.heap.size ≤ k_) ∧ some k_ ≠ (v3 : Value).ownBlock) (.slice A0 l0.length c0) l0) ∧ Aside0 (Below w.heap.size w w'))
  case atStart => exact ⟨(([] : List (S39))), (0), (by first | rfl | (simp; done) | (simp [*]; done)), H', ⟨Nat.le_refl _⟩, ⟨by first | exact Kd.S_nil _ _ _ _ _ | exact Kd.N_nil _ _ _ _ _ | exact Kd.V_nil _ _ _ _ _ | exact Kd.Q_nil _ _ _ _ _ | exact Kd.R_nil _ _ _ _ _⟩, ⟨by (with_reducible repeat (first | apply Kd.V_alloc | apply Kd.V_drewN | apply Kd.V_drew)); exact Kd.V_mono HO0.out (fun _ hk => ⟨hk, (by simp [Value.ownBlock])⟩)⟩, ⟨by repeat (first | (with_reducible first | exact HB.out | apply below_alloc | apply pw_below_drewN | apply below_drew1) | exact HB.out)⟩⟩
  case round =>
    clear H'
    try clear c1
    obtain ⟨x3_1, x8_1, rfl, HA, HK1, HO_3, HO_6, HB⟩ := hrel
    cases gk with
    | zero => exact absurd HA.out (by simp [laws_drawEvents.l0])
    | succ k1 =>
      have H := HA.out
      clear HA
      simp only [laws_drawEvents.l0] at H
      by_cases c2 : x8_1 < (l0.length : Int)
      · rw [if_pos c2] at H
        have c2b0 : decide (x8_1 < (l0.length : Int)) = true := decide_eq_true c2
        clear c2
        by_cases c3 : 0 ≤ x8_1
        · rw [if_pos c3] at H
          have c3b0 : decide (0 ≤ x8_1) = true := decide_eq_true c3
          clear c3
          by_cases c4 : x8_1 < (l0.length : Int)
          · rw [if_pos c4] at H
            have c4b0 : decide (x8_1 < (l0.length : Int)) = true := decide_eq_true c4
            clear c4
            by_cases c5 : x3_1.length < 1759218604441
            · rw [if_pos c5] at H
              have LMc5 := Aside0.mk c5
              clear c5
              obtain ⟨y138, hy138⟩ : ∃ y_ : List (S39), y_ = (x3_1 ++ [(⟨(rd_T36 l0 x8_1).f0, (rd_T36 l0 x8_1).f1, (rd_T36 l0 x8_1).f2, (rd_T36 l0 x8_1).f3, (rd_T36 l0 x8_1).f4, (rd_T36 l0 x8_1).f5⟩ : S39)]) := ⟨_, rfl⟩
              replace H : (laws_drawEvents.l0 k1 y138 l0 (l0.length : Int) (wrap64 (x8_1 + 1))) = some r := by first | (rw [hy138]; with_reducible exact H) | (have H2_ := (Option.bind_some _ _).symm.trans H; rw [hy138]; with_reducible exact H2_) | (have H2_ := (Option.bind_some _ _).symm.trans H; with_reducible exact H2_) | with_reducible exact H | (rw [hy138]; exact H) | exact H
              have Ny138 := Aside0.mk hy138
              clear hy138
              have H' := Aside0.mk H
              clear H
              have p136 : 0 ≤ (x8_1 : Int) := of_decide_eq_true (by first | (with_reducible assumption) | assumption)
              have q136 : x8_1 < (l0.length : Int) := of_decide_eq_true (by first | (with_reducible assumption) | assumption)
              obtain ⟨ad136, A136_4, c136_4, A136_5, c136_5, e136, hx136_0, hx136_1, hx136_2, hx136_3, hx136_4, hx136_5, hl136_4, hi136_4, hl136_5, hi136_5⟩ := at_T36 (Kd.V_reads' HO_6.out).2.2 x8_1 p136 q136
              cases e136
              obtain ⟨ce136, hce136, hMe136, hcc136⟩ := Kd.V_get HO_6.out z36 x8_1 p136 (by first | exact q136 | exact of_decide_eq_true (by first | (with_reducible assumption) | assumption) | (have e_ := (Kd.V_reads' HO_6.out).1; omega))
              obtain ⟨ua136_4, uc136_4, ua136_5, uc136_5, rfl, ul136_4, ge136_4, ul136_5, ge136_5⟩ := k36_openF hMe136
              have hv136_4 := hcc136 4 _ rfl
              rw [add_field _ _ 4 (by omega)] at hv136_4
              replace hv136_4 := Option.some.inj (hv136_4.symm.trans hx136_4)
              injection hv136_4 with hva_ hvn_ hvc_
              rw [hva_] at ge136_4
              rw [hvc_] at ul136_4
              have HL136_4 := Aside0.mk (show Kd.V (Kd.int .i64) 2 _ w.heap.size _ _ ((rd_T36 l0 x8_1).f4) from Kd.V_mk ul136_4 ge136_4)
              clear hva_ hvn_ hvc_ ge136_4 ul136_4
              have hv136_5 := hcc136 5 _ rfl
              rw [add_field _ _ 5 (by omega)] at hv136_5
              replace hv136_5 := Option.some.inj (hv136_5.symm.trans hx136_5)
              injection hv136_5 with hva_ hvn_ hvc_
              rw [hva_] at ge136_5
              rw [hvc_] at ul136_5
              have HL136_5 := Aside0.mk (show Kd.V (Kd.int .u8) 5 _ w.heap.size _ _ ((rd_T36 l0 x8_1).f5) from Kd.V_mk ul136_5 ge136_5)
              clear hva_ hvn_ hvc_ ge136_5 ul136_5
              clear hcc136 hce136
              have HR136_4 := Aside0.mk hi136_4
              have HC136_4 := Aside0.mk hl136_4
              clear hi136_4 hl136_4
              have HR136_5 := Aside0.mk hi136_5
              have HC136_5 := Aside0.mk hl136_5
              clear hi136_5 hl136_5
              replace p136 := eq_true p136
              replace q136 := eq_true q136
              go_wp2_with (first | ((with_reducible refine gate_dst (N := 5) rfl ?_); refine box_event ?hg (N := 5) ?hd (cs := #[.int .i64 0, .int .i64 0, .int .u8 0, .int .i64 0, .slice none 0 0, .slice none 0 0]) (t := 36) ?hr ?_; (case hd => rfl); (case hg => rfl); (case hr => first | (go_simp; done) | (go_simp; rfl)); intro gb137 hg w6 hbox hb; have n0_ := Aside0.mk (Kd.N_below (Kd.N_elderB (by (with_reducible repeat (first | apply Kd.N_alloc | apply Kd.N_drewN | apply Kd.N_drew)); exact HO_3.out) gb137 (Nat.le_of_eq hg.symm)) hb); have n1_ := Aside0.mk (Kd.V_below (Kd.V_elderB (by (with_reducible repeat (first | apply Kd.V_alloc | apply Kd.V_drewN | apply Kd.V_drew)); exact HO_6.out) gb137 (Nat.le_of_eq hg.symm)) hb); have n2_ := Aside0.mk (Kd.V_below (Kd.V_elderB (by (with_reducible repeat (first | apply Kd.V_alloc | apply Kd.V_drewN | apply Kd.V_drew)); exact HL136_4.out) gb137 (Nat.le_of_eq hg.symm)) hb); have n3_ := Aside0.mk (Kd.V_below (Kd.V_elderB (by (with_reducible repeat (first | apply Kd.V_alloc | apply Kd.V_drewN | apply Kd.V_drew)); exact HL136_5.out) gb137 (Nat.le_of_eq hg.symm)) hb); have n4_ := Aside0.mk (Kd.C_below (by repeat (first | (with_reducible exact HR136_4.out) | (with_reducible refine Kd.C_alloc ?_ _) | (with_reducible refine Kd.C_drewN ?_ _) | (with_reducible refine Kd.C_drew ?_) | exact HR136_4.out)) hb); have n5_ := Aside0.mk (Kd.C_below (by repeat (first | (with_reducible exact HR136_5.out) | (with_reducible refine Kd.C_alloc ?_ _) | (with_reducible refine Kd.C_drewN ?_ _) | (with_reducible refine Kd.C_drew ?_) | exact HR136_5.out)) hb); have n6_ := Aside0.mk (below_step (by repeat (first | (with_reducible first | exact HB.out | apply below_alloc | apply pw_below_drewN | apply below_drew1) | exact HB.out)) hb); have n7_ := Aside0.mk (hbox); have n8_ := Aside0.mk ((by rw [hg]; exact (below_size (by repeat (first | (with_reducible first | exact HB.out | apply below_alloc | apply pw_below_drewN | apply below_drew1) | exact HB.out))) : w.heap.size ≤ gb137)); have n9_ := Aside0.mk ((by rw [hg]; exact (below_size (by repeat (first | (with_reducible first | exact HB.out | apply below_alloc | apply pw_below_drewN | apply below_drew1) | exact HB.out))) : w.heap.size ≤ gb137)); clear HO_3; clear HO_6; clear HL136_4; clear HL136_5; clear HR136_4; clear HR136_5; clear HB; have HO_3 := n0_; have HO_6 := n1_; have HL136_4 := n2_; have HL136_5 := n3_; have HR136_4 := n4_; have HR136_5 := n5_; have HB := n6_; have BK137 := n7_; have GW137 := n8_; have GE137 := n9_; clear n0_ n1_ n2_ n3_ n4_ n5_ n6_ n7_ n8_ n9_; clear hb hbox hg; have hcz7_0 : w6.cell? ⟨gb137, 0, none⟩ = some (.int .i64 0) := (blk_cell BK137.out 0).trans rfl; have hcz7_1 : w6.cell? ⟨gb137, 1, none⟩ = some (.int .i64 0) := (blk_cell BK137.out 1).trans rfl; have hcz7_2 : w6.cell? ⟨gb137, 2, none⟩ = some (.int .u8 0) := (blk_cell BK137.out 2).trans rfl; have hcz7_3 : w6.cell? ⟨gb137, 3, none⟩ = some (.int .i64 0) := (blk_cell BK137.out 3).trans rfl; have hcz7_4 : w6.cell? ⟨gb137, 4, none⟩ = some (.slice none 0 0) := (blk_cell BK137.out 4).trans rfl; have hcz7_5 : w6.cell? ⟨gb137, 5, none⟩ = some (.slice none 0 0) := (blk_cell BK137.out 5).trans rfl; have hfz7_0 := blk_frozen BK137.out 0; have hfz7_1 := blk_frozen BK137.out 1; have hfz7_2 := blk_frozen BK137.out 2; have hfz7_3 := blk_frozen BK137.out 3; have hfz7_4 := blk_frozen BK137.out 4; have hfz7_5 := blk_frozen BK137.out 5) | ((with_reducible refine gate_store (t := 36) (p := 5) rfl ?_); refine store_event (t := 36) (p := 5) (v := ?vo_w8) (w1 := ((((((w6.setCell ⟨gb137, 0, none⟩ (.int .i64 ((rd_T36 l0 x8_1).f0))).setCell ⟨gb137, 1, none⟩ (.int .i64 ((rd_T36 l0 x8_1).f1))).setCell ⟨gb137, 2, none⟩ (.int .u8 ((rd_T36 l0 x8_1).f2))).setCell ⟨gb137, 3, none⟩ (.int .i64 ((rd_T36 l0 x8_1).f3))).setCell ⟨gb137, 4, none⟩ (.slice A136_4 ((rd_T36 l0 x8_1).f4).length c136_4)).setCell ⟨gb137, 5, none⟩ (.slice A136_5 ((rd_T36 l0 x8_1).f5).length c136_5))) ?hg ?ho ?hn ?hr ?_; (case ho => rfl); (case hg => rfl); (case hn => rfl); (case hr => first | (go_simp; done) | (go_simp; rfl)); intro w8 hw; have n0_ : Aside0 (Kd.N k39 39 w8 w.heap.size (fun k_ => (P0_ k_ ∨ w.heap.size ≤ k_) ∧ k_ ≠ gb137) u3 x3_1) := ⟨(by rw [hw]; exact (by (with_reducible repeat (first | apply Kd.N_alloc | apply Kd.N_drewN | apply Kd.N_drew)); exact Kd.N_mono (Kd.N_far (p := ⟨gb137, 5, none⟩) (Kd.N_far (p := ⟨gb137, 4, none⟩) (Kd.N_far (p := ⟨gb137, 3, none⟩) (Kd.N_far (p := ⟨gb137, 2, none⟩) (Kd.N_far (p := ⟨gb137, 1, none⟩) (Kd.N_far (p := ⟨gb137, 0, none⟩) (Kd.N_mono HO_3.out (fun k_ hk => (⟨hk, hk.2⟩ : _ ∧ k_ ≠ gb137))) (fun _ hk => hk.2) (.int .i64 ((rd_T36 l0 x8_1).f0))) (fun _ hk => hk.2) (.int .i64 ((rd_T36 l0 x8_1).f1))) (fun _ hk => hk.2) (.int .u8 ((rd_T36 l0 x8_1).f2))) (fun _ hk => hk.2) (.int .i64 ((rd_T36 l0 x8_1).f3))) (fun _ hk => hk.2) (.slice A136_4 ((rd_T36 l0 x8_1).f4).length c136_4)) (fun _ hk => hk.2) (.slice A136_5 ((rd_T36 l0 x8_1).f5).length c136_5)) (fun _ hk => ⟨hk.1.1, hk.1.2⟩)))⟩; have n1_ : Aside0 (Kd.V k36 36 w8 w.heap.size (fun k_ => (P0_ k_ ∨ w.heap.size ≤ k_) ∧ some k_ ≠ (u3 : Value).ownBlock ∧ k_ ≠ gb137) (.slice (some ad136) l0.length c0) l0) := ⟨(by rw [hw]; exact (by (with_reducible repeat (first | apply Kd.V_alloc | apply Kd.V_drewN | apply Kd.V_drew)); exact Kd.V_mono (Kd.V_far (p := ⟨gb137, 5, none⟩) (Kd.V_far (p := ⟨gb137, 4, none⟩) (Kd.V_far (p := ⟨gb137, 3, none⟩) (Kd.V_far (p := ⟨gb137, 2, none⟩) (Kd.V_far (p := ⟨gb137, 1, none⟩) (Kd.V_far (p := ⟨gb137, 0, none⟩) (Kd.V_mono HO_6.out (fun k_ hk => (⟨hk, hk.2⟩ : _ ∧ k_ ≠ gb137))) (fun _ hk => hk.2) (.int .i64 ((rd_T36 l0 x8_1).f0))) (fun _ hk => hk.2) (.int .i64 ((rd_T36 l0 x8_1).f1))) (fun _ hk => hk.2) (.int .u8 ((rd_T36 l0 x8_1).f2))) (fun _ hk => hk.2) (.int .i64 ((rd_T36 l0 x8_1).f3))) (fun _ hk => hk.2) (.slice A136_4 ((rd_T36 l0 x8_1).f4).length c136_4)) (fun _ hk => hk.2) (.slice A136_5 ((rd_T36 l0 x8_1).f5).length c136_5)) (fun _ hk => ⟨hk.1.1.1, ⟨hk.1.1.2, hk.1.2⟩⟩)))⟩; have n2_ : Aside0 (Kd.V (Kd.int .i64) 2 w8 w.heap.size (fun k_ => (P0_ k_ ∨ w.heap.size ≤ k_) ∧ some k_ ≠ (u3 : Value).ownBlock ∧ k_ ≠ gb137) (.slice A136_4 ((rd_T36 l0 x8_1).f4).length c136_4) ((rd_T36 l0 x8_1).f4)) := ⟨(by rw [hw]; exact (by (with_reducible repeat (first | apply Kd.V_alloc | apply Kd.V_drewN | apply Kd.V_drew)); exact Kd.V_mono (Kd.V_far (p := ⟨gb137, 5, none⟩) (Kd.V_far (p := ⟨gb137, 4, none⟩) (Kd.V_far (p := ⟨gb137, 3, none⟩) (Kd.V_far (p := ⟨gb137, 2, none⟩) (Kd.V_far (p := ⟨gb137, 1, none⟩) (Kd.V_far (p := ⟨gb137, 0, none⟩) (Kd.V_mono HL136_4.out (fun k_ hk => (⟨hk, hk.2⟩ : _ ∧ k_ ≠ gb137))) (fun _ hk => hk.2) (.int .i64 ((rd_T36 l0 x8_1).f0))) (fun _ hk => hk.2) (.int .i64 ((rd_T36 l0 x8_1).f1))) (fun _ hk => hk.2) (.int .u8 ((rd_T36 l0 x8_1).f2))) (fun _ hk => hk.2) (.int .i64 ((rd_T36 l0 x8_1).f3))) (fun _ hk => hk.2) (.slice A136_4 ((rd_T36 l0 x8_1).f4).length c136_4)) (fun _ hk => hk.2) (.slice A136_5 ((rd_T36 l0 x8_1).f5).length c136_5)) (fun _ hk => ⟨hk.1.1.1, ⟨hk.1.1.2, hk.1.2⟩⟩)))⟩; have n3_ : Aside0 (Kd.V (Kd.int .u8) 5 w8 w.heap.size (fun k_ => (P0_ k_ ∨ w.heap.size ≤ k_) ∧ some k_ ≠ (u3 : Value).ownBlock ∧ k_ ≠ gb137) (.slice A136_5 ((rd_T36 l0 x8_1).f5).length c136_5) ((rd_T36 l0 x8_1).f5)) := ⟨(by rw [hw]; exact (by (with_reducible repeat (first | apply Kd.V_alloc | apply Kd.V_drewN | apply Kd.V_drew)); exact Kd.V_mono (Kd.V_far (p := ⟨gb137, 5, none⟩) (Kd.V_far (p := ⟨gb137, 4, none⟩) (Kd.V_far (p := ⟨gb137, 3, none⟩) (Kd.V_far (p := ⟨gb137, 2, none⟩) (Kd.V_far (p := ⟨gb137, 1, none⟩) (Kd.V_far (p := ⟨gb137, 0, none⟩) (Kd.V_mono HL136_5.out (fun k_ hk => (⟨hk, hk.2⟩ : _ ∧ k_ ≠ gb137))) (fun _ hk => hk.2) (.int .i64 ((rd_T36 l0 x8_1).f0))) (fun _ hk => hk.2) (.int .i64 ((rd_T36 l0 x8_1).f1))) (fun _ hk => hk.2) (.int .u8 ((rd_T36 l0 x8_1).f2))) (fun _ hk => hk.2) (.int .i64 ((rd_T36 l0 x8_1).f3))) (fun _ hk => hk.2) (.slice A136_4 ((rd_T36 l0 x8_1).f4).length c136_4)) (fun _ hk => hk.2) (.slice A136_5 ((rd_T36 l0 x8_1).f5).length c136_5)) (fun _ hk => ⟨hk.1.1.1, ⟨hk.1.1.2, hk.1.2⟩⟩)))⟩; have n4_ : Aside0 (w8.heap[gb137]? = some (.cells #[.int .i64 ((rd_T36 l0 x8_1).f0), .int .i64 ((rd_T36 l0 x8_1).f1), .int .u8 ((rd_T36 l0 x8_1).f2), .int .i64 ((rd_T36 l0 x8_1).f3), .slice A136_4 ((rd_T36 l0 x8_1).f4).length c136_4, .slice A136_5 ((rd_T36 l0 x8_1).f5).length c136_5] 36 (0, 0))) := ⟨(by rw [hw]; exact (by (with_reducible repeat (first | refine blk_drewN ?_ _ | refine blk_drew ?_ | refine blk_alloc ?_ _)); refine blk_put (cs := #[.int .i64 ((rd_T36 l0 x8_1).f0), .int .i64 ((rd_T36 l0 x8_1).f1), .int .u8 ((rd_T36 l0 x8_1).f2), .int .i64 ((rd_T36 l0 x8_1).f3), .slice A136_4 ((rd_T36 l0 x8_1).f4).length c136_4, .slice none 0 0]) ?_ 5 _ rfl; (with_reducible repeat (first | refine blk_drewN ?_ _ | refine blk_drew ?_ | refine blk_alloc ?_ _)); refine blk_put (cs := #[.int .i64 ((rd_T36 l0 x8_1).f0), .int .i64 ((rd_T36 l0 x8_1).f1), .int .u8 ((rd_T36 l0 x8_1).f2), .int .i64 ((rd_T36 l0 x8_1).f3), .slice none 0 0, .slice none 0 0]) ?_ 4 _ rfl; (with_reducible repeat (first | refine blk_drewN ?_ _ | refine blk_drew ?_ | refine blk_alloc ?_ _)); refine blk_put (cs := #[.int .i64 ((rd_T36 l0 x8_1).f0), .int .i64 ((rd_T36 l0 x8_1).f1), .int .u8 ((rd_T36 l0 x8_1).f2), .int .i64 0, .slice none 0 0, .slice none 0 0]) ?_ 3 _ rfl; (with_reducible repeat (first | refine blk_drewN ?_ _ | refine blk_drew ?_ | refine blk_alloc ?_ _)); refine blk_put (cs := #[.int .i64 ((rd_T36 l0 x8_1).f0), .int .i64 ((rd_T36 l0 x8_1).f1), .int .u8 0, .int .i64 0, .slice none 0 0, .slice none 0 0]) ?_ 2 _ rfl; (with_reducible repeat (first | refine blk_drewN ?_ _ | refine blk_drew ?_ | refine blk_alloc ?_ _)); refine blk_put (cs := #[.int .i64 ((rd_T36 l0 x8_1).f0), .int .i64 0, .int .u8 0, .int .i64 0, .slice none 0 0, .slice none 0 0]) ?_ 1 _ rfl; (with_reducible repeat (first | refine blk_drewN ?_ _ | refine blk_drew ?_ | refine blk_alloc ?_ _)); refine blk_put (cs := #[.int .i64 0, .int .i64 0, .int .u8 0, .int .i64 0, .slice none 0 0, .slice none 0 0]) ?_ 0 _ rfl; (with_reducible repeat (first | refine blk_drewN ?_ _ | refine blk_drew ?_ | refine blk_alloc ?_ _)); exact BK137.out))⟩; have n5_ : Aside0 (Below w.heap.size w w8) := ⟨(by rw [hw]; exact (by repeat (first | (with_reducible first | exact HB.out | apply below_alloc | apply pw_below_drewN | apply below_drew1 | refine below_set ?_ GE137.out) | exact HB.out)))⟩; clear hw; clear HO_3; clear HO_6; clear HL136_4; clear HL136_5; clear BK137; clear HB; have HO_3 := n0_; have HO_6 := n1_; have HL136_4 := n2_; have HL136_5 := n3_; have BK137 := n4_; have HB := n5_; clear n0_ n1_ n2_ n3_ n4_ n5_; have hcz9_0 : w8.cell? ⟨gb137, 0, none⟩ = some (.int .i64 ((rd_T36 l0 x8_1).f0)) := (blk_cell BK137.out 0).trans rfl; have hcz9_1 : w8.cell? ⟨gb137, 1, none⟩ = some (.int .i64 ((rd_T36 l0 x8_1).f1)) := (blk_cell BK137.out 1).trans rfl; have hcz9_2 : w8.cell? ⟨gb137, 2, none⟩ = some (.int .u8 ((rd_T36 l0 x8_1).f2)) := (blk_cell BK137.out 2).trans rfl; have hcz9_3 : w8.cell? ⟨gb137, 3, none⟩ = some (.int .i64 ((rd_T36 l0 x8_1).f3)) := (blk_cell BK137.out 3).trans rfl; have hcz9_4 : w8.cell? ⟨gb137, 4, none⟩ = some (.slice A136_4 ((rd_T36 l0 x8_1).f4).length c136_4) := (blk_cell BK137.out 4).trans rfl; have hcz9_5 : w8.cell? ⟨gb137, 5, none⟩ = some (.slice A136_5 ((rd_T36 l0 x8_1).f5).length c136_5) := (blk_cell BK137.out 5).trans rfl; have hfz9_0 := blk_frozen BK137.out 0; have hfz9_1 := blk_frozen BK137.out 1; have hfz9_2 := blk_frozen BK137.out 2; have hfz9_3 := blk_frozen BK137.out 3; have hfz9_4 := blk_frozen BK137.out 4; have hfz9_5 := blk_frozen BK137.out 5) | ((with_reducible refine gate_builtin (b := .append) (xs := #[.tmp 12, .tmp 14]) rfl ?_); at_builtin; refine Kd.N_append k39 (w0 := w) w.heap.size rfl (.tmp 12) (.tmp 14) 28 39 (.agg #[(.int .i64 0), (.int .i64 0), (.int .u8 0), (.int .i64 0), (.slice none 0 0), (.slice none 0 0)]) 80 rfl Tryd.underlying28 info39 rfl (by decide) (by omega) u3 x3_1 (⟨(rd_T36 l0 x8_1).f0, (rd_T36 l0 x8_1).f1, (rd_T36 l0 x8_1).f2, (rd_T36 l0 x8_1).f3, (rd_T36 l0 x8_1).f4, (rd_T36 l0 x8_1).f5⟩ : S39) [.int .i64 ((rd_T36 l0 x8_1).f0), .int .i64 ((rd_T36 l0 x8_1).f1), .int .u8 ((rd_T36 l0 x8_1).f2), .int .i64 ((rd_T36 l0 x8_1).f3), .slice A136_4 ((rd_T36 l0 x8_1).f4).length c136_4, .slice A136_5 ((rd_T36 l0 x8_1).f5).length c136_5] (fun k_ => (P0_ k_ ∨ w.heap.size ≤ k_) ∧ k_ ≠ gb137) (fun k_ => ((fun k_ => (P0_ k_ ∨ w.heap.size ≤ k_) ∧ k_ ≠ gb137)) k_ ∧ some k_ ≠ (u3 : Value).ownBlock) rfl rfl ?aP (fun _ hk => hk) ?aF ?aO ?aB ?aS ?aL ?_; (case aP => exact (k39_mkF _ _ (⟨(rd_T36 l0 x8_1).f0, (rd_T36 l0 x8_1).f1, (rd_T36 l0 x8_1).f2, (rd_T36 l0 x8_1).f3, (rd_T36 l0 x8_1).f4, (rd_T36 l0 x8_1).f5⟩ : S39) (Kd.V_reads' (Kd.V_mono (ok' := (fun k_ => ((fun k_ => (P0_ k_ ∨ w.heap.size ≤ k_) ∧ k_ ≠ gb137)) k_ ∧ some k_ ≠ (u3 : Value).ownBlock)) (HL136_4.out) (fun k_ hk => ⟨⟨hk.1, hk.2.2⟩, hk.2.1⟩))).2.1 (Kd.V_F (Kd.V_mono (ok' := (fun k_ => ((fun k_ => (P0_ k_ ∨ w.heap.size ≤ k_) ∧ k_ ≠ gb137)) k_ ∧ some k_ ≠ (u3 : Value).ownBlock)) (HL136_4.out) (fun k_ hk => ⟨⟨hk.1, hk.2.2⟩, hk.2.1⟩))) (Kd.V_reads' (Kd.V_mono (ok' := (fun k_ => ((fun k_ => (P0_ k_ ∨ w.heap.size ≤ k_) ∧ k_ ≠ gb137)) k_ ∧ some k_ ≠ (u3 : Value).ownBlock)) (HL136_5.out) (fun k_ hk => ⟨⟨hk.1, hk.2.2⟩, hk.2.1⟩))).2.1 (Kd.V_F (Kd.V_mono (ok' := (fun k_ => ((fun k_ => (P0_ k_ ∨ w.heap.size ≤ k_) ∧ k_ ≠ gb137)) k_ ∧ some k_ ≠ (u3 : Value).ownBlock)) (HL136_5.out) (fun k_ hk => ⟨⟨hk.1, hk.2.2⟩, hk.2.1⟩))))); (case aB => exact (by repeat (first | (with_reducible first | exact HB.out | apply below_alloc | apply pw_below_drewN | apply below_drew1 | refine below_set ?_ GE137.out) | exact HB.out))); (case aF => exact (fun k_ hk => ⟨(.inr (Nat.le_trans (below_size (by repeat (first | (with_reducible first | exact HB.out | apply below_alloc | apply pw_below_drewN | apply below_drew1 | refine below_set ?_ GE137.out) | exact HB.out))) hk)), Kd.freshB (g := gb137) (o := .cells #[.int .i64 ((rd_T36 l0 x8_1).f0), .int .i64 ((rd_T36 l0 x8_1).f1), .int .u8 ((rd_T36 l0 x8_1).f2), .int .i64 ((rd_T36 l0 x8_1).f3), .slice A136_4 ((rd_T36 l0 x8_1).f4).length c136_4, .slice A136_5 ((rd_T36 l0 x8_1).f5).length c136_5] 36 (0, 0)) (by (with_reducible repeat (first | refine blk_drewN ?_ _ | refine blk_drew ?_ | refine blk_alloc ?_ _)); exact BK137.out) k_ hk⟩)); (case aO => exact (by (with_reducible repeat (first | apply Kd.N_alloc | apply Kd.N_drewN | apply Kd.N_drew)); exact HO_3.out)); (case aS => exact (below_size (by repeat (first | (with_reducible first | exact HB.out | apply below_alloc | apply pw_below_drewN | apply below_drew1 | refine below_set ?_ GE137.out) | exact HB.out)))); (case aL => have := LMc5.out; omega); intro v139 w10 ho hb hg hat; rw [← Ny138.out] at ho; have n0_ := Aside0.mk (Kd.V_afterv (ok := (fun k_ => (P0_ k_ ∨ w.heap.size ≤ k_) ∧ k_ ≠ gb137)) (by (with_reducible repeat (first | apply Kd.V_alloc | apply Kd.V_drewN | apply Kd.V_drew)); exact Kd.V_mono HO_6.out (fun _ hk => ⟨⟨hk.1, hk.2.2⟩, hk.2.1⟩)) hg hat); have n1_ := Aside0.mk (Kd.V_afterv (ok := (fun k_ => (P0_ k_ ∨ w.heap.size ≤ k_) ∧ k_ ≠ gb137)) (by (with_reducible repeat (first | apply Kd.V_alloc | apply Kd.V_drewN | apply Kd.V_drew)); exact Kd.V_mono HL136_4.out (fun _ hk => ⟨⟨hk.1, hk.2.2⟩, hk.2.1⟩)) hg hat); have n2_ := Aside0.mk (Kd.V_afterv (ok := (fun k_ => (P0_ k_ ∨ w.heap.size ≤ k_) ∧ k_ ≠ gb137)) (by (with_reducible repeat (first | apply Kd.V_alloc | apply Kd.V_drewN | apply Kd.V_drew)); exact Kd.V_mono HL136_5.out (fun _ hk => ⟨⟨hk.1, hk.2.2⟩, hk.2.1⟩)) hg hat); have n3_ := Aside0.mk (blk_grown (g := gb137) (o := .cells #[.int .i64 ((rd_T36 l0 x8_1).f0), .int .i64 ((rd_T36 l0 x8_1).f1), .int .u8 ((rd_T36 l0 x8_1).f2), .int .i64 ((rd_T36 l0 x8_1).f3), .slice A136_4 ((rd_T36 l0 x8_1).f4).length c136_4, .slice A136_5 ((rd_T36 l0 x8_1).f5).length c136_5] 36 (0, 0)) (by (with_reducible repeat (first | refine blk_drewN ?_ _ | refine blk_drew ?_ | refine blk_alloc ?_ _)); exact BK137.out) hg (Kd.N_ne HO_3.out BK137.out (by decide))); have n4_ := Aside0.mk (hb); have n5_ := Aside0.mk (ho); clear HO_6; clear HL136_4; clear HL136_5; clear BK137; clear HB; clear HO_3; have HO_6 := n0_; have HL136_4 := n1_; have HL136_5 := n2_; have BK137 := n3_; have HB := n4_; have HO140 := n5_; clear n0_ n1_ n2_ n3_ n4_ n5_; clear ho hb hg hat))
              go_roundg k1
              case measure => have := HK1.out; omega
              case rel => exact ⟨(y138), (wrap64 (x8_1 + 1)), (by first | rfl | (simp; done) | (simp [*]; done)), H', ⟨by have := HK1.out; omega⟩, ⟨by (with_reducible repeat (first | apply Kd.N_alloc | apply Kd.N_drewN | apply Kd.N_drew)); exact Kd.N_mono HO140.out (fun _ hk => hk.1)⟩, ⟨by (with_reducible repeat (first | apply Kd.V_alloc | apply Kd.V_drewN | apply Kd.V_drew)); exact Kd.V_mono HO_6.out (fun _ hk => ⟨hk.1.1, hk.2⟩)⟩, ⟨by repeat (first | (with_reducible first | exact HB.out | apply below_alloc | apply pw_below_drewN | apply below_drew1 | refine below_set ?_ GE137.out) | exact HB.out)⟩⟩
            · rw [if_neg c5] at H
              exact absurd H (by simp)
          · rw [if_neg c4] at H
            exact absurd H (by simp)
        · rw [if_neg c3] at H
          exact absurd H (by simp)
      · rw [if_neg c2] at H
        have c2b0 : decide (x8_1 < (l0.length : Int)) = false := decide_eq_false c2
        clear c2
        obtain rfl := Option.some.inj H
        go_wp2
        go_ret
        exact ⟨_, by first | rfl | (simp [errW_none, errW_some] <;> rfl) | (simp [*, errW_none, errW_some] <;> rfl), by (with_reducible repeat (first | apply Kd.N_alloc | apply Kd.N_drewN | apply Kd.N_drew)); exact HO_3.out, by repeat (first | (with_reducible first | exact HB.out | apply below_alloc | apply pw_below_drewN | apply below_drew1) | exact HB.out)⟩

end Go.Proofs.YtgcbnegdchladaaDoor.Y
