-- Written by a program of this session (wip/tool/xprint.py, round the kit's print.py). Lean checks it.
import Derived.Test.YtgcbnegdchladaaDoorCY0
import Derived.Test.YtgcbnegdchladaaDoorCY1
import Derived.Test.YtgcbnegdchladaaDoorCY2
import Derived.Test.YtgcbnegdchladaaDoorCEngD
namespace Go.Proofs.YtgcbnegdchladaaDoor.Y
open Go.RowKit Go.Proofs.YtgcbnegdchladaaDoorW.PrintWords Go.Proofs.YtgcbnegdchladaaDoorW.PrintLast Go.Proofs.YtgcbnegdchladaaDoorW.PrintMore
attribute [local go_sem] max2_int min2_int max_two min_two max_three min_three max_four min_four   -- for this text's walks alone
set_option linter.unusedVariables false
set_option linter.unusedSimpArgs false

/-! ### laws_FnDrawProgress: function 3 -/
mutual
def laws_FnDrawProgress.j0 : Nat → List Int → Bool → Option (Bool)
  | 0, _, _ => none
  | k + 1, x0, x17 => if x17 = true then ((laws_drawAwake.f).bind fun t141 => (some t141)) else (laws_FnDrawProgress.l0 k (⟨#[]⟩ : ByteArray) (⟨#[]⟩ : ByteArray) x0 (x0.length : Int) 0)
def laws_FnDrawProgress.l0 : Nat → ByteArray → ByteArray → List Int → Int → Int → Option (Bool)
  | 0, _, _, _, _, _ => none
  | k + 1, x3, x4, x19, x20, x21 => if x21 < x20 then (if 0 ≤ x21 then (if x21 < (x19.length : Int) then (if (rd x19 x21) < 0 then (laws_FnDrawProgress.j2 k x3 x21 (rd x19 x21) x19 x20 x21 true) else (laws_FnDrawProgress.j2 k x3 x21 (rd x19 x21) x19 x20 x21 (decide ((rd x19 x21) > 100)))) else (none)) else (none)) else ((gosem_conv.f x3).bind fun t150 => ((impl_Feed.f 32 4096 t150).bind fun t153 => ((laws_drawEvents.f k t153).bind fun t156 => ((spec_DrawTold.f k t156 (([9] : List Int))).bind fun t162 => (if 0 < (t162.length : Int) then (if (rdOf ByteArray.empty t162 0).toList = x4.toList then ((laws_drawAwake.f).bind fun t166 => (some t166)) else (some false)) else (none))))))
def laws_FnDrawProgress.j2 : Nat → ByteArray → Int → Int → List Int → Int → Int → Bool → Option (Bool)
  | 0, _, _, _, _, _, _, _ => none
  | k + 1, x3, x5, x6, x19, x20, x21, x31 => if x31 = true then ((laws_drawAwake.f).bind fun t143 => (some t143)) else ((impl_MakeNumber.f (wrap64 (31 + (Int.tmod x5 3))) x6).bind fun t144 => (if x3.size + t144.size ≤ 9223372036854775807 then ((some (([(⟨#[49]⟩ : ByteArray), (⟨#[50]⟩ : ByteArray), (⟨#[52]⟩ : ByteArray)] : List ByteArray) : List ByteArray)).bind fun y145 => (if 0 ≤ (Int.tmod x5 3) then (if (Int.tmod x5 3) < (y145.length : Int) then (if 2 + (rdOf ByteArray.empty y145 (Int.tmod x5 3)).size ≤ 9223372036854775807 then (if 2 + (rdOf ByteArray.empty y145 (Int.tmod x5 3)).size + 1 ≤ 9223372036854775807 then ((spec_Digits.f k x6).bind fun t149 => (if 2 + (rdOf ByteArray.empty y145 (Int.tmod x5 3)).size + 1 + t149.size ≤ 9223372036854775807 then (laws_FnDrawProgress.l0 k (x3 ++ t144) ((((⟨#[52, 59]⟩ : ByteArray) ++ (rdOf ByteArray.empty y145 (Int.tmod x5 3))) ++ (⟨#[59]⟩ : ByteArray)) ++ t149) x19 x20 (wrap64 (x21 + 1))) else (none))) else (none)) else (none)) else (none)) else (none))) else (none)))
end
def laws_FnDrawProgress.f (k : Nat) (l0 : List Int) : Option (Bool) := if (l0.length : Int) > 2147483647 then (some true) else (if (l0.length : Int) < 1 then (laws_FnDrawProgress.j0 k l0 true) else (laws_FnDrawProgress.j0 k l0 (decide ((l0.length : Int) > 6))))
theorem laws_FnDrawProgress.mono_l : ∀ k, (∀ y0 y1, LeO (laws_FnDrawProgress.j0 k y0 y1) (laws_FnDrawProgress.j0 (k + 1) y0 y1)) ∧ (∀ y0 y1 y2 y3 y4, LeO (laws_FnDrawProgress.l0 k y0 y1 y2 y3 y4) (laws_FnDrawProgress.l0 (k + 1) y0 y1 y2 y3 y4)) ∧ (∀ y0 y1 y2 y3 y4 y5 y6, LeO (laws_FnDrawProgress.j2 k y0 y1 y2 y3 y4 y5 y6) (laws_FnDrawProgress.j2 (k + 1) y0 y1 y2 y3 y4 y5 y6))
  | 0 => ⟨fun _ _ r h => by simp [laws_FnDrawProgress.j0] at h, fun _ _ _ _ _ r h => by simp [laws_FnDrawProgress.l0] at h, fun _ _ _ _ _ _ _ r h => by simp [laws_FnDrawProgress.j2] at h⟩
  | k + 1 => by
    obtain ⟨ih0, ih1, ih2⟩ := laws_FnDrawProgress.mono_l k
    refine ⟨?_, ?_, ?_⟩
    · intro y0 y1
      unfold laws_FnDrawProgress.j0
      repeat' first
      | (with_reducible exact ih0 _ _)
      | (with_reducible exact ih1 _ _ _ _ _)
      | (with_reducible exact ih2 _ _ _ _ _ _ _)
      | (with_reducible exact laws_drawEvents.mono _ _)
      | (with_reducible exact spec_Digits.mono _ _)
      | (with_reducible exact spec_DrawTold.mono _ _ _)
      | (with_reducible exact LeO.refl _)
      | (with_reducible exact LeO.none _)
      | (with_reducible refine LeO.ite ?_ ?_)
      | (with_reducible refine LeO.bind ?_ (fun _ => ?_))
      | exact ih0 _ _
      | exact ih1 _ _ _ _ _
      | exact ih2 _ _ _ _ _ _ _
      | exact laws_drawEvents.mono _ _
      | exact spec_Digits.mono _ _
      | exact spec_DrawTold.mono _ _ _
      | exact LeO.none _
      | refine LeO.ite ?_ ?_
      | refine LeO.bind ?_ (fun _ => ?_)
    · intro y0 y1 y2 y3 y4
      unfold laws_FnDrawProgress.l0
      repeat' first
      | (with_reducible exact ih0 _ _)
      | (with_reducible exact ih1 _ _ _ _ _)
      | (with_reducible exact ih2 _ _ _ _ _ _ _)
      | (with_reducible exact laws_drawEvents.mono _ _)
      | (with_reducible exact spec_Digits.mono _ _)
      | (with_reducible exact spec_DrawTold.mono _ _ _)
      | (with_reducible exact LeO.refl _)
      | (with_reducible exact LeO.none _)
      | (with_reducible refine LeO.ite ?_ ?_)
      | (with_reducible refine LeO.bind ?_ (fun _ => ?_))
      | exact ih0 _ _
      | exact ih1 _ _ _ _ _
      | exact ih2 _ _ _ _ _ _ _
      | exact laws_drawEvents.mono _ _
      | exact spec_Digits.mono _ _
      | exact spec_DrawTold.mono _ _ _
      | exact LeO.none _
      | refine LeO.ite ?_ ?_
      | refine LeO.bind ?_ (fun _ => ?_)
    · intro y0 y1 y2 y3 y4 y5 y6
      unfold laws_FnDrawProgress.j2
      repeat' first
      | (with_reducible exact ih0 _ _)
      | (with_reducible exact ih1 _ _ _ _ _)
      | (with_reducible exact ih2 _ _ _ _ _ _ _)
      | (with_reducible exact laws_drawEvents.mono _ _)
      | (with_reducible exact spec_Digits.mono _ _)
      | (with_reducible exact spec_DrawTold.mono _ _ _)
      | (with_reducible exact LeO.refl _)
      | (with_reducible exact LeO.none _)
      | (with_reducible refine LeO.ite ?_ ?_)
      | (with_reducible refine LeO.bind ?_ (fun _ => ?_))
      | exact ih0 _ _
      | exact ih1 _ _ _ _ _
      | exact ih2 _ _ _ _ _ _ _
      | exact laws_drawEvents.mono _ _
      | exact spec_Digits.mono _ _
      | exact spec_DrawTold.mono _ _ _
      | exact LeO.none _
      | refine LeO.ite ?_ ?_
      | refine LeO.bind ?_ (fun _ => ?_)
theorem laws_FnDrawProgress.mono : ∀ a0 k, LeO (laws_FnDrawProgress.f k a0) (laws_FnDrawProgress.f (k + 1) a0) := by
  intro a0 k
  obtain ⟨ih0, ih1, ih2⟩ := laws_FnDrawProgress.mono_l k
  unfold laws_FnDrawProgress.f
  repeat' first
      | (with_reducible exact ih0 _ _)
      | (with_reducible exact ih1 _ _ _ _ _)
      | (with_reducible exact ih2 _ _ _ _ _ _ _)
      | (with_reducible exact laws_drawEvents.mono _ _)
      | (with_reducible exact spec_Digits.mono _ _)
      | (with_reducible exact spec_DrawTold.mono _ _ _)
      | (with_reducible exact LeO.refl _)
      | (with_reducible exact LeO.none _)
      | (with_reducible refine LeO.ite ?_ ?_)
      | (with_reducible refine LeO.bind ?_ (fun _ => ?_))
      | exact ih0 _ _
      | exact ih1 _ _ _ _ _
      | exact ih2 _ _ _ _ _ _ _
      | exact laws_drawEvents.mono _ _
      | exact spec_Digits.mono _ _
      | exact spec_DrawTold.mono _ _ _
      | exact LeO.none _
      | refine LeO.ite ?_ ?_
      | refine LeO.bind ?_ (fun _ => ?_)
def laws_FnDrawProgress.T12 : Bool × List (List Nat × List Nat) := (true, [([], []), ([], []), ([1], [1]), ([0, 2], [0, 2]), ([3], [3]), ([4], [4]), ([5], [5]), ([], []), ([7], [7]), ([6, 8], [6, 8]), ([9, 8, 0, 1, 2, 3, 4, 5, 6, 7, 8, 9], [9])])
def laws_FnDrawProgress.B12 : List Nat := [0, 0, 2, 7, 15, 31, 63, 0, 128, 511, 1023]
theorem laws_FnDrawProgress.tab12 : rtab .any (opsOf Tryd.f3 12) = laws_FnDrawProgress.T12 := by kernel_rfl
theorem laws_FnDrawProgress.bits12 : waitsOk laws_FnDrawProgress.T12.2 laws_FnDrawProgress.B12 = true := by kernel_rfl
set_option maxHeartbeats 8000000 in
set_option maxRecDepth 100000 in
theorem laws_FnDrawProgress.calls (k : Nat) (A0 : Option Addr) (c0 : Nat) (l0 : List Int) (r : Bool) (w : World) (hT : XTab w) (hr0 : Kd.C (Kd.int .i64) w A0 l0.length l0) (hc0 : l0.length ≤ c0) (h : laws_FnDrawProgress.f k l0 = some r) :
    Calls Tryd.prog 3 #[.slice A0 l0.length c0] w fun e w' => e = .returned (.bool r) ∧ Below w.heap.size w w' := by
  have HT := Aside0.mk hT
  clear hT
  have HR0 := Aside0.mk hr0
  have HC0 := Aside0.mk hc0
  clear hr0 hc0
  have HB := Aside0.mk (Below.refl w.heap.size w)
  have H : (if (l0.length : Int) > 2147483647 then (some true) else (if (l0.length : Int) < 1 then (laws_FnDrawProgress.j0 k l0 true) else (laws_FnDrawProgress.j0 k l0 (decide ((l0.length : Int) > 6))))) = some r := h
  clear h
  by_cases c2 : (l0.length : Int) > 2147483647
  · rw [if_pos c2] at H
    have c2b0 : decide (2147483647 < (l0.length : Int)) = true := decide_eq_true c2
    have c2b1 : decide (2147483647 < l0.length) = true := decide_eq_true (by omega)
    clear c2
    obtain rfl := Option.some.inj H
    go_enter Tryd.func3, Tryd.ntmps3
    go_wp2
    go_ret
    exact ⟨by first | rfl | (simp [errW_none, errW_some] <;> rfl) | (simp [*, errW_none, errW_some] <;> rfl), by repeat (first | (with_reducible first | exact HB.out | apply below_alloc | apply pw_below_drewN | apply below_drew1) | exact HB.out)⟩
  · rw [if_neg c2] at H
    have c2b0 : decide (2147483647 < (l0.length : Int)) = false := decide_eq_false c2
    have c2b1 : decide (2147483647 < l0.length) = false := decide_eq_false (by omega)
    clear c2
    have HC3 := Aside0.mk H
    clear H
    go_enter Tryd.func3, Tryd.ntmps3
    go_upto_region 3 with (fail)
    go_cut [17] (fun v17 wc => ∃ (kq : Nat) (x17_2 : Bool), v17 = .bool x17_2 ∧ Aside0 (laws_FnDrawProgress.j0 kq l0 x17_2 = some r) ∧ Aside0 (kq ≤ k) ∧ Aside0 (Below w.heap.size w wc))
    case first =>
      have H := HC3.out
      clear HC3
      by_cases c4 : (l0.length : Int) < 1
      · rw [if_pos c4] at H
        have c4b0 : decide ((l0.length : Int) < 1) = true := decide_eq_true c4
        have c4b1 : decide (l0.length < 1) = true := decide_eq_true (by omega)
        clear c4
        (first | rw [c4b0] | (simp only [i64_w, i32_w]; rw [c4b0]) | skip)
        have H' := Aside0.mk H
        clear H
        go_wp2
        go_meet
        case rel => exact ⟨_, (true), (by first | rfl | (simp; done) | (simp [*]; done)), H', ⟨by first | omega | exact Nat.le_refl _⟩, ⟨by repeat (first | (with_reducible first | exact HB.out | apply below_alloc | apply pw_below_drewN | apply below_drew1) | exact HB.out)⟩⟩
      · rw [if_neg c4] at H
        have c4b0 : decide ((l0.length : Int) < 1) = false := decide_eq_false c4
        have c4b1 : decide (l0.length < 1) = false := decide_eq_false (by omega)
        clear c4
        (first | rw [c4b0] | (simp only [i64_w, i32_w]; rw [c4b0]) | skip)
        have H' := Aside0.mk H
        clear H
        go_wp2
        go_meet
        case rel => exact ⟨_, (decide ((l0.length : Int) > 6)), (by first | rfl | (simp; done) | (simp [*]; done)), H', ⟨by first | omega | exact Nat.le_refl _⟩, ⟨by repeat (first | (with_reducible first | exact HB.out | apply below_alloc | apply pw_below_drewN | apply below_drew1) | exact HB.out)⟩⟩
    case rest =>
      clear HC3
      try clear c2
      try clear c2b0
      try clear c2b1
      try clear p2
      try clear c3
      try clear c4
      try clear c4b0
      try clear c4b1
      obtain ⟨kq, x17_2, rfl, HA, HJ2, HB⟩ := hcut
      cases kq with
      | zero => exact absurd HA.out (by simp [laws_FnDrawProgress.j0])
      | succ kj2 =>
        have H := HA.out
        clear HA
        simp only [laws_FnDrawProgress.j0] at H
        by_cases c5 : x17_2 = true
        · subst c5
          have H1 : ((laws_drawAwake.f).bind fun t141 => (some t141)) = some r := by rw [if_pos rfl] at H; exact H
          clear H
          have H := H1
          clear H1
          replace H := Option.bind_eq_some_iff.mp H
          obtain ⟨t141, A60, H⟩ := H
          replace H : (some t141) = some r := H
          have A6 := Aside0.mk A60
          clear A60
          obtain rfl := Option.some.inj H
          go_wp2_with (first | ((with_reducible refine gate_callee (f := 8) rfl ?_); refine goesL_ (some 18) rfl rfl Tryd.func8 (by kernel_rfl) rfl #[] rfl (by (try simp only [List.map_toArray, List.map_cons, List.map_nil]); first | done | rfl | (simp only [List.length_drop, List.length_take]; rfl)) ?_; (with_reducible refine (laws_drawAwake.calls  t141 _ ?side1 A6.out).mono ?_); (case side1 => exact XTab.below HT.out (by repeat (first | (with_reducible first | exact HB.out | apply below_alloc | apply pw_below_drewN | apply below_drew1) | exact HB.out))); rintro e w7 ⟨rfl, hb⟩; refine ⟨_, rfl, ?_⟩; have n0_ := Aside0.mk (below_step (by repeat (first | (with_reducible first | exact HB.out | apply below_alloc | apply pw_below_drewN | apply below_drew1) | exact HB.out)) hb); clear HB; have HB := n0_; clear n0_; (try clear hb); (try clear hb2); (try clear hk); (try clear hi)))
          go_ret
          exact ⟨by first | rfl | (simp [errW_none, errW_some] <;> rfl) | (simp [*, errW_none, errW_some] <;> rfl), by repeat (first | (with_reducible first | exact HB.out | apply below_alloc | apply pw_below_drewN | apply below_drew1) | exact HB.out)⟩
        · replace c5 := Bool.eq_false_iff.mpr c5
          subst c5
          have H1 : (laws_FnDrawProgress.l0 kj2 (⟨#[]⟩ : ByteArray) (⟨#[]⟩ : ByteArray) l0 (l0.length : Int) 0) = some r := by rw [if_neg (show ¬ (false = true) by decide)] at H; exact H
          clear H
          have H := H1
          clear H1
          have H' := Aside0.mk H
          clear H
          go_wp2
          go_loopg [3, 4, 21] kj2 (fun kq v3 v4 v21 w' => ∃ (x3_2 : ByteArray) (x4_2 : ByteArray) (x21_2 : Int), v3 = .string x3_2 ∧ v4 = .string x4_2 ∧ v21 = .int .i64 x21_2 ∧ Aside0 (laws_FnDrawProgress.l0 kq x3_2 x4_2 l0 (l0.length : Int) x21_2 = some r) ∧ Aside0 (kq ≤ kj2) ∧ Aside0 (Below w.heap.size w w'))
          case atStart => exact ⟨((⟨#[]⟩ : ByteArray)), ((⟨#[]⟩ : ByteArray)), (0), (by first | rfl | (simp; done) | (simp [*]; done)), (by first | rfl | (simp; done) | (simp [*]; done)), (by first | rfl | (simp; done) | (simp [*]; done)), H', ⟨Nat.le_refl _⟩, ⟨by repeat (first | (with_reducible first | exact HB.out | apply below_alloc | apply pw_below_drewN | apply below_drew1) | exact HB.out)⟩⟩
          case round =>
            clear H'
            try clear c2
            try clear c2b0
            try clear c2b1
            try clear p2
            try clear c3
            try clear c4
            try clear c4b0
            try clear c4b1
            try clear c5
            try clear p2
            obtain ⟨x3_2, x4_2, x21_2, rfl, rfl, rfl, HA, HK2, HB⟩ := hrel
            cases gk with
            | zero => exact absurd HA.out (by simp [laws_FnDrawProgress.l0])
            | succ k2 =>
              have H := HA.out
              clear HA
              simp only [laws_FnDrawProgress.l0] at H
              by_cases c8 : x21_2 < (l0.length : Int)
              · rw [if_pos c8] at H
                have c8b0 : decide (x21_2 < (l0.length : Int)) = true := decide_eq_true c8
                clear c8
                by_cases c9 : 0 ≤ x21_2
                · rw [if_pos c9] at H
                  have c9b0 : decide (0 ≤ x21_2) = true := decide_eq_true c9
                  clear c9
                  by_cases c10 : x21_2 < (l0.length : Int)
                  · rw [if_pos c10] at H
                    have c10b0 : decide (x21_2 < (l0.length : Int)) = true := decide_eq_true c10
                    clear c10
                    have HC11 := Aside0.mk H
                    clear H
                    have p142 : 0 ≤ (x21_2 : Int) := of_decide_eq_true (by first | (with_reducible assumption) | assumption)
                    have q142 : x21_2 < (l0.length : Int) := of_decide_eq_true (by first | (with_reducible assumption) | assumption)
                    obtain ⟨ad142, e142, hx142_0⟩ := Kd.at_int HR0.out x21_2 p142 q142
                    cases e142
                    replace hx142_0 := (HB.out.cell (World.block_lt_of_cell? w _ hx142_0)).trans hx142_0
                    replace p142 := eq_true p142
                    replace q142 := eq_true q142
                    go_upto_region 9 with (fail)
                    go_cut [31] (fun v31 wc => ∃ (kq : Nat) (x31_10 : Bool), v31 = .bool x31_10 ∧ Aside0 (laws_FnDrawProgress.j2 kq x3_2 x21_2 (rd l0 x21_2) l0 (l0.length : Int) x21_2 x31_10 = some r) ∧ Aside0 (kq ≤ k2) ∧ Aside0 (Below w.heap.size w wc))
                    case first =>
                      have H := HC11.out
                      clear HC11
                      by_cases c12 : (rd l0 x21_2) < 0
                      · rw [if_pos c12] at H
                        have c12b0 : decide ((rd l0 x21_2) < 0) = true := decide_eq_true c12
                        clear c12
                        (first | rw [c12b0] | (simp only [i64_w, i32_w]; rw [c12b0]) | skip)
                        have H' := Aside0.mk H
                        clear H
                        go_wp2
                        go_meet
                        case rel => exact ⟨_, (true), (by first | rfl | (simp; done) | (simp [*]; done)), H', ⟨by have := HJ2.out; have := HK2.out; first | omega | exact Nat.le_refl _⟩, ⟨by repeat (first | (with_reducible first | exact HB.out | apply below_alloc | apply pw_below_drewN | apply below_drew1) | exact HB.out)⟩⟩
                      · rw [if_neg c12] at H
                        have c12b0 : decide ((rd l0 x21_2) < 0) = false := decide_eq_false c12
                        clear c12
                        (first | rw [c12b0] | (simp only [i64_w, i32_w]; rw [c12b0]) | skip)
                        have H' := Aside0.mk H
                        clear H
                        go_wp2
                        go_meet
                        case rel => exact ⟨_, (decide ((rd l0 x21_2) > 100)), (by first | rfl | (simp; done) | (simp [*]; done)), H', ⟨by have := HJ2.out; have := HK2.out; first | omega | exact Nat.le_refl _⟩, ⟨by repeat (first | (with_reducible first | exact HB.out | apply below_alloc | apply pw_below_drewN | apply below_drew1) | exact HB.out)⟩⟩
                    case rest =>
                      clear HC11
                      try clear c1
                      try clear p1
                      try clear q1
                      try clear hx1
                      try clear c2
                      try clear c2b0
                      try clear c2b1
                      try clear p2
                      try clear c3
                      try clear c4
                      try clear c4b0
                      try clear c4b1
                      try clear c5
                      try clear c8
                      try clear c8b0
                      try clear c9
                      try clear c9b0
                      try clear c10
                      try clear c10b0
                      try clear c12
                      try clear c12b0
                      try clear hx142_0
                      try clear p142
                      try clear p2
                      try clear q142
                      obtain ⟨kq, x31_10, rfl, HA, HJ10, HB⟩ := hcut
                      cases kq with
                      | zero => exact absurd HA.out (by simp [laws_FnDrawProgress.j2])
                      | succ kj10 =>
                        have H := HA.out
                        clear HA
                        simp only [laws_FnDrawProgress.j2] at H
                        by_cases c13 : x31_10 = true
                        · subst c13
                          have H1 : ((laws_drawAwake.f).bind fun t143 => (some t143)) = some r := by rw [if_pos rfl] at H; exact H
                          clear H
                          have H := H1
                          clear H1
                          replace H := Option.bind_eq_some_iff.mp H
                          obtain ⟨t143, A140, H⟩ := H
                          replace H : (some t143) = some r := H
                          have A14 := Aside0.mk A140
                          clear A140
                          obtain rfl := Option.some.inj H
                          go_wp2_with (first | ((with_reducible refine gate_callee (f := 8) rfl ?_); refine goesL_ (some 32) rfl rfl Tryd.func8 (by kernel_rfl) rfl #[] rfl (by (try simp only [List.map_toArray, List.map_cons, List.map_nil]); first | done | rfl | (simp only [List.length_drop, List.length_take]; rfl)) ?_; (with_reducible refine (laws_drawAwake.calls  t143 _ ?side1 A14.out).mono ?_); (case side1 => exact XTab.below HT.out (by repeat (first | (with_reducible first | exact HB.out | apply below_alloc | apply pw_below_drewN | apply below_drew1) | exact HB.out))); rintro e w15 ⟨rfl, hb⟩; refine ⟨_, rfl, ?_⟩; have n0_ := Aside0.mk (below_step (by repeat (first | (with_reducible first | exact HB.out | apply below_alloc | apply pw_below_drewN | apply below_drew1) | exact HB.out)) hb); clear HB; have HB := n0_; clear n0_; (try clear hb); (try clear hb2); (try clear hk); (try clear hi)))
                          go_ret
                          exact ⟨by first | rfl | (simp [errW_none, errW_some] <;> rfl) | (simp [*, errW_none, errW_some] <;> rfl), by repeat (first | (with_reducible first | exact HB.out | apply below_alloc | apply pw_below_drewN | apply below_drew1) | exact HB.out)⟩
                        · replace c13 := Bool.eq_false_iff.mpr c13
                          subst c13
                          have H1 : ((impl_MakeNumber.f (wrap64 (31 + (Int.tmod x21_2 3))) (rd l0 x21_2)).bind fun t144 => (if x3_2.size + t144.size ≤ 9223372036854775807 then ((some (([(⟨#[49]⟩ : ByteArray), (⟨#[50]⟩ : ByteArray), (⟨#[52]⟩ : ByteArray)] : List ByteArray) : List ByteArray)).bind fun y145 => (if 0 ≤ (Int.tmod x21_2 3) then (if (Int.tmod x21_2 3) < (y145.length : Int) then (if 2 + (rdOf ByteArray.empty y145 (Int.tmod x21_2 3)).size ≤ 9223372036854775807 then (if 2 + (rdOf ByteArray.empty y145 (Int.tmod x21_2 3)).size + 1 ≤ 9223372036854775807 then ((spec_Digits.f kj10 (rd l0 x21_2)).bind fun t149 => (if 2 + (rdOf ByteArray.empty y145 (Int.tmod x21_2 3)).size + 1 + t149.size ≤ 9223372036854775807 then (laws_FnDrawProgress.l0 kj10 (x3_2 ++ t144) ((((⟨#[52, 59]⟩ : ByteArray) ++ (rdOf ByteArray.empty y145 (Int.tmod x21_2 3))) ++ (⟨#[59]⟩ : ByteArray)) ++ t149) l0 (l0.length : Int) (wrap64 (x21_2 + 1))) else (none))) else (none)) else (none)) else (none)) else (none))) else (none))) = some r := by rw [if_neg (show ¬ (false = true) by decide)] at H; exact H
                          clear H
                          have H := H1
                          clear H1
                          replace H := Option.bind_eq_some_iff.mp H
                          obtain ⟨t144, A160, H⟩ := H
                          replace H : (if x3_2.size + t144.size ≤ 9223372036854775807 then ((some (([(⟨#[49]⟩ : ByteArray), (⟨#[50]⟩ : ByteArray), (⟨#[52]⟩ : ByteArray)] : List ByteArray) : List ByteArray)).bind fun y145 => (if 0 ≤ (Int.tmod x21_2 3) then (if (Int.tmod x21_2 3) < (y145.length : Int) then (if 2 + (rdOf ByteArray.empty y145 (Int.tmod x21_2 3)).size ≤ 9223372036854775807 then (if 2 + (rdOf ByteArray.empty y145 (Int.tmod x21_2 3)).size + 1 ≤ 9223372036854775807 then ((spec_Digits.f kj10 (rd l0 x21_2)).bind fun t149 => (if 2 + (rdOf ByteArray.empty y145 (Int.tmod x21_2 3)).size + 1 + t149.size ≤ 9223372036854775807 then (laws_FnDrawProgress.l0 kj10 (x3_2 ++ t144) ((((⟨#[52, 59]⟩ : ByteArray) ++ (rdOf ByteArray.empty y145 (Int.tmod x21_2 3))) ++ (⟨#[59]⟩ : ByteArray)) ++ t149) l0 (l0.length : Int) (wrap64 (x21_2 + 1))) else (none))) else (none)) else (none)) else (none)) else (none))) else (none)) = some r := H
                          have A16 := Aside0.mk A160
                          clear A160
                          by_cases c17 : x3_2.size + t144.size ≤ 9223372036854775807
                          · rw [if_pos c17] at H
                            have c17b0 := eq_true c17
                            have c17b1 : decide (x3_2.size + t144.size ≤ 9223372036854775807) = true := decide_eq_true c17
                            try have c17b2 : (9223372036854775807 < x3_2.size + t144.size) = False := eq_false (Nat.not_lt.2 c17)
                            obtain ⟨y145, hy145⟩ : ∃ y_ : List ByteArray, y_ = (([(⟨#[49]⟩ : ByteArray), (⟨#[50]⟩ : ByteArray), (⟨#[52]⟩ : ByteArray)] : List ByteArray)) := ⟨_, rfl⟩
                            replace H : (if 0 ≤ (Int.tmod x21_2 3) then (if (Int.tmod x21_2 3) < (y145.length : Int) then (if 2 + (rdOf ByteArray.empty y145 (Int.tmod x21_2 3)).size ≤ 9223372036854775807 then (if 2 + (rdOf ByteArray.empty y145 (Int.tmod x21_2 3)).size + 1 ≤ 9223372036854775807 then ((spec_Digits.f kj10 (rd l0 x21_2)).bind fun t149 => (if 2 + (rdOf ByteArray.empty y145 (Int.tmod x21_2 3)).size + 1 + t149.size ≤ 9223372036854775807 then (laws_FnDrawProgress.l0 kj10 (x3_2 ++ t144) ((((⟨#[52, 59]⟩ : ByteArray) ++ (rdOf ByteArray.empty y145 (Int.tmod x21_2 3))) ++ (⟨#[59]⟩ : ByteArray)) ++ t149) l0 (l0.length : Int) (wrap64 (x21_2 + 1))) else (none))) else (none)) else (none)) else (none)) else (none)) = some r := by first | (rw [hy145]; with_reducible exact H) | (have H2_ := (Option.bind_some _ _).symm.trans H; rw [hy145]; with_reducible exact H2_) | (have H2_ := (Option.bind_some _ _).symm.trans H; with_reducible exact H2_) | with_reducible exact H | (rw [hy145]; exact H) | exact H
                            have Ny145 := Aside0.mk hy145
                            clear hy145
                            obtain ⟨ji18, hji18⟩ : ∃ j_ : Int, (Int.tmod x21_2 3) = j_ := ⟨_, rfl⟩
                            replace H : (if 0 ≤ (ji18) then (if (ji18) < (y145.length : Int) then (if 2 + (rdOf ByteArray.empty y145 (ji18)).size ≤ 9223372036854775807 then (if 2 + (rdOf ByteArray.empty y145 (ji18)).size + 1 ≤ 9223372036854775807 then ((spec_Digits.f kj10 (rd l0 x21_2)).bind fun t149 => (if 2 + (rdOf ByteArray.empty y145 (ji18)).size + 1 + t149.size ≤ 9223372036854775807 then (laws_FnDrawProgress.l0 kj10 (x3_2 ++ t144) ((((⟨#[52, 59]⟩ : ByteArray) ++ (rdOf ByteArray.empty y145 (ji18))) ++ (⟨#[59]⟩ : ByteArray)) ++ t149) l0 (l0.length : Int) (wrap64 (x21_2 + 1))) else (none))) else (none)) else (none)) else (none)) else (none)) = some r := by first | (rw [hji18] at H; exact H) | (simp only [hji18] at H ⊢; exact H)
                            (try rw [hji18] at A16)
                            by_cases c19 : 0 ≤ (ji18)
                            · rw [if_pos c19] at H
                              have c19b0 : decide (0 ≤ (ji18)) = true := decide_eq_true c19
                              clear c19
                              by_cases c20 : (ji18) < (y145.length : Int)
                              · rw [if_pos c20] at H
                                have c20b0 : decide ((ji18) < (y145.length : Int)) = true := decide_eq_true c20
                                clear c20
                                by_cases c21 : 2 + (rdOf ByteArray.empty y145 (ji18)).size ≤ 9223372036854775807
                                · rw [if_pos c21] at H
                                  have c21b0 := eq_true c21
                                  have c21b1 : decide (2 + (rdOf ByteArray.empty y145 (ji18)).size ≤ 9223372036854775807) = true := decide_eq_true c21
                                  try have c21b2 : (9223372036854775807 < 2 + (rdOf ByteArray.empty y145 (ji18)).size) = False := eq_false (Nat.not_lt.2 c21)
                                  by_cases c22 : 2 + (rdOf ByteArray.empty y145 (ji18)).size + 1 ≤ 9223372036854775807
                                  · rw [if_pos c22] at H
                                    have c22b0 := eq_true c22
                                    have c22b1 : decide (2 + (rdOf ByteArray.empty y145 (ji18)).size + 1 ≤ 9223372036854775807) = true := decide_eq_true c22
                                    try have c22b2 : (9223372036854775807 < 2 + (rdOf ByteArray.empty y145 (ji18)).size + 1) = False := eq_false (Nat.not_lt.2 c22)
                                    replace H := Option.bind_eq_some_iff.mp H
                                    obtain ⟨t149, A230, H⟩ := H
                                    replace H : (if 2 + (rdOf ByteArray.empty y145 (ji18)).size + 1 + t149.size ≤ 9223372036854775807 then (laws_FnDrawProgress.l0 kj10 (x3_2 ++ t144) ((((⟨#[52, 59]⟩ : ByteArray) ++ (rdOf ByteArray.empty y145 (ji18))) ++ (⟨#[59]⟩ : ByteArray)) ++ t149) l0 (l0.length : Int) (wrap64 (x21_2 + 1))) else (none)) = some r := H
                                    have A23 := Aside0.mk A230
                                    clear A230
                                    by_cases c24 : 2 + (rdOf ByteArray.empty y145 (ji18)).size + 1 + t149.size ≤ 9223372036854775807
                                    · rw [if_pos c24] at H
                                      have c24b0 := eq_true c24
                                      have c24b1 : decide (2 + (rdOf ByteArray.empty y145 (ji18)).size + 1 + t149.size ≤ 9223372036854775807) = true := decide_eq_true c24
                                      try have c24b2 : (9223372036854775807 < 2 + (rdOf ByteArray.empty y145 (ji18)).size + 1 + t149.size) = False := eq_false (Nat.not_lt.2 c24)
                                      have H' := Aside0.mk H
                                      clear H
                                      try go_wp2_with (first | ((with_reducible refine gate_callee (f := 9) rfl ?_); refine goesL_ (some 38) rfl rfl Tryd.func9 (by kernel_rfl) rfl #[.int .i64 (wrap64 (31 + (ji18))), .int .i64 (rd l0 x21_2)] rfl (by (try simp only [List.map_toArray, List.map_cons, List.map_nil]); first | done | (simp only [hji18]; rfl) | rfl | (simp only [List.length_drop, List.length_take]; rfl)) ?_; (with_reducible refine (impl_MakeNumber.calls (wrap64 (31 + (ji18))) (rd l0 x21_2) t144 _ ?side1 A16.out).mono ?_); (case side1 => exact XTab.below HT.out (by repeat (first | (with_reducible first | exact HB.out | apply below_alloc | apply pw_below_drewN | apply below_drew1) | exact HB.out))); rintro e w25 ⟨rfl, hb⟩; refine ⟨_, rfl, ?_⟩; have n0_ := Aside0.mk (below_step (by repeat (first | (with_reducible first | exact HB.out | apply below_alloc | apply pw_below_drewN | apply below_drew1) | exact HB.out)) hb); clear HB; have HB := n0_; clear n0_; (try clear hb); (try clear hb2); (try clear hk); (try clear hi)))
                                      have pi148 : (0 ≤ ((ji18) : Int)) = True := eq_true (of_decide_eq_true (by first | (with_reducible assumption) | assumption))
                                      have qi148 : ((ji18) < (y145.length : Int)) = True := eq_true (of_decide_eq_true (by first | (with_reducible assumption) | assumption))
                                      have n0_ := Aside0.mk (below_drew1 HB.out)
                                      clear HB
                                      have HB := n0_
                                      clear n0_
                                      refine start_ (n := 11) (S := fun w' => True) (ds := []) #[false, false, false, false, false, false, false, false, false, false, false] (by kernel_rfl) rfl rfl trivial (fun hHeld => ?_); refine with_tabW laws_FnDrawProgress.tab12 laws_FnDrawProgress.bits12 (fun HT_ HW_ => ?_)
                                      generalize w25.drew = w26 at HB hHeld ⊢
                                      refine pure_ (i := 1) (N := some 41) (v := ?_) (a' := ?_) #[false, true, false, false, false, false, false, false, false, false, false] rfl rfl (any_of HT_.out (by kernel_rfl)) (fun _ _ _ h => h) (Or.inl ⟨by rfl, ?_⟩) ?_ ?_
                                      rotate_left
                                      · intro w'
                                        go_simp
                                        with_reducible rfl
                                      rotate_left
                                      · simp only [Act.put, List.setIfInBounds_toArray, List.set_cons_zero, List.set_cons_succ, i64_w, i32_w]
                                        rfl
                                      refine pure_ (i := 7) (N := some 47) (v := ?_) (a' := ?_) #[false, true, false, false, false, false, false, true, false, false, false] rfl rfl (any_of HT_.out (by kernel_rfl)) (fun _ _ _ h => h) (Or.inl ⟨by rfl, ?_⟩) ?_ ?_
                                      rotate_left
                                      · intro w'
                                        go_simp
                                        with_reducible rfl
                                      rotate_left
                                      · simp only [Act.put, List.setIfInBounds_toArray, List.set_cons_zero, List.set_cons_succ, i64_w, i32_w]
                                        rfl
                                      refine inv_at [0, 2, 3, 4, 5, 6, 8, 9, 10] (fun a0_ b a w' => ∃ (v146 : Value) (adz_v146 : Addr) (m3_ : Value), a = putSel a0_ b [(0, 40, v146), (2, 42, .int .i64 ji18), (3, 43, m3_), (4, 44, .string (rdOf ByteArray.empty y145 (ji18))), (5, 45, .string ((⟨#[52, 59]⟩ : ByteArray) ++ (rdOf ByteArray.empty y145 (ji18)))), (6, 46, .string (((⟨#[52, 59]⟩ : ByteArray) ++ (rdOf ByteArray.empty y145 (ji18))) ++ (⟨#[59]⟩ : ByteArray))), (8, 48, .string t149), (9, 49, .string ((((⟨#[52, 59]⟩ : ByteArray) ++ (rdOf ByteArray.empty y145 (ji18))) ++ (⟨#[59]⟩ : ByteArray)) ++ t149)), (10, 4, .string ((((⟨#[52, 59]⟩ : ByteArray) ++ (rdOf ByteArray.empty y145 (ji18))) ++ (⟨#[59]⟩ : ByteArray)) ++ t149))] ∧ (Below w.heap.size w w') ∧ (b 0 = true → Kd.R Kd.string 9 w' w.heap.size (fun _ => True) v146 y145) ∧ (b 0 = true → ∃ c_, (v146 : Value) = .slice (some adz_v146) y145.length c_) ∧ (b 3 = true → (m3_ : Value) = .pointer (some (adz_v146.add ((ji18)).toNat)))) HT_.out HW_.out (by kernel_rfl) (by kernel_rfl) ?_ ?_ ?_
                                      · exact ⟨.bool false, ⟨0, 0, none⟩, .bool false, by simp only [putSel, Bool.false_eq_true, if_false], HB.out, fun h_ => absurd h_ (by decide), fun h_ => absurd h_ (by decide), fun h_ => absurd h_ (by decide)⟩
                                      · skip
                                        clear HB
                                        refine steps_cons ?_ ?_
                                        · rintro b a w' ⟨v146, adz_v146, m3_, ha, Q_HB, Q_HO147, Q_HA_HO147, Q_X3_⟩ hb_ hon hoff
                                          refine ⟨_, rfl, fun K hK => ?_⟩
                                          replace ha := Aside0.mk ha
                                          have HB := Aside0.mk Q_HB
                                          refine Kd.R_lit_step Kd.string _ 9 ?hg (N := 40) ?hd (xs := ([(⟨#[49]⟩ : ByteArray), (⟨#[50]⟩ : ByteArray), (⟨#[52]⟩ : ByteArray)] : List ByteArray)) (inner := [.string (⟨#[49]⟩ : ByteArray), .string (⟨#[50]⟩ : ByteArray), .string (⟨#[52]⟩ : ByteArray)]) (ok := fun _ => True) (okp := fun _ => True) ?hr ?hp (fun _ hk => hk) trivial (Below.refl _ _) (Nat.le_refl _) (by simp) ?_; (case hd => rfl); (case hg => rfl); (case hr => first | (go_simp; done) | (go_simp; rfl)); (case hp => exact (Reps.one (show Kd.M Kd.string _ _ _ (⟨#[49]⟩ : ByteArray) [.string (⟨#[49]⟩ : ByteArray)] from rfl) (Reps.one (show Kd.M Kd.string _ _ _ (⟨#[50]⟩ : ByteArray) [.string (⟨#[50]⟩ : ByteArray)] from rfl) (Reps.one (show Kd.M Kd.string _ _ _ (⟨#[52]⟩ : ByteArray) [.string (⟨#[52]⟩ : ByteArray)] from rfl) (Reps.none _ _)))))
                                          intro v146 w27 ho28 hb hg_ hnew_
                                          clear hg_ hnew_
                                          (first | rw [← Ny145.out] at ho28 | (simp only [Int.reduceToNat] at ho28; rw [← Ny145.out] at ho28))
                                          have n0_ := Aside0.mk (Kd.R_lower ho28 (below_size (by repeat (first | (with_reducible first | exact HB.out | apply below_alloc | apply pw_below_drewN | apply below_drew1) | exact HB.out))))
                                          have n1_ := Aside0.mk (below_step (by repeat (first | (with_reducible first | exact HB.out | apply below_alloc | apply pw_below_drewN | apply below_drew1) | exact HB.out)) hb)
                                          clear HB
                                          have HO147 := n0_
                                          have HB := n1_
                                          clear n0_ n1_
                                          clear hb ho28
                                          obtain ⟨Ao29, co29, eo29⟩ := Kd.R_slice HO147.out
                                          subst eo29
                                          obtain ⟨ado29, fo29, _⟩ := Kd.at_string (Kd.R_reads' HO147.out).2.2 0 (by decide) (by rw [Ny145.out]; simp)
                                          cases fo29
                                          refine hK.out _ _ ⟨.slice (some ado29) y145.length co29, ado29, m3_, (by rw [ha.out]; exact putSel_upk 0 hb_ rfl rfl rfl), (by repeat (first | (with_reducible first | exact HB.out | apply below_alloc | apply pw_below_drewN | apply below_drew1) | exact HB.out)), fun _ => (by (with_reducible repeat (first | apply Kd.R_alloc | apply Kd.R_drewN | apply Kd.R_drew)); exact HO147.out), fun _ => ⟨_, rfl⟩, fun h0_ => absurd ((hoff 3 (by kernel_rfl)).symm.trans h0_) (by decide)⟩
                                        refine steps_cons ?_ ?_
                                        · rintro b a w' ⟨v146, adz_v146, m3_, ha, Q_HB, Q_HO147, Q_HA_HO147, Q_X3_⟩ hb_ hon hoff
                                          refine ⟨_, rfl, fun K hK => ?_⟩
                                          have e41 : a.tmps[41]? = some (.int .i64 x21_2) := by rw [ha]; exact (putSel_off rfl).trans rfl
                                          replace ha := Aside0.mk ha
                                          have HB := Aside0.mk Q_HB
                                          refine value_ (w1 := w') (v := .int .i64 ji18) (by rfl) rfl ?_ ?_
                                          · go_simp
                                            (try simp only [i64_w])
                                            try rfl
                                          refine hK.out _ _ ⟨v146, adz_v146, m3_, (by rw [ha.out]; exact putSel_upk 1 hb_ rfl rfl rfl), Q_HB, Q_HO147, Q_HA_HO147, fun h0_ => absurd ((hoff 3 (by kernel_rfl)).symm.trans h0_) (by decide)⟩
                                        refine steps_cons ?_ ?_
                                        · rintro b a w' ⟨v146, adz_v146, m3_, ha, Q_HB, Q_HO147, Q_HA_HO147, Q_X3_⟩ hb_ hon hoff
                                          refine ⟨_, rfl, fun K hK => ?_⟩
                                          have e40 : a.tmps[40]? = some (v146) := by rw [ha]; exact putSel_on (e := (0, 40, v146)) 0 rfl rfl (hon 0 (by kernel_rfl)) rfl
                                          have e42 : a.tmps[42]? = some (.int .i64 ji18) := by rw [ha]; exact putSel_on (e := (2, 42, .int .i64 ji18)) 1 rfl rfl (hon 2 (by kernel_rfl)) rfl
                                          replace ha := Aside0.mk ha
                                          have HB := Aside0.mk Q_HB
                                          have HO147 := Aside0.mk (Q_HO147 (hon 0 (by kernel_rfl)))
                                          have HA_HO147 := Aside0.mk (Q_HA_HO147 (hon 0 (by kernel_rfl)))
                                          obtain ⟨c_, hv_⟩ := HA_HO147.out
                                          rw [hv_] at e40
                                          refine value_ (w1 := w') (v := .pointer (some (adz_v146.add ((ji18)).toNat))) (by rfl) rfl ?_ ?_
                                          · go_simp
                                            (try simp only [i64_w])
                                            try rfl
                                          refine hK.out _ _ ⟨v146, adz_v146, (.pointer (some (adz_v146.add ((ji18)).toNat))), (by rw [ha.out]; exact putSel_upk 2 hb_ rfl rfl rfl), Q_HB, Q_HO147, Q_HA_HO147, fun _ => rfl⟩
                                        refine steps_cons ?_ ?_
                                        · rintro b a w' ⟨v146, adz_v146, m3_, ha, Q_HB, Q_HO147, Q_HA_HO147, Q_X3_⟩ hb_ hon hoff
                                          refine ⟨_, rfl, fun K hK => ?_⟩
                                          have e43 : a.tmps[43]? = some (m3_) := by rw [ha]; exact putSel_on (e := (3, 43, m3_)) 2 rfl rfl (hon 3 (by kernel_rfl)) rfl
                                          rw [Q_X3_ (hon 3 (by kernel_rfl))] at e43
                                          replace ha := Aside0.mk ha
                                          have HB := Aside0.mk Q_HB
                                          have HO147 := Aside0.mk (Q_HO147 (hon 0 (by kernel_rfl)))
                                          have HA_HO147 := Aside0.mk (Q_HA_HO147 (hon 0 (by kernel_rfl)))
                                          obtain ⟨c_, hv_⟩ := HA_HO147.out
                                          have hF_ := HO147.out
                                          rw [hv_] at hF_
                                          obtain ⟨ad_, ea_, hx_⟩ := Kd.at_string (Kd.R_reads' hF_).2.2 (ji18) (of_eq_true pi148) (of_eq_true qi148)
                                          cases ea_
                                          refine value_ (w1 := w') (v := .string (rdOf ByteArray.empty y145 (ji18))) (by rfl) rfl ?_ ?_
                                          · go_simp
                                            (try simp only [i64_w])
                                            try rfl
                                          refine hK.out _ _ ⟨v146, adz_v146, m3_, (by rw [ha.out]; exact putSel_upk 3 hb_ rfl rfl rfl), Q_HB, Q_HO147, Q_HA_HO147, Q_X3_⟩
                                        refine steps_cons ?_ ?_
                                        · rintro b a w' ⟨v146, adz_v146, m3_, ha, Q_HB, Q_HO147, Q_HA_HO147, Q_X3_⟩ hb_ hon hoff
                                          refine ⟨_, rfl, fun K hK => ?_⟩
                                          have e44 : a.tmps[44]? = some (.string (rdOf ByteArray.empty y145 (ji18))) := by rw [ha]; exact putSel_on (e := (4, 44, .string (rdOf ByteArray.empty y145 (ji18)))) 3 rfl rfl (hon 4 (by kernel_rfl)) rfl
                                          replace ha := Aside0.mk ha
                                          have HB := Aside0.mk Q_HB
                                          have HO147 := Aside0.mk (Q_HO147 (hon 0 (by kernel_rfl)))
                                          have HA_HO147 := Aside0.mk (Q_HA_HO147 (hon 0 (by kernel_rfl)))
                                          refine value_ (w1 := w') (v := .string ((⟨#[52, 59]⟩ : ByteArray) ++ (rdOf ByteArray.empty y145 (ji18)))) (by rfl) rfl ?_ ?_
                                          · go_simp
                                            (try simp only [i64_w])
                                            try rfl
                                          refine hK.out _ _ ⟨v146, adz_v146, m3_, (by rw [ha.out]; exact putSel_upk 4 hb_ rfl rfl rfl), Q_HB, Q_HO147, Q_HA_HO147, Q_X3_⟩
                                        refine steps_cons ?_ ?_
                                        · rintro b a w' ⟨v146, adz_v146, m3_, ha, Q_HB, Q_HO147, Q_HA_HO147, Q_X3_⟩ hb_ hon hoff
                                          refine ⟨_, rfl, fun K hK => ?_⟩
                                          have e45 : a.tmps[45]? = some (.string ((⟨#[52, 59]⟩ : ByteArray) ++ (rdOf ByteArray.empty y145 (ji18)))) := by rw [ha]; exact putSel_on (e := (5, 45, .string ((⟨#[52, 59]⟩ : ByteArray) ++ (rdOf ByteArray.empty y145 (ji18))))) 4 rfl rfl (hon 5 (by kernel_rfl)) rfl
                                          replace ha := Aside0.mk ha
                                          have HB := Aside0.mk Q_HB
                                          have HO147 := Aside0.mk (Q_HO147 (hon 0 (by kernel_rfl)))
                                          have HA_HO147 := Aside0.mk (Q_HA_HO147 (hon 0 (by kernel_rfl)))
                                          refine value_ (w1 := w') (v := .string (((⟨#[52, 59]⟩ : ByteArray) ++ (rdOf ByteArray.empty y145 (ji18))) ++ (⟨#[59]⟩ : ByteArray))) (by rfl) rfl ?_ ?_
                                          · go_simp
                                            (try simp only [i64_w])
                                            try rfl
                                          refine hK.out _ _ ⟨v146, adz_v146, m3_, (by rw [ha.out]; exact putSel_upk 5 hb_ rfl rfl rfl), Q_HB, Q_HO147, Q_HA_HO147, Q_X3_⟩
                                        refine steps_cons ?_ ?_
                                        · rintro b a w' ⟨v146, adz_v146, m3_, ha, Q_HB, Q_HO147, Q_HA_HO147, Q_X3_⟩ hb_ hon hoff
                                          refine ⟨_, rfl, fun K hK => ?_⟩
                                          have e47 : a.tmps[47]? = some (.int .i64 (rd l0 x21_2)) := by rw [ha]; exact (putSel_off rfl).trans rfl
                                          replace ha := Aside0.mk ha
                                          have HB := Aside0.mk Q_HB
                                          refine goes_ Tryd.func10 (by kernel_rfl) rfl #[.int .i64 (rd l0 x21_2)] (by rfl) rfl rfl (by first | (simp only [List.map_toArray, List.map_cons, List.map_nil, Act.eval, Array.getD_eq_getD_getElem?, Option.getD_some, e47]; done) | (simp only [List.map_toArray, List.map_cons, List.map_nil, Act.eval, Array.getD_eq_getD_getElem?, Option.getD_some, e47]; rfl)) ?_
                                          with_reducible refine (spec_Digits.calls kj10 (rd l0 x21_2) t149 _ A23.out).mono ?_
                                          rintro e w27 ⟨rfl, hb⟩
                                          refine ⟨_, rfl, ?_⟩
                                          have n0_ := Aside0.mk (below_step (by repeat (first | (with_reducible first | exact HB.out | apply below_alloc | apply pw_below_drewN | apply below_drew1) | exact HB.out)) hb)
                                          have z_HO147 := fun (h0_ : b 0 = true) => (show Kd.R Kd.string 9 w27 w.heap.size (fun _ => True) v146 y145 from by first | exact (Kd.R_below (by (with_reducible repeat (first | apply Kd.R_alloc | apply Kd.R_drewN | apply Kd.R_drew)); exact (Q_HO147 h0_)) hb) | exact Kd.R_mono (Kd.R_below (by (with_reducible repeat (first | apply Kd.R_alloc | apply Kd.R_drewN | apply Kd.R_drew)); exact (Q_HO147 h0_)) hb) (fun _ h_ => by first | trivial | exact h_ | exact h_.1))
                                          clear HB
                                          have HB := n0_
                                          clear n0_
                                          (try clear hb)
                                          (try clear hb2)
                                          (try clear hk)
                                          (try clear hi)
                                          refine hK.out _ _ ⟨v146, adz_v146, m3_, (by rw [ha.out]; exact putSel_upk 6 hb_ rfl rfl rfl), (by repeat (first | (with_reducible first | exact HB.out | apply below_alloc | apply pw_below_drewN | apply below_drew1) | exact HB.out)), z_HO147, Q_HA_HO147, Q_X3_⟩
                                        refine steps_cons ?_ ?_
                                        · rintro b a w' ⟨v146, adz_v146, m3_, ha, Q_HB, Q_HO147, Q_HA_HO147, Q_X3_⟩ hb_ hon hoff
                                          refine ⟨_, rfl, fun K hK => ?_⟩
                                          have e46 : a.tmps[46]? = some (.string (((⟨#[52, 59]⟩ : ByteArray) ++ (rdOf ByteArray.empty y145 (ji18))) ++ (⟨#[59]⟩ : ByteArray))) := by rw [ha]; exact putSel_on (e := (6, 46, .string (((⟨#[52, 59]⟩ : ByteArray) ++ (rdOf ByteArray.empty y145 (ji18))) ++ (⟨#[59]⟩ : ByteArray)))) 5 rfl rfl (hon 6 (by kernel_rfl)) rfl
                                          have e48 : a.tmps[48]? = some (.string t149) := by rw [ha]; exact putSel_on (e := (8, 48, .string t149)) 6 rfl rfl (hon 8 (by kernel_rfl)) rfl
                                          replace ha := Aside0.mk ha
                                          have HB := Aside0.mk Q_HB
                                          have HO147 := Aside0.mk (Q_HO147 (hon 0 (by kernel_rfl)))
                                          have HA_HO147 := Aside0.mk (Q_HA_HO147 (hon 0 (by kernel_rfl)))
                                          refine value_ (w1 := w') (v := .string ((((⟨#[52, 59]⟩ : ByteArray) ++ (rdOf ByteArray.empty y145 (ji18))) ++ (⟨#[59]⟩ : ByteArray)) ++ t149)) (by rfl) rfl ?_ ?_
                                          · go_simp
                                            (try simp only [i64_w])
                                            try rfl
                                          refine hK.out _ _ ⟨v146, adz_v146, m3_, (by rw [ha.out]; exact putSel_upk 7 hb_ rfl rfl rfl), Q_HB, Q_HO147, Q_HA_HO147, Q_X3_⟩
                                        refine steps_cons ?_ ?_
                                        · rintro b a w' ⟨v146, adz_v146, m3_, ha, Q_HB, Q_HO147, Q_HA_HO147, Q_X3_⟩ hb_ hon hoff
                                          refine ⟨_, rfl, fun K hK => ?_⟩
                                          have e49 : a.tmps[49]? = some (.string ((((⟨#[52, 59]⟩ : ByteArray) ++ (rdOf ByteArray.empty y145 (ji18))) ++ (⟨#[59]⟩ : ByteArray)) ++ t149)) := by rw [ha]; exact putSel_on (e := (9, 49, .string ((((⟨#[52, 59]⟩ : ByteArray) ++ (rdOf ByteArray.empty y145 (ji18))) ++ (⟨#[59]⟩ : ByteArray)) ++ t149))) 7 rfl rfl (hon 9 (by kernel_rfl)) rfl
                                          replace ha := Aside0.mk ha
                                          have HB := Aside0.mk Q_HB
                                          have HO147 := Aside0.mk (Q_HO147 (hon 0 (by kernel_rfl)))
                                          have HA_HO147 := Aside0.mk (Q_HA_HO147 (hon 0 (by kernel_rfl)))
                                          refine value_ (w1 := w') (v := .string ((((⟨#[52, 59]⟩ : ByteArray) ++ (rdOf ByteArray.empty y145 (ji18))) ++ (⟨#[59]⟩ : ByteArray)) ++ t149)) (by rfl) rfl ?_ ?_
                                          · go_simp
                                            (try simp only [i64_w])
                                            try rfl
                                          refine hK.out _ _ ⟨v146, adz_v146, m3_, (by rw [ha.out]; exact putSel_upk 8 hb_ rfl rfl rfl), Q_HB, Q_HO147, Q_HA_HO147, Q_X3_⟩
                                        exact steps_nil
                                      rintro b a w31 hall ⟨v146, adz_v146, m3_, ha, Q_HB, Q_HO147, Q_HA_HO147, Q_X3_⟩
                                      clear HB
                                      have hb0_ := hall 0 (by kernel_rfl)
                                      have hb2_ := hall 2 (by kernel_rfl)
                                      have hb3_ := hall 3 (by kernel_rfl)
                                      have hb4_ := hall 4 (by kernel_rfl)
                                      have hb5_ := hall 5 (by kernel_rfl)
                                      have hb6_ := hall 6 (by kernel_rfl)
                                      have hb8_ := hall 8 (by kernel_rfl)
                                      have hb9_ := hall 9 (by kernel_rfl)
                                      have hb10_ := hall 10 (by kernel_rfl)
                                      subst ha
                                      obtain rfl := Q_X3_ hb3_
                                      simp only [putSel, hb0_, hb2_, hb3_, hb4_, hb5_, hb6_, hb8_, hb9_, hb10_, if_true, Act.put, List.setIfInBounds_toArray, List.set_cons_zero, List.set_cons_succ]
                                      have HB := Aside0.mk Q_HB
                                      clear Q_HB
                                      have HO147 := Aside0.mk (Q_HO147 hb0_)
                                      clear Q_HO147
                                      have HA_HO147 := Aside0.mk (Q_HA_HO147 hb0_)
                                      clear Q_HA_HO147
                                      clear hall hb0_ hb2_ hb3_ hb4_ hb5_ hb6_ hb8_ hb9_ hb10_
                                      obtain ⟨co32, eo32⟩ := HA_HO147.out
                                      clear HA_HO147
                                      subst eo32
                                      try go_wp2
                                      go_roundg kj10
                                      case measure => have := HJ2.out; have := HK2.out; have := HJ10.out; omega
                                      case rel => exact ⟨(x3_2 ++ t144), ((((⟨#[52, 59]⟩ : ByteArray) ++ (rdOf ByteArray.empty y145 (ji18))) ++ (⟨#[59]⟩ : ByteArray)) ++ t149), (wrap64 (x21_2 + 1)), (by first | rfl | (simp; done) | (simp [*]; done)), (by first | rfl | (simp; done) | (simp only [← hji18] <;> (first | rfl | simp)) | (simp [*]; done)), (by first | rfl | (simp; done) | (simp [*]; done)), H', ⟨by have := HJ2.out; have := HK2.out; have := HJ10.out; omega⟩, ⟨by repeat (first | (with_reducible first | exact HB.out | apply below_alloc | apply pw_below_drewN | apply below_drew1) | exact HB.out)⟩⟩
                                    · rw [if_neg c24] at H
                                      exact absurd H (by simp)
                                  · rw [if_neg c22] at H
                                    exact absurd H (by simp)
                                · rw [if_neg c21] at H
                                  exact absurd H (by simp)
                              · rw [if_neg c20] at H
                                exact absurd H (by simp)
                            · rw [if_neg c19] at H
                              exact absurd H (by simp)
                          · rw [if_neg c17] at H
                            exact absurd H (by simp)
                  · rw [if_neg c10] at H
                    exact absurd H (by simp)
                · rw [if_neg c9] at H
                  exact absurd H (by simp)
              · rw [if_neg c8] at H
                have c8b0 : decide (x21_2 < (l0.length : Int)) = false := decide_eq_false c8
                clear c8
                replace H := Option.bind_eq_some_iff.mp H
                obtain ⟨t150, A330, H⟩ := H
                replace H : ((impl_Feed.f 32 4096 t150).bind fun t153 => ((laws_drawEvents.f k2 t153).bind fun t156 => ((spec_DrawTold.f k2 t156 (([9] : List Int))).bind fun t162 => (if 0 < (t162.length : Int) then (if (rdOf ByteArray.empty t162 0).toList = x4_2.toList then ((laws_drawAwake.f).bind fun t166 => (some t166)) else (some false)) else (none))))) = some r := H
                have A33 := Aside0.mk A330
                clear A330
                replace H := Option.bind_eq_some_iff.mp H
                obtain ⟨t153, A340, H⟩ := H
                replace H : ((laws_drawEvents.f k2 t153).bind fun t156 => ((spec_DrawTold.f k2 t156 (([9] : List Int))).bind fun t162 => (if 0 < (t162.length : Int) then (if (rdOf ByteArray.empty t162 0).toList = x4_2.toList then ((laws_drawAwake.f).bind fun t166 => (some t166)) else (some false)) else (none)))) = some r := H
                have A34 := Aside0.mk A340
                clear A340
                replace H := Option.bind_eq_some_iff.mp H
                obtain ⟨t156, A350, H⟩ := H
                replace H : ((spec_DrawTold.f k2 t156 (([9] : List Int))).bind fun t162 => (if 0 < (t162.length : Int) then (if (rdOf ByteArray.empty t162 0).toList = x4_2.toList then ((laws_drawAwake.f).bind fun t166 => (some t166)) else (some false)) else (none))) = some r := H
                have A35 := Aside0.mk A350
                clear A350
                obtain ⟨y159, hy159⟩ : ∃ y_ : List Int, y_ = (([9] : List Int)) := ⟨_, rfl⟩
                replace H : ((spec_DrawTold.f k2 t156 y159).bind fun t162 => (if 0 < (t162.length : Int) then (if (rdOf ByteArray.empty t162 0).toList = x4_2.toList then ((laws_drawAwake.f).bind fun t166 => (some t166)) else (some false)) else (none))) = some r := by first | (rw [hy159]; with_reducible exact H) | (have H2_ := (Option.bind_some _ _).symm.trans H; rw [hy159]; with_reducible exact H2_) | (have H2_ := (Option.bind_some _ _).symm.trans H; with_reducible exact H2_) | with_reducible exact H | (rw [hy159]; exact H) | exact H
                have Ny159 := Aside0.mk hy159
                clear hy159
                replace H := Option.bind_eq_some_iff.mp H
                obtain ⟨t162, A360, H⟩ := H
                replace H : (if 0 < (t162.length : Int) then (if (rdOf ByteArray.empty t162 0).toList = x4_2.toList then ((laws_drawAwake.f).bind fun t166 => (some t166)) else (some false)) else (none)) = some r := H
                have A36 := Aside0.mk A360
                clear A360
                by_cases c37 : 0 < (t162.length : Int)
                · rw [if_pos c37] at H
                  have c37b0 : decide (0 < (t162.length : Int)) = true := decide_eq_true c37
                  have c37b1 : decide (0 < t162.length) = true := decide_eq_true (by omega)
                  clear c37
                  by_cases c38 : (rdOf ByteArray.empty t162 0).toList = x4_2.toList
                  · rw [if_pos c38] at H
                    have c38b0 : ((rdOf ByteArray.empty t162 0).toList == x4_2.toList) = true := beq_iff_eq.mpr c38
                    have c38b1 : ((rdOf ByteArray.empty t162 0).toList != x4_2.toList) = false := bne_eq_false_iff_eq.mpr c38
                    clear c38
                    replace H := Option.bind_eq_some_iff.mp H
                    obtain ⟨t166, A390, H⟩ := H
                    replace H : (some t166) = some r := H
                    have A39 := Aside0.mk A390
                    clear A390
                    obtain rfl := Option.some.inj H
                    go_wp2_with (first | ((with_reducible refine gate_dst (N := 52) rfl ?_); (try (refine gate_guard (by rfl) ?_; dsimp only)); refine conv_ev 9 32 5 rfl rfl Tryd.underlying9 Tryd.underlying32 Tryd.underlying5 x3_2 rfl A33.out ?_; rintro e w40 ⟨v151, rfl, ho0, hb⟩; refine ⟨_, rfl, ?_⟩; have n0_ := Aside0.mk (Kd.V_lower (Kd.V_mono (ok' := fun k_ => True) ho0 (fun k_ hk_ => trivial)) (below_size (by repeat (first | (with_reducible first | exact HB.out | apply below_alloc | apply pw_below_drewN | apply below_drew1) | exact HB.out)))); have n1_ := Aside0.mk (below_step (by repeat (first | (with_reducible first | exact HB.out | apply below_alloc | apply pw_below_drewN | apply below_drew1) | exact HB.out)) hb); clear HB; have HO152 := n0_; have HB := n1_; clear n0_ n1_; (try clear hb); (try clear hb2); (try clear hk); (try clear hi); (try clear ho0); obtain ⟨Ao41, co41, eo41⟩ := Kd.V_slice HO152.out; subst eo41) | ((with_reducible refine gate_callee (f := 13) rfl ?_); refine goesL_ (some 53) rfl rfl Tryd.func13 (by kernel_rfl) rfl #[.int .i64 32, .int .i64 4096, .slice Ao41 t150.length co41] rfl (by (try simp only [List.map_toArray, List.map_cons, List.map_nil]); first | done | rfl | (simp only [List.length_drop, List.length_take]; rfl)) ?_; (with_reducible refine (impl_Feed.calls 32 4096 _ _ t150 t153 _ ?side1 ?side2 A34.out).mono ?_); (case side1 => repeat (first | exact (Kd.V_reads' HO152.out).2.2 | (with_reducible refine Kd.C_alloc ?_ _) | (with_reducible refine Kd.C_drewN ?_ _) | (with_reducible refine Kd.C_drew ?_))); (case side2 => exact (Kd.V_reads' HO152.out).2.1); rintro e w42 ⟨v154, rfl, ho0, hb⟩; refine ⟨_, rfl, ?_⟩; have n0_ := Aside0.mk (Kd.V_elder' (by (with_reducible repeat (first | apply Kd.V_alloc | apply Kd.V_drewN | apply Kd.V_drew)); exact HO152.out) (by first | exact Kd.N_base ho0 | exact Kd.S_base ho0) hb); have n1_ := Aside0.mk (Kd.N_lower (Kd.N_mono (ok' := fun k_ => True) (Kd.S_N (Kd.S_bound ho0)) (fun k_ hk_ => trivial)) (below_size (by repeat (first | (with_reducible first | exact HB.out | apply below_alloc | apply pw_below_drewN | apply below_drew1) | exact HB.out)))); have n2_ := Aside0.mk (below_step (by repeat (first | (with_reducible first | exact HB.out | apply below_alloc | apply pw_below_drewN | apply below_drew1) | exact HB.out)) hb); clear HO152; clear HB; have HO152 := n0_; have HO155 := n1_; have HB := n2_; clear n0_ n1_ n2_; (try clear hb); (try clear hb2); (try clear hk); (try clear hi); (try clear ho0); obtain ⟨Ao43, co43, eo43⟩ := Kd.N_slice HO155.out; subst eo43) | ((with_reducible refine gate_callee (f := 12) rfl ?_); refine goesL_ (some 54) rfl rfl Tryd.func12 (by kernel_rfl) rfl #[.slice Ao43 t153.length co43] rfl (by (try simp only [List.map_toArray, List.map_cons, List.map_nil]); first | done | rfl | (simp only [List.length_drop, List.length_take]; rfl)) ?_; (with_reducible refine (laws_drawEvents.calls k2 (fun k_ => True) _ _ t153 t156 _ ?side1 A35.out).mono ?_); (case side1 => exact Kd.N_V (HO155.out)); rintro e w44 ⟨v157, rfl, ho0, hb⟩; refine ⟨_, rfl, ?_⟩; have n0_ := Aside0.mk (Kd.V_elder' (by (with_reducible repeat (first | apply Kd.V_alloc | apply Kd.V_drewN | apply Kd.V_drew)); exact HO152.out) (by first | exact Kd.N_base ho0 | exact Kd.S_base ho0) hb); have n1_ := Aside0.mk (Kd.N_elder' (by (with_reducible repeat (first | apply Kd.N_alloc | apply Kd.N_drewN | apply Kd.N_drew)); exact HO155.out) (by first | exact Kd.N_base ho0 | exact Kd.S_base ho0) hb); have n2_ := Aside0.mk (Kd.N_lower (Kd.N_mono (ok' := fun k_ => True) ho0 (fun k_ hk_ => trivial)) (below_size (by repeat (first | (with_reducible first | exact HB.out | apply below_alloc | apply pw_below_drewN | apply below_drew1) | exact HB.out)))); have n3_ := Aside0.mk (below_step (by repeat (first | (with_reducible first | exact HB.out | apply below_alloc | apply pw_below_drewN | apply below_drew1) | exact HB.out)) hb); clear HO152; clear HO155; clear HB; have HO152 := n0_; have HO155 := n1_; have HO158 := n2_; have HB := n3_; clear n0_ n1_ n2_ n3_; (try clear hb); (try clear hb2); (try clear hk); (try clear hi); (try clear ho0)) | ((with_reducible refine gate_dst (N := 55) rfl ?_); (try (refine gate_guard (by rfl) ?_; dsimp only)); refine Kd.R_lit (Kd.int .i64) _ 2 ?hg (N := 55) ?hd (xs := ([9] : List Int)) (inner := [.int .i64 9]) (ok := fun _ => True) (okp := fun _ => True) ?hr ?hp (fun _ hk => hk) trivial (Below.refl _ _) (Nat.le_refl _) (by simp) ?_; (case hd => rfl); (case hg => rfl); (case hr => first | (go_simp; done) | (go_simp; rfl)); (case hp => exact (Reps.one (show Kd.M (Kd.int .i64) _ _ _ 9 [.int .i64 9] from rfl) (Reps.none _ _))); intro v160 w45 ho46 hb hg_ hnew_; clear hg_ hnew_; (first | rw [← Ny159.out] at ho46 | (simp only [Int.reduceToNat] at ho46; rw [← Ny159.out] at ho46)); have n0_ := Aside0.mk (Kd.V_elder' (by (with_reducible repeat (first | apply Kd.V_alloc | apply Kd.V_drewN | apply Kd.V_drew)); exact HO152.out) (Kd.R_base ho46) hb); have n1_ := Aside0.mk (Kd.N_elder' (by (with_reducible repeat (first | apply Kd.N_alloc | apply Kd.N_drewN | apply Kd.N_drew)); exact HO155.out) (Kd.R_base ho46) hb); have n2_ := Aside0.mk (Kd.N_elder' (by (with_reducible repeat (first | apply Kd.N_alloc | apply Kd.N_drewN | apply Kd.N_drew)); exact HO158.out) (Kd.R_base ho46) hb); have n3_ := Aside0.mk (Kd.R_lower ho46 (below_size (by repeat (first | (with_reducible first | exact HB.out | apply below_alloc | apply pw_below_drewN | apply below_drew1) | exact HB.out)))); have n4_ := Aside0.mk (below_step (by repeat (first | (with_reducible first | exact HB.out | apply below_alloc | apply pw_below_drewN | apply below_drew1) | exact HB.out)) hb); clear HO152; clear HO155; clear HO158; clear HB; have HO152 := n0_; have HO155 := n1_; have HO158 := n2_; have HO161 := n3_; have HB := n4_; clear n0_ n1_ n2_ n3_ n4_; clear hb ho46; obtain ⟨Ao47, co47, eo47⟩ := Kd.N_slice HO158.out; subst eo47; obtain ⟨Ao48, co48, eo48⟩ := Kd.R_slice HO161.out; subst eo48) | ((with_reducible refine gate_callee (f := 11) rfl ?_); refine goesL_ (some 56) rfl rfl Tryd.func11 (by kernel_rfl) rfl #[.slice Ao47 t156.length co47, .slice Ao48 y159.length co48] rfl (by (try simp only [List.map_toArray, List.map_cons, List.map_nil]); first | done | rfl | (simp only [List.length_drop, List.length_take]; rfl)) ?_; (with_reducible refine (spec_DrawTold.calls k2 _ _ t156 _ _ y159 t162 _ ?side1 ?side2 ?side3 ?side4 A36.out).mono ?_); (case side1 => repeat (first | exact (Kd.N_reads' HO158.out).2.2 | (with_reducible refine Kd.C_alloc ?_ _) | (with_reducible refine Kd.C_drewN ?_ _) | (with_reducible refine Kd.C_drew ?_))); (case side2 => exact (Kd.N_reads' HO158.out).2.1); (case side3 => repeat (first | exact (Kd.R_reads' HO161.out).2.2 | (with_reducible refine Kd.C_alloc ?_ _) | (with_reducible refine Kd.C_drewN ?_ _) | (with_reducible refine Kd.C_drew ?_))); (case side4 => exact (Kd.R_reads' HO161.out).2.1); rintro e w49 ⟨v163, rfl, ho0, hb⟩; refine ⟨_, rfl, ?_⟩; have n0_ := Aside0.mk (Kd.V_elder' (by (with_reducible repeat (first | apply Kd.V_alloc | apply Kd.V_drewN | apply Kd.V_drew)); exact HO152.out) (Kd.R_base ho0) hb); have n1_ := Aside0.mk (Kd.N_elder' (by (with_reducible repeat (first | apply Kd.N_alloc | apply Kd.N_drewN | apply Kd.N_drew)); exact HO155.out) (Kd.R_base ho0) hb); have n2_ := Aside0.mk (Kd.N_elder' (by (with_reducible repeat (first | apply Kd.N_alloc | apply Kd.N_drewN | apply Kd.N_drew)); exact HO158.out) (Kd.R_base ho0) hb); have n3_ := Aside0.mk (Kd.R_below (by (with_reducible repeat (first | apply Kd.R_alloc | apply Kd.R_drewN | apply Kd.R_drew)); exact HO161.out) hb); have n4_ := Aside0.mk (Kd.R_lower ho0 (below_size (by repeat (first | (with_reducible first | exact HB.out | apply below_alloc | apply pw_below_drewN | apply below_drew1) | exact HB.out)))); have n5_ := Aside0.mk (below_step (by repeat (first | (with_reducible first | exact HB.out | apply below_alloc | apply pw_below_drewN | apply below_drew1) | exact HB.out)) hb); clear HO152; clear HO155; clear HO158; clear HO161; clear HB; have HO152 := n0_; have HO155 := n1_; have HO158 := n2_; have HO161 := n3_; have HO164 := n4_; have HB := n5_; clear n0_ n1_ n2_ n3_ n4_ n5_; (try clear hb); (try clear hb2); (try clear hk); (try clear hi); (try clear ho0); obtain ⟨Ao50, co50, eo50⟩ := Kd.R_slice HO164.out; subst eo50; have p165 : 0 ≤ (0 : Int) := (by omega); have q165 : 0 < (t162.length : Int) := of_decide_eq_true (by first | (with_reducible assumption) | assumption); obtain ⟨ad165, e165, hx165_0⟩ := Kd.at_string (Kd.R_reads' HO164.out).2.2 0 p165 q165; cases e165; have qi165 : (0 < t162.length) = True := eq_true (by omega); (try rw [show ((0 : Int)).toNat = 0 from rfl] at hx165_0); (try rw [Addr.add_zero'] at hx165_0); replace p165 := eq_true p165; replace q165 := eq_true q165) | (go_at_call 8; (with_reducible refine (laws_drawAwake.calls  t166 _ ?side1 A39.out).mono ?_); (case side1 => exact XTab.below HT.out (by repeat (first | (with_reducible first | exact HB.out | apply below_alloc | apply pw_below_drewN | apply below_drew1) | exact HB.out))); rintro e w51 ⟨rfl, hb⟩; have n0_ := Aside0.mk (Kd.V_below (by (with_reducible repeat (first | apply Kd.V_alloc | apply Kd.V_drewN | apply Kd.V_drew)); exact HO152.out) hb); have n1_ := Aside0.mk (Kd.N_below (by (with_reducible repeat (first | apply Kd.N_alloc | apply Kd.N_drewN | apply Kd.N_drew)); exact HO155.out) hb); have n2_ := Aside0.mk (Kd.N_below (by (with_reducible repeat (first | apply Kd.N_alloc | apply Kd.N_drewN | apply Kd.N_drew)); exact HO158.out) hb); have n3_ := Aside0.mk (Kd.R_below (by (with_reducible repeat (first | apply Kd.R_alloc | apply Kd.R_drewN | apply Kd.R_drew)); exact HO161.out) hb); have n4_ := Aside0.mk (Kd.R_below (by (with_reducible repeat (first | apply Kd.R_alloc | apply Kd.R_drewN | apply Kd.R_drew)); exact HO164.out) hb); have n5_ := Aside0.mk (below_step (by repeat (first | (with_reducible first | exact HB.out | apply below_alloc | apply pw_below_drewN | apply below_drew1) | exact HB.out)) hb); clear HO152; clear HO155; clear HO158; clear HO161; clear HO164; clear HB; have HO152 := n0_; have HO155 := n1_; have HO158 := n2_; have HO161 := n3_; have HO164 := n4_; have HB := n5_; clear n0_ n1_ n2_ n3_ n4_ n5_; (try clear hb); (try clear hb2); (try clear hk); (try clear hi)))
                    go_ret
                    exact ⟨by first | rfl | (simp [errW_none, errW_some] <;> rfl) | (simp [*, errW_none, errW_some] <;> rfl), by repeat (first | (with_reducible first | exact HB.out | apply below_alloc | apply pw_below_drewN | apply below_drew1) | exact HB.out)⟩
                  · rw [if_neg c38] at H
                    have c38b0 : ((rdOf ByteArray.empty t162 0).toList == x4_2.toList) = false := beq_eq_false_iff_ne.mpr c38
                    have c38b1 : ((rdOf ByteArray.empty t162 0).toList != x4_2.toList) = true := bne_iff_ne.mpr c38
                    obtain rfl := Option.some.inj H
                    go_wp2_with (first | ((with_reducible refine gate_dst (N := 52) rfl ?_); (try (refine gate_guard (by rfl) ?_; dsimp only)); refine conv_ev 9 32 5 rfl rfl Tryd.underlying9 Tryd.underlying32 Tryd.underlying5 x3_2 rfl A33.out ?_; rintro e w52 ⟨v151, rfl, ho0, hb⟩; refine ⟨_, rfl, ?_⟩; have n0_ := Aside0.mk (Kd.V_lower (Kd.V_mono (ok' := fun k_ => True) ho0 (fun k_ hk_ => trivial)) (below_size (by repeat (first | (with_reducible first | exact HB.out | apply below_alloc | apply pw_below_drewN | apply below_drew1) | exact HB.out)))); have n1_ := Aside0.mk (below_step (by repeat (first | (with_reducible first | exact HB.out | apply below_alloc | apply pw_below_drewN | apply below_drew1) | exact HB.out)) hb); clear HB; have HO152 := n0_; have HB := n1_; clear n0_ n1_; (try clear hb); (try clear hb2); (try clear hk); (try clear hi); (try clear ho0); obtain ⟨Ao53, co53, eo53⟩ := Kd.V_slice HO152.out; subst eo53) | ((with_reducible refine gate_callee (f := 13) rfl ?_); refine goesL_ (some 53) rfl rfl Tryd.func13 (by kernel_rfl) rfl #[.int .i64 32, .int .i64 4096, .slice Ao53 t150.length co53] rfl (by (try simp only [List.map_toArray, List.map_cons, List.map_nil]); first | done | rfl | (simp only [List.length_drop, List.length_take]; rfl)) ?_; (with_reducible refine (impl_Feed.calls 32 4096 _ _ t150 t153 _ ?side1 ?side2 A34.out).mono ?_); (case side1 => repeat (first | exact (Kd.V_reads' HO152.out).2.2 | (with_reducible refine Kd.C_alloc ?_ _) | (with_reducible refine Kd.C_drewN ?_ _) | (with_reducible refine Kd.C_drew ?_))); (case side2 => exact (Kd.V_reads' HO152.out).2.1); rintro e w54 ⟨v154, rfl, ho0, hb⟩; refine ⟨_, rfl, ?_⟩; have n0_ := Aside0.mk (Kd.V_elder' (by (with_reducible repeat (first | apply Kd.V_alloc | apply Kd.V_drewN | apply Kd.V_drew)); exact HO152.out) (by first | exact Kd.N_base ho0 | exact Kd.S_base ho0) hb); have n1_ := Aside0.mk (Kd.N_lower (Kd.N_mono (ok' := fun k_ => True) (Kd.S_N (Kd.S_bound ho0)) (fun k_ hk_ => trivial)) (below_size (by repeat (first | (with_reducible first | exact HB.out | apply below_alloc | apply pw_below_drewN | apply below_drew1) | exact HB.out)))); have n2_ := Aside0.mk (below_step (by repeat (first | (with_reducible first | exact HB.out | apply below_alloc | apply pw_below_drewN | apply below_drew1) | exact HB.out)) hb); clear HO152; clear HB; have HO152 := n0_; have HO155 := n1_; have HB := n2_; clear n0_ n1_ n2_; (try clear hb); (try clear hb2); (try clear hk); (try clear hi); (try clear ho0); obtain ⟨Ao55, co55, eo55⟩ := Kd.N_slice HO155.out; subst eo55) | ((with_reducible refine gate_callee (f := 12) rfl ?_); refine goesL_ (some 54) rfl rfl Tryd.func12 (by kernel_rfl) rfl #[.slice Ao55 t153.length co55] rfl (by (try simp only [List.map_toArray, List.map_cons, List.map_nil]); first | done | rfl | (simp only [List.length_drop, List.length_take]; rfl)) ?_; (with_reducible refine (laws_drawEvents.calls k2 (fun k_ => True) _ _ t153 t156 _ ?side1 A35.out).mono ?_); (case side1 => exact Kd.N_V (HO155.out)); rintro e w56 ⟨v157, rfl, ho0, hb⟩; refine ⟨_, rfl, ?_⟩; have n0_ := Aside0.mk (Kd.V_elder' (by (with_reducible repeat (first | apply Kd.V_alloc | apply Kd.V_drewN | apply Kd.V_drew)); exact HO152.out) (by first | exact Kd.N_base ho0 | exact Kd.S_base ho0) hb); have n1_ := Aside0.mk (Kd.N_elder' (by (with_reducible repeat (first | apply Kd.N_alloc | apply Kd.N_drewN | apply Kd.N_drew)); exact HO155.out) (by first | exact Kd.N_base ho0 | exact Kd.S_base ho0) hb); have n2_ := Aside0.mk (Kd.N_lower (Kd.N_mono (ok' := fun k_ => True) ho0 (fun k_ hk_ => trivial)) (below_size (by repeat (first | (with_reducible first | exact HB.out | apply below_alloc | apply pw_below_drewN | apply below_drew1) | exact HB.out)))); have n3_ := Aside0.mk (below_step (by repeat (first | (with_reducible first | exact HB.out | apply below_alloc | apply pw_below_drewN | apply below_drew1) | exact HB.out)) hb); clear HO152; clear HO155; clear HB; have HO152 := n0_; have HO155 := n1_; have HO158 := n2_; have HB := n3_; clear n0_ n1_ n2_ n3_; (try clear hb); (try clear hb2); (try clear hk); (try clear hi); (try clear ho0)) | ((with_reducible refine gate_dst (N := 55) rfl ?_); (try (refine gate_guard (by rfl) ?_; dsimp only)); refine Kd.R_lit (Kd.int .i64) _ 2 ?hg (N := 55) ?hd (xs := ([9] : List Int)) (inner := [.int .i64 9]) (ok := fun _ => True) (okp := fun _ => True) ?hr ?hp (fun _ hk => hk) trivial (Below.refl _ _) (Nat.le_refl _) (by simp) ?_; (case hd => rfl); (case hg => rfl); (case hr => first | (go_simp; done) | (go_simp; rfl)); (case hp => exact (Reps.one (show Kd.M (Kd.int .i64) _ _ _ 9 [.int .i64 9] from rfl) (Reps.none _ _))); intro v160 w57 ho58 hb hg_ hnew_; clear hg_ hnew_; (first | rw [← Ny159.out] at ho58 | (simp only [Int.reduceToNat] at ho58; rw [← Ny159.out] at ho58)); have n0_ := Aside0.mk (Kd.V_elder' (by (with_reducible repeat (first | apply Kd.V_alloc | apply Kd.V_drewN | apply Kd.V_drew)); exact HO152.out) (Kd.R_base ho58) hb); have n1_ := Aside0.mk (Kd.N_elder' (by (with_reducible repeat (first | apply Kd.N_alloc | apply Kd.N_drewN | apply Kd.N_drew)); exact HO155.out) (Kd.R_base ho58) hb); have n2_ := Aside0.mk (Kd.N_elder' (by (with_reducible repeat (first | apply Kd.N_alloc | apply Kd.N_drewN | apply Kd.N_drew)); exact HO158.out) (Kd.R_base ho58) hb); have n3_ := Aside0.mk (Kd.R_lower ho58 (below_size (by repeat (first | (with_reducible first | exact HB.out | apply below_alloc | apply pw_below_drewN | apply below_drew1) | exact HB.out)))); have n4_ := Aside0.mk (below_step (by repeat (first | (with_reducible first | exact HB.out | apply below_alloc | apply pw_below_drewN | apply below_drew1) | exact HB.out)) hb); clear HO152; clear HO155; clear HO158; clear HB; have HO152 := n0_; have HO155 := n1_; have HO158 := n2_; have HO161 := n3_; have HB := n4_; clear n0_ n1_ n2_ n3_ n4_; clear hb ho58; obtain ⟨Ao59, co59, eo59⟩ := Kd.N_slice HO158.out; subst eo59; obtain ⟨Ao60, co60, eo60⟩ := Kd.R_slice HO161.out; subst eo60) | ((with_reducible refine gate_callee (f := 11) rfl ?_); refine goesL_ (some 56) rfl rfl Tryd.func11 (by kernel_rfl) rfl #[.slice Ao59 t156.length co59, .slice Ao60 y159.length co60] rfl (by (try simp only [List.map_toArray, List.map_cons, List.map_nil]); first | done | rfl | (simp only [List.length_drop, List.length_take]; rfl)) ?_; (with_reducible refine (spec_DrawTold.calls k2 _ _ t156 _ _ y159 t162 _ ?side1 ?side2 ?side3 ?side4 A36.out).mono ?_); (case side1 => repeat (first | exact (Kd.N_reads' HO158.out).2.2 | (with_reducible refine Kd.C_alloc ?_ _) | (with_reducible refine Kd.C_drewN ?_ _) | (with_reducible refine Kd.C_drew ?_))); (case side2 => exact (Kd.N_reads' HO158.out).2.1); (case side3 => repeat (first | exact (Kd.R_reads' HO161.out).2.2 | (with_reducible refine Kd.C_alloc ?_ _) | (with_reducible refine Kd.C_drewN ?_ _) | (with_reducible refine Kd.C_drew ?_))); (case side4 => exact (Kd.R_reads' HO161.out).2.1); rintro e w61 ⟨v163, rfl, ho0, hb⟩; refine ⟨_, rfl, ?_⟩; have n0_ := Aside0.mk (Kd.V_elder' (by (with_reducible repeat (first | apply Kd.V_alloc | apply Kd.V_drewN | apply Kd.V_drew)); exact HO152.out) (Kd.R_base ho0) hb); have n1_ := Aside0.mk (Kd.N_elder' (by (with_reducible repeat (first | apply Kd.N_alloc | apply Kd.N_drewN | apply Kd.N_drew)); exact HO155.out) (Kd.R_base ho0) hb); have n2_ := Aside0.mk (Kd.N_elder' (by (with_reducible repeat (first | apply Kd.N_alloc | apply Kd.N_drewN | apply Kd.N_drew)); exact HO158.out) (Kd.R_base ho0) hb); have n3_ := Aside0.mk (Kd.R_below (by (with_reducible repeat (first | apply Kd.R_alloc | apply Kd.R_drewN | apply Kd.R_drew)); exact HO161.out) hb); have n4_ := Aside0.mk (Kd.R_lower ho0 (below_size (by repeat (first | (with_reducible first | exact HB.out | apply below_alloc | apply pw_below_drewN | apply below_drew1) | exact HB.out)))); have n5_ := Aside0.mk (below_step (by repeat (first | (with_reducible first | exact HB.out | apply below_alloc | apply pw_below_drewN | apply below_drew1) | exact HB.out)) hb); clear HO152; clear HO155; clear HO158; clear HO161; clear HB; have HO152 := n0_; have HO155 := n1_; have HO158 := n2_; have HO161 := n3_; have HO164 := n4_; have HB := n5_; clear n0_ n1_ n2_ n3_ n4_ n5_; (try clear hb); (try clear hb2); (try clear hk); (try clear hi); (try clear ho0); obtain ⟨Ao62, co62, eo62⟩ := Kd.R_slice HO164.out; subst eo62; have p165 : 0 ≤ (0 : Int) := (by omega); have q165 : 0 < (t162.length : Int) := of_decide_eq_true (by first | (with_reducible assumption) | assumption); obtain ⟨ad165, e165, hx165_0⟩ := Kd.at_string (Kd.R_reads' HO164.out).2.2 0 p165 q165; cases e165; have qi165 : (0 < t162.length) = True := eq_true (by omega); (try rw [show ((0 : Int)).toNat = 0 from rfl] at hx165_0); (try rw [Addr.add_zero'] at hx165_0); replace p165 := eq_true p165; replace q165 := eq_true q165))
                    go_ret
                    exact ⟨by first | rfl | (simp [errW_none, errW_some] <;> rfl) | (simp [*, errW_none, errW_some] <;> rfl), by repeat (first | (with_reducible first | exact HB.out | apply below_alloc | apply pw_below_drewN | apply below_drew1) | exact HB.out)⟩
                · rw [if_neg c37] at H
                  exact absurd H (by simp)

/-! ### spec_Value: function 98 -/
def spec_Value.f (a0 : Int) : Option (Int) := some (Go.bits .and .i64 a0 2147483647)
set_option maxHeartbeats 8000000 in
set_option maxRecDepth 100000 in
theorem spec_Value.calls (a0 : Int) (r : Int) (w : World) (h : spec_Value.f a0 = some r) :
    Calls Tryd.prog 98 #[.int .i64 a0] w fun e w' => e = .returned (.int .i64 r) ∧ Drawn0 w w' := by
  have H : (some (Go.bits .and .i64 a0 2147483647)) = some r := h
  clear h
  obtain rfl := Option.some.inj H
  go_enter Tryd.func98, Tryd.ntmps98
  go_wp2
  go_ret
  exact ⟨by first | rfl | (simp; done) | (simp [*]; done), by repeat (first | exact Drawn0.refl _ | apply Drawn0.step)⟩

/-! ### spec_Or: function 87 -/
def spec_Or.f (a0 : Int) (a1 : Int) : Option (Int) := (spec_Value.f a0).bind fun t167 => (if t167 = 2147483647 then (some a1) else ((spec_Value.f a0).bind fun t168 => (some t168)))
set_option maxHeartbeats 8000000 in
set_option maxRecDepth 100000 in
theorem spec_Or.calls (a0 : Int) (a1 : Int) (r : Int) (w : World) (h : spec_Or.f a0 a1 = some r) :
    Calls Tryd.prog 87 #[.int .i64 a0, .int .i64 a1] w fun e w' => e = .returned (.int .i64 r) ∧ Drawn0 w w' := by
  have H : ((spec_Value.f a0).bind fun t167 => (if t167 = 2147483647 then (some a1) else ((spec_Value.f a0).bind fun t168 => (some t168)))) = some r := h
  clear h
  replace H := Option.bind_eq_some_iff.mp H
  obtain ⟨t167, A30, H⟩ := H
  replace H : (if t167 = 2147483647 then (some a1) else ((spec_Value.f a0).bind fun t168 => (some t168))) = some r := H
  have A3 := Aside0.mk A30
  clear A30
  by_cases c4 : t167 = 2147483647
  · rw [if_pos c4] at H
    have c4b0 : (t167 == 2147483647) = true := beq_iff_eq.mpr c4
    have c4b1 : (t167 != 2147483647) = false := bne_eq_false_iff_eq.mpr c4
    clear c4
    obtain rfl := Option.some.inj H
    go_enter Tryd.func87, Tryd.ntmps87
    go_wp2_with (first | ((with_reducible refine gate_callee (f := 98) rfl ?_); refine goesL_ (some 6) rfl rfl Tryd.func98 (by kernel_rfl) rfl #[.int .i64 a0] rfl (by (try simp only [List.map_toArray, List.map_cons, List.map_nil]); first | done | rfl | (simp only [List.length_drop, List.length_take]; rfl)) ?_; (with_reducible refine (spec_Value.calls a0 t167 _ A3.out).mono ?_); rintro e w' ⟨rfl, ⟨nd, rfl⟩⟩; refine ⟨_, rfl, ?_⟩))
    go_ret
    exact ⟨by first | rfl | (simp; done) | (simp [*]; done), by repeat (first | exact Drawn0.refl _ | apply Drawn0.step)⟩
  · rw [if_neg c4] at H
    have c4b0 : (t167 == 2147483647) = false := beq_eq_false_iff_ne.mpr c4
    have c4b1 : (t167 != 2147483647) = true := bne_iff_ne.mpr c4
    replace H := Option.bind_eq_some_iff.mp H
    obtain ⟨t168, A50, H⟩ := H
    replace H : (some t168) = some r := H
    have A5 := Aside0.mk A50
    clear A50
    obtain rfl := Option.some.inj H
    go_enter Tryd.func87, Tryd.ntmps87
    go_wp2_with (first | ((with_reducible refine gate_callee (f := 98) rfl ?_); refine goesL_ (some 6) rfl rfl Tryd.func98 (by kernel_rfl) rfl #[.int .i64 a0] rfl (by (try simp only [List.map_toArray, List.map_cons, List.map_nil]); first | done | rfl | (simp only [List.length_drop, List.length_take]; rfl)) ?_; (with_reducible refine (spec_Value.calls a0 t167 _ A3.out).mono ?_); rintro e w' ⟨rfl, ⟨nd, rfl⟩⟩; refine ⟨_, rfl, ?_⟩) | ((with_reducible refine gate_callee (f := 98) rfl ?_); refine goesL_ (some 10) rfl rfl Tryd.func98 (by kernel_rfl) rfl #[.int .i64 a0] rfl (by (try simp only [List.map_toArray, List.map_cons, List.map_nil]); first | done | rfl | (simp only [List.length_drop, List.length_take]; rfl)) ?_; (with_reducible refine (spec_Value.calls a0 t168 _ A5.out).mono ?_); rintro e w' ⟨rfl, ⟨nd, rfl⟩⟩; refine ⟨_, rfl, ?_⟩))
    go_ret
    exact ⟨by first | rfl | (simp; done) | (simp [*]; done), by repeat (first | exact Drawn0.refl _ | apply Drawn0.step)⟩

/-! ### spec_DrawParam: function 60 -/
def spec_DrawParam.f (l0 : List Int) (a1 : Int) (a2 : Int) : Option (Int) := if a1 ≥ (l0.length : Int) then (some a2) else (if 0 ≤ a1 then (if a1 < (l0.length : Int) then ((spec_Or.f (rd l0 a1) a2).bind fun t170 => (some t170)) else (none)) else (none))
set_option maxHeartbeats 8000000 in
set_option maxRecDepth 100000 in
theorem spec_DrawParam.calls (A0 : Option Addr) (c0 : Nat) (l0 : List Int) (a1 : Int) (a2 : Int) (r : Int) (w : World) (hr0 : Kd.C (Kd.int .i64) w A0 l0.length l0) (hc0 : l0.length ≤ c0) (h : spec_DrawParam.f l0 a1 a2 = some r) :
    Calls Tryd.prog 60 #[.slice A0 l0.length c0, .int .i64 a1, .int .i64 a2] w fun e w' => e = .returned (.int .i64 r) ∧ Drawn0 w w' := by
  have HR0 := Aside0.mk hr0
  have HC0 := Aside0.mk hc0
  clear hr0 hc0
  have H : (if a1 ≥ (l0.length : Int) then (some a2) else (if 0 ≤ a1 then (if a1 < (l0.length : Int) then ((spec_Or.f (rd l0 a1) a2).bind fun t170 => (some t170)) else (none)) else (none))) = some r := h
  clear h
  by_cases c4 : a1 ≥ (l0.length : Int)
  · rw [if_pos c4] at H
    have c4b0 : decide ((l0.length : Int) ≤ a1) = true := decide_eq_true c4
    clear c4
    obtain rfl := Option.some.inj H
    go_enter Tryd.func60, Tryd.ntmps60
    go_wp2
    go_ret
    exact ⟨by first | rfl | (simp; done) | (simp [*]; done), by repeat (first | exact Drawn0.refl _ | apply Drawn0.step)⟩
  · rw [if_neg c4] at H
    have c4b0 : decide ((l0.length : Int) ≤ a1) = false := decide_eq_false c4
    clear c4
    by_cases c5 : 0 ≤ a1
    · rw [if_pos c5] at H
      have c5b0 : decide (0 ≤ a1) = true := decide_eq_true c5
      clear c5
      by_cases c6 : a1 < (l0.length : Int)
      · rw [if_pos c6] at H
        have c6b0 : decide (a1 < (l0.length : Int)) = true := decide_eq_true c6
        clear c6
        replace H := Option.bind_eq_some_iff.mp H
        obtain ⟨t170, A70, H⟩ := H
        replace H : (some t170) = some r := H
        have A7 := Aside0.mk A70
        clear A70
        obtain rfl := Option.some.inj H
        have p169 : 0 ≤ (a1 : Int) := of_decide_eq_true (by first | (with_reducible assumption) | assumption)
        have q169 : a1 < (l0.length : Int) := of_decide_eq_true (by first | (with_reducible assumption) | assumption)
        obtain ⟨ad169, e169, hx169_0⟩ := Kd.at_int HR0.out a1 p169 q169
        cases e169
        replace p169 := eq_true p169
        replace q169 := eq_true q169
        go_enter Tryd.func60, Tryd.ntmps60
        go_wp2_with (first | ((with_reducible refine gate_callee (f := 87) rfl ?_); refine goesL_ (some 17) rfl rfl Tryd.func87 (by kernel_rfl) rfl #[.int .i64 (rd l0 a1), .int .i64 a2] rfl (by (try simp only [List.map_toArray, List.map_cons, List.map_nil]); first | done | rfl | (simp only [List.length_drop, List.length_take]; rfl)) ?_; (with_reducible refine (spec_Or.calls (rd l0 a1) a2 t170 _ A7.out).mono ?_); rintro e w' ⟨rfl, ⟨nd, rfl⟩⟩; refine ⟨_, rfl, ?_⟩))
        go_ret
        exact ⟨by first | rfl | (simp; done) | (simp [*]; done), by repeat (first | exact Drawn0.refl _ | apply Drawn0.step)⟩
      · rw [if_neg c6] at H
        exact absurd H (by simp)
    · rw [if_neg c5] at H
      exact absurd H (by simp)

end Go.Proofs.YtgcbnegdchladaaDoor.Y
