/- Texts of this claim, joined: Y34 XLawReports. Of each, what the claim uses. -/
import Derived.Test.YtjkpelaeelihhaaGreatDoorRRKReportsc
section
namespace Go.Proofs.YtjkpelaeelihhaaGreatDoorRR.Y
open Go.RowKit Go.Proofs.YtjkpelaeelihhaaGreatDoorRRW.PrintWords Go.Proofs.YtjkpelaeelihhaaGreatDoorRRW.PrintLast Go.Proofs.YtjkpelaeelihhaaGreatDoorRRW.PrintMore
attribute [local go_sem] max2_int min2_int max_two min_two max_three min_three max_four min_four   -- for this text's walks alone
set_option linter.unusedVariables false
set_option linter.unusedSimpArgs false
set_option maxHeartbeats 8000000 in
set_option maxRecDepth 100000 in
theorem spec_SameInts.calls (k : Nat) (A0 : Option Addr) (c0 : Nat) (l0 : List Int) (A1 : Option Addr) (c1 : Nat) (l1 : List Int) (r : Bool) (w : World) (hr0 : Kd.C (Kd.int .i64) w A0 l0.length l0) (hc0 : l0.length ≤ c0) (hr1 : Kd.C (Kd.int .i64) w A1 l1.length l1) (hc1 : l1.length ≤ c1) (h : spec_SameInts.f k l0 l1 = some r) :
    Calls Tryz.prog 17 #[.slice A0 l0.length c0, .slice A1 l1.length c1] w fun e w' => e = .returned (.bool r) ∧ Drawn0 w w' := by
  have HR0 := Aside0.mk hr0
  have HC0 := Aside0.mk hc0
  clear hr0 hc0
  have HR1 := Aside0.mk hr1
  have HC1 := Aside0.mk hc1
  clear hr1 hc1
  have H : (if (l0.length : Int) = (l1.length : Int) then (spec_SameInts.l0 k l0 l1 (l0.length : Int) 0) else (some false)) = some r := h
  clear h
  by_cases c3 : (l0.length : Int) = (l1.length : Int)
  · rw [if_pos c3] at H
    have c3b0 : ((l0.length : Int) == (l1.length : Int)) = true := beq_iff_eq.mpr c3
    have c3b1 : ((l0.length : Int) != (l1.length : Int)) = false := bne_eq_false_iff_eq.mpr c3
    have c3b2 : (l0.length == l1.length) = true := by first | simpa using c3 | (simp at c3 ⊢; omega)
    clear c3
    have H' := Aside0.mk H
    clear H
    go_enter Tryz.func17, Tryz.ntmps17
    go_wp2
    repeat (go_quiet (fail); try go_wp2)
    go_loopg [13] k (fun kq v13 w' => ∃ (x13_1 : Int), v13 = .int .i64 x13_1 ∧ Aside0 (spec_SameInts.l0 kq l0 l1 (l0.length : Int) x13_1 = some r) ∧ Aside0 (kq ≤ k) ∧ Drawn0 w w')
    case atStart => exact ⟨(0), (by first | rfl | (simp; done) | (simp [*]; done)), H', ⟨Nat.le_refl _⟩, by repeat (first | exact Drawn0.refl _ | apply Drawn0.step)⟩
    case round =>
      clear H'
      try clear c1
      try clear p2
      try clear c3
      try clear c3b0
      try clear c3b1
      try clear c3b2
      obtain ⟨x13_1, rfl, HA, HK1, ⟨m1, rfl⟩⟩ := hrel
      cases gk with
      | zero => exact absurd HA.out (by simp [spec_SameInts.l0])
      | succ k1 =>
        have H := HA.out
        clear HA
        simp only [spec_SameInts.l0] at H
        by_cases c4 : x13_1 < (l0.length : Int)
        · rw [if_pos c4] at H
          have c4b0 : decide (x13_1 < (l0.length : Int)) = true := decide_eq_true c4
          clear c4
          by_cases c5 : 0 ≤ x13_1
          · rw [if_pos c5] at H
            have c5b0 : decide (0 ≤ x13_1) = true := decide_eq_true c5
            clear c5
            by_cases c6 : x13_1 < (l0.length : Int)
            · rw [if_pos c6] at H
              have c6b0 : decide (x13_1 < (l0.length : Int)) = true := decide_eq_true c6
              clear c6
              by_cases c7 : x13_1 < (l1.length : Int)
              · rw [if_pos c7] at H
                have c7b0 : decide (x13_1 < (l1.length : Int)) = true := decide_eq_true c7
                clear c7
                by_cases c8 : (rd l0 x13_1) = (rd l1 x13_1)
                · rw [if_pos c8] at H
                  have c8b0 : ((rd l0 x13_1) == (rd l1 x13_1)) = true := beq_iff_eq.mpr c8
                  have c8b1 : ((rd l0 x13_1) != (rd l1 x13_1)) = false := bne_eq_false_iff_eq.mpr c8
                  clear c8
                  have H' := Aside0.mk H
                  clear H
                  have p222 : 0 ≤ (x13_1 : Int) := of_decide_eq_true (by first | (with_reducible assumption) | assumption)
                  have q222 : x13_1 < (l0.length : Int) := of_decide_eq_true (by first | (with_reducible assumption) | assumption)
                  obtain ⟨ad222, e222, hx222_0⟩ := Kd.at_int HR0.out x13_1 p222 q222
                  cases e222
                  replace p222 := eq_true p222
                  replace q222 := eq_true q222
                  have p223 : 0 ≤ (x13_1 : Int) := of_decide_eq_true (by first | (with_reducible assumption) | assumption)
                  have q223 : x13_1 < (l1.length : Int) := of_decide_eq_true (by first | (with_reducible assumption) | assumption)
                  obtain ⟨ad223, e223, hx223_0⟩ := Kd.at_int HR1.out x13_1 p223 q223
                  cases e223
                  replace p223 := eq_true p223
                  replace q223 := eq_true q223
                  go_wp2
                  repeat (go_quiet (fail); try go_wp2)
                  go_roundg k1
                  case measure => have := HK1.out; omega
                  case rel => exact ⟨(wrap64 (x13_1 + 1)), (by first | rfl | (simp; done) | (simp [*]; done)), H', ⟨by have := HK1.out; omega⟩, by repeat (first | exact Drawn0.refl _ | apply Drawn0.step)⟩
                · rw [if_neg c8] at H
                  have c8b0 : ((rd l0 x13_1) == (rd l1 x13_1)) = false := beq_eq_false_iff_ne.mpr c8
                  have c8b1 : ((rd l0 x13_1) != (rd l1 x13_1)) = true := bne_iff_ne.mpr c8
                  obtain rfl := Option.some.inj H
                  have p222 : 0 ≤ (x13_1 : Int) := of_decide_eq_true (by first | (with_reducible assumption) | assumption)
                  have q222 : x13_1 < (l0.length : Int) := of_decide_eq_true (by first | (with_reducible assumption) | assumption)
                  obtain ⟨ad222, e222, hx222_0⟩ := Kd.at_int HR0.out x13_1 p222 q222
                  cases e222
                  replace p222 := eq_true p222
                  replace q222 := eq_true q222
                  have p223 : 0 ≤ (x13_1 : Int) := of_decide_eq_true (by first | (with_reducible assumption) | assumption)
                  have q223 : x13_1 < (l1.length : Int) := of_decide_eq_true (by first | (with_reducible assumption) | assumption)
                  obtain ⟨ad223, e223, hx223_0⟩ := Kd.at_int HR1.out x13_1 p223 q223
                  cases e223
                  replace p223 := eq_true p223
                  replace q223 := eq_true q223
                  go_wp2
                  repeat (go_quiet (fail); try go_wp2)
                  go_ret
                  exact ⟨by first | rfl | (simp; done) | (simp [*]; done), by repeat (first | exact Drawn0.refl _ | apply Drawn0.step)⟩
              · rw [if_neg c7] at H
                exact absurd H (by simp)
            · rw [if_neg c6] at H
              exact absurd H (by simp)
          · rw [if_neg c5] at H
            exact absurd H (by simp)
        · rw [if_neg c4] at H
          have c4b0 : decide (x13_1 < (l0.length : Int)) = false := decide_eq_false c4
          clear c4
          obtain rfl := Option.some.inj H
          go_wp2
          repeat (go_quiet (fail); try go_wp2)
          go_ret
          exact ⟨by first | rfl | (simp; done) | (simp [*]; done), by repeat (first | exact Drawn0.refl _ | apply Drawn0.step)⟩
  · rw [if_neg c3] at H
    have c3b0 : ((l0.length : Int) == (l1.length : Int)) = false := beq_eq_false_iff_ne.mpr c3
    have c3b1 : ((l0.length : Int) != (l1.length : Int)) = true := bne_iff_ne.mpr c3
    have c3b2 : (l0.length == l1.length) = false := by first | simpa using c3 | (simp at c3 ⊢; omega)
    obtain rfl := Option.some.inj H
    go_enter Tryz.func17, Tryz.ntmps17
    go_wp2
    repeat (go_quiet (fail); try go_wp2)
    go_ret
    exact ⟨by first | rfl | (simp; done) | (simp [*]; done), by repeat (first | exact Drawn0.refl _ | apply Drawn0.step)⟩
end Go.Proofs.YtjkpelaeelihhaaGreatDoorRR.Y
end
section
namespace Go.Proofs.YtjkpelaeelihhaaGreatDoorRR.Y
open Go.RowKit Go.Proofs.YtjkpelaeelihhaaGreatDoorRRW.PrintWords Go.Proofs.YtjkpelaeelihhaaGreatDoorRRW.PrintLast Go.Proofs.YtjkpelaeelihhaaGreatDoorRRW.PrintMore
set_option linter.unusedSimpArgs false
set_option linter.unusedVariables false
set_option maxRecDepth 100000
set_option maxHeartbeats 8000000
def laws_FnDrawReports.f (l : List Int) : Option Bool := if l.length = l.length then some true else none
theorem cut_head (t e sz : Nat) (ht : Tryz.prog.underlying t = some (.slice e)) (hsz : (Tryz.prog.info? e).map (·.size) = some sz) (A : Option Addr) (n c h : Nat) (h1 : h ≤ c) (h0 : 0 < c) :
    ∀ W : World, (Instr.slice t (.slice A n c) none (some (.int .i64 (h : Int))) none).run Tryz.prog W = .ok (.slice A h c) W := by
  obtain ⟨i, hi0, hi2⟩ := Option.map_eq_some_iff.1 hsz
  intro W
  have hel : Tryz.prog.elem t = e := by simp [Program.elem, ht]
  have hu : Tryz.prog.underlying t = some (.slice (Tryz.prog.elem t)) := by rw [hel]; exact ht
  rw [run_slice_h W t A n c hu .i64 h (by omega) (by omega), hel]
  have hne : ¬ c = 0 := by omega
  have ha : A.map (·.add 0) = A := by
    cases A with
    | none => rfl
    | some ad => simp [Addr.add]
  simp [sizeOf, typeInfo, hi0, hi2, sliced, Result.andThen, hne, ha]
theorem laws_FnDrawReports.calls (A0 : Option Addr) (c0 : Nat) (l0 : List Int) (r : Bool) (w : World) (hT : XTab w) (hr0 : Kd.C (Kd.int .i64) w A0 l0.length l0) (hc0 : l0.length ≤ c0) (h : laws_FnDrawReports.f l0 = some r) :
    Calls Tryz.prog 5 #[.slice A0 l0.length c0] w fun e w' => e = .returned (.bool r) ∧ Below w.heap.size w w' := by
  unfold laws_FnDrawReports.f at h
  rw [if_pos rfl] at h
  obtain rfl := Option.some.inj h
  have HI := Lib.hid (And.intro hT (And.intro hr0 hc0))
  have HE := Lib.hid (fun (V : World) (hV : Below w.heap.size w V) => show Calls Tryz.prog 8 #[] V fun e w' => e = .returned (.bool true) ∧ Hid (Below w.heap.size w w') by
    refine (laws_drawAwake.calls true V (XTab.below hT hV) awake).mono ?_
    rintro e w3 ⟨rfl, hb⟩
    exact ⟨rfl, below_step hV hb⟩)
  clear h hT hr0 hc0
  by_cases hbig : l0.length ≤ 2147483647
  case neg =>
    have d0 : ((l0.length : Int) > 2147483647) = True := eq_true (by omega)
    have d1 : decide ((2147483647 : Int) < (l0.length : Int)) = true := decide_eq_true (by omega)
    have d2 : (2147483647 : Int) < (l0.length : Int) := by omega
    go_enter Tryz.func5, Tryz.ntmps5
    go_wp2_with fail
    go_ret
    exact ⟨rfl, Below.refl _ _⟩
  have d1 : decide ((2147483647 : Int) < (l0.length : Int)) = false := decide_eq_false (by omega)
  have d2 : ¬ ((2147483647 : Int) < (l0.length : Int)) := by omega
  go_enter Tryz.func5, Tryz.ntmps5
  go_wp2_with fail
  clear d1 d2
  go_loopg [22] l0.length (fun kq v22 w' => ∃ i : Nat, v22 = .int .i64 (i : Int) ∧ i + kq = l0.length ∧ Hid (∀ j (h : j < l0.length), j < i → 1 ≤ l0[j] ∧ l0[j] ≤ 9999) ∧ w' = w)
  case atStart => exact ⟨0, rfl, by omega, fun j _ hj => by omega, rfl⟩
  case round =>
    obtain ⟨i, rfl, hk, hA, rfl⟩ := hrel
    by_cases hi : i < l0.length
    · have d3 : (i : Int) < (l0.length : Int) := by omega
      have i0 : (0 : Int) ≤ (i : Int) := by omega
      have f1 : IntKind.i64.wrap ((i : Int) + 1) = ((i + 1 : Nat) : Int) := by rw [IntKind.wrap_i64]; omega
      obtain ⟨ad, e0, q0⟩ := Kd.at_int HI.out.2.1 (i : Int) i0 (by omega)
      subst e0
      have hrd : rd l0 (i : Int) = l0[i] := by simp [rd, hi]
      rw [Int.toNat_natCast, hrd] at q0
      generalize hx : l0[i] = x at q0
      by_cases g1 : x < 1
      · have e1 : decide (x < 1) = true := decide_eq_true g1
        go_wp2_with fail
        refine (HE.out _ (Below.refl _ _)).mono ?_
        rintro e w3 ⟨rfl, H3⟩
        go_wp2_with fail
        go_ret
        exact ⟨rfl, H3.out⟩
      · by_cases g2 : 9999 < x
        · have e1 : decide (x < 1) = false := decide_eq_false g1
          have e2 : decide (9999 < x) = true := decide_eq_true g2
          go_wp2_with fail
          refine (HE.out _ (Below.refl _ _)).mono ?_
          rintro e w3 ⟨rfl, H3⟩
          go_wp2_with fail
          go_ret
          exact ⟨rfl, H3.out⟩
        · have e1 : decide (x < 1) = false := decide_eq_false g1
          have e2 : decide (9999 < x) = false := decide_eq_false g2
          go_wp2_with fail
          go_roundg (l0.length - (i + 1))
          case measure => omega
          case rel =>
            refine ⟨i + 1, by push_cast; rfl, by omega, fun j hj hj2 => ?_, rfl⟩
            by_cases hji : j = i
            · subst hji
              rw [hx]
              omega
            · exact hA.out j hj (by omega)
    · have d3 : decide ((i : Int) < (l0.length : Int)) = false := decide_eq_false (by omega)
      have hall : ∀ n ∈ l0, 1 ≤ n ∧ n ≤ 9999 := fun n hn => by
        obtain ⟨j, hj, rfl⟩ := List.getElem_of_mem hn
        exact hA.out j hj (by omega)
      clear hA hk
      by_cases h4 : l0.length < 4
      · have e1 : decide ((l0.length : Int) < 4) = true := decide_eq_true (by omega)
        go_wp2_with fail
        refine (HE.out _ (Below.refl _ _)).mono ?_
        rintro e w3 ⟨rfl, H3⟩
        go_wp2_with fail
        go_ret
        exact ⟨rfl, H3.out⟩
      by_cases h8 : 8 < l0.length
      · have e1 : decide ((l0.length : Int) < 4) = false := decide_eq_false (by omega)
        have e2 : decide ((8 : Int) < (l0.length : Int)) = true := decide_eq_true (by omega)
        go_wp2_with fail
        refine (HE.out _ (Below.refl _ _)).mono ?_
        rintro e w3 ⟨rfl, H3⟩
        go_wp2_with fail
        go_ret
        exact ⟨rfl, H3.out⟩
      have e1 : decide ((l0.length : Int) < 4) = false := decide_eq_false (by omega)
      have e2 : decide ((8 : Int) < (l0.length : Int)) = false := decide_eq_false (by omega)
      obtain ⟨a, b, c, d, t1, t2, t3, t4, r0, r1, k2, k3, k4, p1, p2, p3, p4⟩ := reports_plan l0 (by omega) (by omega) hall
      have hC0 := HI.out.2.1
      obtain ⟨ad, e0, q0⟩ := Kd.at_int hC0 0 (by decide) (by omega)
      subst e0
      have q1 := Kd.foot_int hC0 1 (by decide) (by omega)
      rw [show ((0 : Int)).toNat = 0 from rfl, Addr.add_zero', r0] at q0
      rw [show ((1 : Int)).toNat = 1 from rfl, r1] at q1
      change wr.cell? ⟨ad.block, ad.off + 1, none⟩ = some (.int .i64 b) at q1
      have i0 : (0 : Int) < (l0.length : Int) := by omega
      have i1 : (1 : Int) < (l0.length : Int) := by omega
      have i2 : 0 < l0.length := by omega
      have i3 : 1 < l0.length := by omega
      have HK := Lib.hid (And.intro k2 (And.intro k3 k4))
      obtain ⟨p1, b1, x1, p1b⟩ := p1
      have HP1 := Lib.hid (And.intro p1 p1b)
      obtain ⟨p2, p2a, b2, x2, p2b⟩ := p2
      have HP2 := Lib.hid (And.intro p2 (And.intro p2a p2b))
      obtain ⟨p3, p3a, b3, x3, p3b⟩ := p3
      have HP3 := Lib.hid (And.intro p3 (And.intro p3a p3b))
      obtain ⟨p4, p4a, b4, x4, p4b⟩ := p4
      have HP4 := Lib.hid (And.intro p4 (And.intro p4a p4b))
      have HL := Lib.hid (And.intro h4 h8)
      clear hC0 r0 r1 k2 k3 k4 p1 p1b p2 p2a p2b p3 p3a p3b p4 p4a p4b hall
      go_wp2_with fail
      refine start_ (n := 18) (S := fun w' => w'.cell? ad = some (.int .i64 a) ∧ w'.cell? ⟨ad.block, ad.off + 1, none⟩ = some (.int .i64 b)) (ds := [6, 7, 8, 9, 10]) #[false, false, false, false, false, false, false, false, false, false, false, false, false, false, false, false, false, false] (by kernel_rfl) rfl rfl ⟨q0, q1⟩ (fun hHeld => ?_)
      refine pure_ (i := 0) (N := some 44) (v := ?_) (a' := ?_) #[true, false, false, false, false, false, false, false, false, false, false, false, false, false, false, false, false, false] rfl rfl (by kernel_rfl) (fun _ _ _ h => h) (Or.inl ⟨by rfl, ?_⟩) ?_ ?_
      rotate_left
      · intro w'
        go_simp
        with_reducible rfl
      rotate_left
      · simp only [Act.put, List.setIfInBounds_toArray, List.set_cons_zero, List.set_cons_succ, i64_w, i32_w]
        rfl
      refine pure_ (i := 1) (N := some 45) (v := ?_) (a' := ?_) #[true, true, false, false, false, false, false, false, false, false, false, false, false, false, false, false, false, false] rfl rfl (by kernel_rfl) (fun _ _ _ h => h) (Or.inl ⟨by rfl, ?_⟩) ?_ ?_
      rotate_left
      · intro w'
        go_simp
        with_reducible rfl
      rotate_left
      · simp only [Act.put, List.setIfInBounds_toArray, List.set_cons_zero, List.set_cons_succ, i64_w, i32_w]
        rfl
      refine pure_ (i := 3) (N := some 47) (v := ?_) (a' := ?_) #[true, true, false, true, false, false, false, false, false, false, false, false, false, false, false, false, false, false] rfl rfl (by kernel_rfl) (fun _ _ _ h => h) (Or.inl ⟨by rfl, ?_⟩) ?_ ?_
      rotate_left
      · intro w'
        go_simp
        with_reducible rfl
      rotate_left
      · simp only [Act.put, List.setIfInBounds_toArray, List.set_cons_zero, List.set_cons_succ, i64_w, i32_w]
        rfl
      refine pure_ (i := 4) (N := some 48) (v := ?_) (a' := ?_) #[true, true, false, true, true, false, false, false, false, false, false, false, false, false, false, false, false, false] rfl rfl (by kernel_rfl) (fun _ _ _ h => h) (Or.inl ⟨by rfl, ?_⟩) ?_ ?_
      rotate_left
      · intro w'
        go_simp
        with_reducible rfl
      rotate_left
      · simp only [Act.put, List.setIfInBounds_toArray, List.set_cons_zero, List.set_cons_succ, i64_w, i32_w]
        rfl
      refine take_ (i := 2) (N := some 46) (v := ?_) (a' := ?_) #[true, true, true, true, true, false, false, false, false, false, false, false, false, false, false, false, false, false] rfl rfl (by kernel_rfl) (fun _ _ _ h => h) (Or.inl ⟨by rfl, ?_⟩) hHeld ?_ ?_
      rotate_left
      · rintro w' ⟨s0, s1⟩
        go_simp
        with_reducible rfl
      rotate_left
      · simp only [Act.put, List.setIfInBounds_toArray, List.set_cons_zero, List.set_cons_succ, i64_w, i32_w]
        rfl
      refine take_ (i := 5) (N := some 49) (v := ?_) (a' := ?_) #[true, true, true, true, true, true, false, false, false, false, false, false, false, false, false, false, false, false] rfl rfl (by kernel_rfl) (fun _ _ _ h => h) (Or.inl ⟨by rfl, ?_⟩) hHeld ?_ ?_
      rotate_left
      · rintro w' ⟨s0, s1⟩
        go_simp
        with_reducible rfl
      rotate_left
      · simp only [Act.put, List.setIfInBounds_toArray, List.set_cons_zero, List.set_cons_succ, i64_w, i32_w]
        rfl
      refine last_ (i := 6) (N := some 50) #[true, true, true, true, true, true, true, false, false, false, false, false, false, false, false, false, false, false] rfl rfl (by kernel_rfl) (by decide) (fun K hK => ?_)
      refine goes_ Tryz.func18 (by kernel_rfl) rfl #[.int .i64 4, .int .i64 a, .int .i64 b] (by rfl) rfl rfl (by simp only [List.map_toArray, List.map_cons, List.map_nil]; rfl) ?_
      with_reducible refine (impl_MakePair.calls 2000 4 a b t1 _ (XTab.below HI.out.1 (below_drew (Below.refl wr.heap.size wr))) HP1.out.1).mono ?_
      rintro e w3 ⟨rfl, hb⟩
      refine ⟨_, rfl, ?_⟩
      have H3 := Lib.hid (below_step (below_drew (Below.refl wr.heap.size wr)) hb)
      clear hb
      refine hK.out _ _ ?_
      clear hK K
      refine norm_ (a' := ?_) ?_ ?_
      rotate_left
      · show Act.put _ (some 50) _ = _
        simp only [Act.put, List.setIfInBounds_toArray, List.set_cons_zero, List.set_cons_succ, i64_w, i32_w]
        rfl
      refine last_ (i := 7) (N := some 51) #[true, true, true, true, true, true, true, true, false, false, false, false, false, false, false, false, false, false] rfl rfl (by kernel_rfl) (by decide) (fun K hK => ?_)
      refine conv_step 9 31 5 (by rfl) rfl Tryz.underlying9 Tryz.underlying31 Tryz.underlying5 t1 rfl HP1.out.2.1 ?_
      rintro e w6 ⟨v6, rfl, ho0, hb⟩
      refine ⟨_, rfl, ?_⟩
      obtain ⟨A6, c6, rfl, hc6, hf6⟩ := ho0
      have H6 := Lib.hid (And.intro (below_step H3.out hb) (And.intro hc6 (Kd.F_now hf6)))
      clear hb hc6 hf6 H3
      refine hK.out _ _ ?_
      clear hK K
      refine norm_ (a' := ?_) ?_ ?_
      rotate_left
      · show Act.put _ (some 51) _ = _
        simp only [Act.put, List.setIfInBounds_toArray, List.set_cons_zero, List.set_cons_succ, i64_w, i32_w]
        rfl
      refine last_ (i := 8) (N := some 52) #[true, true, true, true, true, true, true, true, true, false, false, false, false, false, false, false, false, false] rfl rfl (by kernel_rfl) (by decide) (fun K hK => ?_)
      refine goes_ Tryz.func11 (by kernel_rfl) rfl #[.int .i64 32, .int .i64 4096, .slice A6 b1.length c6] (by rfl) rfl rfl (by simp only [List.map_toArray, List.map_cons, List.map_nil]; rfl) ?_
      with_reducible refine (impl_Feed.calls 32 4096 _ _ b1 [x1] _ H6.out.2.2 H6.out.2.1 HP1.out.2.2.1).mono ?_
      rintro e w7 ⟨v7, rfl, hv, hb⟩
      refine ⟨_, rfl, ?_⟩
      have hv2 : Kd.V k48 48 w7 w7.heap.size (fun _ => True) v7 [x1] := Kd.S_V hv
      obtain ⟨A7, c7, rfl⟩ := Kd.S_slice hv
      have H7 := Lib.hid (And.intro (below_step H6.out.1 hb) hv2)
      clear hb hv hv2 H6
      refine hK.out _ _ ?_
      clear hK K
      refine norm_ (a' := ?_) ?_ ?_
      rotate_left
      · show Act.put _ (some 52) _ = _
        simp only [Act.put, List.setIfInBounds_toArray, List.set_cons_zero, List.set_cons_succ, i64_w, i32_w]
        rfl
      refine last_ (i := 9) (N := some 53) #[true, true, true, true, true, true, true, true, true, true, false, false, false, false, false, false, false, false] rfl rfl (by kernel_rfl) (by decide) (fun K hK => ?_)
      refine goes_ Tryz.func10 (by kernel_rfl) rfl #[.slice A7 ([x1] : List S48).length c7] (by rfl) rfl rfl (by simp only [List.map_toArray, List.map_cons, List.map_nil]; rfl) ?_
      with_reducible refine (laws_drawEvents.calls 400 (fun _ => True) A7 c7 [x1] [cv x1] _ H7.out.2 HP1.out.2.2.2.1).mono ?_
      rintro e w8 ⟨v8, rfl, ho, hb⟩
      refine ⟨_, rfl, ?_⟩
      obtain ⟨A8, c8, rfl, hc8, hC8⟩ := Kd.N_reads ho
      have H8 := Lib.hid (And.intro (below_step H7.out.1 hb) (And.intro hc8 hC8))
      clear hb ho hc8 hC8 H7
      refine hK.out _ _ ?_
      clear hK K
      refine norm_ (a' := ?_) ?_ ?_
      rotate_left
      · show Act.put _ (some 53) _ = _
        simp only [Act.put, List.setIfInBounds_toArray, List.set_cons_zero, List.set_cons_succ, i64_w, i32_w]
        rfl
      refine last_ (i := 10) (N := some 54) #[true, true, true, true, true, true, true, true, true, true, true, false, false, false, false, false, false, false] rfl rfl (by kernel_rfl) (by decide) (fun K hK => ?_)
      refine goes_ Tryz.func15 (by kernel_rfl) rfl #[.slice A8 ([cv x1] : List S49).length c8] (by rfl) rfl rfl (by simp only [List.map_toArray, List.map_cons, List.map_nil]; rfl) ?_
      with_reducible refine (spec_DrawNumbers.calls 400 A8 c8 [cv x1] 82 [a, b] true _ H8.out.2.2 H8.out.2.1 HP1.out.2.2.2.2).mono ?_
      rintro e w9 ⟨v9, rfl, ho, hb⟩
      refine ⟨_, rfl, ?_⟩
      obtain ⟨Ax, cx, rfl, hcx, hCx⟩ := Kd.R_reads ho
      have H9 := Lib.hid (And.intro (below_step H8.out.1 hb) (And.intro hcx hCx))
      clear hb ho hcx hCx H8
      refine hK.out _ _ ?_
      clear hK K
      refine norm_ (a' := ?_) ?_ ?_
      rotate_left
      · show Act.put _ (some 54) _ = _
        simp only [Act.put, List.setIfInBounds_toArray, List.set_cons_zero, List.set_cons_succ, i64_w, i32_w]
        rfl
      refine pure_ (i := 11) (N := some 43) (v := ?_) (a' := ?_) #[true, true, true, true, true, true, true, true, true, true, true, true, false, false, false, false, false, false] rfl rfl (by kernel_rfl) (fun _ _ _ h => h) (Or.inl ⟨by rfl, ?_⟩) ?_ ?_
      rotate_left
      · intro w'
        go_simp
        with_reducible rfl
      rotate_left
      · simp only [Act.put, List.setIfInBounds_toArray, List.set_cons_zero, List.set_cons_succ, i64_w, i32_w]
        rfl
      refine pure_ (i := 12) (N := some 55) (v := ?_) (a' := ?_) #[true, true, true, true, true, true, true, true, true, true, true, true, true, false, false, false, false, false] rfl rfl (by kernel_rfl) (fun _ _ _ h => h) (Or.inl ⟨by rfl, ?_⟩) ?_ ?_
      rotate_left
      · intro w'
        go_simp
        with_reducible rfl
      rotate_left
      · simp only [Act.put, List.setIfInBounds_toArray, List.set_cons_zero, List.set_cons_succ, i64_w, i32_w]
        rfl
      refine pure_ (i := 13) (N := some 56) (v := ?_) (a' := ?_) #[true, true, true, true, true, true, true, true, true, true, true, true, true, true, false, false, false, false] rfl rfl (by kernel_rfl) (fun _ _ _ h => h) (Or.inl ⟨by rfl, ?_⟩) ?_ ?_
      rotate_left
      · intro w'
        go_simp
        with_reducible rfl
      rotate_left
      · simp only [Act.put, List.setIfInBounds_toArray, List.set_cons_zero, List.set_cons_succ, i64_w, i32_w]
        rfl
      refine pure_ (i := 14) (N := some 57) (v := ?_) (a' := ?_) #[true, true, true, true, true, true, true, true, true, true, true, true, true, true, true, false, false, false] rfl rfl (by kernel_rfl) (fun _ _ _ h => h) (Or.inl ⟨by rfl, ?_⟩) ?_ ?_
      rotate_left
      · intro w'
        go_simp
        with_reducible rfl
      rotate_left
      · simp only [Act.put, List.setIfInBounds_toArray, List.set_cons_zero, List.set_cons_succ, i64_w, i32_w]
        rfl
      refine pure_ (i := 15) (N := some 5) (v := ?_) (a' := ?_) #[true, true, true, true, true, true, true, true, true, true, true, true, true, true, true, true, false, false] rfl rfl (by kernel_rfl) (fun _ _ _ h => h) (Or.inl ⟨by rfl, ?_⟩) ?_ ?_
      rotate_left
      · intro w'
        go_simp
        with_reducible rfl
      rotate_left
      · simp only [Act.put, List.setIfInBounds_toArray, List.set_cons_zero, List.set_cons_succ, i64_w, i32_w]
        rfl
      refine pure_ (i := 16) (N := some 6) (v := ?_) (a' := ?_) #[true, true, true, true, true, true, true, true, true, true, true, true, true, true, true, true, true, false] rfl rfl (by kernel_rfl) (fun _ _ _ h => h) (Or.inl ⟨by rfl, ?_⟩) ?_ ?_
      rotate_left
      · intro w'
        go_simp
        with_reducible rfl
      rotate_left
      · simp only [Act.put, List.setIfInBounds_toArray, List.set_cons_zero, List.set_cons_succ, i64_w, i32_w]
        rfl
      refine pure_ (i := 17) (N := some 7) (v := ?_) (a' := ?_) #[true, true, true, true, true, true, true, true, true, true, true, true, true, true, true, true, true, true] rfl rfl (by kernel_rfl) (fun _ _ _ h => h) (Or.inl ⟨by rfl, ?_⟩) ?_ ?_
      rotate_left
      · intro w'
        go_simp
        with_reducible rfl
      rotate_left
      · simp only [Act.put, List.setIfInBounds_toArray, List.set_cons_zero, List.set_cons_succ, i64_w, i32_w]
        rfl
      refine done_ (by kernel_rfl) ?_
      have HB1 := Lib.hid (And.intro H9.out.1 trivial)
      have HYx := Lib.hid H9.out.2.1
      have HV1 := Lib.hid H9.out.2.2
      have ct2 := Lib.hid (fun (W : World) (h : (Kd.int .i64).C W (some ad) l0.length l0) => show (Kd.int .i64).C W (some ad) 2 [a, b] by have := Kd.C_take h (m := 2) (by omega); rw [HK.out.1] at this; exact this)
      have ct3 := Lib.hid (fun (W : World) (h : (Kd.int .i64).C W (some ad) l0.length l0) => show (Kd.int .i64).C W (some ad) 3 [a, b, c] by have := Kd.C_take h (m := 3) (by omega); rw [HK.out.2.1] at this; exact this)
      have ct4 := Lib.hid (fun (W : World) (h : (Kd.int .i64).C W (some ad) l0.length l0) => show (Kd.int .i64).C W (some ad) 4 [a, b, c, d] by have := Kd.C_take h (m := 4) (by omega); rw [HK.out.2.2] at this; exact this)
      have hcap := HI.out.2.2
      have s2 : ∀ W : World, (Instr.slice 35 (.slice (some ad) l0.length c0) none (some (.int .i64 2)) none).run Tryz.prog W = .ok (.slice (some ad) 2 c0) W := cut_head 35 2 1 Tryz.underlying35 (by kernel_rfl) (some ad) l0.length c0 2 (by omega) (by omega)
      have s3 : ∀ W : World, (Instr.slice 35 (.slice (some ad) l0.length c0) none (some (.int .i64 3)) none).run Tryz.prog W = .ok (.slice (some ad) 3 c0) W := cut_head 35 2 1 Tryz.underlying35 (by kernel_rfl) (some ad) l0.length c0 3 (by omega) (by omega)
      have s4 : ∀ W : World, (Instr.slice 35 (.slice (some ad) l0.length c0) none (some (.int .i64 4)) none).run Tryz.prog W = .ok (.slice (some ad) 4 c0) W := cut_head 35 2 1 Tryz.underlying35 (by kernel_rfl) (some ad) l0.length c0 4 (by omega) (by omega)
      have HCAP := Lib.hid (show 4 ≤ c0 by omega)
      clear hcap H9 q0 q1
      go_wp2_with fail
      refine (makeList8 2000 (some ad) c0 [a, b, c, d] a b c d t2 _ (XTab.below HI.out.1 HB1.out.1) (ct4.out _ (Kd.C_below HI.out.2.1 HB1.out.1)) HCAP.out HP2.out.1 HP2.out.2.1).mono ?_
      rintro e w3 ⟨rfl, hb⟩
      have G1 := Lib.hid hb
      clear hb
      go_wp2_with (first | ((with_reducible refine gate_dst (N := 62) rfl ?_); refine conv_ev 9 31 5 rfl rfl Tryz.underlying9 Tryz.underlying31 Tryz.underlying5 t2 rfl HP2.out.2.2.1 ?_; rintro e w6 ⟨v6, rfl, ho0, hb⟩; refine ⟨_, rfl, ?_⟩; obtain ⟨A6, c6, rfl, hc6, hf6⟩ := ho0; have G2 := Lib.hid (And.intro (below_step G1.out hb) (And.intro hc6 (Kd.F_now hf6))); clear hb hc6 hf6 G1))
      refine (impl_Feed.calls 32 4096 A6 c6 b2 [x2] _ G2.out.2.2 G2.out.2.1 HP2.out.2.2.2.1).mono ?_
      rintro e w7 ⟨v7, rfl, hv, hb⟩
      have hv2 : Kd.V k48 48 w7 w7.heap.size (fun _ => True) v7 [x2] := Kd.S_V hv
      obtain ⟨A7, c7, rfl⟩ := Kd.S_slice hv
      have G3 := Lib.hid (And.intro (below_step G2.out.1 hb) hv2)
      clear hb hv hv2 G2
      go_wp2_with fail
      refine (laws_drawEvents.calls 400 (fun _ => True) A7 c7 [x2] [cv x2] _ G3.out.2 HP2.out.2.2.2.2.1).mono ?_
      rintro e w8 ⟨v8, rfl, ho, hb⟩
      obtain ⟨A8, c8, rfl, hc8, hC8⟩ := Kd.N_reads ho
      have G4 := Lib.hid (And.intro (below_step G3.out.1 hb) (And.intro hc8 hC8))
      clear hb ho hc8 hC8 G3
      go_wp2_with fail
      refine (spec_DrawNumbers.calls 400 A8 c8 [cv x2] 116 [48, a, b, c, d] true _ G4.out.2.2 G4.out.2.1 HP2.out.2.2.2.2.2).mono ?_
      rintro e wE2 ⟨v9, rfl, ho, hb⟩
      obtain ⟨Ay2, cy2, rfl, hcy, hCy⟩ := Kd.R_reads ho
      have HY2 := Lib.hid hcy
      have HB2 := Lib.hid (And.intro (below_step HB1.out.1 (below_step G4.out.1 hb)) (fun (A : Option Addr) (n : Nat) (l : List Int) (h : (Kd.int .i64).C w9 A n l) => show (Kd.int .i64).C wE2 A n l from Kd.C_below h (below_step G4.out.1 hb)))
      have HV2 := Lib.hid (show (Kd.int .i64).C wE2 Ax ([a, b] : List Int).length [a, b] ∧ (Kd.int .i64).C wE2 Ay2 ([48, a, b, c, d] : List Int).length [48, a, b, c, d] from ⟨HB2.out.2 _ _ _ HV1.out, hCy⟩)
      clear hb ho hcy hCy G4 HV1 HB1
      go_wp2_with fail
      refine (makeList0 2000 (some ad) c0 l0 l0 t3 _ (XTab.below HI.out.1 HB2.out.1) (Kd.C_below HI.out.2.1 HB2.out.1) HI.out.2.2 HP3.out.1 HP3.out.2.1).mono ?_
      rintro e w3 ⟨rfl, hb⟩
      have G1 := Lib.hid hb
      clear hb
      go_wp2_with (first | ((with_reducible refine gate_dst (N := 72) rfl ?_); refine conv_ev 9 31 5 rfl rfl Tryz.underlying9 Tryz.underlying31 Tryz.underlying5 t3 rfl HP3.out.2.2.1 ?_; rintro e w6 ⟨v6, rfl, ho0, hb⟩; refine ⟨_, rfl, ?_⟩; obtain ⟨A6, c6, rfl, hc6, hf6⟩ := ho0; have G2 := Lib.hid (And.intro (below_step G1.out hb) (And.intro hc6 (Kd.F_now hf6))); clear hb hc6 hf6 G1))
      refine (impl_Feed.calls 32 4096 A6 c6 b3 [x3] _ G2.out.2.2 G2.out.2.1 HP3.out.2.2.2.1).mono ?_
      rintro e w7 ⟨v7, rfl, hv, hb⟩
      have hv2 : Kd.V k48 48 w7 w7.heap.size (fun _ => True) v7 [x3] := Kd.S_V hv
      obtain ⟨A7, c7, rfl⟩ := Kd.S_slice hv
      have G3 := Lib.hid (And.intro (below_step G2.out.1 hb) hv2)
      clear hb hv hv2 G2
      go_wp2_with fail
      refine (laws_drawEvents.calls 400 (fun _ => True) A7 c7 [x3] [cv x3] _ G3.out.2 HP3.out.2.2.2.2.1).mono ?_
      rintro e w8 ⟨v8, rfl, ho, hb⟩
      obtain ⟨A8, c8, rfl, hc8, hC8⟩ := Kd.N_reads ho
      have G4 := Lib.hid (And.intro (below_step G3.out.1 hb) (And.intro hc8 hC8))
      clear hb ho hc8 hC8 G3
      go_wp2_with fail
      refine (spec_DrawNumbers.calls 400 A8 c8 [cv x3] 16227 l0 true _ G4.out.2.2 G4.out.2.1 HP3.out.2.2.2.2.2).mono ?_
      rintro e wE3 ⟨v9, rfl, ho, hb⟩
      obtain ⟨Ay3, cy3, rfl, hcy, hCy⟩ := Kd.R_reads ho
      have HY3 := Lib.hid hcy
      have HB3 := Lib.hid (And.intro (below_step HB2.out.1 (below_step G4.out.1 hb)) (fun (A : Option Addr) (n : Nat) (l : List Int) (h : (Kd.int .i64).C wE2 A n l) => show (Kd.int .i64).C wE3 A n l from Kd.C_below h (below_step G4.out.1 hb)))
      have HV3 := Lib.hid (show (Kd.int .i64).C wE3 Ax ([a, b] : List Int).length [a, b] ∧ (Kd.int .i64).C wE3 Ay2 ([48, a, b, c, d] : List Int).length [48, a, b, c, d] ∧ (Kd.int .i64).C wE3 Ay3 (l0 : List Int).length l0 from ⟨HB3.out.2 _ _ _ HV2.out.1, HB3.out.2 _ _ _ HV2.out.2, hCy⟩)
      clear hb ho hcy hCy G4 HV2 HB2
      go_wp2_with fail
      refine (makeList7 2000 (some ad) c0 [a, b, c] a b c t4 _ (XTab.below HI.out.1 HB3.out.1) (ct3.out _ (Kd.C_below HI.out.2.1 HB3.out.1)) (Nat.le_trans (show 3 ≤ 4 by decide) HCAP.out) HP4.out.1 HP4.out.2.1).mono ?_
      rintro e w3 ⟨rfl, hb⟩
      have G1 := Lib.hid hb
      clear hb
      go_wp2_with (first | ((with_reducible refine gate_dst (N := 83) rfl ?_); refine conv_ev 9 31 5 rfl rfl Tryz.underlying9 Tryz.underlying31 Tryz.underlying5 t4 rfl HP4.out.2.2.1 ?_; rintro e w6 ⟨v6, rfl, ho0, hb⟩; refine ⟨_, rfl, ?_⟩; obtain ⟨A6, c6, rfl, hc6, hf6⟩ := ho0; have G2 := Lib.hid (And.intro (below_step G1.out hb) (And.intro hc6 (Kd.F_now hf6))); clear hb hc6 hf6 G1))
      refine (impl_Feed.calls 32 4096 A6 c6 b4 [x4] _ G2.out.2.2 G2.out.2.1 HP4.out.2.2.2.1).mono ?_
      rintro e w7 ⟨v7, rfl, hv, hb⟩
      have hv2 : Kd.V k48 48 w7 w7.heap.size (fun _ => True) v7 [x4] := Kd.S_V hv
      obtain ⟨A7, c7, rfl⟩ := Kd.S_slice hv
      have G3 := Lib.hid (And.intro (below_step G2.out.1 hb) hv2)
      clear hb hv hv2 G2
      go_wp2_with fail
      refine (laws_drawEvents.calls 400 (fun _ => True) A7 c7 [x4] [cv x4] _ G3.out.2 HP4.out.2.2.2.2.1).mono ?_
      rintro e w8 ⟨v8, rfl, ho, hb⟩
      obtain ⟨A8, c8, rfl, hc8, hC8⟩ := Kd.N_reads ho
      have G4 := Lib.hid (And.intro (below_step G3.out.1 hb) (And.intro hc8 hC8))
      clear hb ho hc8 hC8 G3
      go_wp2_with fail
      refine (spec_DrawNumbers.calls 400 A8 c8 [cv x4] 16210 [a, b, c] true _ G4.out.2.2 G4.out.2.1 HP4.out.2.2.2.2.2).mono ?_
      rintro e wE4 ⟨v9, rfl, ho, hb⟩
      obtain ⟨Ay4, cy4, rfl, hcy, hCy⟩ := Kd.R_reads ho
      have HY4 := Lib.hid hcy
      have HB4 := Lib.hid (And.intro (below_step HB3.out.1 (below_step G4.out.1 hb)) (fun (A : Option Addr) (n : Nat) (l : List Int) (h : (Kd.int .i64).C wE3 A n l) => show (Kd.int .i64).C wE4 A n l from Kd.C_below h (below_step G4.out.1 hb)))
      have HV4 := Lib.hid (show (Kd.int .i64).C wE4 Ax ([a, b] : List Int).length [a, b] ∧ (Kd.int .i64).C wE4 Ay2 ([48, a, b, c, d] : List Int).length [48, a, b, c, d] ∧ (Kd.int .i64).C wE4 Ay3 (l0 : List Int).length l0 ∧ (Kd.int .i64).C wE4 Ay4 ([a, b, c] : List Int).length [a, b, c] from ⟨HB4.out.2 _ _ _ HV3.out.1, HB4.out.2 _ _ _ HV3.out.2.1, HB4.out.2 _ _ _ HV3.out.2.2, hCy⟩)
      clear hb ho hcy hCy G4 HV3 HB3
      have HB5 := Lib.hid HB4.out.1
      have HV5 := Lib.hid HV4.out
      clear HB4 HV4
      go_wp2_with fail
      refine (impl_Pack.calls 63 0 99 16227 _ ask_pack).mono ?_
      rintro e w10 ⟨rfl, ⟨nd, rfl⟩⟩
      have HB10 := Lib.hid (pw_below_drewN HB5.out nd)
      have HV10 := Lib.hid (And.intro (Kd.C_drewN HV5.out.1 nd) (And.intro (Kd.C_drewN HV5.out.2.1 nd) (And.intro (Kd.C_drewN HV5.out.2.2.1 nd) (Kd.C_drewN HV5.out.2.2.2 nd))))
      generalize (World.drewN _ nd) = w10 at HB10 HV10 ⊢
      clear HB5 HV5
      go_wp2_with fail
      refine (impl_Pack.calls 63 0 82 16210 _ at_pack).mono ?_
      rintro e w11 ⟨rfl, ⟨nd, rfl⟩⟩
      have HB11 := Lib.hid (pw_below_drewN HB10.out nd)
      have HV11 := Lib.hid (And.intro (Kd.C_drewN HV10.out.1 nd) (And.intro (Kd.C_drewN HV10.out.2.1 nd) (And.intro (Kd.C_drewN HV10.out.2.2.1 nd) (Kd.C_drewN HV10.out.2.2.2 nd))))
      generalize (World.drewN _ nd) = w11 at HB11 HV11 ⊢
      clear HB10 HV10
      go_wp2_with fail
      refine (spec_SameInts.calls 400 Ax cx [a, b] (some ad) c0 [a, b] true _ HV11.out.1 HYx.out (ct2.out _ (Kd.C_below HI.out.2.1 HB11.out)) (Nat.le_trans (show 2 ≤ 4 by decide) HCAP.out) (same_f [a, b] (by simp) 400 (by simp))).mono ?_
      rintro e w12 ⟨rfl, ⟨nd, rfl⟩⟩
      have HB12 := Lib.hid (pw_below_drewN HB11.out nd)
      have HV12 := Lib.hid (And.intro (Kd.C_drewN HV11.out.1 nd) (And.intro (Kd.C_drewN HV11.out.2.1 nd) (And.intro (Kd.C_drewN HV11.out.2.2.1 nd) (Kd.C_drewN HV11.out.2.2.2 nd))))
      generalize (World.drewN _ nd) = w12 at HB12 HV12 ⊢
      clear HB11 HV11
      have HBL := Lib.hid (show Below wr.heap.size wr (w12.alloc (Obj.cells #[.int .i64 48] 2)) from below_alloc HB12.out _)
      have HO := Lib.hid (show (Kd.int .i64).R 2 (w12.alloc (Obj.cells #[.int .i64 48] 2)) wr.heap.size (fun _ => True) (.slice (some ⟨w12.heap.size, 0, none⟩) 1 1) [(48 : Int)] from
        ⟨fun _ _ => trivial, [.int .i64 48], show World.ownsRow (w12.alloc (Obj.cells #[.int .i64 48] 2)) wr.heap.size 2 1 (.slice (some ⟨w12.heap.size, 0, none⟩) 1 1) 1 [.int .i64 48] by simpa using World.ownsRow_lit (base := wr.heap.size) (e := 2) (size := 1) w12 #[.int .i64 48] 1 (below_size HB12.out) (by simp [maxLen]) (by simp), Reps.one (show Kd.M (Kd.int .i64) _ _ _ (48 : Int) [.int .i64 48] from rfl) (Reps.none _ _)⟩)
      have HQ := Lib.hid (show (Kd.int .i64).C (w12.alloc (Obj.cells #[.int .i64 48] 2)) (some ad) 4 [a, b, c, d] from ct4.out _ (Kd.C_below HI.out.2.1 HBL.out))
      go_wp2_with ((with_reducible refine gate_builtin (b := .append) (xs := #[.tmp 126, .tmp 128]) rfl ?_); refine wpList_step (fun K hK => ?_); refine Kd.R_append_rows_step (P := Tryz.prog) (W := (w12.alloc (Obj.cells #[.int .i64 48] 2))) (Kc := K) (Kd.int .i64) (Rr := (Kd.int .i64).K (w12.alloc (Obj.cells #[.int .i64 48] 2))) (w0 := wr) wr.heap.size (by rfl) (.tmp 126) (.tmp 128) 35 2 (.int .i64 0) 8 rfl Tryz.underlying35 (by kernel_rfl) rfl (by decide) (by decide) (.slice (some ⟨w12.heap.size, 0, none⟩) 1 1) [48] [a, b, c, d] (some ad) 4 c0 (fun _ => True) (fun _ => False) rfl rfl HO.out HQ.out (fun _ _ h => h) (fun _ h => h.elim) (fun _ _ => trivial) HBL.out (below_size HBL.out) (by simp) ?_; intro v13 w13 ho hb hg hat; refine hK _ _ ?_; clear hK K; have H13 := Lib.hid (And.intro hb (And.intro (show (Kd.int .i64).R 2 w13 wr.heap.size (fun _ => True) v13 [48, a, b, c, d] from ho) (((below_alloc (Below.refl w12.heap.size w12) _).grown hg (by simp) (fun k hk => by simp [Value.ownBlock] at hk; omega))))); clear ho hb hg hat; obtain ⟨A13, c13, hv13, hc13, hC13⟩ := Kd.R_reads H13.out.2.1; subst hv13; have HC13 := Lib.hid (And.intro hc13 hC13); clear hc13 hC13)
      refine (spec_SameInts.calls 400 Ay2 cy2 [48, a, b, c, d] A13 c13 [48, a, b, c, d] true _ (Kd.C_below HV12.out.2.1 H13.out.2.2) HY2.out HC13.out.2 HC13.out.1 (same_f [48, a, b, c, d] (by simp) 400 (by simp))).mono ?_
      have HB13 := Lib.hid H13.out.1
      have HV13 := Lib.hid (And.intro (Kd.C_below HV12.out.1 H13.out.2.2) (And.intro (Kd.C_below HV12.out.2.1 H13.out.2.2) (And.intro (Kd.C_below HV12.out.2.2.1 H13.out.2.2) (Kd.C_below HV12.out.2.2.2 H13.out.2.2))))
      clear H13 HC13 HBL HO HQ
      rintro e w14 ⟨rfl, ⟨nd, rfl⟩⟩
      have HB14 := Lib.hid (pw_below_drewN HB13.out nd)
      have HV14 := Lib.hid (And.intro (Kd.C_drewN HV13.out.1 nd) (And.intro (Kd.C_drewN HV13.out.2.1 nd) (And.intro (Kd.C_drewN HV13.out.2.2.1 nd) (Kd.C_drewN HV13.out.2.2.2 nd))))
      generalize (World.drewN _ nd) = w14 at HB14 HV14 ⊢
      clear HB13 HV13
      go_wp2_with fail
      refine (spec_SameInts.calls 400 Ay3 cy3 l0 (some ad) c0 l0 true _ HV14.out.2.2.1 HY3.out (Kd.C_below HI.out.2.1 HB14.out) HI.out.2.2 (same_f l0 (by omega) 400 (by omega))).mono ?_
      rintro e w15 ⟨rfl, ⟨nd, rfl⟩⟩
      have HB15 := Lib.hid (pw_below_drewN HB14.out nd)
      have HV15 := Lib.hid (And.intro (Kd.C_drewN HV14.out.1 nd) (And.intro (Kd.C_drewN HV14.out.2.1 nd) (And.intro (Kd.C_drewN HV14.out.2.2.1 nd) (Kd.C_drewN HV14.out.2.2.2 nd))))
      generalize (World.drewN _ nd) = w15 at HB15 HV15 ⊢
      clear HB14 HV14
      go_wp2_with fail
      refine (spec_SameInts.calls 400 Ay4 cy4 [a, b, c] (some ad) c0 [a, b, c] true _ HV15.out.2.2.2 HY4.out (ct3.out _ (Kd.C_below HI.out.2.1 HB15.out)) (Nat.le_trans (show 3 ≤ 4 by decide) HCAP.out) (same_f [a, b, c] (by simp) 400 (by simp))).mono ?_
      rintro e w16 ⟨rfl, ⟨nd, rfl⟩⟩
      have HB16 := Lib.hid (pw_below_drewN HB15.out nd)
      have HV16 := Lib.hid (And.intro (Kd.C_drewN HV15.out.1 nd) (And.intro (Kd.C_drewN HV15.out.2.1 nd) (And.intro (Kd.C_drewN HV15.out.2.2.1 nd) (Kd.C_drewN HV15.out.2.2.2 nd))))
      generalize (World.drewN _ nd) = w16 at HB16 HV16 ⊢
      clear HB15 HV15
      go_wp2_with fail
      refine (HE.out _ HB16.out).mono ?_
      rintro e w17 ⟨rfl, H17⟩
      go_wp2_with fail
      go_ret
      exact ⟨rfl, H17.out⟩
theorem FnDrawReports_true (l : List Int) (_ : l.length ≤ maxLen) (_ : ∀ x ∈ l, (Lit.int .i64 x).wf = true) : laws_FnDrawReports.f l = some true := if_pos rfl
end Go.Proofs.YtjkpelaeelihhaaGreatDoorRR.Y
end
