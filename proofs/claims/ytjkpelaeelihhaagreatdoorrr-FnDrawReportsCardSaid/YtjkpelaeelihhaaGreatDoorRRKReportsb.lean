/- Texts of this claim, joined: XRepPlan Y64 Y65. Of each, what the claim uses. -/
import Derived.Test.YtjkpelaeelihhaaGreatDoorRRKReportsa
section
namespace Go.Proofs.YtjkpelaeelihhaaGreatDoorRR.Y
open Go.RowKit Go.Proofs.YtjkpelaeelihhaaGreatDoorRRW.PrintWords Go.Proofs.YtjkpelaeelihhaaGreatDoorRRW.PrintLast Go.Proofs.YtjkpelaeelihhaaGreatDoorRRW.PrintMore
set_option linter.unusedSimpArgs false
set_option linter.unusedVariables false
set_option maxRecDepth 100000
/-- A text is read as one event with a command and numbers. -/
def Reads1 (t : ByteArray) (c : Int) (ps : List Int) : Prop := ∃ b x, gosem_conv.f t = some b ∧ impl_Feed.f 32 4096 b = some [x] ∧ laws_drawEvents.f 400 [x] = some [cv x] ∧ spec_DrawNumbers.f 400 [cv x] = some (c, ps, true)
theorem reads1 (t : ByteArray) (c : Int) (ps : List Int) (hs : t.size ≤ 100) (hr : X.run .gr (X.nb t) = some (.gr, [X.evCsi c ps])) (hl : ps.length ≤ 20) (hv : ∀ p ∈ ps, 0 ≤ p ∧ p < 2147483647) : Reads1 t c ps := by
  refine ⟨bytesOf t, X.toS (X.evCsi c ps), conv_f t (by omega), feed_f t (by omega) hr, drawEvents_f [X.toS (X.evCsi c ps)] (by simp) 400 (by simp), ?_⟩
  have e0 : (cv (X.toS (X.evCsi c ps))).f0 = 2 := rfl
  have e3 : (cv (X.toS (X.evCsi c ps))).f3 = c := rfl
  have e4 : (cv (X.toS (X.evCsi c ps))).f4 = ps := rfl
  have := numbers_f (cv (X.toS (X.evCsi c ps))) e0 (by rw [e4]; omega) (by rw [e4]; exact hv) 400 (by rw [e4]; omega)
  rw [this, e3, e4]
theorem ask_pack : impl_Pack.f 63 0 99 = some 16227 := by kernel_rfl
theorem at_pack : impl_Pack.f 63 0 82 = some 16210 := by kernel_rfl
theorem reports_plan (l : List Int) (h4 : 4 ≤ l.length) (h8 : l.length ≤ 8) (hv : ∀ n ∈ l, 1 ≤ n ∧ n ≤ 9999) : ∃ (a b c d : Int) (t1 t2 t3 t4 : ByteArray), rd l 0 = a ∧ rd l 1 = b ∧ l.take 2 = [a, b] ∧ l.take 3 = [a, b, c] ∧ l.take 4 = [a, b, c, d] ∧
    (impl_MakePair.f 2000 4 a b = some t1 ∧ Reads1 t1 82 [a, b]) ∧
    (impl_count.f 2000 [a, b, c, d] = some [a, b, c, d] ∧ xansi_InBandResize.f 2000 a b c d = some t2 ∧ Reads1 t2 116 [48, a, b, c, d]) ∧
    (impl_count.f 2000 l = some l ∧ xansi_PrimaryDeviceAttributes.f 2000 l = some t3 ∧ Reads1 t3 16227 l) ∧
    (impl_count.f 2000 [a, b, c] = some [a, b, c] ∧ xansi_ExtendedCursorPositionReport.f 2000 a b c = some t4 ∧ Reads1 t4 16210 [a, b, c]) := by
  obtain ⟨ns, rfl, hn⟩ : ∃ ns : List Nat, l = ns.map (fun n : Nat => (n : Int)) ∧ ∀ n ∈ ns, 1 ≤ n ∧ n ≤ 9999 := by
    refine ⟨l.map Int.toNat, ?_, fun n hm => ?_⟩
    · rw [List.map_map]
      conv => lhs; rw [← List.map_id l]
      exact List.map_congr_left fun x hx => by have := hv x hx; show x = ((x.toNat : Nat) : Int); omega
    · obtain ⟨x, hx, rfl⟩ := List.mem_map.1 hm
      have := hv x hx
      omega
  match ns, h4, h8, hn with
  | a :: b :: c :: d :: r, h4, h8, hn =>
    have ha := hn a (by simp)
    have hb := hn b (by simp)
    have hc := hn c (by simp)
    have hd := hn d (by simp)
    have hl : r.length ≤ 4 := by simp only [List.length_map, List.length_cons] at h8; omega
    obtain ⟨t1, a1, a2, a3⟩ := pair_rep a b ha hb 2000 (by omega)
    obtain ⟨t2, b1, b2, b3⟩ := resize_rep a b c d ha hb hc hd 2000 (by omega)
    obtain ⟨t3, c1, c2, c3⟩ := attrs_rep a (b :: c :: d :: r) ha.2 (fun m hm => (hn m (List.mem_cons_of_mem _ hm)).2) (by simp) (by simp only [List.length_cons]; omega) 2000 (by omega)
    obtain ⟨t4, d1, d2, d3⟩ := place_rep a b c ha hb hc 2000 (by omega)
    refine ⟨a, b, c, d, t1, t2, t3, t4, rfl, rfl, by simp, by simp, by simp, ⟨a1, ?_⟩, ⟨count_rep _ (by simp) 2000 (by omega), b1, ?_⟩, ⟨count_rep _ (by simp only [List.length_map, List.length_cons]; omega) 2000 (by omega), c1, ?_⟩, ⟨count_rep _ (by simp) 2000 (by omega), d1, ?_⟩⟩
    · refine reads1 _ _ _ a3 ?_ (by simp) (fun p hp => ?_)
      · rw [a2]; exact run_plainN a [b] 82 (by omega) ha.2 (fun m hm => by rw [List.mem_singleton.1 hm]; exact hb.2) (by simp)
      · simp only [List.mem_cons, List.not_mem_nil, or_false] at hp
        omega
    · refine reads1 _ _ _ b3 ?_ (by simp) (fun p hp => ?_)
      · rw [b2]; exact run_plainN 48 [a, b, c, d] 116 (by omega) (by omega) (fun m hm => by simp only [List.mem_cons, List.not_mem_nil, or_false] at hm; omega) (by simp)
      · simp only [List.mem_cons, List.not_mem_nil, or_false] at hp
        omega
    · refine reads1 _ _ _ c3 ?_ (by simp only [List.length_map, List.length_cons]; omega) (fun p hp => ?_)
      · rw [c2]; exact run_askN a (b :: c :: d :: r) 99 (by omega) ha.2 (fun m hm => (hn m (List.mem_cons_of_mem _ hm)).2) (by simp only [List.length_cons]; omega)
      · obtain ⟨m, hm, rfl⟩ := List.mem_map.1 hp
        have := hn m hm
        omega
    · refine reads1 _ _ _ d3 ?_ (by simp) (fun p hp => ?_)
      · rw [d2]; exact run_askN a [b, c] 82 (by omega) ha.2 (fun m hm => by simp only [List.mem_cons, List.not_mem_nil, or_false] at hm; omega) (by simp)
      · simp only [List.mem_cons, List.not_mem_nil, or_false] at hp
        omega
end Go.Proofs.YtjkpelaeelihhaaGreatDoorRR.Y
end
section
namespace Go.Proofs.YtjkpelaeelihhaaGreatDoorRR.Y
open Go.RowKit Go.Proofs.YtjkpelaeelihhaaGreatDoorRRW.PrintWords Go.Proofs.YtjkpelaeelihhaaGreatDoorRRW.PrintLast Go.Proofs.YtjkpelaeelihhaaGreatDoorRRW.PrintMore
attribute [local go_sem] max2_int min2_int max_two min_two max_three min_three max_four min_four   -- for this text's walks alone
set_option linter.unusedVariables false
set_option linter.unusedSimpArgs false
set_option maxHeartbeats 8000000 in
set_option maxRecDepth 100000 in
theorem xansi_PrimaryDeviceAttributes.calls (k : Nat) (A0 : Option Addr) (c0 : Nat) (l0 : List Int) (r : ByteArray) (w : World) (hT : XTab w) (hr0 : Kd.C (Kd.int .i64) w A0 l0.length l0) (hc0 : l0.length ≤ c0) (h : xansi_PrimaryDeviceAttributes.f k l0 = some r) :
    Calls Tryz.prog 72 #[.slice A0 l0.length c0] w fun e w' => e = .returned (.string r) ∧ Below w.heap.size w w' := by
  have HT := Aside0.mk hT
  clear hT
  have HR0 := Aside0.mk hr0
  have HC0 := Aside0.mk hc0
  clear hr0 hc0
  have HB := Aside0.mk (Below.refl w.heap.size w)
  have H : (if (l0.length : Int) = 0 then (some (⟨#[27, 91, 99]⟩ : ByteArray)) else (if (l0.length : Int) = 1 then (if 0 < (l0.length : Int) then (if (rd l0 0) = 0 then (some (⟨#[27, 91, 48, 99]⟩ : ByteArray)) else (xansi_PrimaryDeviceAttributes.j0 k l0)) else (none)) else (xansi_PrimaryDeviceAttributes.j0 k l0))) = some r := h
  clear h
  have HC2 := Aside0.mk H
  clear H
  go_enter Tryz.func72, Tryz.ntmps72
  go_upto_if 8 with (fail)
  go_cut [] (fun wc => ∃ (kq : Nat), Aside0 (xansi_PrimaryDeviceAttributes.j0 kq l0 = some r) ∧ Aside0 (kq ≤ k) ∧ Aside0 (Below w.heap.size w wc))
  case first =>
    have H := HC2.out
    clear HC2
    by_cases c3 : (l0.length : Int) = 0
    · rw [if_pos c3] at H
      have c3b0 : ((l0.length : Int) == 0) = true := beq_iff_eq.mpr c3
      have c3b1 : ((l0.length : Int) != 0) = false := bne_eq_false_iff_eq.mpr c3
      clear c3
      (first | rw [c3b0] | (simp only [i64_w, i32_w]; rw [c3b0]) | skip)
      obtain rfl := Option.some.inj H
      go_wp2
      go_ret
      exact ⟨by first | rfl | (simp [errW_none, errW_some] <;> rfl) | (simp [*, errW_none, errW_some] <;> rfl), by repeat (first | (with_reducible first | exact HB.out | apply below_alloc | apply pw_below_drewN | apply below_drew1) | exact HB.out)⟩
    · rw [if_neg c3] at H
      have c3b0 : ((l0.length : Int) == 0) = false := beq_eq_false_iff_ne.mpr c3
      have c3b1 : ((l0.length : Int) != 0) = true := bne_iff_ne.mpr c3
      have c3b2 : ¬ (l0 = []) := fun h_ => c3 (by rw [h_]; rfl)
      (first | rw [c3b0] | (simp only [i64_w, i32_w]; rw [c3b0]) | skip)
      by_cases c4 : (l0.length : Int) = 1
      · rw [if_pos c4] at H
        have c4b0 : ((l0.length : Int) == 1) = true := beq_iff_eq.mpr c4
        have c4b1 : ((l0.length : Int) != 1) = false := bne_eq_false_iff_eq.mpr c4
        clear c4
        by_cases c5 : 0 < (l0.length : Int)
        · rw [if_pos c5] at H
          have c5b0 : decide (0 < (l0.length : Int)) = true := decide_eq_true c5
          have c5b1 : decide (0 < l0.length) = true := decide_eq_true (by omega)
          clear c5
          by_cases c6 : (rd l0 0) = 0
          · rw [if_pos c6] at H
            have c6b0 : ((rd l0 0) == 0) = true := beq_iff_eq.mpr c6
            have c6b1 : ((rd l0 0) != 0) = false := bne_eq_false_iff_eq.mpr c6
            clear c6
            obtain rfl := Option.some.inj H
            have p361 : 0 ≤ (0 : Int) := (by omega)
            have q361 : 0 < (l0.length : Int) := of_decide_eq_true (by first | (with_reducible assumption) | assumption)
            obtain ⟨ad361, e361, hx361_0⟩ := Kd.at_int HR0.out 0 p361 q361
            cases e361
            have qi361 : (0 < l0.length) = True := eq_true (by omega)
            (try rw [show ((0 : Int)).toNat = 0 from rfl] at hx361_0)
            (try rw [Addr.add_zero'] at hx361_0)
            replace hx361_0 := (HB.out.cell (World.block_lt_of_cell? w _ hx361_0)).trans hx361_0
            replace p361 := eq_true p361
            replace q361 := eq_true q361
            go_wp2
            go_ret
            exact ⟨by first | rfl | (simp [errW_none, errW_some] <;> rfl) | (simp [*, errW_none, errW_some] <;> rfl), by repeat (first | (with_reducible first | exact HB.out | apply below_alloc | apply pw_below_drewN | apply below_drew1) | exact HB.out)⟩
          · rw [if_neg c6] at H
            have c6b0 : ((rd l0 0) == 0) = false := beq_eq_false_iff_ne.mpr c6
            have c6b1 : ((rd l0 0) != 0) = true := bne_iff_ne.mpr c6
            have H' := Aside0.mk H
            clear H
            have p361 : 0 ≤ (0 : Int) := (by omega)
            have q361 : 0 < (l0.length : Int) := of_decide_eq_true (by first | (with_reducible assumption) | assumption)
            obtain ⟨ad361, e361, hx361_0⟩ := Kd.at_int HR0.out 0 p361 q361
            cases e361
            have qi361 : (0 < l0.length) = True := eq_true (by omega)
            (try rw [show ((0 : Int)).toNat = 0 from rfl] at hx361_0)
            (try rw [Addr.add_zero'] at hx361_0)
            replace hx361_0 := (HB.out.cell (World.block_lt_of_cell? w _ hx361_0)).trans hx361_0
            replace p361 := eq_true p361
            replace q361 := eq_true q361
            go_wp2
            go_meet
            case rel => exact ⟨_, H', ⟨by first | omega | exact Nat.le_refl _⟩, ⟨by repeat (first | (with_reducible first | exact HB.out | apply below_alloc | apply pw_below_drewN | apply below_drew1) | exact HB.out)⟩⟩
        · rw [if_neg c5] at H
          exact absurd H (by simp)
      · rw [if_neg c4] at H
        have c4b0 : ((l0.length : Int) == 1) = false := beq_eq_false_iff_ne.mpr c4
        have c4b1 : ((l0.length : Int) != 1) = true := bne_iff_ne.mpr c4
        have H' := Aside0.mk H
        clear H
        go_wp2
        go_meet
        case rel => exact ⟨_, H', ⟨by first | omega | exact Nat.le_refl _⟩, ⟨by repeat (first | (with_reducible first | exact HB.out | apply below_alloc | apply pw_below_drewN | apply below_drew1) | exact HB.out)⟩⟩
  case rest =>
    clear HC2
    try clear p2
    try clear c3
    try clear c3b0
    try clear c3b1
    try clear c3b2
    try clear p3
    try clear q3
    try clear hx3
    try clear qi3
    try clear c4
    try clear c4b0
    try clear c4b1
    try clear c5
    try clear c5b0
    try clear c5b1
    try clear c6
    try clear c6b0
    try clear c6b1
    try clear hx361_0
    try clear p361
    try clear q361
    obtain ⟨kq, HA, HJ1, HB⟩ := hcut
    cases kq with
    | zero => exact absurd HA.out (by simp [xansi_PrimaryDeviceAttributes.j0])
    | succ kj1 =>
      have H := HA.out
      clear HA
      simp only [xansi_PrimaryDeviceAttributes.j0] at H
      by_cases c7 : 0 ≤ (l0.length : Int)
      · rw [if_pos c7] at H
        have c7b0 := eq_true c7
        have c7b1 : decide (0 ≤ (l0.length : Int)) = true := decide_eq_true c7
        clear c7
        by_cases c8 : ((l0.length : Int) : Int).toNat ≤ 17592186044416
        · rw [if_pos c8] at H
          have c8b0 := eq_true c8
          have c8b1 : decide (((l0.length : Int) : Int).toNat ≤ 17592186044416) = true := decide_eq_true c8
          clear c8
          obtain ⟨y362, hy362⟩ : ∃ y_ : List ByteArray, y_ = (List.replicate ((l0.length : Int) : Int).toNat (⟨#[]⟩ : ByteArray)) := ⟨_, rfl⟩
          replace H : (xansi_PrimaryDeviceAttributes.l0 kj1 y362 l0 (l0.length : Int) 0) = some r := by first | (rw [hy362]; with_reducible exact H) | (have H2_ := (Option.bind_some _ _).symm.trans H; rw [hy362]; with_reducible exact H2_) | (have H2_ := (Option.bind_some _ _).symm.trans H; with_reducible exact H2_) | with_reducible exact H | (rw [hy362]; exact H) | exact H
          have Ny362 := Aside0.mk hy362
          clear hy362
          have H' := Aside0.mk H
          clear H
          go_wp2_with (first | ((with_reducible refine gate_dst (N := 20) rfl ?_); refine Kd.R_make Kd.string _ 9 rfl (N := 20) rfl 94 _ _ rfl (l0.length : Int) rfl rfl Tryz.underlying94 (.string ⟨#[]⟩) 16 info9 rfl (by decide) (by omega) (⟨#[]⟩ : ByteArray) (ok := fun _ => True) (okp := fun _ => True) rfl (fun _ hk => hk) trivial (of_decide_eq_true (by first | (with_reducible assumption) | assumption)) (Nat.le_trans (Nat.mul_le_mul_right _ (of_decide_eq_true (by first | (with_reducible assumption) | assumption) : (l0.length : Int).toNat ≤ 17592186044416)) (by omega)) (Below.refl _ _) (Nat.le_refl _) ?_; intro v363 w9 ho10 hb hg_ hnew_; clear hg_ hnew_; (first | rw [← Ny362.out] at ho10 | (simp only [Int.reduceToNat] at ho10; rw [← Ny362.out] at ho10)); have n0_ := Aside0.mk (Kd.R_lower ho10 (below_size (by repeat (first | (with_reducible first | exact HB.out | apply below_alloc | apply pw_below_drewN | apply below_drew1) | exact HB.out)))); have n1_ := Aside0.mk (below_step (by repeat (first | (with_reducible first | exact HB.out | apply below_alloc | apply pw_below_drewN | apply below_drew1) | exact HB.out)) hb); clear HB; have HO364 := n0_; have HB := n1_; clear n0_ n1_; clear hb ho10))
          go_loopg [23] kj1 (fun kq v23 w' => ∃ (x3_2 : List ByteArray) (x23_2 : Int), v23 = .int .i64 x23_2 ∧ Aside0 (xansi_PrimaryDeviceAttributes.l0 kq x3_2 l0 (l0.length : Int) x23_2 = some r) ∧ Aside0 (kq ≤ kj1) ∧ Aside0 (Kd.R Kd.string 9 w' w.heap.size (fun _ => True) v363 x3_2) ∧ Aside0 (Below w.heap.size w w'))
          case atStart => exact ⟨(y362), (0), (by first | rfl | (simp; done) | (simp [*]; done)), H', ⟨Nat.le_refl _⟩, ⟨by (with_reducible repeat (first | apply Kd.R_alloc | apply Kd.R_drewN | apply Kd.R_drew)); exact HO364.out⟩, ⟨by repeat (first | (with_reducible first | exact HB.out | apply below_alloc | apply pw_below_drewN | apply below_drew1) | exact HB.out)⟩⟩
          case round =>
            clear H'
            try clear p2
            try clear c3
            try clear c3b0
            try clear c3b1
            try clear c3b2
            try clear p3
            try clear q3
            try clear hx3
            try clear qi3
            try clear c4
            try clear c4b0
            try clear c4b1
            try clear c5
            try clear c5b0
            try clear c5b1
            try clear c6
            try clear c6b0
            try clear c6b1
            try clear c7
            try clear c7b0
            try clear c7b1
            try clear c8
            try clear c8b0
            try clear c8b1
            try clear hx361_0
            try clear p2
            try clear p3
            try clear p361
            try clear q3
            try clear q361
            obtain ⟨x3_2, x23_2, rfl, HA, HK2, HO_3, HB⟩ := hrel
            cases gk with
            | zero => exact absurd HA.out (by simp [xansi_PrimaryDeviceAttributes.l0])
            | succ k2 =>
              have H := HA.out
              clear HA
              simp only [xansi_PrimaryDeviceAttributes.l0] at H
              by_cases c11 : x23_2 < (l0.length : Int)
              · rw [if_pos c11] at H
                have c11b0 : decide (x23_2 < (l0.length : Int)) = true := decide_eq_true c11
                clear c11
                by_cases c12 : 0 ≤ x23_2
                · rw [if_pos c12] at H
                  have c12b0 : decide (0 ≤ x23_2) = true := decide_eq_true c12
                  clear c12
                  by_cases c13 : x23_2 < (l0.length : Int)
                  · rw [if_pos c13] at H
                    have c13b0 : decide (x23_2 < (l0.length : Int)) = true := decide_eq_true c13
                    clear c13
                    replace H := Option.bind_eq_some_iff.mp H
                    obtain ⟨t366, A140, H⟩ := H
                    replace H : (if x23_2 < (x3_2.length : Int) then (xansi_PrimaryDeviceAttributes.l0 k2 (x3_2.set (x23_2 : Int).toNat t366) l0 (l0.length : Int) (wrap64 (x23_2 + 1))) else (none)) = some r := H
                    have A14 := Aside0.mk A140
                    clear A140
                    by_cases c15 : x23_2 < (x3_2.length : Int)
                    · rw [if_pos c15] at H
                      have c15b0 : decide (x23_2 < (x3_2.length : Int)) = true := decide_eq_true c15
                      clear c15
                      obtain ⟨y367, hy367⟩ : ∃ y_ : List ByteArray, y_ = (x3_2.set (x23_2 : Int).toNat t366) := ⟨_, rfl⟩
                      replace H : (xansi_PrimaryDeviceAttributes.l0 k2 y367 l0 (l0.length : Int) (wrap64 (x23_2 + 1))) = some r := by first | (rw [hy367]; with_reducible exact H) | (have H2_ := (Option.bind_some _ _).symm.trans H; rw [hy367]; with_reducible exact H2_) | (have H2_ := (Option.bind_some _ _).symm.trans H; with_reducible exact H2_) | with_reducible exact H | (rw [hy367]; exact H) | exact H
                      have Ny367 := Aside0.mk hy367
                      clear hy367
                      have H' := Aside0.mk H
                      clear H
                      have p365 : 0 ≤ (x23_2 : Int) := of_decide_eq_true (by first | (with_reducible assumption) | assumption)
                      have q365 : x23_2 < (l0.length : Int) := of_decide_eq_true (by first | (with_reducible assumption) | assumption)
                      obtain ⟨ad365, e365, hx365_0⟩ := Kd.at_int HR0.out x23_2 p365 q365
                      cases e365
                      replace hx365_0 := (HB.out.cell (World.block_lt_of_cell? w _ hx365_0)).trans hx365_0
                      replace p365 := eq_true p365
                      replace q365 := eq_true q365
                      go_wp2_with (first | ((with_reducible refine gate_callee (f := 101) rfl ?_); refine goesL_ (some 31) rfl rfl Tryz.func101 (by kernel_rfl) rfl #[.int .i64 (rd l0 x23_2)] rfl (by (try simp only [List.map_toArray, List.map_cons, List.map_nil]); first | done | rfl | (simp only [List.length_drop, List.length_take]; rfl)) ?_; (with_reducible refine (strconv_Itoa.calls (rd l0 x23_2) t366 _ ?side1 A14.out).mono ?_); (case side1 => exact XTab.below HT.out (by repeat (first | (with_reducible first | exact HB.out | apply below_alloc | apply pw_below_drewN | apply below_drew1) | exact HB.out))); rintro e w17 ⟨rfl, hb⟩; refine ⟨_, rfl, ?_⟩; have n0_ := Aside0.mk (Kd.R_below (by (with_reducible repeat (first | apply Kd.R_alloc | apply Kd.R_drewN | apply Kd.R_drew)); exact HO_3.out) hb); have n1_ := Aside0.mk (below_step (by repeat (first | (with_reducible first | exact HB.out | apply below_alloc | apply pw_below_drewN | apply below_drew1) | exact HB.out)) hb); clear HO_3; clear HB; have HO_3 := n0_; have HB := n1_; clear n0_ n1_; (try clear hb); (try clear hb2); (try clear hk); (try clear hi); have p16 : 0 ≤ (x23_2 : Int) := of_decide_eq_true (by first | (with_reducible assumption) | assumption); have q16 : (x23_2 : Int) < ((x3_2.length : Int) : Int) := of_decide_eq_true (by first | (with_reducible assumption) | assumption); obtain ⟨go16, co16, eo16, gb16, gl16, cl16, HG16⟩ := Kd.R_form HO_3.out (by omega); (first | cases eo16 | (injection eo16 with ea_ en_ ec_; (first | subst ea_ | (injection ea_ with ea_; subst ea_)); subst ec_; clear en_)); have GB16 := Aside0.mk gb16; have GG16 := Aside0.mk HG16; clear gb16 gl16 HG16; obtain ⟨hx16_0, hf16_0⟩ := Kd.R_celln (⟨#[]⟩ : ByteArray) HO_3.out (x23_2 : Int) p16 q16; replace p16 := eq_true p16; replace q16 := eq_true q16; obtain ⟨hy18_, hz18_⟩ := Kd.R_celln (⟨#[]⟩ : ByteArray) HO_3.out (x23_2 : Int) (of_decide_eq_true (by first | (with_reducible assumption) | assumption)) (of_decide_eq_true (by first | (with_reducible assumption) | assumption)); have HP18 := Kd.R_putg HO_3.out (x23_2 : Int) t366) | ((with_reducible refine gate_store (t := 9) (p := 32) rfl ?_); refine store_event (t := 9) (p := 32) (v := ?vo_w19) (w1 := (w17.setCell ⟨go16, (x23_2 : Int).toNat, none⟩ (.string t366))) ?hg ?ho ?hn ?hr ?_; (case ho => rfl); (case hg => rfl); (case hn => rfl); (case hr => first | (go_simp; done) | (go_simp; rfl)); intro w19 hw; have hg : w17.grownBy w19 (some go16) := (by rw [hw]; exact HP18.2); have hp_ : Kd.R Kd.string 9 w19 w.heap.size (fun _ => True) (.slice (some ⟨go16, 0, none⟩) x3_2.length co16) y367 := (by rw [hw, Ny367.out]; exact HP18.1); clear HP18; have n0_ := Aside0.mk (hp_); have n1_ := Aside0.mk ((by rw [hw]; exact below_set (HB.out) GB16.out : Below w.heap.size w w19)); clear HO_3; clear HB; have HO_3 := n0_; have HB := n1_; clear n0_ n1_; clear hg hw hp_))
                      go_roundg k2
                      case measure => have := HJ1.out; have := HK2.out; omega
                      case rel => exact ⟨(y367), (wrap64 (x23_2 + 1)), (by first | rfl | (simp; done) | (simp [*]; done)), H', ⟨by have := HJ1.out; have := HK2.out; omega⟩, ⟨by (with_reducible repeat (first | apply Kd.R_alloc | apply Kd.R_drewN | apply Kd.R_drew)); exact HO_3.out⟩, ⟨by repeat (first | (with_reducible first | exact HB.out | apply below_alloc | apply pw_below_drewN | apply below_drew1) | exact HB.out)⟩⟩
                    · rw [if_neg c15] at H
                      exact absurd H (by simp)
                  · rw [if_neg c13] at H
                    exact absurd H (by simp)
                · rw [if_neg c12] at H
                  exact absurd H (by simp)
              · rw [if_neg c11] at H
                have c11b0 : decide (x23_2 < (l0.length : Int)) = false := decide_eq_false c11
                clear c11
                replace H := Option.bind_eq_some_iff.mp H
                obtain ⟨t368, A200, H⟩ := H
                replace H : (if 3 + t368.size ≤ 9223372036854775807 then (if 3 + t368.size + 1 ≤ 9223372036854775807 then (some (((⟨#[27, 91, 63]⟩ : ByteArray) ++ t368) ++ (⟨#[99]⟩ : ByteArray))) else (none)) else (none)) = some r := H
                have A20 := Aside0.mk A200
                clear A200
                by_cases c21 : 3 + t368.size ≤ 9223372036854775807
                · rw [if_pos c21] at H
                  have c21b0 := eq_true c21
                  have c21b1 : decide (3 + t368.size ≤ 9223372036854775807) = true := decide_eq_true c21
                  try have c21b2 : (9223372036854775807 < 3 + t368.size) = False := eq_false (Nat.not_lt.2 c21)
                  by_cases c22 : 3 + t368.size + 1 ≤ 9223372036854775807
                  · rw [if_pos c22] at H
                    have c22b0 := eq_true c22
                    have c22b1 : decide (3 + t368.size + 1 ≤ 9223372036854775807) = true := decide_eq_true c22
                    try have c22b2 : (9223372036854775807 < 3 + t368.size + 1) = False := eq_false (Nat.not_lt.2 c22)
                    obtain rfl := Option.some.inj H
                    obtain ⟨Ao23, co23, eo23⟩ := Kd.R_slice HO_3.out
                    subst eo23
                    go_wp2_with (first | ((with_reducible refine gate_callee (f := 103) rfl ?_); refine goesL_ (some 35) rfl rfl Tryz.func103 (by kernel_rfl) rfl #[.slice Ao23 x3_2.length co23, .string (⟨#[59]⟩ : ByteArray)] rfl (by (try simp only [List.map_toArray, List.map_cons, List.map_nil]); first | done | rfl | (simp only [List.length_drop, List.length_take]; rfl)) ?_; (with_reducible refine (xansi_zzJoin.calls k2 _ _ x3_2 (⟨#[59]⟩ : ByteArray) t368 _ ?side1 ?side2 A20.out).mono ?_); (case side1 => repeat (first | exact (Kd.R_reads' HO_3.out).2.2 | (with_reducible refine Kd.C_alloc ?_ _) | (with_reducible refine Kd.C_drewN ?_ _) | (with_reducible refine Kd.C_drew ?_))); (case side2 => exact (Kd.R_reads' HO_3.out).2.1); rintro e w' ⟨rfl, ⟨nd, rfl⟩⟩; refine ⟨_, rfl, ?_⟩))
                    go_ret
                    exact ⟨by first | rfl | (simp [errW_none, errW_some] <;> rfl) | (simp [*, errW_none, errW_some] <;> rfl), by repeat (first | (with_reducible first | exact HB.out | apply below_alloc | apply pw_below_drewN | apply below_drew1) | exact HB.out)⟩
                  · rw [if_neg c22] at H
                    exact absurd H (by simp)
                · rw [if_neg c21] at H
                  exact absurd H (by simp)
        · rw [if_neg c8] at H
          exact absurd H (by simp)
      · rw [if_neg c7] at H
        exact absurd H (by simp)
end Go.Proofs.YtjkpelaeelihhaaGreatDoorRR.Y
end
section
namespace Go.Proofs.YtjkpelaeelihhaaGreatDoorRR.Y
open Go.RowKit Go.Proofs.YtjkpelaeelihhaaGreatDoorRRW.PrintWords Go.Proofs.YtjkpelaeelihhaaGreatDoorRRW.PrintLast Go.Proofs.YtjkpelaeelihhaaGreatDoorRRW.PrintMore
attribute [local go_sem] max2_int min2_int max_two min_two max_three min_three max_four min_four   -- for this text's walks alone
set_option linter.unusedVariables false
set_option linter.unusedSimpArgs false
set_option maxHeartbeats 8000000 in
set_option maxRecDepth 100000 in
theorem xansi_ExtendedCursorPositionReport.calls (k : Nat) (a0 : Int) (a1 : Int) (a2 : Int) (r : ByteArray) (w : World) (hT : XTab w) (h : xansi_ExtendedCursorPositionReport.f k a0 a1 a2 = some r) :
    Calls Tryz.prog 79 #[.int .i64 a0, .int .i64 a1, .int .i64 a2] w fun e w' => e = .returned (.string r) ∧ Below w.heap.size w w' := by
  have HT := Aside0.mk hT
  clear hT
  have HB := Aside0.mk (Below.refl w.heap.size w)
  have H : (if a0 < 1 then (xansi_ExtendedCursorPositionReport.j0 k 1 a1 a2) else (xansi_ExtendedCursorPositionReport.j0 k a0 a1 a2)) = some r := h
  clear h
  have HC4 := Aside0.mk H
  clear H
  go_enter Tryz.func79, Tryz.ntmps79
  go_upto_if 8 with (fail)
  go_cut [0] (fun v0 wc => ∃ (kq : Nat) (x0_3 : Int), v0 = .int .i64 x0_3 ∧ Aside0 (xansi_ExtendedCursorPositionReport.j0 kq x0_3 a1 a2 = some r) ∧ Aside0 (kq ≤ k) ∧ Aside0 (Below w.heap.size w wc))
  case first =>
    have H := HC4.out
    clear HC4
    by_cases c5 : a0 < 1
    · rw [if_pos c5] at H
      have c5b0 : decide (a0 < 1) = true := decide_eq_true c5
      clear c5
      (first | rw [c5b0] | (simp only [i64_w, i32_w]; rw [c5b0]) | skip)
      have H' := Aside0.mk H
      clear H
      go_wp2
      go_meet
      case rel => exact ⟨_, (1), (by first | rfl | (simp; done) | (simp [*]; done)), H', ⟨by first | omega | exact Nat.le_refl _⟩, ⟨by repeat (first | (with_reducible first | exact HB.out | apply below_alloc | apply pw_below_drewN | apply below_drew1) | exact HB.out)⟩⟩
    · rw [if_neg c5] at H
      have c5b0 : decide (a0 < 1) = false := decide_eq_false c5
      clear c5
      (first | rw [c5b0] | (simp only [i64_w, i32_w]; rw [c5b0]) | skip)
      have H' := Aside0.mk H
      clear H
      go_wp2
      go_meet
      case rel => exact ⟨_, (a0), (by first | rfl | (simp; done) | (simp [*]; done)), H', ⟨by first | omega | exact Nat.le_refl _⟩, ⟨by repeat (first | (with_reducible first | exact HB.out | apply below_alloc | apply pw_below_drewN | apply below_drew1) | exact HB.out)⟩⟩
  case rest =>
    clear HC4
    try clear p2
    try clear c5
    try clear c5b0
    obtain ⟨kq, x0_3, rfl, HA, HJ3, HB⟩ := hcut
    cases kq with
    | zero => exact absurd HA.out (by simp [xansi_ExtendedCursorPositionReport.j0])
    | succ kj3 =>
      have H := HA.out
      clear HA
      simp only [xansi_ExtendedCursorPositionReport.j0] at H
      have HC6 := Aside0.mk H
      clear H
      go_upto_if 10 with (fail)
      go_cut [1] (fun v1 wc => ∃ (kq : Nat) (x1_5 : Int), v1 = .int .i64 x1_5 ∧ Aside0 (xansi_ExtendedCursorPositionReport.j1 kq x0_3 x1_5 a2 = some r) ∧ Aside0 (kq ≤ kj3) ∧ Aside0 (Below w.heap.size w wc))
      case first =>
        have H := HC6.out
        clear HC6
        by_cases c7 : a1 < 1
        · rw [if_pos c7] at H
          have c7b0 : decide (a1 < 1) = true := decide_eq_true c7
          clear c7
          (first | rw [c7b0] | (simp only [i64_w, i32_w]; rw [c7b0]) | skip)
          have H' := Aside0.mk H
          clear H
          go_wp2
          go_meet
          case rel => exact ⟨_, (1), (by first | rfl | (simp; done) | (simp [*]; done)), H', ⟨by have := HJ3.out; first | omega | exact Nat.le_refl _⟩, ⟨by repeat (first | (with_reducible first | exact HB.out | apply below_alloc | apply pw_below_drewN | apply below_drew1) | exact HB.out)⟩⟩
        · rw [if_neg c7] at H
          have c7b0 : decide (a1 < 1) = false := decide_eq_false c7
          clear c7
          (first | rw [c7b0] | (simp only [i64_w, i32_w]; rw [c7b0]) | skip)
          have H' := Aside0.mk H
          clear H
          go_wp2
          go_meet
          case rel => exact ⟨_, (a1), (by first | rfl | (simp; done) | (simp [*]; done)), H', ⟨by have := HJ3.out; first | omega | exact Nat.le_refl _⟩, ⟨by repeat (first | (with_reducible first | exact HB.out | apply below_alloc | apply pw_below_drewN | apply below_drew1) | exact HB.out)⟩⟩
      case rest =>
        clear HC6
        try clear p2
        try clear c5
        try clear c5b0
        try clear c7
        try clear c7b0
        try clear p2
        obtain ⟨kq, x1_5, rfl, HA, HJ5, HB⟩ := hcut
        cases kq with
        | zero => exact absurd HA.out (by simp [xansi_ExtendedCursorPositionReport.j1])
        | succ kj5 =>
          have H := HA.out
          clear HA
          simp only [xansi_ExtendedCursorPositionReport.j1] at H
          by_cases c8 : a2 < 1
          · rw [if_pos c8] at H
            have c8b0 : decide (a2 < 1) = true := decide_eq_true c8
            clear c8
            replace H := Option.bind_eq_some_iff.mp H
            obtain ⟨t369, A90, H⟩ := H
            replace H : (if 3 + t369.size ≤ 9223372036854775807 then (if 3 + t369.size + 1 ≤ 9223372036854775807 then ((strconv_Itoa.f x1_5).bind fun t370 => (if 3 + t369.size + 1 + t370.size ≤ 9223372036854775807 then (if 3 + t369.size + 1 + t370.size + 1 ≤ 9223372036854775807 then (some (((((⟨#[27, 91, 63]⟩ : ByteArray) ++ t369) ++ (⟨#[59]⟩ : ByteArray)) ++ t370) ++ (⟨#[82]⟩ : ByteArray))) else (none)) else (none))) else (none)) else (none)) = some r := H
            have A9 := Aside0.mk A90
            clear A90
            by_cases c10 : 3 + t369.size ≤ 9223372036854775807
            · rw [if_pos c10] at H
              have c10b0 := eq_true c10
              have c10b1 : decide (3 + t369.size ≤ 9223372036854775807) = true := decide_eq_true c10
              try have c10b2 : (9223372036854775807 < 3 + t369.size) = False := eq_false (Nat.not_lt.2 c10)
              by_cases c11 : 3 + t369.size + 1 ≤ 9223372036854775807
              · rw [if_pos c11] at H
                have c11b0 := eq_true c11
                have c11b1 : decide (3 + t369.size + 1 ≤ 9223372036854775807) = true := decide_eq_true c11
                try have c11b2 : (9223372036854775807 < 3 + t369.size + 1) = False := eq_false (Nat.not_lt.2 c11)
                replace H := Option.bind_eq_some_iff.mp H
                obtain ⟨t370, A120, H⟩ := H
                replace H : (if 3 + t369.size + 1 + t370.size ≤ 9223372036854775807 then (if 3 + t369.size + 1 + t370.size + 1 ≤ 9223372036854775807 then (some (((((⟨#[27, 91, 63]⟩ : ByteArray) ++ t369) ++ (⟨#[59]⟩ : ByteArray)) ++ t370) ++ (⟨#[82]⟩ : ByteArray))) else (none)) else (none)) = some r := H
                have A12 := Aside0.mk A120
                clear A120
                by_cases c13 : 3 + t369.size + 1 + t370.size ≤ 9223372036854775807
                · rw [if_pos c13] at H
                  have c13b0 := eq_true c13
                  have c13b1 : decide (3 + t369.size + 1 + t370.size ≤ 9223372036854775807) = true := decide_eq_true c13
                  try have c13b2 : (9223372036854775807 < 3 + t369.size + 1 + t370.size) = False := eq_false (Nat.not_lt.2 c13)
                  by_cases c14 : 3 + t369.size + 1 + t370.size + 1 ≤ 9223372036854775807
                  · rw [if_pos c14] at H
                    have c14b0 := eq_true c14
                    have c14b1 : decide (3 + t369.size + 1 + t370.size + 1 ≤ 9223372036854775807) = true := decide_eq_true c14
                    try have c14b2 : (9223372036854775807 < 3 + t369.size + 1 + t370.size + 1) = False := eq_false (Nat.not_lt.2 c14)
                    obtain rfl := Option.some.inj H
                    go_wp2_with (first | ((with_reducible refine gate_callee (f := 101) rfl ?_); refine goesL_ (some 14) rfl rfl Tryz.func101 (by kernel_rfl) rfl #[.int .i64 x0_3] rfl (by (try simp only [List.map_toArray, List.map_cons, List.map_nil]); first | done | rfl | (simp only [List.length_drop, List.length_take]; rfl)) ?_; (with_reducible refine (strconv_Itoa.calls x0_3 t369 _ ?side1 A9.out).mono ?_); (case side1 => exact XTab.below HT.out (by repeat (first | (with_reducible first | exact HB.out | apply below_alloc | apply pw_below_drewN | apply below_drew1) | exact HB.out))); rintro e w15 ⟨rfl, hb⟩; refine ⟨_, rfl, ?_⟩; have n0_ := Aside0.mk (below_step (by repeat (first | (with_reducible first | exact HB.out | apply below_alloc | apply pw_below_drewN | apply below_drew1) | exact HB.out)) hb); clear HB; have HB := n0_; clear n0_; (try clear hb); (try clear hb2); (try clear hk); (try clear hi)) | ((with_reducible refine gate_callee (f := 101) rfl ?_); refine goesL_ (some 18) rfl rfl Tryz.func101 (by kernel_rfl) rfl #[.int .i64 x1_5] rfl (by (try simp only [List.map_toArray, List.map_cons, List.map_nil]); first | done | rfl | (simp only [List.length_drop, List.length_take]; rfl)) ?_; (with_reducible refine (strconv_Itoa.calls x1_5 t370 _ ?side1 A12.out).mono ?_); (case side1 => exact XTab.below HT.out (by repeat (first | (with_reducible first | exact HB.out | apply below_alloc | apply pw_below_drewN | apply below_drew1) | exact HB.out))); rintro e w16 ⟨rfl, hb⟩; refine ⟨_, rfl, ?_⟩; have n0_ := Aside0.mk (below_step (by repeat (first | (with_reducible first | exact HB.out | apply below_alloc | apply pw_below_drewN | apply below_drew1) | exact HB.out)) hb); clear HB; have HB := n0_; clear n0_; (try clear hb); (try clear hb2); (try clear hk); (try clear hi)))
                    go_ret
                    exact ⟨by first | rfl | (simp [errW_none, errW_some] <;> rfl) | (simp [*, errW_none, errW_some] <;> rfl), by repeat (first | (with_reducible first | exact HB.out | apply below_alloc | apply pw_below_drewN | apply below_drew1) | exact HB.out)⟩
                  · rw [if_neg c14] at H
                    exact absurd H (by simp)
                · rw [if_neg c13] at H
                  exact absurd H (by simp)
              · rw [if_neg c11] at H
                exact absurd H (by simp)
            · rw [if_neg c10] at H
              exact absurd H (by simp)
          · rw [if_neg c8] at H
            have c8b0 : decide (a2 < 1) = false := decide_eq_false c8
            clear c8
            replace H := Option.bind_eq_some_iff.mp H
            obtain ⟨t371, A170, H⟩ := H
            replace H : (if 3 + t371.size ≤ 9223372036854775807 then (if 3 + t371.size + 1 ≤ 9223372036854775807 then ((strconv_Itoa.f x1_5).bind fun t372 => (if 3 + t371.size + 1 + t372.size ≤ 9223372036854775807 then (if 3 + t371.size + 1 + t372.size + 1 ≤ 9223372036854775807 then ((strconv_Itoa.f a2).bind fun t373 => (if 3 + t371.size + 1 + t372.size + 1 + t373.size ≤ 9223372036854775807 then (if 3 + t371.size + 1 + t372.size + 1 + t373.size + 1 ≤ 9223372036854775807 then (some (((((((⟨#[27, 91, 63]⟩ : ByteArray) ++ t371) ++ (⟨#[59]⟩ : ByteArray)) ++ t372) ++ (⟨#[59]⟩ : ByteArray)) ++ t373) ++ (⟨#[82]⟩ : ByteArray))) else (none)) else (none))) else (none)) else (none))) else (none)) else (none)) = some r := H
            have A17 := Aside0.mk A170
            clear A170
            by_cases c18 : 3 + t371.size ≤ 9223372036854775807
            · rw [if_pos c18] at H
              have c18b0 := eq_true c18
              have c18b1 : decide (3 + t371.size ≤ 9223372036854775807) = true := decide_eq_true c18
              try have c18b2 : (9223372036854775807 < 3 + t371.size) = False := eq_false (Nat.not_lt.2 c18)
              by_cases c19 : 3 + t371.size + 1 ≤ 9223372036854775807
              · rw [if_pos c19] at H
                have c19b0 := eq_true c19
                have c19b1 : decide (3 + t371.size + 1 ≤ 9223372036854775807) = true := decide_eq_true c19
                try have c19b2 : (9223372036854775807 < 3 + t371.size + 1) = False := eq_false (Nat.not_lt.2 c19)
                replace H := Option.bind_eq_some_iff.mp H
                obtain ⟨t372, A200, H⟩ := H
                replace H : (if 3 + t371.size + 1 + t372.size ≤ 9223372036854775807 then (if 3 + t371.size + 1 + t372.size + 1 ≤ 9223372036854775807 then ((strconv_Itoa.f a2).bind fun t373 => (if 3 + t371.size + 1 + t372.size + 1 + t373.size ≤ 9223372036854775807 then (if 3 + t371.size + 1 + t372.size + 1 + t373.size + 1 ≤ 9223372036854775807 then (some (((((((⟨#[27, 91, 63]⟩ : ByteArray) ++ t371) ++ (⟨#[59]⟩ : ByteArray)) ++ t372) ++ (⟨#[59]⟩ : ByteArray)) ++ t373) ++ (⟨#[82]⟩ : ByteArray))) else (none)) else (none))) else (none)) else (none)) = some r := H
                have A20 := Aside0.mk A200
                clear A200
                by_cases c21 : 3 + t371.size + 1 + t372.size ≤ 9223372036854775807
                · rw [if_pos c21] at H
                  have c21b0 := eq_true c21
                  have c21b1 : decide (3 + t371.size + 1 + t372.size ≤ 9223372036854775807) = true := decide_eq_true c21
                  try have c21b2 : (9223372036854775807 < 3 + t371.size + 1 + t372.size) = False := eq_false (Nat.not_lt.2 c21)
                  by_cases c22 : 3 + t371.size + 1 + t372.size + 1 ≤ 9223372036854775807
                  · rw [if_pos c22] at H
                    have c22b0 := eq_true c22
                    have c22b1 : decide (3 + t371.size + 1 + t372.size + 1 ≤ 9223372036854775807) = true := decide_eq_true c22
                    try have c22b2 : (9223372036854775807 < 3 + t371.size + 1 + t372.size + 1) = False := eq_false (Nat.not_lt.2 c22)
                    replace H := Option.bind_eq_some_iff.mp H
                    obtain ⟨t373, A230, H⟩ := H
                    replace H : (if 3 + t371.size + 1 + t372.size + 1 + t373.size ≤ 9223372036854775807 then (if 3 + t371.size + 1 + t372.size + 1 + t373.size + 1 ≤ 9223372036854775807 then (some (((((((⟨#[27, 91, 63]⟩ : ByteArray) ++ t371) ++ (⟨#[59]⟩ : ByteArray)) ++ t372) ++ (⟨#[59]⟩ : ByteArray)) ++ t373) ++ (⟨#[82]⟩ : ByteArray))) else (none)) else (none)) = some r := H
                    have A23 := Aside0.mk A230
                    clear A230
                    by_cases c24 : 3 + t371.size + 1 + t372.size + 1 + t373.size ≤ 9223372036854775807
                    · rw [if_pos c24] at H
                      have c24b0 := eq_true c24
                      have c24b1 : decide (3 + t371.size + 1 + t372.size + 1 + t373.size ≤ 9223372036854775807) = true := decide_eq_true c24
                      try have c24b2 : (9223372036854775807 < 3 + t371.size + 1 + t372.size + 1 + t373.size) = False := eq_false (Nat.not_lt.2 c24)
                      by_cases c25 : 3 + t371.size + 1 + t372.size + 1 + t373.size + 1 ≤ 9223372036854775807
                      · rw [if_pos c25] at H
                        have c25b0 := eq_true c25
                        have c25b1 : decide (3 + t371.size + 1 + t372.size + 1 + t373.size + 1 ≤ 9223372036854775807) = true := decide_eq_true c25
                        try have c25b2 : (9223372036854775807 < 3 + t371.size + 1 + t372.size + 1 + t373.size + 1) = False := eq_false (Nat.not_lt.2 c25)
                        obtain rfl := Option.some.inj H
                        go_wp2_with (first | ((with_reducible refine gate_callee (f := 101) rfl ?_); refine goesL_ (some 22) rfl rfl Tryz.func101 (by kernel_rfl) rfl #[.int .i64 x0_3] rfl (by (try simp only [List.map_toArray, List.map_cons, List.map_nil]); first | done | rfl | (simp only [List.length_drop, List.length_take]; rfl)) ?_; (with_reducible refine (strconv_Itoa.calls x0_3 t371 _ ?side1 A17.out).mono ?_); (case side1 => exact XTab.below HT.out (by repeat (first | (with_reducible first | exact HB.out | apply below_alloc | apply pw_below_drewN | apply below_drew1) | exact HB.out))); rintro e w26 ⟨rfl, hb⟩; refine ⟨_, rfl, ?_⟩; have n0_ := Aside0.mk (below_step (by repeat (first | (with_reducible first | exact HB.out | apply below_alloc | apply pw_below_drewN | apply below_drew1) | exact HB.out)) hb); clear HB; have HB := n0_; clear n0_; (try clear hb); (try clear hb2); (try clear hk); (try clear hi)) | ((with_reducible refine gate_callee (f := 101) rfl ?_); refine goesL_ (some 26) rfl rfl Tryz.func101 (by kernel_rfl) rfl #[.int .i64 x1_5] rfl (by (try simp only [List.map_toArray, List.map_cons, List.map_nil]); first | done | rfl | (simp only [List.length_drop, List.length_take]; rfl)) ?_; (with_reducible refine (strconv_Itoa.calls x1_5 t372 _ ?side1 A20.out).mono ?_); (case side1 => exact XTab.below HT.out (by repeat (first | (with_reducible first | exact HB.out | apply below_alloc | apply pw_below_drewN | apply below_drew1) | exact HB.out))); rintro e w27 ⟨rfl, hb⟩; refine ⟨_, rfl, ?_⟩; have n0_ := Aside0.mk (below_step (by repeat (first | (with_reducible first | exact HB.out | apply below_alloc | apply pw_below_drewN | apply below_drew1) | exact HB.out)) hb); clear HB; have HB := n0_; clear n0_; (try clear hb); (try clear hb2); (try clear hk); (try clear hi)) | ((with_reducible refine gate_callee (f := 101) rfl ?_); refine goesL_ (some 30) rfl rfl Tryz.func101 (by kernel_rfl) rfl #[.int .i64 a2] rfl (by (try simp only [List.map_toArray, List.map_cons, List.map_nil]); first | done | rfl | (simp only [List.length_drop, List.length_take]; rfl)) ?_; (with_reducible refine (strconv_Itoa.calls a2 t373 _ ?side1 A23.out).mono ?_); (case side1 => exact XTab.below HT.out (by repeat (first | (with_reducible first | exact HB.out | apply below_alloc | apply pw_below_drewN | apply below_drew1) | exact HB.out))); rintro e w28 ⟨rfl, hb⟩; refine ⟨_, rfl, ?_⟩; have n0_ := Aside0.mk (below_step (by repeat (first | (with_reducible first | exact HB.out | apply below_alloc | apply pw_below_drewN | apply below_drew1) | exact HB.out)) hb); clear HB; have HB := n0_; clear n0_; (try clear hb); (try clear hb2); (try clear hk); (try clear hi)))
                        go_ret
                        exact ⟨by first | rfl | (simp [errW_none, errW_some] <;> rfl) | (simp [*, errW_none, errW_some] <;> rfl), by repeat (first | (with_reducible first | exact HB.out | apply below_alloc | apply pw_below_drewN | apply below_drew1) | exact HB.out)⟩
                      · rw [if_neg c25] at H
                        exact absurd H (by simp)
                    · rw [if_neg c24] at H
                      exact absurd H (by simp)
                  · rw [if_neg c22] at H
                    exact absurd H (by simp)
                · rw [if_neg c21] at H
                  exact absurd H (by simp)
              · rw [if_neg c19] at H
                exact absurd H (by simp)
            · rw [if_neg c18] at H
              exact absurd H (by simp)
end Go.Proofs.YtjkpelaeelihhaaGreatDoorRR.Y
end
