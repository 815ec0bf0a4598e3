/- Texts of this claim, joined: XLawNoise WSized. Of each, what the claim uses. -/
import Derived.Test.YteebhoehflgfoaaGreatDoorKbi
import Derived.Test.YteebhoehflgfoaaGreatDoorKbj
import Derived.Test.YteebhoehflgfoaaGreatDoorKav
import Derived.Test.YteebhoehflgfoaaGreatDoorKbh
import Derived.SizedLaws
import Derived.ChangeSlices
section
namespace Go.Proofs.YteebhoehflgfoaaGreatDoor.Y
open Go.RowKit Go.Proofs.YteebhoehflgfoaaGreatDoorW.PrintWords Go.Proofs.YteebhoehflgfoaaGreatDoorW.PrintLast Go.Proofs.YteebhoehflgfoaaGreatDoorW.PrintMore
set_option linter.unusedSimpArgs false
set_option linter.unusedVariables false
set_option maxRecDepth 100000
set_option maxHeartbeats 8000000
def laws_FnDrawNoise.f (l : List Op) (ns : List Int) (a : Int) : Option Bool := if (0 ≤ a ∧ a ≤ 255) ∧ ∀ n ∈ ns, 0 ≤ n ∧ n ≤ 255 then some true else none
theorem made0 : impl_MakeList.f 200 4 [1, 4] = some (noiseT 0) := by kernel_rfl
theorem made1 : impl_MakeList.f 200 4 [0] = some (noiseT 1) := by kernel_rfl
theorem made2 : impl_MakeText.f 0 ⟨#[116, 105, 116, 108, 101]⟩ = some (noiseT 2) := by kernel_rfl
theorem made3 : impl_MakeText.f 1 ⟨#[105, 99, 111, 110]⟩ = some (noiseT 3) := by kernel_rfl
theorem made4 : soloT false (pairOf (⟨true, 25⟩ : S33)) = noiseT 4 := by kernel_rfl
theorem made5 : soloT true (pairOf (⟨false, 4⟩ : S33)) = noiseT 5 := by kernel_rfl
theorem made6 : impl_MakeTexts.f 200 0 ⟨#[104, 116, 116, 112, 58, 47, 47, 97, 46, 111, 114, 103]⟩ [] = some (noiseT 6) := by kernel_rfl
theorem made7 : impl_MakeTexts.f 200 4 ⟨#[]⟩ [] = some (noiseT 7) := by kernel_rfl
theorem numOk4 : NumOk (pairOf (⟨true, 25⟩ : S33)) := ⟨by kernel_rfl, by rw [show (tx (pairOf (⟨true, 25⟩ : S33))).size = 2 by kernel_rfl]; decide⟩
theorem numOk5 : NumOk (pairOf (⟨false, 4⟩ : S33)) := ⟨by kernel_rfl, by rw [show (tx (pairOf (⟨false, 4⟩ : S33))).size = 1 by kernel_rfl]; decide⟩
theorem ev_take (l : List S43) (i : Nat) (h : i < l.length) : (l.take (i + 1)).filter (fun e => kept e.f0 e.f3) = (l.take i).filter (fun e => kept e.f0 e.f3) ++ (if kept l[i].f0 l[i].f3 then [l[i]] else []) := by
  rw [List.take_succ_eq_append_getElem h, List.filter_append]
  congr 1
  by_cases hk : kept l[i].f0 l[i].f3
  · rw [if_pos hk, List.filter_cons_of_pos (by simpa using hk)]
    rfl
  · rw [if_neg hk, List.filter_cons_of_neg (by simpa using hk)]
    rfl
theorem kinds_at : ∀ (j : Nat), j < 8 → rdOf ByteArray.empty [noiseT 0, noiseT 1, noiseT 2, noiseT 3, noiseT 4, noiseT 5, noiseT 6, noiseT 7] (j : Int) = noiseT j
  | 0, _ => rfl
  | 1, _ => rfl
  | 2, _ => rfl
  | 3, _ => rfl
  | 4, _ => rfl
  | 5, _ => rfl
  | 6, _ => rfl
  | 7, _ => rfl
  | n + 8, h => absurd h (by omega)
/-- A row of events: an element's cells, and what they lead to. -/
theorem ev_at {w W : World} {B : Nat} {A : Option Addr} {n c : Nat} {l : List S43} (h : Kd.V k43 43 w B (fun k => k < B) (.slice A n c) l) (hB : B = w.heap.size) (hb : Below B w W) (i : Nat) (hi : i < l.length) : ∃ ad A4 c4 A5 c5, A = some ad ∧
    W.cell? (ad.add (i * 6)) = some (.int .i64 l[i].f0) ∧ W.cell? ⟨(ad.add (i * 6)).block, (ad.add (i * 6)).off + 1, none⟩ = some (.int .i64 l[i].f1) ∧ W.cell? ⟨(ad.add (i * 6)).block, (ad.add (i * 6)).off + 2, none⟩ = some (.int .u8 l[i].f2) ∧
    W.cell? ⟨(ad.add (i * 6)).block, (ad.add (i * 6)).off + 3, none⟩ = some (.int .i64 l[i].f3) ∧ W.cell? ⟨(ad.add (i * 6)).block, (ad.add (i * 6)).off + 4, none⟩ = some (.slice A4 l[i].f4.length c4) ∧ W.cell? ⟨(ad.add (i * 6)).block, (ad.add (i * 6)).off + 5, none⟩ = some (.slice A5 l[i].f5.length c5) ∧
    Kd.FK k43 W (fun k => k < B) l[i] [.int .i64 l[i].f0, .int .i64 l[i].f1, .int .u8 l[i].f2, .int .i64 l[i].f3, .slice A4 l[i].f4.length c4, .slice A5 l[i].f5.length c5] := by
  subst hB
  have hn := (Kd.V_reads' h).1
  have hw : Kd.V k43 43 W w.heap.size (fun k => k < w.heap.size) (.slice A n c) l := Kd.V_below h hb
  have h0 : (0 : Int) ≤ (i : Int) := by omega
  have h1 : (i : Int) < (n : Int) := by omega
  have hC := (Kd.V_reads' hw).2.2
  obtain ⟨ad, A4, c4, A5, c5, e, x0, x1, x2, x3, x4, x5, _⟩ := at_T43 hC (i : Int) h0 (by omega)
  subst e
  obtain ⟨cs, hcl, hFK, hcc⟩ := Kd.V_get hw z43 (i : Int) h0 h1
  have hrd : rd_T43 l (i : Int) = l[i] := by simp [rd_T43, hi]
  have hgd : l.getD ((i : Int)).toNat z43 = l[i] := by simp [hi]
  rw [hrd] at x0 x1 x2 x3 x4 x5
  rw [hgd] at hFK
  simp only [Int.toNat_natCast] at x0 x1 x2 x3 x4 x5 hcc
  obtain ⟨B4, d4, B5, d5, rfl, _⟩ := k43_openF hFK
  have g4 := hcc 4 _ rfl
  have g5 := hcc 5 _ rfl
  have z4 : k43.sz = 6 := rfl
  rw [z4, add_field _ _ 4 (by omega)] at g4
  rw [z4, add_field _ _ 5 (by omega)] at g5
  have e4 := Option.some.inj (g4.symm.trans x4)
  have e5 := Option.some.inj (g5.symm.trans x5)
  injection e4 with e4a e4b e4c
  injection e5 with e5a e5b e5c
  subst e4a e4c e5a e5c
  exact ⟨ad, _, _, _, _, rfl, x0, x1, x2, x3, x4, x5, hFK⟩
theorem laws_FnDrawNoise.calls (A0 : Option Addr) (c0 : Nat) (l0 : List Op) (A1 : Option Addr) (c1 : Nat) (l1 : List Int) (a2 : Int) (r : Bool) (w : World) (hT : XTab w) (hr0 : Kd.C k38 w A0 l0.length l0) (hc0 : l0.length ≤ c0) (hr1 : Kd.C (Kd.int .u8) w A1 l1.length l1) (hc1 : l1.length ≤ c1) (h : laws_FnDrawNoise.f l0 l1 a2 = some r) :
    Calls Tryz.prog 3 #[.slice A0 l0.length c0, .slice A1 l1.length c1, .int .u8 a2] w fun e w' => e = .returned (.bool r) ∧ Below w.heap.size w w' := by
  unfold laws_FnDrawNoise.f at h
  split at h
  case isFalse => cases h
  rename_i ha
  obtain rfl := Option.some.inj h
  obtain ⟨b0, f0, f1⟩ := fits_f l0 3000000000 (by omega)
  obtain ⟨Wd, H, z1, z2, z3⟩ := size_f a2 ha.1.1 ha.1.2
  have HI := Lib.hid (And.intro hT (And.intro hr0 (And.intro hc0 (And.intro hr1 (And.intro ha.2 (And.intro z1 (And.intro z2 z3)))))))
  have HF := Lib.hid f1
  have HE := Lib.hid (fun (V : World) (hV : Below w.heap.size w V) => show Calls Tryz.prog 6 #[] V fun e w' => e = .returned (.bool true) ∧ Hid (Below w.heap.size w w') by
    refine (laws_drawAwake.calls true V (XTab.below hT hV) awake).mono ?_
    rintro e w3 ⟨rfl, hb⟩
    exact ⟨rfl, below_step hV hb⟩)
  have hu38 := Tryz.underlying38
  have hu43 := Tryz.underlying43
  clear h hT hr0 hc0 hr1 hc1 ha f1 z1 z2 z3
  go_enter Tryz.func3, Tryz.ntmps3
  go_wp2_with fail
  with_reducible refine (laws_zzFits3.calls 3000000000 _ _ l0 b0 _ HI.out.2.1 HI.out.2.2.1 f0).mono ?_
  rintro e w1 ⟨rfl, hb⟩
  have H1 := Lib.hid hb
  clear hb f0
  cases b0 with
  | false =>
    go_wp2_with fail
    go_ret
    exact ⟨rfl, H1.out⟩
  | true =>
    by_cases hbig : l1.length ≤ 2147483647
    case neg =>
      have d1 : decide ((2147483647 : Int) < (l1.length : Int)) = true := decide_eq_true (by omega)
      go_wp2_with fail
      go_ret
      exact ⟨rfl, H1.out⟩
    have d1 : decide ((2147483647 : Int) < (l1.length : Int)) = false := decide_eq_false (by omega)
    go_wp2_with fail
    clear d1 hbig
    refine (isPlan_calls _ _ l0 _ (Kd.C_below HI.out.2.1 H1.out) HI.out.2.2.1 (HF.out (by trivial))).mono ?_
    rintro e w2 ⟨b1, rfl, g1, hb⟩
    have H2 := Lib.hid (below_step H1.out hb)
    have HG := Lib.hid g1
    clear hb g1 H1
    cases b1 with
    | false =>
      go_wp2_with fail
      refine (HE.out _ H2.out).mono ?_
      rintro e w3 ⟨rfl, H3⟩
      go_wp2_with fail
      go_ret
      exact ⟨rfl, H3.out⟩
    | true =>
      by_cases h20 : 20 < l1.length
      · have d1 : decide ((20 : Int) < (l1.length : Int)) = true := decide_eq_true (by omega)
        go_wp2_with fail
        refine (HE.out _ H2.out).mono ?_
        rintro e w3 ⟨rfl, H3⟩
        go_wp2_with fail
        go_ret
        exact ⟨rfl, H3.out⟩
      have d1 : decide ((20 : Int) < (l1.length : Int)) = false := decide_eq_false (by omega)
      go_wp2_with fail
      clear d1 h20
      with_reducible refine (laws_drawSize.calls a2 Wd H _ HI.out.2.2.2.2.2.1).mono ?_
      rintro e w3 ⟨rfl, ⟨nd, rfl⟩⟩
      have H3 := Lib.hid (pw_below_drewN H2.out nd)
      generalize w2.drewN nd = w3 at H3 ⊢
      clear H2
      go_wp2_with (((with_reducible refine gate_dst (N := 43) rfl ?_); refine Kd.R_lit (Kd.int .i64) _ 2 ?hg (N := 43) ?hd (xs := ([1, 4] : List Int)) (inner := [.int .i64 1, .int .i64 4]) (ok := fun _ => True) (okp := fun _ => True) ?hr ?hp (fun _ hk => hk) trivial (Below.refl _ _) (Nat.le_refl _) (by simp) ?_; (case hd => rfl); (case hg => rfl); (case hr => first | (go_simp; done) | (go_simp; rfl)); (case hp => exact (Reps.one (show Kd.M (Kd.int .i64) _ _ _ 1 [.int .i64 1] from rfl) (Reps.one (show Kd.M (Kd.int .i64) _ _ _ 4 [.int .i64 4] from rfl) (Reps.none _ _)))); intro vLa wLa ho hb hg_ hnew_; clear hg_ hnew_; have La := Lib.hid (And.intro (below_step H3.out hb) ho); clear hb ho; obtain ⟨ALa, cLa, e_⟩ := Kd.R_slice La.out.2; subst e_))
      refine (impl_MakeList.calls 200 4 ALa cLa [1, 4] (noiseT 0) _ (XTab.below HI.out.1 La.out.1) (Kd.R_reads' La.out.2).2.2 (Kd.R_reads' La.out.2).2.1 made0).mono ?_
      rintro e w4 ⟨rfl, hb⟩
      have H4 := Lib.hid (below_step La.out.1 hb)
      clear hb La H3
      go_wp2_with (((with_reducible refine gate_dst (N := 45) rfl ?_); refine Kd.R_lit (Kd.int .i64) _ 2 ?hg (N := 45) ?hd (xs := ([0] : List Int)) (inner := [.int .i64 0]) (ok := fun _ => True) (okp := fun _ => True) ?hr ?hp (fun _ hk => hk) trivial (Below.refl _ _) (Nat.le_refl _) (by simp) ?_; (case hd => rfl); (case hg => rfl); (case hr => first | (go_simp; done) | (go_simp; rfl)); (case hp => exact (Reps.one (show Kd.M (Kd.int .i64) _ _ _ 0 [.int .i64 0] from rfl) (Reps.none _ _))); intro vLb wLb ho hb hg_ hnew_; clear hg_ hnew_; have Lb := Lib.hid (And.intro (below_step H4.out hb) ho); clear hb ho; obtain ⟨ALb, cLb, e_⟩ := Kd.R_slice Lb.out.2; subst e_))
      refine (impl_MakeList.calls 200 4 ALb cLb [0] (noiseT 1) _ (XTab.below HI.out.1 Lb.out.1) (Kd.R_reads' Lb.out.2).2.2 (Kd.R_reads' Lb.out.2).2.1 made1).mono ?_
      rintro e w5 ⟨rfl, hb⟩
      have H5 := Lib.hid (below_step Lb.out.1 hb)
      clear hb Lb H4
      go_wp2_with fail
      refine (impl_MakeText.calls 0 ⟨#[116, 105, 116, 108, 101]⟩ (noiseT 2) _ made2).mono ?_
      rintro e w6 ⟨rfl, ⟨nd0, rfl⟩⟩
      have H6 := Lib.hid (pw_below_drewN H5.out nd0)
      generalize w5.drewN nd0 = w6 at H6 ⊢
      clear H5
      go_wp2_with fail
      refine (impl_MakeText.calls 1 ⟨#[105, 99, 111, 110]⟩ (noiseT 3) _ made3).mono ?_
      rintro e w7 ⟨rfl, ⟨nd1, rfl⟩⟩
      have H7 := Lib.hid (pw_below_drewN H6.out nd1)
      generalize w6.drewN nd1 = w7 at H7 ⊢
      clear H6
      go_wp2_with (((with_reducible refine gate_dst (N := 50) rfl ?_); refine Kd.R_lit k33 _ 33 ?hg (N := 50) ?hd (xs := ([(⟨true, 25⟩ : S33)] : List S33)) (inner := [.bool true, .int .i64 25]) (ok := fun _ => True) (okp := fun _ => True) ?hr ?hp (fun _ hk => hk) trivial (Below.refl _ _) (Nat.le_refl _) (by simp) ?_; (case hd => rfl); (case hg => rfl); (case hr => first | (go_simp; done) | (go_simp; rfl)); (case hp => exact (Reps.c2 (show Kd.M k33 _ _ _ (⟨true, 25⟩ : S33) [.bool true, .int .i64 25] from (k33_mkM _ _ _ (⟨true, 25⟩ : S33))) (Reps.none _ _))); intro vLm0 wLm0 ho hb hg_ hnew_; clear hg_ hnew_; have Lm0 := Lib.hid (And.intro (below_step H7.out hb) ho); clear hb ho; obtain ⟨ALm0, cLm0, e_⟩ := Kd.R_slice Lm0.out.2; subst e_))
      refine (MakeSet_calls ALm0 cLm0 (⟨true, 25⟩ : S33) _ (XTab.below HI.out.1 Lm0.out.1) (Kd.R_reads' Lm0.out.2).2.2 (Kd.R_reads' Lm0.out.2).2.1 numOk4).mono ?_
      rintro e w8 ⟨rfl, hb⟩
      rw [made4]
      have H8 := Lib.hid (below_step Lm0.out.1 hb)
      clear hb Lm0 H7
      go_wp2_with (((with_reducible refine gate_dst (N := 53) rfl ?_); refine Kd.R_lit k33 _ 33 ?hg (N := 53) ?hd (xs := ([(⟨false, 4⟩ : S33)] : List S33)) (inner := [.bool false, .int .i64 4]) (ok := fun _ => True) (okp := fun _ => True) ?hr ?hp (fun _ hk => hk) trivial (Below.refl _ _) (Nat.le_refl _) (by simp) ?_; (case hd => rfl); (case hg => rfl); (case hr => first | (go_simp; done) | (go_simp; rfl)); (case hp => exact (Reps.c2 (show Kd.M k33 _ _ _ (⟨false, 4⟩ : S33) [.bool false, .int .i64 4] from (k33_mkM _ _ _ (⟨false, 4⟩ : S33))) (Reps.none _ _))); intro vLm1 wLm1 ho hb hg_ hnew_; clear hg_ hnew_; have Lm1 := Lib.hid (And.intro (below_step H8.out hb) ho); clear hb ho; obtain ⟨ALm1, cLm1, e_⟩ := Kd.R_slice Lm1.out.2; subst e_))
      refine (MakeReset_calls ALm1 cLm1 (⟨false, 4⟩ : S33) _ (XTab.below HI.out.1 Lm1.out.1) (Kd.R_reads' Lm1.out.2).2.2 (Kd.R_reads' Lm1.out.2).2.1 numOk5).mono ?_
      rintro e w9 ⟨rfl, hb⟩
      rw [made5]
      have H9 := Lib.hid (below_step Lm1.out.1 hb)
      clear hb Lm1 H8
      go_wp2_with fail
      refine (impl_MakeTexts.calls 200 0 ⟨#[104, 116, 116, 112, 58, 47, 47, 97, 46, 111, 114, 103]⟩ none 0 [] (noiseT 6) _ (Kd.R_reads' (Kd.R_nil Kd.string 9 _ 0 (fun _ => True))).2.2 (Nat.le_refl _) made6).mono ?_
      rintro e w10 ⟨rfl, ⟨nd0, rfl⟩⟩
      have H10 := Lib.hid (pw_below_drewN H9.out nd0)
      generalize w9.drewN nd0 = w10 at H10 ⊢
      clear H9
      go_wp2_with fail
      refine (impl_MakeTexts.calls 200 4 ⟨#[]⟩ none 0 [] (noiseT 7) _ (Kd.R_reads' (Kd.R_nil Kd.string 9 _ 0 (fun _ => True))).2.2 (Nat.le_refl _) made7).mono ?_
      rintro e w11 ⟨rfl, ⟨nd1, rfl⟩⟩
      have H11 := Lib.hid (pw_below_drewN H10.out nd1)
      generalize w10.drewN nd1 = w11 at H11 ⊢
      clear H10
      go_wp2_with (((with_reducible refine gate_dst (N := 57) rfl ?_); refine Kd.R_lit Kd.string _ 9 ?hg (N := 57) ?hd (xs := ([noiseT 0, noiseT 1, noiseT 2, noiseT 3, noiseT 4, noiseT 5, noiseT 6, noiseT 7] : List ByteArray)) (inner := [.string (noiseT 0), .string (noiseT 1), .string (noiseT 2), .string (noiseT 3), .string (noiseT 4), .string (noiseT 5), .string (noiseT 6), .string (noiseT 7)]) (ok := fun _ => True) (okp := fun _ => True) ?hr ?hp (fun _ hk => hk) trivial (Below.refl _ _) (Nat.le_refl _) (by simp) ?_; (case hd => rfl); (case hg => rfl); (case hr => first | (go_simp; done) | (go_simp; rfl)); (case hp => exact (Reps.one (show Kd.M Kd.string _ _ _ (noiseT 0) [.string (noiseT 0)] from rfl) (Reps.one (show Kd.M Kd.string _ _ _ (noiseT 1) [.string (noiseT 1)] from rfl) (Reps.one (show Kd.M Kd.string _ _ _ (noiseT 2) [.string (noiseT 2)] from rfl) (Reps.one (show Kd.M Kd.string _ _ _ (noiseT 3) [.string (noiseT 3)] from rfl) (Reps.one (show Kd.M Kd.string _ _ _ (noiseT 4) [.string (noiseT 4)] from rfl) (Reps.one (show Kd.M Kd.string _ _ _ (noiseT 5) [.string (noiseT 5)] from rfl) (Reps.one (show Kd.M Kd.string _ _ _ (noiseT 6) [.string (noiseT 6)] from rfl) (Reps.one (show Kd.M Kd.string _ _ _ (noiseT 7) [.string (noiseT 7)] from rfl) (Reps.none _ _)))))))))); intro vLk wLk ho hb hg_ hnew_; clear hg_ hnew_; have Lk := Lib.hid (And.intro (below_step H11.out hb) ho); clear hb ho; obtain ⟨ALk, cLk, e_⟩ := Kd.R_slice Lk.out.2; subst e_))
      have HK := Lib.hid (And.intro Lk.out.1 (Kd.R_reads' Lk.out.2).2.2)
      clear Lk H11
      generalize hn8 : ([noiseT 0, noiseT 1, noiseT 2, noiseT 3, noiseT 4, noiseT 5, noiseT 6, noiseT 7] : List ByteArray).length = n8 at HK ⊢
      have e8 : n8 = 8 := hn8.symm
      subst e8
      clear hn8
      generalize wLk = wk at HK ⊢
      go_loopg [10, 60] l0.length (fun kq v10 v60 w' => ∃ (i : Nat) (s : ByteArray), v60 = .int .i64 (i : Int) ∧ i + kq = l0.length ∧ Hid (Noisy (l0.take i) s (2 * i) ∧ Kd.R (Kd.int .u8) 5 w' wk.heap.size (fun _ => True) v10 (bytesOf s) ∧ Below wk.heap.size wk w'))
      case atStart => exact ⟨0, ⟨#[]⟩, rfl, by omega, noisy_nil, Kd.R_nil _ _ _ _ _, Below.refl _ _⟩
      case round =>
        obtain ⟨i, s, rfl, hk, hA⟩ := hrel
        by_cases hi : i < l0.length
        · have d3 : (i : Int) < (l0.length : Int) := by omega
          have p0 : 0 ≤ (i : Int) := by omega
          have h20 : i < 20 := by have := (HG.out (by trivial)).2.2; omega
          have e1 : IntKind.i64.wrap ((i : Int) + 1) = ((i + 1 : Nat) : Int) := by rw [IntKind.wrap_i64]; omega
          obtain ⟨ad, A4, c4, e, x0, x1, x2, x3, x4, l4, g4⟩ := at_T38 HI.out.2.1 (i : Int) p0 d3
          cases e
          have HN := Lib.hid (fun (s : ByteArray) (z : Nat) (h : Noisy (l0.take i) s z) => noisy_next (HG.out (by trivial)) i hi h)
          rw [rdO_at l0 i hi] at x0 x1 x2 x3 x4 l4 g4
          generalize l0[i] = o at HN x0 x1 x2 x3 x4 l4 g4
          have HB : Below w.heap.size w wr := below_step HK.out.1 hA.out.2.2
          replace x0 := (HB.cell (World.block_lt_of_cell? w _ x0)).trans x0
          replace x1 := (HB.cell (World.block_lt_of_cell? w _ x1)).trans x1
          replace x2 := (HB.cell (World.block_lt_of_cell? w _ x2)).trans x2
          replace x3 := (HB.cell (World.block_lt_of_cell? w _ x3)).trans x3
          replace x4 := (HB.cell (World.block_lt_of_cell? w _ x4)).trans x4
          simp only [Int.toNat_natCast] at x0 x1 x2 x3 x4
          have HX := Lib.hid (And.intro l4 (And.intro g4 (And.intro h20 hk)))
          clear l4 g4 HB h20 hk
          replace p0 := eq_true p0
          go_upto_region 11 with fail
          obtain ⟨W, hW⟩ : ∃ W, W = wr.alloc (Obj.cells #[.int .i64 o.f0, .int .i64 o.f1, .int .i64 o.f2, .string o.f3, .slice A4 o.f4.length c4] 38) := ⟨_, rfl⟩
          rw [← hW]
          have ho : W.heap[wr.heap.size]? = some (Obj.cells #[.int .i64 o.f0, .int .i64 o.f1, .int .i64 o.f2, .string o.f3, .slice A4 o.f4.length c4] 38 (0, 0)) := by rw [hW]; exact blk_new wr _
          have hb1 : Below wr.heap.size wr W := by rw [hW]; exact below_alloc (Below.refl _ _) _
          have HW := Lib.hid (And.intro hA.out.1 (And.intro (Kd.R_below hA.out.2.1 hb1) (And.intro (below_step hA.out.2.2 hb1) ho)))
          clear ho hb1 hW x0 x1 x2 x3 x4 hA
          by_cases hn : i < l1.length
          · have d4 : (i : Int) < (l1.length : Int) := by omega
            have hx := HI.out.2.2.2.2.1 _ (List.getElem_mem hn)
            obtain ⟨ad1, e1', q0⟩ := Kd.at_int HI.out.2.2.2.1 (i : Int) (by omega) d4
            subst e1'
            have hrd : rd l1 (i : Int) = l1[i] := by simp [rd, hn]
            rw [Int.toNat_natCast, hrd] at q0
            generalize l1[i] = x at q0 hx
            have HBW : Below w.heap.size w W := below_step HK.out.1 HW.out.2.2.1
            replace q0 := (HBW.cell (World.block_lt_of_cell? w _ q0)).trans q0
            have u0 : IntKind.i64.wrap x = x := by rw [IntKind.wrap_i64]; omega
            obtain ⟨j, hj, hj8⟩ : ∃ j : Nat, Int.tmod x 8 = (j : Int) ∧ j < 8 := ⟨(x % 8).toNat, by rw [Int.tmod_eq_emod_of_nonneg hx.1, Int.toNat_of_nonneg (Int.emod_nonneg _ (by decide))], by omega⟩
            obtain ⟨ad2, e2', q1⟩ := Kd.at_string HK.out.2 (j : Int) (by omega) (by omega)
            subst e2'
            rw [Int.toNat_natCast, kinds_at j hj8] at q1
            replace q1 := (HW.out.2.2.1.cell (World.block_lt_of_cell? wk _ q1)).trans q1
            have j0 : (0 : Int) ≤ (j : Int) := by omega
            have j1 : (j : Int) < 8 := by omega
            have hs1 := noisy_size HW.out.1
            have hs2 := noise_size j
            have hs3 : (bytesOf s).length = s.size := bytesOf_length s
            have hNj := Lib.hid (And.intro (noisy_noise HW.out.1 j hj8) (show (bytesOf s).length + (noiseT j).size ≤ 140737488355328 by have := HX.out.2.2.1; omega))
            clear hj8 hx hrd HBW hs1 hs2 hs3
            generalize noiseT j = nt at q1 hNj
            go_upto_region 13 with (at_builtin; refine print_append_str (w0 := wk) wk.heap.size rfl (.tmp 69) _ 23 9 5 rfl Tryz.underlying23 Tryz.underlying9 info5 u10 (bytesOf s) nt rfl rfl (Kd.own_of_R HW.out.2.1) HW.out.2.2.1 (below_size HW.out.2.2.1) hNj.out.2 ?_; intro v81 w81 hr81 hb81 hg81; have H81 := Lib.hid (And.intro hNj.out.1 (And.intro (Kd.R_of_own (h1 := fun _ => rfl) (ok := fun _ => True) hr81 (fun _ _ => trivial)) (And.intro hb81 (blk_grown HW.out.2.2.2 hg81 (Kd.R_ne HW.out.2.1 HW.out.2.2.2 (by decide)))))); clear hr81 hb81 hg81 hNj HW q0 q1)
            obtain ⟨t, m1, m2, m3⟩ := HN.out _ _ H81.out.1
            have y0 : w81.cell? ⟨wr.heap.size, 0, none⟩ = some (.int .i64 o.f0) := blk_cell H81.out.2.2.2 0
            have y1 : w81.cell? ⟨wr.heap.size, 1, none⟩ = some (.int .i64 o.f1) := blk_cell H81.out.2.2.2 1
            have y2 : w81.cell? ⟨wr.heap.size, 2, none⟩ = some (.int .i64 o.f2) := blk_cell H81.out.2.2.2 2
            have y3 : w81.cell? ⟨wr.heap.size, 3, none⟩ = some (.string o.f3) := blk_cell H81.out.2.2.2 3
            have y4 : w81.cell? ⟨wr.heap.size, 4, none⟩ = some (.slice A4 o.f4.length c4) := blk_cell H81.out.2.2.2 4
            have hs1 := noisy_size H81.out.1
            have hs3 := bytesOf_length s
            have HM := Lib.hid (And.intro m1 (And.intro m3 (show (bytesOf s ++ bytesOf nt).length + t.size ≤ 140737488355328 by rw [ByteArray.size_append] at hs1; clear H81 HN m3; have := HX.out.2.2.1; rw [List.length_append, bytesOf_length, bytesOf_length]; omega)))
            clear m1 m2 m3 hs1 hs3
            have hCx := Lib.hid (Kd.C_below HX.out.2.1 (below_step HK.out.1 H81.out.2.2.1))
            go_wp2_with fail
            clear y0 y1 y2 y3 y4
            refine (laws_drawMade.calls 200 o.f0 o.f1 o.f2 o.f3 A4 c4 o.f4 t _ (XTab.below HI.out.1 (below_step HK.out.1 H81.out.2.2.1)) hCx.out HX.out.1 HM.out.1).mono ?_
            rintro e w82 ⟨rfl, hb⟩
            have H82 := Lib.hid (And.intro (Kd.R_below H81.out.2.1 hb) (below_step H81.out.2.2.1 hb))
            clear hb H81 hCx
            go_wp2_with (at_builtin; refine print_append_str (w0 := wk) wk.heap.size rfl (.tmp 82) _ 23 9 5 rfl Tryz.underlying23 Tryz.underlying9 info5 v81 (bytesOf s ++ bytesOf nt) t rfl rfl (Kd.own_of_R H82.out.1) H82.out.2 (below_size H82.out.2) HM.out.2.2 ?_; intro v85 w85 hr85 hb85 hg85; have H85 := Lib.hid (And.intro HM.out.2.1 (And.intro (Kd.R_of_own (h1 := fun _ => rfl) (ok := fun _ => True) hr85 (fun _ _ => trivial)) hb85)); clear hr85 hb85 hg85 H82 HM)
            go_roundg (l0.length - (i + 1))
            case measure => have := HX.out.2.2.2; omega
            case rel => exact ⟨i + 1, s ++ nt ++ t, rfl, by have := HX.out.2.2.2; omega, noisy_mono H85.out.1 (by omega), by rw [bytesOf_app, bytesOf_app]; exact H85.out.2.1, H85.out.2.2⟩
          · have d4 : decide ((i : Int) < (l1.length : Int)) = false := decide_eq_false (by omega)
            have H81 := Lib.hid (And.intro HW.out.1 (And.intro HW.out.2.1 (And.intro HW.out.2.2.1 HW.out.2.2.2)))
            obtain ⟨t, m1, m2, m3⟩ := HN.out _ _ H81.out.1
            have y0 : W.cell? ⟨wr.heap.size, 0, none⟩ = some (.int .i64 o.f0) := blk_cell H81.out.2.2.2 0
            have y1 : W.cell? ⟨wr.heap.size, 1, none⟩ = some (.int .i64 o.f1) := blk_cell H81.out.2.2.2 1
            have y2 : W.cell? ⟨wr.heap.size, 2, none⟩ = some (.int .i64 o.f2) := blk_cell H81.out.2.2.2 2
            have y3 : W.cell? ⟨wr.heap.size, 3, none⟩ = some (.string o.f3) := blk_cell H81.out.2.2.2 3
            have y4 : W.cell? ⟨wr.heap.size, 4, none⟩ = some (.slice A4 o.f4.length c4) := blk_cell H81.out.2.2.2 4
            have hs1 := noisy_size H81.out.1
            have hs3 := bytesOf_length s
            have HM := Lib.hid (And.intro m1 (And.intro m3 (show (bytesOf s).length + t.size ≤ 140737488355328 by clear H81 HN m3; have := HX.out.2.2.1; omega)))
            clear m1 m2 m3 hs1 hs3
            have hCx := Lib.hid (Kd.C_below HX.out.2.1 (below_step HK.out.1 H81.out.2.2.1))
            go_wp2_with fail
            clear y0 y1 y2 y3 y4
            refine (laws_drawMade.calls 200 o.f0 o.f1 o.f2 o.f3 A4 c4 o.f4 t _ (XTab.below HI.out.1 (below_step HK.out.1 H81.out.2.2.1)) hCx.out HX.out.1 HM.out.1).mono ?_
            rintro e w82 ⟨rfl, hb⟩
            have H82 := Lib.hid (And.intro (Kd.R_below H81.out.2.1 hb) (below_step H81.out.2.2.1 hb))
            clear hb H81 hCx
            go_wp2_with (at_builtin; refine print_append_str (w0 := wk) wk.heap.size rfl (.tmp 82) _ 23 9 5 rfl Tryz.underlying23 Tryz.underlying9 info5 u10 (bytesOf s) t rfl rfl (Kd.own_of_R H82.out.1) H82.out.2 (below_size H82.out.2) HM.out.2.2 ?_; intro v85 w85 hr85 hb85 hg85; have H85 := Lib.hid (And.intro HM.out.2.1 (And.intro (Kd.R_of_own (h1 := fun _ => rfl) (ok := fun _ => True) hr85 (fun _ _ => trivial)) hb85)); clear hr85 hb85 hg85 H82 HM)
            go_roundg (l0.length - (i + 1))
            case measure => have := HX.out.2.2.2; omega
            case rel => exact ⟨i + 1, s ++ t, rfl, by have := HX.out.2.2.2; omega, noisy_mono H85.out.1 (by omega), by rw [bytesOf_app]; exact H85.out.2.1, H85.out.2.2⟩
        · have d3 : decide ((i : Int) < (l0.length : Int)) = false := decide_eq_false (by omega)
          have hl20 := (HG.out (by trivial)).2.2
          have hall : Noisy l0 s (2 * i) := by
            have := hA.out.1
            rwa [List.take_of_length_le (by omega)] at this
          obtain ⟨el, ops, q1, q2, q3, q4, q5, q6⟩ := noisy_end hall (by omega)
          obtain ⟨tl, el2, p1, p5, p4, hread⟩ := plan_all l0 (HG.out (by trivial))
          have hdo : ∀ o ∈ l0, Does o := fun o ho => right_does ((HG.out (by trivial)).1 o ho)
          have HQ := Lib.hid (And.intro q1 (And.intro q2 (And.intro q3 (And.intro q4 (And.intro q5 q6)))))
          have HP := Lib.hid (And.intro p1 (And.intro p5 (And.intro p4 (And.intro hread (And.intro hdo hl20)))))
          obtain ⟨A10, c10, e10⟩ := Kd.R_slice hA.out.2.1
          subst e10
          have HB := Lib.hid (And.intro (below_step HK.out.1 hA.out.2.2) (Kd.R_reads' hA.out.2.1).2)
          clear hall q1 q2 q3 q4 q5 q6 p1 p5 p4 hread hdo hl20 hA hk
          go_wp2_with fail
          with_reducible refine (impl_Feed.calls 32 4096 A10 c10 (bytesOf s) el _ HB.out.2.2 HB.out.2.1 HQ.out.1).mono ?_
          rintro e w5 ⟨v5, rfl, hv, hb⟩
          have hv2 : Kd.V k43 43 w5 w5.heap.size (fun k => k < w5.heap.size) v5 el := Kd.V_mono (Kd.V_bound (Kd.S_V hv)) (fun k hk => hk.2)
          obtain ⟨A7, c7, rfl⟩ := Kd.S_slice hv
          have HV := Lib.hid (And.intro (below_step HB.out.1 hb) hv2)
          clear hb hv hv2 HB HK
          go_wp2_with fail
          clear d3 hi
          go_loopg [13, 90] el.length (fun kq v13 v90 w' => ∃ i : Nat, v90 = .int .i64 (i : Int) ∧ i + kq = el.length ∧ Hid (Kd.N k43 43 w' w5.heap.size (fun _ => True) v13 ((el.take i).filter (fun e => kept e.f0 e.f3)) ∧ Below w5.heap.size w5 w'))
          case atStart => exact ⟨0, rfl, by omega, Kd.N_nil _ _ _ _ _, Below.refl _ _⟩
          case round =>
            obtain ⟨i, rfl, hk, hA⟩ := hrel
            by_cases hi : i < el.length
            · have d3 : (i : Int) < (el.length : Int) := by omega
              have p0 : 0 ≤ (i : Int) := by omega
              have hq2 := HQ.out.2.1
              have e1 : IntKind.i64.wrap ((i : Int) + 1) = ((i + 1 : Nat) : Int) := by rw [IntKind.wrap_i64]; omega
              obtain ⟨ad, A4, c4, A5, c5, e7, x0, x1, x2, x3, x4, x5, hFK⟩ := ev_at HV.out.2 rfl hA.out.2 i hi
              subst e7
              have ht := ev_take el i hi
              have hfl : ((el.take i).filter (fun e => kept e.f0 e.f3)).length ≤ 1000 := by have := List.length_filter_le (fun e : S43 => kept e.f0 e.f3) (el.take i); rw [List.length_take] at this; omega
              generalize el[i] = ev at x0 x1 x2 x3 x4 x5 hFK ht
              generalize (el.take i).filter (fun e => kept e.f0 e.f3) = fl at hA ht hfl
              have HT := Lib.hid (And.intro hk hfl)
              have Ht := Lib.hid ht
              clear hk hfl ht hq2
              replace p0 := eq_true p0
              go_upto_region 19 with fail
              obtain ⟨W, hW⟩ : ∃ W, W = wr.alloc (Obj.cells #[.int .i64 ev.f0, .int .i64 ev.f1, .int .u8 ev.f2, .int .i64 ev.f3, .slice A4 ev.f4.length c4, .slice A5 ev.f5.length c5] 43) := ⟨_, rfl⟩
              rw [← hW]
              have ho : W.heap[wr.heap.size]? = some (Obj.cells #[.int .i64 ev.f0, .int .i64 ev.f1, .int .u8 ev.f2, .int .i64 ev.f3, .slice A4 ev.f4.length c4, .slice A5 ev.f5.length c5] 43 (0, 0)) := by rw [hW]; exact blk_new wr _
              have hb1 : Below wr.heap.size wr W := by rw [hW]; exact below_alloc (Below.refl _ _) _
              have HW := Lib.hid (And.intro (Kd.N_below hA.out.1 hb1) (And.intro (below_step hA.out.2 hb1) (Kd.FK_below hFK hb1)))
              have y0 : W.cell? ⟨wr.heap.size, 0, none⟩ = some (.int .i64 ev.f0) := blk_cell ho 0
              have y1 : W.cell? ⟨wr.heap.size, 1, none⟩ = some (.int .i64 ev.f1) := blk_cell ho 1
              have y2 : W.cell? ⟨wr.heap.size, 2, none⟩ = some (.int .u8 ev.f2) := blk_cell ho 2
              have y3 : W.cell? ⟨wr.heap.size, 3, none⟩ = some (.int .i64 ev.f3) := blk_cell ho 3
              have y4 : W.cell? ⟨wr.heap.size, 4, none⟩ = some (.slice A4 ev.f4.length c4) := blk_cell ho 4
              have y5 : W.cell? ⟨wr.heap.size, 5, none⟩ = some (.slice A5 ev.f5.length c5) := blk_cell ho 5
              clear ho hb1 hW x0 x1 x2 x3 x4 x5 hFK hA
              by_cases hkp : kept ev.f0 ev.f3 = true
              · have Ht2 := Lib.hid (show (el.take (i + 1)).filter (fun e => kept e.f0 e.f3) = fl ++ [ev] by rw [Ht.out, if_pos hkp])
                have n5 : (ev.f0 != 5) = true := by
                  unfold kept at hkp
                  simp only [Bool.and_eq_true] at hkp
                  exact hkp.1
                have hor : (ev.f0 == 2) = false ∨ ((ev.f0 == 2) = true ∧ (Go.bits .and .i64 ev.f3 127 == 104) = false ∧ (Go.bits .and .i64 ev.f3 127 == 108) = false) := by
                  unfold kept at hkp
                  simp only [Bool.and_eq_true, Bool.not_eq_true', Bool.and_eq_false_iff, Bool.or_eq_false_iff] at hkp
                  cases h2 : (ev.f0 == 2) with
                  | false => exact Or.inl rfl
                  | true => exact Or.inr ⟨rfl, by rcases hkp.2 with h | h; · rw [h2] at h; cases h
                                                  · exact h⟩
                clear hkp Ht
                rcases hor with n2 | ⟨n2, n3, n4⟩
                all_goals
                  go_wp2_with ((with_reducible refine gate_builtin (b := .append) (xs := #[.tmp 116, .tmp 118]) rfl ?_); at_builtin; refine Kd.N_append k43 (w0 := w5) w5.heap.size rfl (.tmp 116) (.tmp 118) 40 43 X.zEv 80 rfl Tryz.underlying40 X.infoEv rfl (by decide) (by omega) u13 fl ev [.int .i64 ev.f0, .int .i64 ev.f1, .int .u8 ev.f2, .int .i64 ev.f3, .slice A4 ev.f4.length c4, .slice A5 ev.f5.length c5] (fun _ => True) (fun k => k < w5.heap.size) rfl rfl HW.out.2.2 (fun k hk => ⟨trivial, fun he => Nat.lt_irrefl _ (Nat.lt_of_lt_of_le hk (Kd.N_base HW.out.1 k he.symm))⟩) (fun _ _ => trivial) HW.out.1 HW.out.2.1 (below_size HW.out.2.1) (by have := HT.out.2; omega) ?_; intro v119 w119 ho hb hg hat; have H119 := Lib.hid (And.intro ho hb); clear ho hb hg hat HW)
                  go_roundg (el.length - (i + 1))
                  case measure => have := HT.out.1; omega
                  case rel => exact ⟨i + 1, rfl, by have := HT.out.1; omega, by rw [Ht2.out]; exact H119.out.1, H119.out.2⟩
              · have Ht2 := Lib.hid (show (el.take (i + 1)).filter (fun e => kept e.f0 e.f3) = fl by rw [Ht.out, if_neg hkp, List.append_nil])
                have hor : ((ev.f0 == 2) = false ∧ (ev.f0 != 5) = false) ∨ ((ev.f0 == 2) = true ∧ (ev.f0 != 5) = true ∧ (Go.bits .and .i64 ev.f3 127 == 104) = true) ∨ ((ev.f0 == 2) = true ∧ (ev.f0 != 5) = true ∧ (Go.bits .and .i64 ev.f3 127 == 104) = false ∧ (Go.bits .and .i64 ev.f3 127 == 108) = true) := by
                  unfold kept at hkp
                  by_cases h5 : ev.f0 = 5
                  · exact Or.inl (by rw [h5]; exact ⟨rfl, rfl⟩)
                  · have h5' : (ev.f0 == 5) = false := beq_eq_false_iff_ne.2 h5
                    have h5n : (ev.f0 != 5) = true := bne_iff_ne.2 h5
                    rw [h5'] at hkp
                    refine Or.inr ?_
                    rw [h5n]
                    generalize (ev.f0 == 2) = b2 at hkp ⊢
                    generalize (Go.bits .and .i64 ev.f3 127 == 104) = b3 at hkp ⊢
                    generalize (Go.bits .and .i64 ev.f3 127 == 108) = b4 at hkp ⊢
                    revert hkp
                    revert b2 b3 b4
                    decide
                clear hkp Ht
                rcases hor with ⟨n2, n5⟩ | ⟨n2, n5, n3⟩ | ⟨n2, n5, n3, n4⟩
                all_goals
                  go_wp2_with fail
                  go_roundg (el.length - (i + 1))
                  case measure => have := HT.out.1; omega
                  case rel => exact ⟨i + 1, rfl, by have := HT.out.1; omega, by rw [Ht2.out]; exact HW.out.1, HW.out.2.1⟩
            · have d3 : decide ((i : Int) < (el.length : Int)) = false := decide_eq_false (by omega)
              have hfl : ((el.take i).filter (fun e => kept e.f0 e.f3)) = el.filter (fun e => kept e.f0 e.f3) := by rw [List.take_of_length_le (by omega)]
              have hN := hA.out.1
              rw [hfl] at hN
              have hll : (el.filter (fun e => kept e.f0 e.f3)).length ≤ 1000 := Nat.le_trans (List.length_filter_le _ _) HQ.out.2.1
              have hrd := HQ.out.2.2.1
              generalize el.filter (fun e => kept e.f0 e.f3) = fl at hN hll hrd
              obtain ⟨A13, c13, e13⟩ := Kd.N_slice hN
              subst e13
              have HN := Lib.hid (And.intro (below_step HV.out.1 hA.out.2) (And.intro (show Kd.V k43 43 wr wr.heap.size (fun _ => True) (.slice A13 fl.length c13) fl from Kd.N_V hN) (And.intro hll hrd)))
              clear hfl hN hll hrd hA hk HV
              go_wp2_with fail
              clear d3 hi
              refine (screen_calls A13 c13 fl (fun _ => True) wr HN.out.2.1 (by have := HN.out.2.2.1; omega) ops HN.out.2.2.2 HQ.out.2.2.2.1 (by have := HQ.out.2.2.2.2.1; omega) Wd H HI.out.2.2.2.2.2.2.1 HI.out.2.2.2.2.2.2.2).mono ?_
              rintro e w6 ⟨g, rfl, ho⟩
              have H6 := Lib.hid (And.intro (below_step HN.out.1 ho.out.2) ho.out.1)
              clear ho HN
              go_wp2_with fail
              with_reducible refine (laws_drawText.calls 400 _ _ l0 tl _ (XTab.below HI.out.1 H6.out.1) (Kd.C_below HI.out.2.1 H6.out.1) HI.out.2.2.1 HP.out.1).mono ?_
              rintro e w7 ⟨v7, rfl, hv, hb⟩
              obtain ⟨A7', c7', rfl, hc7, hf7⟩ := hv
              have H7 := Lib.hid (And.intro (below_step H6.out.1 hb) (And.intro hb (And.intro hc7 (Kd.F_now hf7))))
              clear hb hf7 hc7
              go_wp2_with fail
              with_reducible refine (impl_Feed.calls 32 4096 _ _ tl el2 _ H7.out.2.2.2 H7.out.2.2.1 HP.out.2.1).mono ?_
              rintro e w8 ⟨v8, rfl, hv, hb⟩
              have hv2 : Kd.V k43 43 w8 w8.heap.size (fun _ => True) v8 el2 := Kd.S_V hv
              obtain ⟨A8, c8, rfl⟩ := Kd.S_slice hv
              have H8 := Lib.hid (And.intro (below_step H7.out.1 hb) (And.intro (below_step H7.out.2.1 hb) hv2))
              clear hb hv hv2 H7
              go_wp2_with fail
              refine (screen_calls A8 c8 el2 (fun _ => True) w8 H8.out.2.2 (by have := HP.out.2.2.1; omega) l0 HP.out.2.2.2.1 HP.out.2.2.2.2.1 (by have := HP.out.2.2.2.2.2; omega) Wd H HI.out.2.2.2.2.2.2.1 HI.out.2.2.2.2.2.2.2).mono ?_
              rintro e w9 ⟨g9, rfl, ho⟩
              have H9 := Lib.hid (And.intro (below_step H8.out.1 ho.out.2) (And.intro (below_step H8.out.2.1 ho.out.2) ho.out.1))
              clear ho H8
              go_wp2_with fail
              obtain ⟨B6, T6, c6, bs6, hB6, ha6⟩ := H6.out.2
              obtain ⟨B9, T9, c9, bs9, hB9, ha9⟩ := H9.out.2.2
              refine (same_plain (ha6.below H9.out.2.1) ha9 (does_fine attrA ops (new_fine Wd H (by have := HI.out.2.2.2.2.2.2.1; omega) (by have := HI.out.2.2.2.2.2.2.1; omega) (by have := HI.out.2.2.2.2.2.2.2; omega) (by have := HI.out.2.2.2.2.2.2.2; omega)) HQ.out.2.2.2.1) (HQ.out.2.2.2.2.2 (newScr Wd H))).mono ?_
              rintro e w10 ⟨rfl, hb⟩
              have H10 := Lib.hid (below_step H9.out.1 hb)
              clear hb ha6 ha9
              go_wp2_with fail
              refine (HE.out _ H10.out).mono ?_
              rintro e w11 ⟨rfl, H11⟩
              go_wp2_with fail
              go_ret
              exact ⟨rfl, H11.out⟩
theorem FnDrawNoise_true {Q : Op → Prop} (l : List Op) (_ : l.length ≤ maxLen) (_ : ∀ a ∈ l, Q a) (ns : List Int) (_ : ns.length ≤ maxLen) (hn : ∀ n ∈ ns, (Lit.int .u8 n).wf = true) (a : Int) (hw : (Lit.int .u8 a).wf = true) : laws_FnDrawNoise.f l ns a = some true := by
  have h : 0 ≤ a ∧ a ≤ 255 := by simpa [Lit.wf, IntKind.min, IntKind.max, IntKind.signed, IntKind.bits] using hw
  have h2 : ∀ n ∈ ns, 0 ≤ n ∧ n ≤ 255 := fun n hm => by simpa [Lit.wf, IntKind.min, IntKind.max, IntKind.signed, IntKind.bits] using hn n hm
  exact if_pos ⟨h, h2⟩
end Go.Proofs.YteebhoehflgfoaaGreatDoor.Y
end
section
namespace Go.Proofs.YteebhoehflgfoaaGreatDoorW.PrintWords
open Go.ChangeShapes Go.WideShapes

end Go.Proofs.YteebhoehflgfoaaGreatDoorW.PrintWords
end
