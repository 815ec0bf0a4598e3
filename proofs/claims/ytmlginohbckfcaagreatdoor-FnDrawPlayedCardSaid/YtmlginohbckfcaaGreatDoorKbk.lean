/- Texts of this claim, joined: XLawPlayed. Of each, what the claim uses. -/
import Derived.Test.YtmlginohbckfcaaGreatDoorKbj
section
namespace Go.Proofs.YtmlginohbckfcaaGreatDoor.Y
open Go.RowKit Go.Proofs.YtmlginohbckfcaaGreatDoorW.PrintWords Go.Proofs.YtmlginohbckfcaaGreatDoorW.PrintLast Go.Proofs.YtmlginohbckfcaaGreatDoorW.PrintMore
set_option linter.unusedSimpArgs false
set_option linter.unusedVariables false
set_option maxRecDepth 100000
set_option maxHeartbeats 8000000
def laws_FnDrawPlayed.f (l : List Op) (a : Int) : Option Bool := if 0 ≤ a ∧ a ≤ 255 then some true else none
theorem laws_FnDrawPlayed.calls (A0 : Option Addr) (c0 : Nat) (l0 : List Op) (a1 : Int) (r : Bool) (w : World) (hT : XTab w) (hr0 : Kd.C k42 w A0 l0.length l0) (hc0 : l0.length ≤ c0) (h : laws_FnDrawPlayed.f l0 a1 = some r) :
    Calls Tryz.prog 6 #[.slice A0 l0.length c0, .int .u8 a1] w fun e w' => e = .returned (.bool r) ∧ Below w.heap.size w w' := by
  unfold laws_FnDrawPlayed.f at h
  split at h
  case isFalse => cases h
  rename_i ha
  obtain rfl := Option.some.inj h
  obtain ⟨b0, f0, f1⟩ := fits_f l0 3000000000 (by omega)
  have HI := Lib.hid (And.intro hT (And.intro hr0 (And.intro hc0 ha)))
  have HF := Lib.hid f1
  clear h hT hr0 hc0 ha f1
  go_enter Tryz.func6, Tryz.ntmps6
  go_wp2_with fail
  with_reducible refine (laws_zzFits3.calls 3000000000 _ _ l0 b0 _ HI.out.2.1 HI.out.2.2.1 f0).mono ?_
  rintro e w1 ⟨rfl, hb⟩
  have H1 := Lib.hid hb
  clear hb f0
  cases b0 with
  | false =>
    go_wp2_with fail
    go_ret
    exact ⟨rfl, H1.out⟩
  | true =>
    go_wp2_with fail
    refine (isPlan_calls _ _ l0 _ (Kd.C_below HI.out.2.1 H1.out) HI.out.2.2.1 (HF.out (by trivial))).mono ?_
    rintro e w2 ⟨b1, rfl, g1, hb⟩
    have H2 := Lib.hid (below_step H1.out hb)
    have HG := Lib.hid g1
    clear hb g1 H1
    cases b1 with
    | false =>
      go_wp2_with fail
      with_reducible refine (laws_drawAwake.calls true _ (XTab.below HI.out.1 H2.out) awake).mono ?_
      rintro e w3 ⟨rfl, hb⟩
      have H3 := Lib.hid (below_step H2.out hb)
      clear hb
      go_wp2_with fail
      go_ret
      exact ⟨rfl, H3.out⟩
    | true =>
      have hr := HG.out (by trivial)
      obtain ⟨tl, el, p1, p5, p4, hread⟩ := plan_all l0 hr
      have hdo : ∀ o ∈ l0, Does o := fun o ho => right_does (hr.1 o ho)
      have hlen : l0.length ≤ 20 := hr.2.2
      obtain ⟨Wd, H, z1, z2, z3⟩ := size_f a1 HI.out.2.2.2.1 HI.out.2.2.2.2
      have HP := Lib.hid (And.intro p1 (And.intro p5 (And.intro hread (And.intro hdo (And.intro z1 (And.intro z2 (And.intro z3 (And.intro hlen p4))))))))
      clear hr p1 p4 p5 hread hdo z1 z2 z3 hlen
      go_wp2_with fail
      with_reducible refine (laws_drawSize.calls a1 Wd H _ HP.out.2.2.2.2.1).mono ?_
      rintro e w3 ⟨rfl, ⟨nd, rfl⟩⟩
      have H3 := Lib.hid (pw_below_drewN H2.out nd)
      generalize w2.drewN nd = w3 at H3 ⊢
      clear H2
      go_wp2_with fail
      with_reducible refine (laws_drawText.calls 400 _ _ l0 tl _ (XTab.below HI.out.1 H3.out) (Kd.C_below HI.out.2.1 H3.out) HI.out.2.2.1 HP.out.1).mono ?_
      rintro e w4 ⟨v4, rfl, hv, hb⟩
      obtain ⟨A4, c4, rfl, hc4, hf4⟩ := hv
      have hr4 := Kd.F_now hf4
      have H4 := Lib.hid (And.intro (below_step H3.out hb) (And.intro hc4 hr4))
      clear hb hf4 hc4 hr4 H3
      go_wp2_with fail
      with_reducible refine (impl_Feed.calls 32 4096 _ _ tl el _ H4.out.2.2 H4.out.2.1 HP.out.2.1).mono ?_
      rintro e w5 ⟨v5, rfl, hv, hb⟩
      have hv2 : Kd.V k69 69 w5 w5.heap.size (fun _ => True) v5 el := Kd.S_V hv
      obtain ⟨A5, c5, rfl⟩ := Kd.S_slice hv
      have H5 := Lib.hid (And.intro (below_step H4.out.1 hb) hv2)
      clear hb hv hv2 H4
      go_wp2_with fail
      refine (screen_calls A5 c5 el (fun _ => True) w5 H5.out.2 (by have := HP.out.2.2.2.2.2.2.2.2; omega) l0 HP.out.2.2.1 HP.out.2.2.2.1 (by have := HP.out.2.2.2.2.2.2.2.1; omega) Wd H HP.out.2.2.2.2.2.1 HP.out.2.2.2.2.2.2.1).mono ?_
      rintro e w6 ⟨g, rfl, ho⟩
      have H6 := Lib.hid (And.intro (below_step H5.out.1 ho.out.2) ho.out.1)
      clear ho H5
      go_wp2_with fail
      refine (new_calls w6 Wd H HP.out.2.2.2.2.2.1 HP.out.2.2.2.2.2.2.1).mono ?_
      rintro e w7 ⟨rfl, hn, hb⟩
      have H7 := Lib.hid (And.intro (below_step H6.out.1 hb) (And.intro hn hb))
      clear hn hb
      go_wp2_with fail
      obtain ⟨T7, c7, bs7, ha7⟩ := H7.out.2.1
      refine (play_calls ha7 (new_fine Wd H (by have := HP.out.2.2.2.2.2.1; omega) (by have := HP.out.2.2.2.2.2.1; omega) (by have := HP.out.2.2.2.2.2.2.1; omega) (by have := HP.out.2.2.2.2.2.2.1; omega)) A0 c0 l0 HI.out.2.1 (below_size H6.out.1) H7.out.1 HP.out.2.2.2.1 (by have := HP.out.2.2.2.2.2.2.2.1; omega)).mono ?_
      rintro e w8 ⟨rfl, ⟨bs8, ha8⟩, hb8⟩
      have H8 := Lib.hid (And.intro (H7.out.1.trans (hb8.mono (below_size H6.out.1))) (And.intro ha8 (Below.trans H7.out.2.2 hb8)))
      clear ha7 ha8 hb8
      go_wp2_with fail
      obtain ⟨B6, T6, c6, bs6, hB6, ha6⟩ := H6.out.2
      refine (same_calls (ha6.below H8.out.2.2) H8.out.2.1 (does_fine attrA l0 (new_fine Wd H (by have := HP.out.2.2.2.2.2.1; omega) (by have := HP.out.2.2.2.2.2.1; omega) (by have := HP.out.2.2.2.2.2.2.1; omega) (by have := HP.out.2.2.2.2.2.2.1; omega)) HP.out.2.2.2.1)).mono ?_
      rintro e w9 ⟨rfl, hb⟩
      have H9 := Lib.hid (below_step H8.out.1 hb)
      clear hb ha6
      go_wp2_with fail
      with_reducible refine (laws_drawAwake.calls true _ (XTab.below HI.out.1 H9.out) awake).mono ?_
      rintro e w10 ⟨rfl, hb⟩
      have H10 := Lib.hid (below_step H9.out hb)
      clear hb
      go_wp2_with fail
      go_ret
      exact ⟨rfl, H10.out⟩
theorem FnDrawPlayed_true {Q : Op → Prop} (l : List Op) (_ : l.length ≤ maxLen) (_ : ∀ a ∈ l, Q a) (a1 : Int) (hw : (Lit.int .u8 a1).wf = true) : laws_FnDrawPlayed.f l a1 = some true := by
  have h : 0 ≤ a1 ∧ a1 ≤ 255 := by simpa [Lit.wf, IntKind.min, IntKind.max, IntKind.signed, IntKind.bits] using hw
  exact if_pos h
end Go.Proofs.YtmlginohbckfcaaGreatDoor.Y
end
