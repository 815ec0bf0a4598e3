/- Texts of this claim, joined: XCardTitles. Of each, what the claim uses. -/
import Derived.Test.YtkklhlakklcnbaaGreatDoorRRRCards
import Derived.Test.YtkklhlakklcnbaaGreatDoorRRRTie
import Derived.Test.YtkklhlakklcnbaaGreatDoorRRRKau
import Derived.Test.YtkklhlakklcnbaaGreatDoorRRRKaz
import Derived.WalkKit
import Derived.ProofKit
import Derived.OpenShut
import Derived.ShutString
import Derived.ChangeOld
import Derived.Below
import Derived.SizedLaws
import Derived.Lay
import Derived.LaidOnce
import Derived.SevenTiedAt
import Derived.Stop.Joined
import Derived.Lib.LaidTab
import Derived.Test.YtkklhlakklcnbaaGreatDoorRRRKba
section
namespace Go.Proofs.YtkklhlakklcnbaaGreatDoorRRR.fnDrawTitles
open Go.ChangeShapes Go.WideShapes Go.ChangeAt Go.RowKit Go.Proofs.YtkklhlakklcnbaaGreatDoorRRRW.PrintWords
open Go.ChangeMaps (open_string shut_string)
theorem own : ownKnob Tryz.prog.godebug = none := by kernel_rfl
theorem laidOut : laidOutB Tryz.prog = true := by kernel_rfl
abbrev laid : List (String × DataW Unit) := Rows.fnDrawTitlesRow.laid
/-- Of a list of variables that are met, the rest is met, too. -/
theorem met_rest {P : Program} {W : World} {x : String × DataW Unit} {l : List (String × DataW Unit)} (h : laidMet P (x :: l) W) : laidMet P l W := by
  obtain ⟨ps, ⟨g, t, cs, fuel, p, q, _, _, _, _, h5, rfl⟩, hn, hr⟩ := h
  exact ⟨q, h5, (List.nodup_append.1 hn).2.1, fun b off hx => hr b off (List.mem_append_right _ hx)⟩
theorem tab {W : World} (h : laidMetH Tryz.prog laid W) : XTab W := by
  rw [MakeChecks.laidMetH_plain _ _ _ (by kernel_rfl)] at h
  exact Lib.tabIs_of_head (g := 3) (t := 198) (e := 181) (n := 20) (by kernel_rfl) (by kernel_rfl) (by kernel_rfl) (by kernel_rfl) (by kernel_rfl) (by kernel_rfl) (met_rest (met_rest (h)))
theorem el70 {H : Type} {enc : TypeId × Value → H} {W : World} : X.Opens enc W 70 Y.k70 (fun x => (Lit.int .u8 x.f0).wf = true ∧ x.f1.size ≤ maxLen) := fun fuel cs x h => by
  obtain ⟨xs, n, _, _, hl, hxl, hall⟩ := DataW.trod_struct Tryz.underlying70 h
  have hc : Tryz.prog.cellsOf 70 = 2 := by kernel_rfl
  rw [hc] at hl
  have c5 : Tryz.prog.cellsOf 5 = 1 := by kernel_rfl
  have c9 : Tryz.prog.cellsOf 9 = 1 := by kernel_rfl
  obtain ⟨c_0, c_1, rfl⟩ := X.len2 hl
  have x0 : DataW.trod enc Tryz.prog W 0 (fun _ => true) true n 5 (([c_0, c_1].drop 0).take (Tryz.prog.cellsOf 5)) = xs[0]? := hall 0 _ rfl
  rw [c5, List.getElem?_eq_getElem (by rw [hxl]; decide)] at x0
  obtain ⟨a0, k0, q0⟩ := (X.opens_int Tryz.underlying5) _ _ _ x0
  replace k0 : (Kd.int .u8).K W a0 [c_0] := k0
  have x1 : DataW.trod enc Tryz.prog W 0 (fun _ => true) true n 9 (([c_0, c_1].drop 1).take (Tryz.prog.cellsOf 9)) = xs[1]? := hall 1 _ rfl
  rw [c9, List.getElem?_eq_getElem (by rw [hxl]; decide)] at x1
  obtain ⟨a1, k1, q1⟩ := (X.opens_string Tryz.underlying9) _ _ _ x1
  replace k1 : Kd.string.K W a1 [c_1] := k1
  have e0 := k0
  obtain rfl := (List.cons.inj e0).1
  have e1 := k1
  obtain rfl := (List.cons.inj e1).1
  exact ⟨⟨a0, a1⟩, Y.k70_mk W ⟨a0, a1⟩, q0, q1⟩
set_option maxRecDepth 100000 in
theorem lifted (os : Os) (started : os.Started) (H : Type) (enc : TypeId × Value → H) :
    ReturnsInHanded {} Tryz.checked os 11 .any (fun w args => (Rows.fnDrawTitlesSpec.pre enc Tryz.prog Tryz.f11 [] false w args ∧ laidMetH Tryz.prog laid w) ∧ sizedMet enc Tryz.prog Tryz.f11 (OpenSpec.ofChange Rows.fnDrawTitlesSpec) false w args)
      (Rows.fnDrawTitlesSpec.post enc Tryz.prog Tryz.f11 false true false false) := by
  refine returnsInHanded_of_change_and (C := Tryz.checked) (X := fun w _ => laidMetH Tryz.prog laid w) (fun _ _ _ hh h => h.of_heap hh) own started (by kernel_rfl) Tryz.func11
    (ChangeSpec.witness_shaped (enc := enc) (C := Tryz.checked) (os := os) (X := fun w _ => laidMetH Tryz.prog laid w) false (World.laidAll Tryz.prog os laid) #[.slice none 0 0] 8 (World.laidAll_os _ _ _)
      (World.shaped_of_ZipB (by kernel_rfl) (by kernel_rfl)) (by kernel_rfl) (by kernel_rfl) (by kernel_rfl)
      (by rw [MakeChecks.laidMetH_plain _ _ _ (by kernel_rfl)]; exact laidMet_laidAll _ (by kernel_rfl) (by kernel_rfl))) ?_
  intro W base args ds gs before hval0 hW _ hsz0 hL _
  have hsz : (DataW.weightsEach Tryz.prog (Tryz.f11.params.toList ++ Rows.fnDrawTitlesSpec.plain.varTypes Tryz.prog) (ds ++ gs)).all (· ≤ reachBytes) = true := hsz0
  have hval : ∀ (j : Nat) t v, Tryz.f11.params[j]? = some t → args[j]? = some v → Value.okWide Tryz.prog W .any base t v := hval0
  have hW' := hW
  obtain ⟨p, q, hA0, hV, rfl, hfz, hnd⟩ := hW
  have hA : DataW.TrodAll enc Tryz.prog W 0 (fun _ => true) true Tryz.f11.params.toList args.toList ds p := hA0
  rw [Tryz.params11] at hA hval hsz
  obtain ⟨v0, vs0, d0, ds0, p0, q0, hargs, rfl, rfl, h0, r0⟩ := trodAll_cons hA
  obtain ⟨rfl, rfl, rfl⟩ := trodAll_nil r0
  obtain rfl : args = #[v0] := by cases args; simp_all
  obtain ⟨rfl, rfl⟩ := trodVars_none hV
  obtain ⟨a0, len0, cap0, rfl⟩ := okWide_slice Tryz.underlying67 (hval 0 67 v0 rfl rfl)
  have k0 := h0
  have lt0 : ∀ x ∈ p0, x.block < W.heap.size := by obtain ⟨m, hm⟩ := k0; exact DataW.trod_lt m _ _ _ hm
  obtain ⟨fuel0, hf0⟩ := h0
  obtain ⟨l0, ⟨A0, c0, hcs0, hc0, hr0⟩, hm0, hq0⟩ := (X.opens_slice Tryz.underlying67 (by kernel_rfl) el70) _ _ _ hf0
  obtain ⟨rfl, rfl, rfl⟩ : a0 = A0 ∧ len0 = l0.length ∧ cap0 = c0 := by simpa [Value.cells] using hcs0
  clear hA0 hval0 hsz0 hsz
  refine (Y.laws_FnDrawTitles.calls 8000000000 _ _ l0 true W (tab hL) hr0 hc0 (Y.FnDrawTitles_true l0 hm0 hq0)).mono fun e W' ⟨he, bel⟩ => ?_
  subst he
  exact ⟨_, rfl, _, _, _, [], _, [], hW', trodAll_mk1 (shut_bool Tryz.underlying4 _), (trodAll_cons_mk (Below.trod laidOut (by kernel_rfl) (of_decide_eq_true (by kernel_rfl)) k0 bel lt0) trodAll_mk0), rfl, bel.frame _, fun h => by cases h⟩
theorem over : Rows.fnDrawTitlesRow.holds Tryz.pinned (OpenSpec.ofChange Rows.fnDrawTitlesSpec) :=
  OpenClaim.holds_of_wide 11 Tryz.f11 rfl rfl rfl rfl rfl rfl rfl ⟨rfl, rfl, rfl, rfl, rfl⟩ rfl rfl rfl rfl rfl (by kernel_rfl) Tryz.func11 (by kernel_rfl)
    (of_decide_eq_true (by kernel_rfl)) (by unfold Func.isWrapper; first | (rw [if_pos (by decide +kernel)]; kernel_rfl) | (rw [if_neg (by decide +kernel)]; exact ⟨rfl, rfl⟩))
    (fun os started H enc _ => lifted os started H enc)
theorem proved : Rows.FnDrawTitlesCardSaid :=
  Claim7.holds_tied_plain_at .later [] [.data, .data, .data, .data, .sentinel, .pinned] true (true, "96cd9b068dde56dbfbd86597f65b2a7109c263021ff26f64281d11f6f7236caa") false over (fun _ h => by cases h) (by kernel_rfl) (fun _ h => by cases h) fnDrawTitles_row_tie rfl ⟨rfl, rfl⟩ (by kernel_rfl) rfl
    (fun f fn hf hfn => by
      obtain rfl : f = 11 := Option.some.inj ((show Tryz.prog.funcNamed "pub-caprice/laws.FnDrawTitles" = some 11 by kernel_rfl).symm.trans hf) |>.symm
      obtain rfl : fn = Tryz.f11 := (Option.some.inj (Tryz.func11.symm.trans hfn)).symm
      exact ⟨by kernel_rfl, fun j t ht => by
        rw [Tryz.params11] at ht
        have hm : t ∈ [67] := by simpa using Array.mem_of_getElem? ht
        have hall : ([67].all fun u => !Tryz.prog.wantsStandIn u) = true := by kernel_rfl
        exact (show Tryz.prog.wantsStandIn t = false by simpa using List.all_eq_true.1 hall t hm)⟩)
    (by kernel_rfl)
end Go.Proofs.YtkklhlakklcnbaaGreatDoorRRR.fnDrawTitles
namespace Go.Proofs.YtkklhlakklcnbaaGreatDoorRRR
/-- The card, under a short name, for the claim. -/
theorem fnDrawTitles_holds : Rows.FnDrawTitlesCardSaid := fnDrawTitles.proved
#print axioms fnDrawTitles_holds
end Go.Proofs.YtkklhlakklcnbaaGreatDoorRRR
end
