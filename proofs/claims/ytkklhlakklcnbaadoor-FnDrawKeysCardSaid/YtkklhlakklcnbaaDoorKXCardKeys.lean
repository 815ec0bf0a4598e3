/- Texts of this claim, joined: XCardKeys. Of each, what the claim uses. -/
import Derived.Test.YtkklhlakklcnbaaDoorCards
import Derived.Test.YtkklhlakklcnbaaDoorTie
import Derived.Test.YtkklhlakklcnbaaDoorKar
import Derived.Test.YtkklhlakklcnbaaDoorKau
import Derived.WalkKit
import Derived.ProofKit
import Derived.OpenShut
import Derived.ShutString
import Derived.ChangeOld
import Derived.Below
import Derived.SizedLaws
import Derived.Lay
import Derived.LaidOnce
import Derived.SevenTiedAt
import Derived.Stop.Joined
import Derived.Lib.LaidTab
import Derived.Test.YtkklhlakklcnbaaDoorKav
section
namespace Go.Proofs.YtkklhlakklcnbaaDoor.fnDrawKeys
open Go.ChangeShapes Go.WideShapes Go.ChangeAt Go.RowKit Go.Proofs.YtkklhlakklcnbaaDoorW.PrintWords
open Go.ChangeMaps (open_string shut_string)
theorem own : ownKnob Tryd.prog.godebug = none := by kernel_rfl
theorem laidOut : laidOutB Tryd.prog = true := by kernel_rfl
abbrev laid : List (String × DataW Unit) := Rows.fnDrawKeysRow.laid
/-- Of a list of variables that are met, the rest is met, too. -/
theorem met_rest {P : Program} {W : World} {x : String × DataW Unit} {l : List (String × DataW Unit)} (h : laidMet P (x :: l) W) : laidMet P l W := by
  obtain ⟨ps, ⟨g, t, cs, fuel, p, q, _, _, _, _, h5, rfl⟩, hn, hr⟩ := h
  exact ⟨q, h5, (List.nodup_append.1 hn).2.1, fun b off hx => hr b off (List.mem_append_right _ hx)⟩
theorem tab {W : World} (h : laidMetH Tryd.prog laid W) : XTab W := by
  rw [MakeChecks.laidMetH_plain _ _ _ (by kernel_rfl)] at h
  exact Lib.tabIs_of_head (g := 0) (t := 92) (e := 85) (n := 20) (by kernel_rfl) (by kernel_rfl) (by kernel_rfl) (by kernel_rfl) (by kernel_rfl) (by kernel_rfl) (met_rest (met_rest (h)))
set_option maxRecDepth 100000 in
theorem lifted (os : Os) (started : os.Started) (H : Type) (enc : TypeId × Value → H) :
    ReturnsInHanded {} Tryd.checked os 3 .any (fun w args => (Rows.fnDrawKeysSpec.pre enc Tryd.prog Tryd.f3 [] false w args ∧ laidMetH Tryd.prog laid w) ∧ sizedMet enc Tryd.prog Tryd.f3 (OpenSpec.ofChange Rows.fnDrawKeysSpec) false w args)
      (Rows.fnDrawKeysSpec.post enc Tryd.prog Tryd.f3 false true false false) := by
  refine returnsInHanded_of_change_and (C := Tryd.checked) (X := fun w _ => laidMetH Tryd.prog laid w) (fun _ _ _ hh h => h.of_heap hh) own started (by kernel_rfl) Tryd.func3
    (ChangeSpec.witness_shaped (enc := enc) (C := Tryd.checked) (os := os) (X := fun w _ => laidMetH Tryd.prog laid w) false (World.laidAll Tryd.prog os laid) #[.slice none 0 0, .slice none 0 0] 8 (World.laidAll_os _ _ _)
      (World.shaped_of_ZipB (by kernel_rfl) (by kernel_rfl)) (by kernel_rfl) (by kernel_rfl) (by kernel_rfl)
      (by rw [MakeChecks.laidMetH_plain _ _ _ (by kernel_rfl)]; exact laidMet_laidAll _ (by kernel_rfl) (by kernel_rfl))) ?_
  intro W base args ds gs before hval0 hW _ hsz0 hL _
  have hsz : (DataW.weightsEach Tryd.prog (Tryd.f3.params.toList ++ Rows.fnDrawKeysSpec.plain.varTypes Tryd.prog) (ds ++ gs)).all (· ≤ reachBytes) = true := hsz0
  have hval : ∀ (j : Nat) t v, Tryd.f3.params[j]? = some t → args[j]? = some v → Value.okWide Tryd.prog W .any base t v := hval0
  have hW' := hW
  obtain ⟨p, q, hA0, hV, rfl, hfz, hnd⟩ := hW
  have hA : DataW.TrodAll enc Tryd.prog W 0 (fun _ => true) true Tryd.f3.params.toList args.toList ds p := hA0
  rw [Tryd.params3] at hA hval hsz
  obtain ⟨v0, vs0, d0, ds0, p0, q0, hargs, rfl, rfl, h0, r0⟩ := trodAll_cons hA
  obtain ⟨v1, vs1, d1, ds1, p1, q1, rfl, rfl, rfl, h1, r1⟩ := trodAll_cons r0
  obtain ⟨rfl, rfl, rfl⟩ := trodAll_nil r1
  obtain rfl : args = #[v0, v1] := by cases args; simp_all
  obtain ⟨rfl, rfl⟩ := trodVars_none hV
  obtain ⟨a0, len0, cap0, rfl⟩ := okWide_slice Tryd.underlying22 (hval 0 22 v0 rfl rfl)
  have k0 := h0
  have lt0 : ∀ x ∈ p0, x.block < W.heap.size := by obtain ⟨m, hm⟩ := k0; exact DataW.trod_lt m _ _ _ hm
  obtain ⟨fuel0, hf0⟩ := h0
  obtain ⟨l0, ⟨A0, c0, hcs0, hc0, hr0⟩, hm0, hq0⟩ := (X.opens_slice Tryd.underlying22 (by kernel_rfl) (X.opens_int Tryd.underlying2)) _ _ _ hf0
  obtain ⟨rfl, rfl, rfl⟩ : a0 = A0 ∧ len0 = l0.length ∧ cap0 = c0 := by simpa [Value.cells] using hcs0
  obtain ⟨a1, len1, cap1, rfl⟩ := okWide_slice Tryd.underlying23 (hval 1 23 v1 rfl rfl)
  have k1 := h1
  have lt1 : ∀ x ∈ p1, x.block < W.heap.size := by obtain ⟨m, hm⟩ := k1; exact DataW.trod_lt m _ _ _ hm
  obtain ⟨fuel1, hf1⟩ := h1
  obtain ⟨l1, ⟨A1, c1, hcs1, hc1, hr1⟩, hm1, hq1⟩ := (X.opens_slice Tryd.underlying23 (by kernel_rfl) (X.opens_bool Tryd.underlying4)) _ _ _ hf1
  obtain ⟨rfl, rfl, rfl⟩ : a1 = A1 ∧ len1 = l1.length ∧ cap1 = c1 := by simpa [Value.cells] using hcs1
  clear hA0 hval0 hsz0 hsz
  refine (Y.laws_FnDrawKeys.calls 1000 _ _ l0 _ _ l1 true W (tab hL) hr0 hc0 hr1 hc1 (Y.FnDrawKeys_true l0 hm0 hq0 l1 hm1 hq1)).mono fun e W' ⟨he, bel⟩ => ?_
  subst he
  exact ⟨_, rfl, _, _, _, [], _, [], hW', trodAll_mk1 (shut_bool Tryd.underlying4 _), (trodAll_cons_mk (Below.trod laidOut (by kernel_rfl) (of_decide_eq_true (by kernel_rfl)) k0 bel lt0) (trodAll_cons_mk (Below.trod laidOut (by kernel_rfl) (of_decide_eq_true (by kernel_rfl)) k1 bel lt1) trodAll_mk0)), rfl, bel.frame _, fun h => by cases h⟩
theorem over : Rows.fnDrawKeysRow.holds Tryd.pinned (OpenSpec.ofChange Rows.fnDrawKeysSpec) :=
  OpenClaim.holds_of_wide 3 Tryd.f3 rfl rfl rfl rfl rfl rfl rfl ⟨rfl, rfl, rfl, rfl, rfl⟩ rfl rfl rfl rfl rfl (by kernel_rfl) Tryd.func3 (by kernel_rfl)
    (of_decide_eq_true (by kernel_rfl)) (by unfold Func.isWrapper; first | (rw [if_pos (by decide +kernel)]; kernel_rfl) | (rw [if_neg (by decide +kernel)]; exact ⟨rfl, rfl⟩))
    (fun os started H enc _ => lifted os started H enc)
theorem proved : Rows.FnDrawKeysCardSaid :=
  Claim7.holds_tied_plain_at .later [] [.data, .data, .data, .data, .pinned] true (true, "bce593e7d6dcb0300e461fe51fde1dd03b57ffdc9d511e92760cb312da2176e2") false over (fun _ h => by cases h) (by kernel_rfl) (fun _ h => by cases h) fnDrawKeys_row_tie rfl ⟨rfl, rfl⟩ (by kernel_rfl) rfl
    (fun f fn hf hfn => by
      obtain rfl : f = 3 := Option.some.inj ((show Tryd.prog.funcNamed "pub-caprice/laws.FnDrawKeys" = some 3 by kernel_rfl).symm.trans hf) |>.symm
      obtain rfl : fn = Tryd.f3 := (Option.some.inj (Tryd.func3.symm.trans hfn)).symm
      exact ⟨by kernel_rfl, fun j t ht => by
        rw [Tryd.params3] at ht
        have hm : t ∈ [22, 23] := by simpa using Array.mem_of_getElem? ht
        have hall : ([22, 23].all fun u => !Tryd.prog.wantsStandIn u) = true := by kernel_rfl
        exact (show Tryd.prog.wantsStandIn t = false by simpa using List.all_eq_true.1 hall t hm)⟩)
    (by kernel_rfl)
end Go.Proofs.YtkklhlakklcnbaaDoor.fnDrawKeys
namespace Go.Proofs.YtkklhlakklcnbaaDoor
/-- The card, under a short name, for the claim. -/
theorem fnDrawKeys_holds : Rows.FnDrawKeysCardSaid := fnDrawKeys.proved
#print axioms fnDrawKeys_holds
end Go.Proofs.YtkklhlakklcnbaaDoor
end
