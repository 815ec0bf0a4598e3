/- Texts of this claim, joined: XCardGraphics. Of each, what the claim uses. -/
import Derived.Test.YtjkjnhcnmjknmaaGreatDoorKGraphicsd
import Derived.Test.YtjkjnhcnmjknmaaGreatDoorCards
import Derived.Test.YtjkjnhcnmjknmaaGreatDoorTie
import Derived.WalkKit
import Derived.ProofKit
import Derived.OpenShut
import Derived.ShutString
import Derived.ChangeOld
import Derived.Below
import Derived.SizedLaws
import Derived.Lay
import Derived.LaidOnce
import Derived.SevenTiedAt
import Derived.Stop.Joined
import Derived.Lib.LaidTab
import Derived.Lib.SmallJoins
import Derived.Laws.IdiomArrays
section
namespace Go.Proofs.YtjkjnhcnmjknmaaGreatDoor.fnDrawGraphics
open Go.ChangeShapes Go.WideShapes Go.ChangeAt Go.RowKit Go.Proofs.YtjkjnhcnmjknmaaGreatDoorW.PrintWords
open Go.ChangeMaps (open_string shut_string)
theorem own : ownKnob Tryz.prog.godebug = none := by kernel_rfl
theorem laidOut : laidOutB Tryz.prog = true := by kernel_rfl
abbrev laid : List (String × DataW Unit) := Rows.fnDrawGraphicsRow.laid
/-- Of a list of variables that are met, the rest is met, too. -/
theorem met_rest {P : Program} {W : World} {x : String × DataW Unit} {l : List (String × DataW Unit)} (h : laidMet P (x :: l) W) : laidMet P l W := by
  obtain ⟨ps, ⟨g, t, cs, fuel, p, q, _, _, _, _, h5, rfl⟩, hn, hr⟩ := h
  exact ⟨q, h5, (List.nodup_append.1 hn).2.1, fun b off hx => hr b off (List.mem_append_right _ hx)⟩
theorem tab {W : World} (h : laidMetH Tryz.prog laid W) : XTab W := by
  rw [MakeChecks.laidMetH_plain _ _ _ (by kernel_rfl)] at h
  exact Lib.tabIs_of_head (g := 3) (t := 185) (e := 168) (n := 20) (by kernel_rfl) (by kernel_rfl) (by kernel_rfl) (by kernel_rfl) (by kernel_rfl) (by kernel_rfl) (met_rest (met_rest (h)))
set_option maxRecDepth 100000 in
theorem okWide_arr3 {W : World} {r : Reach} {b : Nat} {v : Value} (h : Value.okWide Tryz.prog W r b 50 v) : ∃ cs : Array Value, v = .agg cs ∧ cs.size = 3 := by
  simp only [Value.okWide, Tryz.underlying50] at h
  obtain ⟨cs, h1, h2, _⟩ := h
  exact ⟨cs, h1, h2.trans (by kernel_rfl)⟩
set_option maxRecDepth 100000 in
theorem lifted (os : Os) (started : os.Started) (H : Type) (enc : TypeId × Value → H) :
    ReturnsInHanded {} Tryz.checked os 5 .any (fun w args => (Rows.fnDrawGraphicsSpec.pre enc Tryz.prog Tryz.f5 [] false w args ∧ laidMetH Tryz.prog laid w) ∧ sizedMet enc Tryz.prog Tryz.f5 (OpenSpec.ofChange Rows.fnDrawGraphicsSpec) false w args)
      (Rows.fnDrawGraphicsSpec.post enc Tryz.prog Tryz.f5 false true false false) := by
  refine returnsInHanded_of_change_and (C := Tryz.checked) (X := fun w _ => laidMetH Tryz.prog laid w) (fun _ _ _ hh h => h.of_heap hh) own started (by kernel_rfl) Tryz.func5
    (ChangeSpec.witness_shaped (enc := enc) (C := Tryz.checked) (os := os) (X := fun w _ => laidMetH Tryz.prog laid w) false (World.laidAll Tryz.prog os laid) #[.string ByteArray.empty, .slice none 0 0, .agg #[.int .u8 0, .int .u8 0, .int .u8 0]] 8 (World.laidAll_os _ _ _)
      (World.shaped_of_ZipB (by kernel_rfl) (by kernel_rfl)) (by kernel_rfl) (by kernel_rfl) (by kernel_rfl)
      (by rw [MakeChecks.laidMetH_plain _ _ _ (by kernel_rfl)]; exact laidMet_laidAll _ (by kernel_rfl) (by kernel_rfl))) ?_
  intro W base args ds gs before hval0 hW _ hsz0 hL _
  have hsz : (DataW.weightsEach Tryz.prog (Tryz.f5.params.toList ++ Rows.fnDrawGraphicsSpec.plain.varTypes Tryz.prog) (ds ++ gs)).all (· ≤ reachBytes) = true := hsz0
  have hval : ∀ (j : Nat) t v, Tryz.f5.params[j]? = some t → args[j]? = some v → Value.okWide Tryz.prog W .any base t v := hval0
  have hW' := hW
  obtain ⟨p, q, hA0, hV, rfl, hfz, hnd⟩ := hW
  have hA : DataW.TrodAll enc Tryz.prog W 0 (fun _ => true) true Tryz.f5.params.toList args.toList ds p := hA0
  rw [Tryz.params5] at hA hval hsz
  obtain ⟨v0, vs0, d0, ds0, p0, q0, hargs, rfl, rfl, h0, r0⟩ := trodAll_cons hA
  obtain ⟨v1, vs1, d1, ds1, p1, q1, rfl, rfl, rfl, h1, r1⟩ := trodAll_cons r0
  obtain ⟨v2, vs2, d2, ds2, p2, q2, rfl, rfl, rfl, h2, r2⟩ := trodAll_cons r1
  obtain ⟨rfl, rfl, rfl⟩ := trodAll_nil r2
  obtain rfl : args = #[v0, v1, v2] := by cases args; simp_all
  obtain ⟨rfl, rfl⟩ := trodVars_none hV
  obtain ⟨a0, rfl, rfl, rfl, y0⟩ := open_string Tryz.underlying9 (hval 0 9 v0 rfl rfl) h0
  obtain ⟨a1, len1, cap1, rfl⟩ := okWide_slice Tryz.underlying49 (hval 1 49 v1 rfl rfl)
  have k1 := h1
  have lt1 : ∀ x ∈ p1, x.block < W.heap.size := by obtain ⟨m, hm⟩ := k1; exact DataW.trod_lt m _ _ _ hm
  obtain ⟨fuel1, hf1⟩ := h1
  obtain ⟨l1, ⟨A1, c1, hcs1, hc1, hr1⟩, hm1, hq1⟩ := (X.opens_slice Tryz.underlying49 (by kernel_rfl) (X.opens_string Tryz.underlying9)) _ _ _ hf1
  obtain ⟨rfl, rfl, rfl⟩ : a1 = A1 ∧ len1 = l1.length ∧ cap1 = c1 := by simpa [Value.cells] using hcs1
  have k2 := h2
  have lt2 : ∀ x ∈ p2, x.block < W.heap.size := by obtain ⟨m, hm⟩ := k2; exact DataW.trod_lt m _ _ _ hm
  obtain ⟨g2, rfl, sz2⟩ := okWide_arr3 (hval 2 50 v2 rfl rfl)
  obtain ⟨c2_0, c2_1, c2_2, rfl⟩ := Go.Joins.array3 sz2
  obtain ⟨fu2, hf2⟩ := h2
  obtain ⟨y2_0, y2_1, y2_2, m2, hx2, z2_0, z2_1, z2_2⟩ := Go.ChangeShapes.trod_array3 Tryz.underlying50 (by kernel_rfl) (by simpa [Value.cells] using hf2)
  obtain ⟨a2_0, e2_0, _, w2_0⟩ := DataW.trod_int Tryz.underlying5 z2_0
  obtain rfl := (List.cons.inj e2_0).1
  obtain ⟨a2_1, e2_1, _, w2_1⟩ := DataW.trod_int Tryz.underlying5 z2_1
  obtain rfl := (List.cons.inj e2_1).1
  obtain ⟨a2_2, e2_2, _, w2_2⟩ := DataW.trod_int Tryz.underlying5 z2_2
  obtain rfl := (List.cons.inj e2_2).1
  clear hA0 hval0 hsz0 hsz
  refine (Y.laws_FnDrawGraphics.calls 8000000000 a0 _ _ l1 a2_0 a2_1 a2_2 true W (tab hL) hr1 hc1 (Y.FnDrawGraphics_true a0 y0 l1 hm1 hq1 a2_0 a2_1 a2_2 w2_0 w2_1 w2_2)).mono fun e W' ⟨he, bel⟩ => ?_
  subst he
  exact ⟨_, rfl, _, _, _, [], _, [], hW', trodAll_mk1 (shut_bool Tryz.underlying4 _), (trodAll_cons_mk (shut_string Tryz.underlying9 y0) (trodAll_cons_mk (Below.trod laidOut (by kernel_rfl) (of_decide_eq_true (by kernel_rfl)) k1 bel lt1) (trodAll_cons_mk (Below.trod laidOut (by kernel_rfl) (of_decide_eq_true (by kernel_rfl)) k2 bel lt2) trodAll_mk0))), rfl, bel.frame _, fun h => by cases h⟩
theorem over : Rows.fnDrawGraphicsRow.holds Tryz.pinned (OpenSpec.ofChange Rows.fnDrawGraphicsSpec) :=
  OpenClaim.holds_of_wide 5 Tryz.f5 rfl rfl rfl rfl rfl rfl rfl ⟨rfl, rfl, rfl, rfl, rfl⟩ rfl rfl rfl rfl rfl (by kernel_rfl) Tryz.func5 (by kernel_rfl)
    (of_decide_eq_true (by kernel_rfl)) (by unfold Func.isWrapper; first | (rw [if_pos (by decide +kernel)]; kernel_rfl) | (rw [if_neg (by decide +kernel)]; exact ⟨rfl, rfl⟩))
    (fun os started H enc _ => lifted os started H enc)
theorem proved : Rows.FnDrawGraphicsCardSaid :=
  Claim7.holds_tied_plain_at .later [] [.data, .data, .data, .data, .sentinel, .pinned] true (true, "fc38f1dfffa5d4220535cc5a635500169ee20b79b83c7421daee7212a2ba36ef") true over (fun _ h => by cases h) (by kernel_rfl) (fun _ h => by cases h) fnDrawGraphics_row_tie rfl ⟨rfl, rfl⟩ (by kernel_rfl) rfl
    (fun f fn hf hfn => by
      obtain rfl : f = 5 := Option.some.inj ((show Tryz.prog.funcNamed "pub-caprice/laws.FnDrawGraphics" = some 5 by kernel_rfl).symm.trans hf) |>.symm
      obtain rfl : fn = Tryz.f5 := (Option.some.inj (Tryz.func5.symm.trans hfn)).symm
      exact ⟨by kernel_rfl, fun j t ht => by
        rw [Tryz.params5] at ht
        have hm : t ∈ [9, 49, 50] := by simpa using Array.mem_of_getElem? ht
        have hall : ([9, 49, 50].all fun u => !Tryz.prog.wantsStandIn u) = true := by kernel_rfl
        exact (show Tryz.prog.wantsStandIn t = false by simpa using List.all_eq_true.1 hall t hm)⟩)
    (by kernel_rfl)
end Go.Proofs.YtjkjnhcnmjknmaaGreatDoor.fnDrawGraphics
namespace Go.Proofs.YtjkjnhcnmjknmaaGreatDoor
/-- The card, under a short name, for the claim. -/
theorem fnDrawGraphics_holds : Rows.FnDrawGraphicsCardSaid := fnDrawGraphics.proved
#print axioms fnDrawGraphics_holds
end Go.Proofs.YtjkjnhcnmjknmaaGreatDoor
end
