/- Texts of this claim, joined: XCardNoise. Of each, what the claim uses. -/
import Derived.Test.YteebhoehflgfoaaGreatDoorCards
import Derived.Test.YteebhoehflgfoaaGreatDoorTie
import Derived.Test.YteebhoehflgfoaaGreatDoorKbk
import Derived.WalkKit
import Derived.ProofKit
import Derived.OpenShut
import Derived.ShutString
import Derived.ChangeOld
import Derived.Below
import Derived.SizedLaws
import Derived.Lay
import Derived.LaidOnce
import Derived.SevenTiedAt
import Derived.Stop.Joined
import Derived.Lib.LaidTab
import Derived.Test.YteebhoehflgfoaaGreatDoorKav
section
namespace Go.Proofs.YteebhoehflgfoaaGreatDoor.fnDrawNoise
open Go.ChangeShapes Go.WideShapes Go.ChangeAt Go.RowKit Go.Proofs.YteebhoehflgfoaaGreatDoorW.PrintWords
open Go.ChangeMaps (open_string shut_string)
theorem own : ownKnob Tryz.prog.godebug = none := by kernel_rfl
theorem laidOut : laidOutB Tryz.prog = true := by kernel_rfl
abbrev laid : List (String × DataW Unit) := Rows.fnDrawNoiseRow.laid
/-- Of a list of variables that are met, the rest is met, too. -/
theorem met_rest {P : Program} {W : World} {x : String × DataW Unit} {l : List (String × DataW Unit)} (h : laidMet P (x :: l) W) : laidMet P l W := by
 obtain ⟨ps, ⟨g, t, cs, fuel, p, q, _, _, _, _, h5, rfl⟩, hn, hr⟩ := h
 exact ⟨q, h5, (List.nodup_append.1 hn).2.1, fun b off hx => hr b off (List.mem_append_right _ hx)⟩
theorem tab {W : World} (h : laidMetH Tryz.prog laid W) : XTab W := by
 rw [MakeChecks.laidMetH_plain _ _ _ (by kernel_rfl)] at h
 exact Lib.tabIs_of_head (g := 3) (t := 202) (e := 184) (n := 20) (by kernel_rfl) (by kernel_rfl) (by kernel_rfl) (by kernel_rfl) (by kernel_rfl) (by kernel_rfl) (met_rest (met_rest (h)))
theorem el38 {H : Type} {enc : TypeId × Value → H} {W : World} : X.Opens enc W 38 Y.k38 (fun x => (Lit.int .i64 x.f0).wf = true ∧ (Lit.int .i64 x.f1).wf = true ∧ (Lit.int .i64 x.f2).wf = true ∧ x.f3.size ≤ maxLen ∧ (x.f4.length ≤ maxLen ∧ ∀ a ∈ x.f4, (Lit.int .i64 a).wf = true)) := fun fuel cs x h => by
 obtain ⟨xs, n, _, _, hl, hxl, hall⟩ := DataW.trod_struct Tryz.underlying38 h
 have hc : Tryz.prog.cellsOf 38 = 5 := by kernel_rfl
 rw [hc] at hl
 have c2 : Tryz.prog.cellsOf 2 = 1 := by kernel_rfl
 have c9 : Tryz.prog.cellsOf 9 = 1 := by kernel_rfl
 have c29 : Tryz.prog.cellsOf 29 = 1 := by kernel_rfl
 obtain ⟨c_0, c_1, c_2, c_3, c_4, rfl⟩ := X.len5 hl
 have x0 : DataW.trod enc Tryz.prog W 0 (fun _ => true) true n 2 (([c_0, c_1, c_2, c_3, c_4].drop 0).take (Tryz.prog.cellsOf 2)) = xs[0]? := hall 0 _ rfl
 rw [c2, List.getElem?_eq_getElem (by rw [hxl]; decide)] at x0
 obtain ⟨a0, k0, q0⟩ := (X.opens_int Tryz.underlying2) _ _ _ x0
 replace k0 : (Kd.int .i64).K W a0 [c_0] := k0
 have x1 : DataW.trod enc Tryz.prog W 0 (fun _ => true) true n 2 (([c_0, c_1, c_2, c_3, c_4].drop 1).take (Tryz.prog.cellsOf 2)) = xs[1]? := hall 1 _ rfl
 rw [c2, List.getElem?_eq_getElem (by rw [hxl]; decide)] at x1
 obtain ⟨a1, k1, q1⟩ := (X.opens_int Tryz.underlying2) _ _ _ x1
 replace k1 : (Kd.int .i64).K W a1 [c_1] := k1
 have x2 : DataW.trod enc Tryz.prog W 0 (fun _ => true) true n 2 (([c_0, c_1, c_2, c_3, c_4].drop 2).take (Tryz.prog.cellsOf 2)) = xs[2]? := hall 2 _ rfl
 rw [c2, List.getElem?_eq_getElem (by rw [hxl]; decide)] at x2
 obtain ⟨a2, k2, q2⟩ := (X.opens_int Tryz.underlying2) _ _ _ x2
 replace k2 : (Kd.int .i64).K W a2 [c_2] := k2
 have x3 : DataW.trod enc Tryz.prog W 0 (fun _ => true) true n 9 (([c_0, c_1, c_2, c_3, c_4].drop 3).take (Tryz.prog.cellsOf 9)) = xs[3]? := hall 3 _ rfl
 rw [c9, List.getElem?_eq_getElem (by rw [hxl]; decide)] at x3
 obtain ⟨a3, k3, q3⟩ := (X.opens_string Tryz.underlying9) _ _ _ x3
 replace k3 : Kd.string.K W a3 [c_3] := k3
 have x4 : DataW.trod enc Tryz.prog W 0 (fun _ => true) true n 29 (([c_0, c_1, c_2, c_3, c_4].drop 4).take (Tryz.prog.cellsOf 29)) = xs[4]? := hall 4 _ rfl
 rw [c29, List.getElem?_eq_getElem (by rw [hxl]; decide)] at x4
 obtain ⟨a4, k4, q4⟩ := (X.opens_slice Tryz.underlying29 (by kernel_rfl) (X.opens_int Tryz.underlying2)) _ _ _ x4
 replace k4 : (Kd.slice 2 (Kd.int .i64)).K W a4 [c_4] := k4
 have e0 := k0
 obtain rfl := (List.cons.inj e0).1
 have e1 := k1
 obtain rfl := (List.cons.inj e1).1
 have e2 := k2
 obtain rfl := (List.cons.inj e2).1
 have e3 := k3
 obtain rfl := (List.cons.inj e3).1
 obtain ⟨A4, p4, e4, l4, g4⟩ := k4
 obtain rfl := (List.cons.inj e4).1
 exact ⟨⟨a0, a1, a2, a3, a4⟩, Y.k38_mk W ⟨a0, a1, a2, a3, a4⟩ l4 g4, q0, q1, q2, q3, q4⟩
def IsRow (k : IntKind) (w : World) (a : Option Addr) (len cap : Nat) (zs : List Int) : Prop :=
 (a = none ∧ len = 0 ∧ cap = 0 ∧ zs = []) ∨
 ∃ x, a = some x ∧ len ≤ cap ∧ cap ≤ maxLen ∧ zs.length = cap ∧ (∀ i, i < zs.length → w.cell? (x.add i) = some (.int k (zs.getD i 0))) ∧ ∀ n ∈ zs, (Lit.int k n).wf = true
set_option maxRecDepth 100000 in
theorem lifted (os : Os) (started : os.Started) (H : Type) (enc : TypeId × Value → H) :
  ReturnsInHanded {} Tryz.checked os 3 .any (fun w args => (Rows.fnDrawNoiseSpec.pre enc Tryz.prog Tryz.f3 [] false w args ∧ laidMetH Tryz.prog laid w) ∧ sizedMet enc Tryz.prog Tryz.f3 (OpenSpec.ofChange Rows.fnDrawNoiseSpec) false w args)
   (Rows.fnDrawNoiseSpec.post enc Tryz.prog Tryz.f3 false true false false) := by
 refine returnsInHanded_of_change_and (C := Tryz.checked) (X := fun w _ => laidMetH Tryz.prog laid w) (fun _ _ _ hh h => h.of_heap hh) own started (by kernel_rfl) Tryz.func3
  (ChangeSpec.witness_shaped (enc := enc) (C := Tryz.checked) (os := os) (X := fun w _ => laidMetH Tryz.prog laid w) false (World.laidAll Tryz.prog os laid) #[.slice none 0 0, .slice none 0 0, .int .u8 0] 8 (World.laidAll_os _ _ _)
   (World.shaped_of_ZipB (by kernel_rfl) (by kernel_rfl)) (by kernel_rfl) (by kernel_rfl) (by kernel_rfl)
   (by rw [MakeChecks.laidMetH_plain _ _ _ (by kernel_rfl)]; exact laidMet_laidAll _ (by kernel_rfl) (by kernel_rfl))) ?_
 intro W base args ds gs before hval0 hW _ hsz0 hL _
 have hsz : (DataW.weightsEach Tryz.prog (Tryz.f3.params.toList ++ Rows.fnDrawNoiseSpec.plain.varTypes Tryz.prog) (ds ++ gs)).all (· ≤ reachBytes) = true := hsz0
 have hval : ∀ (j : Nat) t v, Tryz.f3.params[j]? = some t → args[j]? = some v → Value.okWide Tryz.prog W .any base t v := hval0
 have hW' := hW
 obtain ⟨p, q, hA0, hV, rfl, hfz, hnd⟩ := hW
 have hA : DataW.TrodAll enc Tryz.prog W 0 (fun _ => true) true Tryz.f3.params.toList args.toList ds p := hA0
 rw [Tryz.params3] at hA hval hsz
 obtain ⟨v0, vs0, d0, ds0, p0, q0, hargs, rfl, rfl, h0, r0⟩ := trodAll_cons hA
 obtain ⟨v1, vs1, d1, ds1, p1, q1, rfl, rfl, rfl, h1, r1⟩ := trodAll_cons r0
 obtain ⟨v2, vs2, d2, ds2, p2, q2, rfl, rfl, rfl, h2, r2⟩ := trodAll_cons r1
 obtain ⟨rfl, rfl, rfl⟩ := trodAll_nil r2
 obtain rfl : args = #[v0, v1, v2] := by cases args; simp_all
 obtain ⟨rfl, rfl⟩ := trodVars_none hV
 obtain ⟨a0, len0, cap0, rfl⟩ := okWide_slice Tryz.underlying22 (hval 0 22 v0 rfl rfl)
 have k0 := h0
 have lt0 : ∀ x ∈ p0, x.block < W.heap.size := by obtain ⟨m, hm⟩ := k0; exact DataW.trod_lt m _ _ _ hm
 obtain ⟨fuel0, hf0⟩ := h0
 obtain ⟨l0, ⟨A0, c0, hcs0, hc0, hr0⟩, hm0, hq0⟩ := (X.opens_slice Tryz.underlying22 (by kernel_rfl) el38) _ _ _ hf0
 obtain ⟨rfl, rfl, rfl⟩ : a0 = A0 ∧ len0 = l0.length ∧ cap0 = c0 := by simpa [Value.cells] using hcs0
 obtain ⟨a1, len1, cap1, rfl⟩ := okWide_slice Tryz.underlying23 (hval 1 23 v1 rfl rfl)
 have k1 := h1
 have lt1 : ∀ x ∈ p1, x.block < W.heap.size := by obtain ⟨m, hm⟩ := k1; exact DataW.trod_lt m _ _ _ hm
 obtain ⟨z1, w1⟩ : ∃ zs, IsRow .u8 W a1 len1 cap1 zs := by
  obtain ⟨fuel, hf⟩ := h1
  rcases open_ints Tryz.underlying23 Tryz.underlying5 (by kernel_rfl) hf with ⟨hcs, _⟩ | ⟨x, l, c, zs, hcs, _, hl, hm, hz, _, hcell, hwz⟩
  ·simp [Value.cells] at hcs
   obtain ⟨rfl, rfl, rfl⟩ := hcs
   exact ⟨[], .inl ⟨rfl, rfl, rfl, rfl⟩⟩
  ·simp [Value.cells] at hcs
   obtain ⟨rfl, rfl, rfl⟩ := hcs
   exact ⟨zs, .inr ⟨_, rfl, hl, hm, by simpa using hz, hcell, hwz⟩⟩
 obtain ⟨l1, rfl, hr1, hm1, hw1, hc1⟩ := ReadsInt.ofRowC w1
 obtain ⟨a2, rfl, rfl, rfl, w2⟩ := open_int Tryz.underlying5 (hval 2 5 v2 rfl rfl) h2
 clear hA0 hval0 hsz0 hsz
 refine (Y.laws_FnDrawNoise.calls _ _ l0 _ _ l1 a2 true W (tab hL) hr0 hc0 (Kd.C_of_reads (d := (0 : Int)) (h1 := fun _ => rfl) hr1) hc1 (Y.FnDrawNoise_true l0 hm0 hq0 l1 hm1 hw1 a2 w2)).mono fun e W' ⟨he, bel⟩ => ?_
 subst he
 exact ⟨_, rfl, _, _, _, [], _, [], hW', trodAll_mk1 (shut_bool Tryz.underlying4 _), (trodAll_cons_mk (Below.trod laidOut (by kernel_rfl) (of_decide_eq_true (by kernel_rfl)) k0 bel lt0) (trodAll_cons_mk (Below.trod laidOut (by kernel_rfl) (of_decide_eq_true (by kernel_rfl)) k1 bel lt1) (trodAll_cons_mk (shut_int Tryz.underlying5 w2) trodAll_mk0))), rfl, bel.frame _, fun h => by cases h⟩
theorem over : Rows.fnDrawNoiseRow.holds Tryz.pinned (OpenSpec.ofChange Rows.fnDrawNoiseSpec) :=
 OpenClaim.holds_of_wide 3 Tryz.f3 rfl rfl rfl rfl rfl rfl rfl ⟨rfl, rfl, rfl, rfl, rfl⟩ rfl rfl rfl rfl rfl (by kernel_rfl) Tryz.func3 (by kernel_rfl)
  (of_decide_eq_true (by kernel_rfl)) (by unfold Func.isWrapper; first | (rw [if_pos (by decide +kernel)]; kernel_rfl) | (rw [if_neg (by decide +kernel)]; exact ⟨rfl, rfl⟩))
  (fun os started H enc _ => lifted os started H enc)
theorem proved : Rows.FnDrawNoiseCardSaid :=
 Claim7.holds_tied_plain_at .later [] [.data, .data, .data, .data, .sentinel, .pinned] true (true, "1354308914caa5e6c7dec86fbf0f3fa06a209fd7863b765d4bf2be2cbf5dde6a") true over (fun _ h => by cases h) (by kernel_rfl) (fun _ h => by cases h) fnDrawNoise_row_tie rfl ⟨rfl, rfl⟩ (by kernel_rfl) rfl
  (fun f fn hf hfn => by
   obtain rfl : f = 3 := Option.some.inj ((show Tryz.prog.funcNamed "pub-caprice/laws.FnDrawNoise" = some 3 by kernel_rfl).symm.trans hf) |>.symm
   obtain rfl : fn = Tryz.f3 := (Option.some.inj (Tryz.func3.symm.trans hfn)).symm
   exact ⟨by kernel_rfl, fun j t ht => by
    rw [Tryz.params3] at ht
    have hm : t ∈ [22, 23, 5] := by simpa using Array.mem_of_getElem? ht
    have hall : ([22, 23, 5].all fun u => !Tryz.prog.wantsStandIn u) = true := by kernel_rfl
    exact (show Tryz.prog.wantsStandIn t = false by simpa using List.all_eq_true.1 hall t hm)⟩)
  (by kernel_rfl)
end Go.Proofs.YteebhoehflgfoaaGreatDoor.fnDrawNoise
namespace Go.Proofs.YteebhoehflgfoaaGreatDoor
/-- The card, under a short name, for the claim. -/
theorem fnDrawNoise_holds : Rows.FnDrawNoiseCardSaid := fnDrawNoise.proved
#print axioms fnDrawNoise_holds
end Go.Proofs.YteebhoehflgfoaaGreatDoor
end
