/- Texts of this claim, joined: Y95 XMakeList Y49D Y66D XMade XOpen XPlanRunB XFinals Y96D Y96 Y97D Y97. Of each, what the claim uses. -/
import Derived.Test.YteebhoehflgfoaaGreatDoorKac
import Derived.Test.YteebhoehflgfoaaGreatDoorKau
import Derived.Lib.Hide
import Derived.Test.YteebhoehflgfoaaGreatDoorKat
import Derived.Test.YteebhoehflgfoaaGreatDoorProg
import Derived.ChangeArms
import Derived.DataReads
import Derived.WideMake
section
namespace Go.Proofs.YteebhoehflgfoaaGreatDoor.Y
open Go.RowKit Go.Proofs.YteebhoehflgfoaaGreatDoorW.PrintWords Go.Proofs.YteebhoehflgfoaaGreatDoorW.PrintLast Go.Proofs.YteebhoehflgfoaaGreatDoorW.PrintMore
attribute [local go_sem] max2_int min2_int max_two min_two max_three min_three max_four min_four
set_option linter.unusedVariables false
set_option linter.unusedSimpArgs false
set_option maxHeartbeats 8000000 in
set_option maxRecDepth 100000 in
theorem xansi_SelectGraphicRendition.calls (k : Nat) (A0 : Option Addr) (c0 : Nat) (l0 : List Int) (r : ByteArray) (w : World) (hT : XTab w) (hr0 : Kd.C (Kd.int .i64) w A0 l0.length l0) (hc0 : l0.length ≤ c0) (h : xansi_SelectGraphicRendition.f k l0 = some r) :
  Calls Tryz.prog 25 #[.slice A0 l0.length c0] w fun e w' => e = .returned (.string r) ∧ Below w.heap.size w w' := by
 have HT := Aside0.mk hT
 clear hT
 have HR0 := Aside0.mk hr0
 have HC0 := Aside0.mk hc0
 clear hr0 hc0
 have HB := Aside0.mk (Below.refl w.heap.size w)
 have H : (if (l0.length : Int) = 0 then (some (⟨#[27, 91, 109]⟩ : ByteArray)) else ((xansi_NewStyle.f k l0).bind fun t429 => ((xansi_Style_String.f k t429).bind fun t432 => (some t432)))) = some r := h
 clear h
 by_cases c2 : (l0.length : Int) = 0
 ·rw [if_pos c2] at H
  have c2b0 : ((l0.length : Int) == 0) = true := beq_iff_eq.mpr c2
  have c2b1 : ((l0.length : Int) != 0) = false := bne_eq_false_iff_eq.mpr c2
  clear c2
  obtain rfl := Option.some.inj H
  go_enter Tryz.func25, Tryz.ntmps25
  go_wp2
  go_ret
  exact ⟨by first | rfl | (simp [errW_none, errW_some] <;> rfl) | (simp [*, errW_none, errW_some] <;> rfl), by repeat (first | (with_reducible first | exact HB.out | apply below_alloc | apply pw_below_drewN | apply below_drew1) | exact HB.out)⟩
 ·rw [if_neg c2] at H
  have c2b0 : ((l0.length : Int) == 0) = false := beq_eq_false_iff_ne.mpr c2
  have c2b1 : ((l0.length : Int) != 0) = true := bne_iff_ne.mpr c2
  have c2b2 : ¬ (l0 = []) := fun h_ => c2 (by rw [h_]; rfl)
  replace H := Option.bind_eq_some_iff.mp H
  obtain ⟨t429, A30, H⟩ := H
  replace H : ((xansi_Style_String.f k t429).bind fun t432 => (some t432)) = some r := H
  have A3 := Aside0.mk A30
  clear A30
  replace H := Option.bind_eq_some_iff.mp H
  obtain ⟨t432, A40, H⟩ := H
  replace H : (some t432) = some r := H
  have A4 := Aside0.mk A40
  clear A40
  obtain rfl := Option.some.inj H
  go_enter Tryz.func25, Tryz.ntmps25
  go_wp2_with (first | ((with_reducible refine gate_callee (f := 105) rfl ?_); refine goesL_ (some 7) rfl rfl Tryz.func105 (by kernel_rfl) rfl #[.slice A0 l0.length c0] rfl (by (try simp only [List.map_toArray, List.map_cons, List.map_nil]); first | done | rfl | (simp only [List.length_drop, List.length_take]; rfl)) ?_; (with_reducible refine (xansi_NewStyle.calls k _ _ l0 t429 _ ?side3 ?side1 ?side2 A3.out).mono ?_); (case side1 => repeat (first | exact HR0.out | (with_reducible refine Kd.C_alloc ?_ _) | (with_reducible refine Kd.C_drewN ?_ _) | (with_reducible refine Kd.C_drew ?_))); (case side2 => exact HC0.out); (case side3 => exact XTab.below HT.out (by repeat (first | (with_reducible first | exact HB.out | apply below_alloc | apply pw_below_drewN | apply below_drew1) | exact HB.out))); rintro e w5 ⟨v430, rfl, ho0, hb⟩; refine ⟨_, rfl, ?_⟩; have n0_ := Aside0.mk (Kd.R_lower ho0 (below_size (by repeat (first | (with_reducible first | exact HB.out | apply below_alloc | apply pw_below_drewN | apply below_drew1) | exact HB.out)))); have n1_ := Aside0.mk (below_step (by repeat (first | (with_reducible first | exact HB.out | apply below_alloc | apply pw_below_drewN | apply below_drew1) | exact HB.out)) hb); clear HB; have HO431 := n0_; have HB := n1_; clear n0_ n1_; (try clear hb); (try clear hb2); (try clear hk); (try clear hi); (try clear ho0); obtain ⟨Ao6, co6, eo6⟩ := Kd.R_slice HO431.out; subst eo6) | ((with_reducible refine gate_callee (f := 106) rfl ?_); refine goesL_ (some 8) rfl rfl Tryz.func106 (by kernel_rfl) rfl #[.slice Ao6 t429.length co6] rfl (by (try simp only [List.map_toArray, List.map_cons, List.map_nil]); first | done | rfl | (simp only [List.length_drop, List.length_take]; rfl)) ?_; (with_reducible refine (xansi_Style_String.calls k _ _ t429 t432 _ ?side1 ?side2 A4.out).mono ?_); (case side1 => repeat (first | exact (Kd.R_reads' HO431.out).2.2 | (with_reducible refine Kd.C_alloc ?_ _) | (with_reducible refine Kd.C_drewN ?_ _) | (with_reducible refine Kd.C_drew ?_))); (case side2 => exact (Kd.R_reads' HO431.out).2.1); rintro e w' ⟨rfl, ⟨nd, rfl⟩⟩; refine ⟨_, rfl, ?_⟩))
  go_ret
  exact ⟨by first | rfl | (simp [errW_none, errW_some] <;> rfl) | (simp [*, errW_none, errW_some] <;> rfl), by repeat (first | (with_reducible first | exact HB.out | apply below_alloc | apply pw_below_drewN | apply below_drew1) | exact HB.out)⟩
end Go.Proofs.YteebhoehflgfoaaGreatDoor.Y
end
section
namespace Go.Proofs.YteebhoehflgfoaaGreatDoor.Y
open Go.RowKit Go.Proofs.YteebhoehflgfoaaGreatDoorW.PrintWords Go.Proofs.YteebhoehflgfoaaGreatDoorW.PrintLast Go.Proofs.YteebhoehflgfoaaGreatDoorW.PrintMore
def impl_MakeList.f (k : Nat) (a0 : Int) (l1 : List Int) : Option (ByteArray) := if a0 = 4 then (impl_count.f k l1).bind fun t => xansi_SelectGraphicRendition.f k t else none
theorem impl_MakeList.mono : ∀ a0 a1 k, LeO (impl_MakeList.f k a0 a1) (impl_MakeList.f (k + 1) a0 a1) := by
 intro a0 a1 k
 unfold impl_MakeList.f
 exact LeO.ite (LeO.bind (impl_count.mono _ _) (fun _ => xansi_SelectGraphicRendition.mono _ _)) (LeO.none _)
theorem impl_MakeList.calls (k : Nat) (a0 : Int) (A1 : Option Addr) (c1 : Nat) (l1 : List Int) (r : ByteArray) (w : World) (hT : XTab w) (hr1 : Kd.C (Kd.int .i64) w A1 l1.length l1) (hc1 : l1.length ≤ c1) (h : impl_MakeList.f k a0 l1 = some r) :
  Calls Tryz.prog 8 #[.int .i64 a0, .slice A1 l1.length c1] w fun e w' => e = .returned (.string r) ∧ Below w.heap.size w w' := by
 unfold impl_MakeList.f at h
 split at h
 ·rename_i hc
  subst hc
  obtain ⟨t, h1, h2⟩ := Option.bind_eq_some_iff.1 h
  have HC := Lib.hid (And.intro hT (And.intro hr1 (And.intro h1 h2)))
  clear h hT hr1 h1 h2
  go_enter Tryz.func8, Tryz.ntmps8
  go_wp2_with fail
  refine (impl_count.calls k _ _ l1 t w HC.out.2.1 hc1 HC.out.2.2.1).mono ?_
  rintro e w1 ⟨v, rfl, hR, hb⟩
  obtain ⟨Av, cv, rfl⟩ := Kd.R_slice hR
  have HR := Lib.hid (And.intro (Kd.R_reads' hR).2 hb)
  clear hR hb
  go_wp2_with fail
  refine (xansi_SelectGraphicRendition.calls k _ _ t r w1 (HC.out.1.below HR.out.2) HR.out.1.2 HR.out.1.1 HC.out.2.2.2).mono ?_
  rintro e w2 ⟨rfl, hb2⟩
  have HB := Lib.hid (HR.out.2.trans (hb2.mono HR.out.2.size))
  clear hb2
  go_wp2_with fail
  go_ret
  exact ⟨rfl, HB.out⟩
 ·exact absurd h (by simp)
end Go.Proofs.YteebhoehflgfoaaGreatDoor.Y
end
section
namespace Go.Proofs.YteebhoehflgfoaaGreatDoor.Y
open Go.RowKit Go.Proofs.YteebhoehflgfoaaGreatDoorW.PrintWords Go.Proofs.YteebhoehflgfoaaGreatDoorW.PrintLast Go.Proofs.YteebhoehflgfoaaGreatDoorW.PrintMore
attribute [local go_sem] max2_int min2_int max_two min_two max_three min_three max_four min_four
set_option linter.unusedVariables false
set_option linter.unusedSimpArgs false
/-! ### laws_drawMade: function 12 -/
def laws_drawMade.j0 : Nat → Bool → Int → Int → Int → ByteArray → List Int → Option (ByteArray)
 | 0, _, _, _, _, _, _ => none
 | k + 1, x12, x143000, x143001, x143002, x143003, x143004 => if x12 = true then ((impl_MakePair.f k (wrap64 (x143000 - 40)) x143001 x143002).bind fun t145 => (some t145)) else (if x143000 = 50 then (some (⟨#[27, 55]⟩ : ByteArray)) else (if x143000 = 51 then (some (⟨#[27, 56]⟩ : ByteArray)) else (if x143000 = 52 then ((impl_MakeList.f k 4 x143004).bind fun t146 => (some t146)) else (if x143000 = 61 then (some (strOfNums (([(x143001) % 256] : List Int)))) else (some x143003)))))
def laws_drawMade.f (k : Nat) (a0_0 : Int) (a0_1 : Int) (a0_2 : Int) (a0_3 : ByteArray) (l0_4 : List Int) : Option (ByteArray) := (spec_IsDrawNumber.f a0_0).bind fun t143 => (if t143 = true then ((impl_MakeNumber.f a0_0 a0_1).bind fun t144 => (some t144)) else (if a0_0 = 40 then (laws_drawMade.j0 k true a0_0 a0_1 a0_2 a0_3 l0_4) else (if a0_0 = 41 then (laws_drawMade.j0 k true a0_0 a0_1 a0_2 a0_3 l0_4) else (laws_drawMade.j0 k (a0_0 == 42) a0_0 a0_1 a0_2 a0_3 l0_4))))
theorem laws_drawMade.mono_l : ∀ k, (∀ y0 y1 y2 y3 y4 y5, LeO (laws_drawMade.j0 k y0 y1 y2 y3 y4 y5) (laws_drawMade.j0 (k + 1) y0 y1 y2 y3 y4 y5))
 | 0 => fun _ _ _ _ _ _ r h => by simp [laws_drawMade.j0] at h
 | k + 1 => by
  have ih0 := laws_drawMade.mono_l k
  ·intro y0 y1 y2 y3 y4 y5
   unfold laws_drawMade.j0
   repeat' first
   | (with_reducible exact ih0 _ _ _ _ _ _)
   | (with_reducible exact impl_MakeList.mono _ _ _)
   | (with_reducible exact impl_MakePair.mono _ _ _ _)
   | (with_reducible exact LeO.refl _)
   | (with_reducible exact LeO.none _)
   | (with_reducible refine LeO.ite ?_ ?_)
   | (with_reducible refine LeO.bind ?_ (fun _ => ?_))
   | exact ih0 _ _ _ _ _ _
   | exact impl_MakeList.mono _ _ _
   | exact impl_MakePair.mono _ _ _ _
   | exact LeO.none _
   | refine LeO.ite ?_ ?_
   | refine LeO.bind ?_ (fun _ => ?_)
theorem laws_drawMade.mono : ∀ a0 a1 a2 a3 a4 k, LeO (laws_drawMade.f k a0 a1 a2 a3 a4) (laws_drawMade.f (k + 1) a0 a1 a2 a3 a4) := by
 intro a0 a1 a2 a3 a4 k
 have ih0 := laws_drawMade.mono_l k
 unfold laws_drawMade.f
 repeat' first
   | (with_reducible exact ih0 _ _ _ _ _ _)
   | (with_reducible exact impl_MakeList.mono _ _ _)
   | (with_reducible exact impl_MakePair.mono _ _ _ _)
   | (with_reducible exact LeO.refl _)
   | (with_reducible exact LeO.none _)
   | (with_reducible refine LeO.ite ?_ ?_)
   | (with_reducible refine LeO.bind ?_ (fun _ => ?_))
   | exact ih0 _ _ _ _ _ _
   | exact impl_MakeList.mono _ _ _
   | exact impl_MakePair.mono _ _ _ _
   | exact LeO.none _
   | refine LeO.ite ?_ ?_
   | refine LeO.bind ?_ (fun _ => ?_)
/-! ### laws_drawText: function 15 -/
def laws_drawText.l0 : Nat → ByteArray → List (S38) → Int → Int → Option (List Int)
 | 0, _, _, _, _ => none
 | k + 1, x3, x6, x7, x8 => if x8 < x7 then (if 0 ≤ x8 then (if x8 < (x6.length : Int) then ((laws_drawMade.f k ((rd_T38 x6 x8).f0) ((rd_T38 x6 x8).f1) ((rd_T38 x6 x8).f2) ((rd_T38 x6 x8).f3) ((rd_T38 x6 x8).f4)).bind fun t323 => (if x3.size + t323.size ≤ 9223372036854775807 then (laws_drawText.l0 k (x3 ++ t323) x6 x7 (wrap64 (x8 + 1))) else (none))) else (none)) else (none)) else ((gosem_conv.f x3).bind fun t324 => (some t324))
def laws_drawText.f (k : Nat) (l0 : List (S38)) : Option (List Int) := laws_drawText.l0 k (⟨#[]⟩ : ByteArray) l0 (l0.length : Int) 0
end Go.Proofs.YteebhoehflgfoaaGreatDoor.Y
end
section
namespace Go.Proofs.YteebhoehflgfoaaGreatDoor.Y
open Go.RowKit Go.Proofs.YteebhoehflgfoaaGreatDoorW.PrintWords Go.Proofs.YteebhoehflgfoaaGreatDoorW.PrintLast Go.Proofs.YteebhoehflgfoaaGreatDoorW.PrintMore
set_option linter.unusedSimpArgs false
set_option linter.unusedVariables false
/-- One event, told by the last byte. -/
structure One (t : ByteArray) (e : X.Ev) : Prop where
 run : X.run .gr (X.nb t) = some (.gr, [e])
 cut : ∃ s, X.run .gr (X.nb t).dropLast = some (s, [])
 size : t.size ≤ 100
 pos : 1 ≤ t.size
 pars : e.params.length ≤ 10 ∧ e.data.length ≤ 10
def numOk (k n : Nat) : Bool :=
 match impl_MakeNumber.f k n with
 | some t =>
  (match X.run .gr (X.nb t) with
  | some (s, [e]) => decide (s = .gr) && decide (e.kind = 2) && decide (e.params.length ≤ 1) && decide (e.data = [])
  | _ => false) && (match X.run .gr (X.nb t).dropLast with | some (_, []) => true | _ => false) && decide (1 ≤ t.size) && decide (t.size ≤ 100)
 | _ => false
theorem nums_ok : ((List.range 23).all fun k => (k == 7 || k == 8) || (List.range 100).all fun n => numOk k n) = true := by kernel_rfl
theorem num_one (k n : Nat) (hk : k ≤ 22) (h7 : k ≠ 7) (h8 : k ≠ 8) (hn : n ≤ 99) : ∃ t e, impl_MakeNumber.f k n = some t ∧ One t e := by
 have h := List.all_eq_true.1 nums_ok k (List.mem_range.2 (by omega))
 have h2 : ((List.range 100).all fun n => numOk k n) = true := by
  rcases Bool.or_eq_true _ _ ▸ h with h | h
  ·simp only [Bool.or_eq_true, beq_iff_eq] at h
   omega
  ·exact h
 have h3 := List.all_eq_true.1 h2 n (List.mem_range.2 (by omega))
 unfold numOk at h3
 split at h3
 ·rename_i t ht
  simp only [Bool.and_eq_true, decide_eq_true_eq] at h3
  obtain ⟨⟨⟨h4, h5⟩, h6⟩, h9⟩ := h3
  split at h4
  ·rename_i s e hr
   simp only [Bool.and_eq_true, decide_eq_true_eq] at h4
   obtain ⟨⟨⟨g1, g2⟩, g3⟩, g4⟩ := h4
   subst g1
   split at h5
   ·rename_i s2 hr2
    exact ⟨t, e, ht, hr, ⟨s2, hr2⟩, h9, h6, by omega, by rw [g4]; simp⟩
   ·cases h5
  ·cases h4
 ·cases h3
theorem csi_pair (f a b : Nat) (hf : 64 ≤ f ∧ f ≤ 126) (ha : a ≤ 9999) (hb : b ≤ 9999) :
  X.run .gr ([27, 91] ++ X.digs a ++ [59] ++ X.digs b) = some (.csi 3 0 [(a : Int)] (b : Int), []) ∧ X.run .gr ([27, 91] ++ X.digs a ++ [59] ++ X.digs b ++ [f]) = some (.gr, [X.evCsi (f : Int) [(a : Int), (b : Int)]]) := by
 have h1 : X.run .gr [27, 91] = some (.csi 1 0 [] X.Miss, []) := rfl
 have h2 := X.run_of h1 (X.run_digs 1 (by decide) 0 [] a (by omega))
 have h3 : X.run (.csi 3 0 [] (a : Int)) [59] = some (.csi 3 0 [(a : Int)] X.Miss, []) := by simp [X.run, X.step]
 have h4 := X.run_of h2 h3
 have h5 := X.run_of h4 (X.run_digs 3 (by decide) 0 [(a : Int)] b (by omega))
 have h6 : X.run (.csi 3 0 [(a : Int)] (b : Int)) [f] = some (.gr, [X.evCsi (f : Int) [(a : Int), (b : Int)]]) := by
  simp [X.run, X.step, hf, X.closed]
 exact ⟨by simpa using h5, by simpa using X.run_of h5 h6⟩
theorem pair_one (f a b : Nat) (hf : 64 ≤ f ∧ f ≤ 126) (ha : a ≤ 9999) (hb : b ≤ 9999) {t1 t2 t : ByteArray} (h1 : X.nb t1 = X.digs a) (h2 : X.nb t2 = X.digs b) (s1 : t1.size ≤ 4) (s2 : t2.size ≤ 4)
  (ht : t = (((((⟨#[27, 91]⟩ : ByteArray) ++ t1) ++ (⟨#[59]⟩ : ByteArray)) ++ t2) ++ (⟨#[UInt8.ofNat f]⟩ : ByteArray))) : One t (X.evCsi (f : Int) [(a : Int), (b : Int)]) := by
 obtain ⟨r1, r2⟩ := csi_pair f a b hf ha hb
 have en : X.nb t = [27, 91] ++ X.digs a ++ [59] ++ X.digs b ++ [f] := by
  rw [ht]
  simp only [X.nb_append, h1, h2]
  have e1 : X.nb ⟨#[27, 91]⟩ = [27, 91] := rfl
  have e2 : X.nb ⟨#[59]⟩ = [59] := rfl
  have e3 : X.nb ⟨#[UInt8.ofNat f]⟩ = [f] := by
   show [(UInt8.ofNat f).toNat] = [f]
   simp
   omega
  rw [e1, e2, e3]
 have hz : t.size = 2 + t1.size + 1 + t2.size + 1 := by
  rw [ht]
  simp only [ByteArray.size_append]
  rfl
 refine ⟨by rw [en]; exact r2, ⟨_, by rw [en, List.dropLast_concat]; exact r1⟩, by omega, by omega, by simp [X.evCsi]⟩
theorem itoa_small (n : Nat) (h : n ≤ 9999) : ∃ t, strconv_Itoa.f (n : Int) = some t ∧ X.nb t = X.digs n ∧ t.size ≤ 4 := by
 obtain ⟨t, h1, h2, h3⟩ := X.itoa_text n (by omega)
 exact ⟨t, h1, h2, by rw [h3]; exact X.digs_pow 3 n (by omega)⟩
theorem place_one (a b : Nat) (ha : 1 ≤ a ∧ a ≤ 99) (hb : 1 ≤ b ∧ b ≤ 99) (k : Nat) (hk : 1 ≤ k) : ∃ t e, xansi_CursorPosition.f k (a : Int) (b : Int) = some t ∧ One t e ∧ (e = X.evCsi 72 [(b : Int), (a : Int)] ∨ (e = X.evCsi 72 [] ∧ a = 1 ∧ b = 1)) := by
 obtain ⟨k, rfl⟩ : ∃ k', k = k' + 1 := ⟨k - 1, by omega⟩
 obtain ⟨t1, p1, p2, p3⟩ := itoa_small b (by omega)
 obtain ⟨t2, q1, q2, q3⟩ := itoa_small a (by omega)
 have main : xansi_CursorPosition.j0 (k + 1) (a : Int) (b : Int) false = some (((((⟨#[27, 91]⟩ : ByteArray) ++ t1) ++ (⟨#[59]⟩ : ByteArray)) ++ t2) ++ (⟨#[72]⟩ : ByteArray)) := by
  rw [xansi_CursorPosition.j0, if_neg (by simp), if_pos (by omega), p1, Option.bind_some, if_pos (by omega), q1, Option.bind_some, if_pos (by omega), if_pos (by omega), if_pos (by omega), if_pos (by omega)]
 have one := pair_one 72 b a (by omega) (by omega) (by omega) p2 q2 p3 q3 rfl
 unfold xansi_CursorPosition.f
 by_cases c1 : (b : Int) ≤ 1
 ·rw [if_pos c1]
  by_cases c2 : (a : Int) ≤ 1
  ·rw [decide_eq_true c2, xansi_CursorPosition.j0, if_pos rfl]
   exact ⟨_, X.evCsi 72 [], rfl, ⟨rfl, ⟨_, rfl⟩, by decide, by decide, by decide⟩, Or.inr ⟨rfl, by omega, by omega⟩⟩
  ·rw [decide_eq_false c2, main]
   exact ⟨_, _, rfl, one, Or.inl rfl⟩
 ·rw [if_neg c1, main]
  exact ⟨_, _, rfl, one, Or.inl rfl⟩
theorem hv_one (a b : Nat) (ha : 1 ≤ a ∧ a ≤ 99) (hb : 1 ≤ b ∧ b ≤ 99) : ∃ t, xansi_HorizontalVerticalPosition.f (a : Int) (b : Int) = some t ∧ One t (X.evCsi 102 [(b : Int), (a : Int)]) := by
 obtain ⟨t1, p1, p2, p3⟩ := itoa_small b (by omega)
 obtain ⟨t2, q1, q2, q3⟩ := itoa_small a (by omega)
 unfold xansi_HorizontalVerticalPosition.f
 rw [if_pos (by omega), p1, Option.bind_some, if_pos (by omega), q1, Option.bind_some, if_pos (by omega), if_pos (by omega), if_pos (by omega), if_pos (by omega)]
 exact ⟨_, rfl, pair_one 102 b a (by omega) (by omega) (by omega) p2 q2 p3 q3 rfl⟩
theorem margins_one (a b : Nat) (ha : 1 ≤ a ∧ a ≤ 99) (hb : 1 ≤ b ∧ b ≤ 99) : ∃ t, xansi_SetTopBottomMargins.f (a : Int) (b : Int) = some t ∧ One t (X.evCsi 114 [(a : Int), (b : Int)]) := by
 obtain ⟨t1, p1, p2, p3⟩ := itoa_small a (by omega)
 obtain ⟨t2, q1, q2, q3⟩ := itoa_small b (by omega)
 unfold xansi_SetTopBottomMargins.f
 rw [if_pos (by omega), p1, Option.bind_some, if_pos (by omega), q1, Option.bind_some, if_pos (by omega), if_pos (by omega), if_pos (by omega), if_pos (by omega)]
 exact ⟨_, rfl, pair_one 114 a b (by omega) (by omega) (by omega) p2 q2 p3 q3 rfl⟩
/-- An attribute's text. -/
def attrOkB (n : Nat) : Bool := match xansi_attrStrings.f n with
 | some (t, true) => decide (X.nb t = X.digs n) && decide (t.size ≤ 2)
 | _ => false
theorem attrs_ok : ((List.range 30).all fun n => (decide (9 < n ∧ n < 22) || n == 26) || attrOkB n) = true := by kernel_rfl
theorem attr_text (n : Nat) (h : AttrOk (n : Int)) : ∃ t, xansi_attrStrings.f n = some (t, true) ∧ X.nb t = X.digs n ∧ t.size ≤ 2 := by
 obtain ⟨h0, h1, h2, h3⟩ := h
 have g := List.all_eq_true.1 attrs_ok n (List.mem_range.2 (by omega))
 have g2 : attrOkB n = true := by
  rcases Bool.or_eq_true _ _ ▸ g with g | g
  ·simp only [Bool.or_eq_true, decide_eq_true_eq, beq_iff_eq] at g
   omega
  ·exact g
 unfold attrOkB at g2
 split at g2
 ·rename_i t ht
  simp only [Bool.and_eq_true, decide_eq_true_eq] at g2
  exact ⟨t, ht, g2.1, g2.2⟩
 ·cases g2
/-- Texts of attributes. -/
def Texts (l : List Int) (ts : List ByteArray) : Prop := ts.length = l.length ∧ ∀ i (h : i < ts.length) (h2 : i < l.length), X.nb ts[i] = X.digs l[i].toNat ∧ ts[i].size ≤ 2
theorem newStyle_l0 (l : List Int) (hl : l.length ≤ 1000) (ho : ∀ n ∈ l, AttrOk n) : ∀ (m i k : Nat) (ts : List ByteArray), i + m = l.length → m < k → Texts (l.take i) ts →
  ∃ us, xansi_NewStyle.l0 k ts l (l.length : Int) (i : Int) = some us ∧ Texts l us
 | 0, i, k + 1, ts, h, hk, ht => by
  rw [List.take_of_length_le (by omega)] at ht
  rw [xansi_NewStyle.l0, if_neg (by omega)]
  exact ⟨ts, rfl, ht⟩
 | m + 1, i, k + 1, ts, h, hk, ht => by
  have hi : i < l.length := by omega
  have hok := ho _ (List.getElem_mem hi)
  obtain ⟨t, h1, h2, h3⟩ := attr_text l[i].toNat (by rw [Int.toNat_of_nonneg hok.1]; exact hok)
  rw [Int.toNat_of_nonneg hok.1] at h1
  have hlt : ts.length = i := by have := ht.1; rw [List.length_take] at this; omega
  rw [xansi_NewStyle.l0, if_pos (by omega), if_pos (by omega), if_pos (by omega), rdI_at l i hi, h1, Option.bind_some]
  simp only [if_pos]
  rw [if_pos (by omega), wrap_up i (by omega)]
  refine newStyle_l0 l hl ho m (i + 1) k (ts ++ [t]) (by omega) (by omega) ⟨by simp [hlt]; omega, fun j hj hj2 => ?_⟩
  by_cases hji : j < i
  ·rw [List.getElem_append_left (by omega), List.getElem_take]
   have := ht.2 j (by omega) (by rw [List.length_take]; omega)
   rwa [List.getElem_take] at this
  ·have hj3 : j = i := by simp at hj; omega
   subst hj3
   rw [List.getElem_append_right (by omega), List.getElem_take]
   simp only [hlt, Nat.sub_self, List.getElem_cons_zero]
   exact ⟨h2, h3⟩
/-- What runs over attributes joined by semicolons. -/
def pars (l : List Int) : List Int := l.dropLast
theorem join_l0 (l : List Int) (us : List ByteArray) (hu : Texts l us) (hl : l.length ≤ 28) (ho : ∀ n ∈ l, AttrOk n) : ∀ (m i k : Nat) (x : ByteArray), i + m = l.length → m < k → x.size ≤ 3 * i →
  X.run (.csi 1 0 [] X.Miss) (X.nb x) = (if i = 0 then some (.csi 1 0 [] X.Miss, []) else some (.csi 3 0 (l.take (i - 1)) (l.getD (i - 1) 0), [])) →
  ∃ y, xansi_zzJoin.l0 k (⟨#[59]⟩ : ByteArray) x us (us.length : Int) (i : Int) = some y ∧ y.size ≤ 3 * l.length ∧
   X.run (.csi 1 0 [] X.Miss) (X.nb y) = (if l.length = 0 then some (.csi 1 0 [] X.Miss, []) else some (.csi 3 0 (l.take (l.length - 1)) (l.getD (l.length - 1) 0), []))
 | 0, i, k + 1, x, h, hk, hs, hr => by
  have hul := hu.1
  rw [xansi_zzJoin.l0, if_neg (by omega)]
  obtain rfl : i = l.length := by omega
  exact ⟨x, rfl, hs, hr⟩
 | m + 1, i, k + 1, x, h, hk, hs, hr => by
  have hul := hu.1
  have hi : i < l.length := by omega
  have hiu : i < us.length := by omega
  have hok := ho _ (List.getElem_mem hi)
  obtain ⟨u1, u2⟩ := hu.2 i hiu hi
  have hd : rdOf ByteArray.empty us (i : Int) = us[i] := by simp [rdOf, hiu]
  have hz : (⟨#[59]⟩ : ByteArray).size = 1 := rfl
  have hn : l[i].toNat ≤ 29 := by have := hok.2.1; omega
  have hti : ((l[i].toNat : Nat) : Int) = l[i] := Int.toNat_of_nonneg hok.1
  rw [xansi_zzJoin.l0, if_pos (by omega), if_pos (by omega), if_pos (by omega), hd]
  have next : ∀ z : ByteArray, z.size ≤ 3 * (i + 1) → X.run (.csi 1 0 [] X.Miss) (X.nb z) = some (.csi 3 0 (l.take i) l[i], []) →
    ∃ y, xansi_zzJoin.l0 k (⟨#[59]⟩ : ByteArray) z us (us.length : Int) ((i + 1 : Nat) : Int) = some y ∧ y.size ≤ 3 * l.length ∧
     X.run (.csi 1 0 [] X.Miss) (X.nb y) = (if l.length = 0 then some (.csi 1 0 [] X.Miss, []) else some (.csi 3 0 (l.take (l.length - 1)) (l.getD (l.length - 1) 0), [])) := fun z hz2 hrz => by
   refine join_l0 l us hu hl ho m (i + 1) k z (by omega) (by omega) hz2 ?_
   rw [if_neg (by omega), hrz]
   simp [hi]
  by_cases c0 : (i : Int) > 0
  ·rw [if_pos c0, hz, if_pos (by omega), if_pos (by omega), wrap_up i (by omega)]
   refine next _ (by simp only [ByteArray.size_append, hz]; omega) ?_
   rw [if_neg (by omega)] at hr
   have e59 : X.nb ⟨#[59]⟩ = [59] := rfl
   have hlast : l.getD (i - 1) 0 = l[i - 1]'(by omega) := by simp [show i - 1 < l.length by omega]
   have hok1 := ho _ (List.getElem_mem (show i - 1 < l.length by omega))
   have h3 : X.run (.csi 3 0 (l.take (i - 1)) (l.getD (i - 1) 0)) [59] = some (.csi 3 0 (l.take i) X.Miss, []) := by
    have ht : l.take i = l.take (i - 1) ++ [l[i - 1]'(by omega)] := by
     have := List.take_succ_eq_append_getElem (l := l) (i := i - 1) (by omega)
     rwa [show i - 1 + 1 = i by omega] at this
    have hpl : (l.take (i - 1)).length < 29 := by rw [List.length_take]; omega
    rw [hlast, ht]
    generalize l.take (i - 1) = p at hpl
    simp [X.run, X.step, hpl]
   have h4 := X.run_of (X.run_of hr h3) (X.run_digs 3 (by decide) 0 (l.take i) l[i].toNat (by omega))
   rw [hti] at h4
   simp only [X.nb_append, u1, e59]
   simpa using h4
  ·rw [if_neg c0, if_pos (by omega), wrap_up i (by omega)]
   obtain rfl : i = 0 := by omega
   refine next _ (by simp only [ByteArray.size_append]; omega) ?_
   rw [if_pos rfl] at hr
   have h4 := X.run_of hr (X.run_digs 1 (by decide) 0 [] l[0].toNat (by omega))
   rw [hti] at h4
   simp only [X.nb_append, u1]
   simpa using h4
theorem count_l0 (l : List Int) (hl : l.length ≤ 1000) : ∀ (m i k : Nat), i + m = l.length → m < k → impl_count.l0 k (l.take i) l (l.length : Int) (i : Int) = some l
 | 0, i, k + 1, h, hk => by
  rw [impl_count.l0, if_neg (by omega), List.take_of_length_le (by omega)]
 | m + 1, i, k + 1, h, hk => by
  have hi : i < l.length := by omega
  rw [impl_count.l0, if_pos (by omega), if_pos (by omega), if_pos (by omega), if_pos (by rw [List.length_take]; omega), rdI_at l i hi, wrap_up i (by omega), ← List.take_succ_eq_append_getElem hi]
  exact count_l0 l hl m (i + 1) k (by omega) (by omega)
theorem style_one (l : List Int) (hl : Attrs l) (k : Nat) (hk : 100 ≤ k) : ∃ t, impl_MakeList.f k 4 l = some t ∧ One t (X.evCsi 109 l) := by
 obtain ⟨ho, h1, h6⟩ := hl
 have hc : impl_count.f k l = some l := count_l0 l (by omega) l.length 0 k (by omega) (by omega)
 obtain ⟨us, hu1, hu2⟩ := newStyle_l0 l (by omega) ho l.length 0 k [] (by omega) (by omega) ⟨by simp, fun i h => by simp at h⟩
 obtain ⟨y, hy1, hy2, hy3⟩ := join_l0 l us hu2 (by omega) ho l.length 0 k ⟨#[]⟩ (by omega) (by omega) (by decide) (by rw [if_pos rfl]; rfl)
 rw [if_neg (by omega)] at hy3
 have hul := hu2.1
 replace hy1 : xansi_zzJoin.l0 k (⟨#[59]⟩ : ByteArray) ⟨#[]⟩ us (us.length : Int) 0 = some y := hy1
 have hns : xansi_NewStyle.f k l = some us := by
  unfold xansi_NewStyle.f
  rw [if_neg (by omega), if_pos (by omega), if_pos (by omega)]
  exact hu1
 have hst : xansi_Style_String.f k us = some (((⟨#[27, 91]⟩ : ByteArray) ++ y) ++ (⟨#[109]⟩ : ByteArray)) := by
  unfold xansi_Style_String.f xansi_zzJoin.f
  rw [if_neg (by omega), hy1, Option.bind_some, if_pos (by omega), if_pos (by omega)]
 refine ⟨((⟨#[27, 91]⟩ : ByteArray) ++ y) ++ (⟨#[109]⟩ : ByteArray), ?_, ?_⟩
 ·unfold impl_MakeList.f xansi_SelectGraphicRendition.f
  rw [if_pos rfl, hc, Option.bind_some, if_neg (by omega), hns, Option.bind_some, hst, Option.bind_some]
 ·have e1 : X.nb ⟨#[27, 91]⟩ = [27, 91] := rfl
  have e2 : X.nb ⟨#[109]⟩ = [109] := rfl
  have en : X.nb (((⟨#[27, 91]⟩ : ByteArray) ++ y) ++ (⟨#[109]⟩ : ByteArray)) = [27, 91] ++ X.nb y ++ [109] := by
   simp only [X.nb_append, e1, e2]
  have g1 : X.run .gr [27, 91] = some (.csi 1 0 [] X.Miss, []) := rfl
  have g2 := X.run_of g1 hy3
  have hlast : l.getD (l.length - 1) 0 = l[l.length - 1]'(by omega) := by simp [show l.length - 1 < l.length by omega]
  have hcl : X.closed (l.take (l.length - 1)) (l.getD (l.length - 1) 0) = l := by
   have hne : ¬ (l.getD (l.length - 1) 0 = X.Miss) := by
    have := (ho _ (List.getElem_mem (show l.length - 1 < l.length by omega))).2.1
    rw [hlast]; unfold X.Miss; omega
   unfold X.closed
   rw [if_neg (fun h => hne h.2), hlast]
   have := List.take_succ_eq_append_getElem (l := l) (i := l.length - 1) (by omega)
   rw [← this, List.take_of_length_le (by omega)]
  have g3 : X.run (.csi 3 0 (l.take (l.length - 1)) (l.getD (l.length - 1) 0)) [109] = some (.gr, [X.evCsi 109 l]) := by
   simp only [X.run, X.step]
   rw [if_pos (by omega), hcl]
   simp
  have hz : (((⟨#[27, 91]⟩ : ByteArray) ++ y) ++ (⟨#[109]⟩ : ByteArray)).size = 2 + y.size + 1 := by
   simp only [ByteArray.size_append]
   rfl
  refine ⟨by rw [en]; simpa using X.run_of g2 g3, ⟨_, by rw [en, List.dropLast_concat]; exact g2⟩, by omega, by omega, by simp [X.evCsi]; omega⟩
/-- A text's characters. -/
def charEvs (s : ByteArray) : List X.Ev := s.data.toList.map fun b => X.evPrint b.toNat
theorem text_run (l : List UInt8) (h : ∀ b ∈ l, PByte b) : X.run .gr (l.map UInt8.toNat) = some (.gr, l.map fun b => X.evPrint b.toNat) := by
 induction l with
 | nil => rfl
 | cons b r ih =>
  obtain ⟨h0, h1⟩ := h b (by simp)
  have hs : X.step .gr b.toNat = some (.gr, [X.evPrint b.toNat]) := by
   simp only [X.step]
   rw [if_neg (by omega), if_pos (by omega)]
  rw [List.map_cons, X.run, hs, Option.bind_some, ih (fun c hc => h c (List.mem_cons_of_mem _ hc))]
  simp
/-- What is made of a right operation: one event, or a text's characters. -/
def MadeAs (o : Op) (t : ByteArray) (evs : List X.Ev) : Prop := (o.f0 = 60 ∧ t = o.f3 ∧ evs = charEvs o.f3 ∧ PText o.f3) ∨ (o.f0 ≠ 60 ∧ ∃ e, evs = [e] ∧ One t e)
theorem pair_made (k : Nat) (o : Op) (h : o.f0 = 40 ∨ o.f0 = 41 ∨ o.f0 = 42) : laws_drawMade.f (k + 1) o.f0 o.f1 o.f2 o.f3 o.f4 = impl_MakePair.f k (o.f0 - 40) o.f1 o.f2 := by
 unfold laws_drawMade.f
 obtain ⟨b, hb, hn⟩ := isNum_f o.f0
 rw [hb, Option.bind_some, if_neg (fun h' => by have := hn.1 h'; unfold NumK at this; omega)]
 have fin : laws_drawMade.j0 (k + 1) true o.f0 o.f1 o.f2 o.f3 o.f4 = impl_MakePair.f k (o.f0 - 40) o.f1 o.f2 := by
  rw [laws_drawMade.j0, if_pos rfl, wrap64_of _ (by omega) (by omega)]
  cases impl_MakePair.f k (o.f0 - 40) o.f1 o.f2 <;> rfl
 rcases h with h | h | h
 ·rw [if_pos h, fin]
 ·rw [if_neg (by omega), if_pos h, fin]
 ·rw [if_neg (by omega), if_neg (by omega), show (o.f0 == 42) = true by simpa using h, fin]
theorem other_made (k : Nat) (o : Op) (h : ¬ NumK o.f0) (h2 : o.f0 ≠ 40 ∧ o.f0 ≠ 41 ∧ o.f0 ≠ 42) : laws_drawMade.f k o.f0 o.f1 o.f2 o.f3 o.f4 = laws_drawMade.j0 k false o.f0 o.f1 o.f2 o.f3 o.f4 := by
 unfold laws_drawMade.f
 obtain ⟨b, hb, hn⟩ := isNum_f o.f0
 rw [hb, Option.bind_some, if_neg (fun h' => h (hn.1 h')), if_neg h2.1, if_neg h2.2.1, show (o.f0 == 42) = false by simpa using h2.2.2]
theorem made (o : Op) (ho : Right o) (k : Nat) (hk : 200 ≤ k) : ∃ t evs, laws_drawMade.f k o.f0 o.f1 o.f2 o.f3 o.f4 = some t ∧ MadeAs o t evs := by
 obtain ⟨k, rfl⟩ : ∃ k', k = k' + 1 := ⟨k - 1, by omega⟩
 rcases ho with ⟨h1, h2, h3, h4⟩ | ⟨h1, h2, h3, h4, h5, h6⟩ | ⟨h1, h2, h3, h4, h5⟩ | ⟨h1, h2, h3, h4⟩ | ⟨h1, h2, h3, h4, h5⟩ | ⟨h1, h2, h3, h4, h5⟩ | ⟨h1, h2, h3, h4⟩
 ·have hb : 0 ≤ o.f1 ∧ o.f1 ≤ 99 := by split at h4 <;> omega
  unfold NumK at h1
  obtain ⟨t, e, p1, p2⟩ := num_one o.f0.toNat o.f1.toNat (by omega) (by omega) (by omega) (by omega)
  rw [Int.toNat_of_nonneg h1.1, Int.toNat_of_nonneg hb.1] at p1
  refine ⟨t, [e], ?_, Or.inr ⟨by omega, e, rfl, p2⟩⟩
  unfold laws_drawMade.f
  obtain ⟨b, hb, hn⟩ := isNum_f o.f0
  rw [hb, Option.bind_some, if_pos (hn.2 h1), p1, Option.bind_some]
 ·rw [pair_made k o (by omega)]
  have ea : ((o.f1.toNat : Nat) : Int) = o.f1 := Int.toNat_of_nonneg (by omega)
  have eb : ((o.f2.toNat : Nat) : Int) = o.f2 := Int.toNat_of_nonneg (by omega)
  unfold impl_MakePair.f
  rcases h1 with h1 | h1
  ·obtain ⟨t, e, p1, p2, _⟩ := place_one o.f1.toNat o.f2.toNat (by omega) (by omega) k (by omega)
   rw [ea, eb] at p1
   rw [if_pos (by omega), p1, Option.bind_some]
   exact ⟨t, [e], rfl, Or.inr ⟨by omega, e, rfl, p2⟩⟩
  ·obtain ⟨t, p1, p2⟩ := hv_one o.f1.toNat o.f2.toNat (by omega) (by omega)
   rw [ea, eb] at p1
   rw [if_neg (by omega), if_pos (by omega), p1, Option.bind_some]
   exact ⟨t, _, rfl, Or.inr ⟨by omega, _, rfl, p2⟩⟩
 ·rw [pair_made k o (by omega)]
  have ea : ((o.f1.toNat : Nat) : Int) = o.f1 := Int.toNat_of_nonneg (by omega)
  have eb : ((o.f2.toNat : Nat) : Int) = o.f2 := Int.toNat_of_nonneg (by omega)
  unfold impl_MakePair.f
  obtain ⟨t, p1, p2⟩ := margins_one o.f1.toNat o.f2.toNat (by omega) (by omega)
  rw [ea, eb] at p1
  rw [if_neg (by omega), if_neg (by omega), if_pos (by omega), p1, Option.bind_some]
  exact ⟨t, _, rfl, Or.inr ⟨by omega, _, rfl, p2⟩⟩
 ·rw [other_made _ o (by unfold NumK; omega) (by omega), laws_drawMade.j0, if_neg (by simp)]
  rcases h1 with h1 | h1
  ·rw [if_pos h1]
   exact ⟨_, [X.evEsc 55], rfl, Or.inr ⟨by omega, _, rfl, ⟨rfl, ⟨_, rfl⟩, by decide, by decide, by decide⟩⟩⟩
  ·rw [if_neg (by omega), if_pos h1]
   exact ⟨_, [X.evEsc 56], rfl, Or.inr ⟨by omega, _, rfl, ⟨rfl, ⟨_, rfl⟩, by decide, by decide, by decide⟩⟩⟩
 ·rw [other_made _ o (by unfold NumK; omega) (by omega), laws_drawMade.j0, if_neg (by simp), if_neg (by omega), if_neg (by omega), if_pos h1]
  obtain ⟨t, p1, p2⟩ := style_one o.f4 h5 k (by omega)
  rw [p1, Option.bind_some]
  exact ⟨t, _, rfl, Or.inr ⟨by omega, _, rfl, p2⟩⟩
 ·rw [other_made _ o (by unfold NumK; omega) (by omega), laws_drawMade.j0, if_neg (by simp), if_neg (by omega), if_neg (by omega), if_neg (by omega), if_neg (by omega)]
  exact ⟨o.f3, charEvs o.f3, rfl, Or.inl ⟨h1, rfl, rfl, h5⟩⟩
 ·rw [other_made _ o (by unfold NumK; omega) (by omega), laws_drawMade.j0, if_neg (by simp), if_neg (by omega), if_neg (by omega), if_neg (by omega), if_pos h1]
  rcases h4 with h4 | h4 | h4 | h4 <;> rw [h4]
  ·exact ⟨_, [X.evExec 13], rfl, Or.inr ⟨by omega, _, rfl, ⟨rfl, ⟨_, rfl⟩, by decide, by decide, by decide⟩⟩⟩
  ·exact ⟨_, [X.evExec 10], rfl, Or.inr ⟨by omega, _, rfl, ⟨rfl, ⟨_, rfl⟩, by decide, by decide, by decide⟩⟩⟩
  ·exact ⟨_, [X.evExec 8], rfl, Or.inr ⟨by omega, _, rfl, ⟨rfl, ⟨_, rfl⟩, by decide, by decide, by decide⟩⟩⟩
  ·exact ⟨_, [X.evExec 9], rfl, Or.inr ⟨by omega, _, rfl, ⟨rfl, ⟨_, rfl⟩, by decide, by decide, by decide⟩⟩⟩
end Go.Proofs.YteebhoehflgfoaaGreatDoor.Y
end
section
namespace Go.Proofs.YteebhoehflgfoaaGreatDoor.X
open Go.RowKit Go.Proofs.YteebhoehflgfoaaGreatDoorW.PrintWords
theorem len1 {cs : List Value} (h : cs.length = 1) : ∃ a, cs = [a] := by
 match cs, h with
 | [a], _ => exact ⟨a, rfl⟩
theorem len5 {cs : List Value} (h : cs.length = 5) : ∃ a b c d e, cs = [a, b, c, d, e] := by
 match cs, h with
 | [a, b, c, d, e], _ => exact ⟨a, b, c, d, e, rfl⟩
theorem list_of {α : Type} (P : Nat → α → Prop) : ∀ n, (∀ i, i < n → ∃ u, P i u) → ∃ l : List α, l.length = n ∧ ∀ i u, l[i]? = some u → P i u
 | 0, _ => ⟨[], rfl, fun i u h => by simp at h⟩
 | n + 1, h => by
  obtain ⟨l, hl, hP⟩ := list_of P n (fun i hi => h i (by omega))
  obtain ⟨u, hu⟩ := h n (by omega)
  refine ⟨l ++ [u], by simp [hl], fun i v hv => ?_⟩
  by_cases hi : i < l.length
  ·rw [List.getElem?_append_left hi] at hv
   exact hP i v hv
  ·rw [List.getElem?_append_right (by omega)] at hv
   have h0 : i - l.length = 0 := by
    have := (List.getElem?_eq_some_iff.1 hv).1
    simp at this
    omega
   rw [h0] at hv
   have : u = v := by simpa using hv
   subst this
   rwa [show i = n by omega]
theorem add_add (a : Addr) (m n : Nat) : (a.add m).add n = a.add (m + n) := by
 unfold Addr.add
 by_cases hm : m = 0
 ·subst hm; simp
 ·by_cases hn : n = 0
  ·subst hn; simp [hm]
  ·simp [hm, hn, Nat.add_assoc]
section
variable {H : Type} {enc : TypeId × Value → H} {W : World}
/-- What reads at type t holds an element of kind d, of which Q is known. -/
def Opens (enc : TypeId × Value → H) (W : World) (t : TypeId) {α : Type} (d : Kd α) (Q : α → Prop) : Prop :=
 ∀ fuel cs x, DataW.trod enc Tryz.prog W 0 (fun _ => true) true fuel t cs = some x → ∃ a, d.K W a cs ∧ Q a
theorem opens_int {t : TypeId} {k : IntKind} (ht : Tryz.prog.underlying t = some (.int k)) : Opens enc W t (Kd.int k) (fun n => (Lit.int k n).wf = true) := fun fuel cs x h => by
 obtain ⟨n, rfl, _, hw⟩ := DataW.trod_int ht h
 exact ⟨n, rfl, hw⟩
theorem opens_string {t : TypeId} (ht : Tryz.prog.underlying t = some .string) : Opens enc W t Kd.string (fun s => s.size ≤ maxLen) := fun fuel cs x h => by
 obtain ⟨n, rfl, _, hw⟩ := DataW.trod_string ht h
 exact ⟨n, rfl, hw⟩
theorem opens_slice {t e : TypeId} {α : Type} {d : Kd α} {Q : α → Prop} (ht : Tryz.prog.underlying t = some (.slice e)) (hc : Tryz.prog.cellsOf e = d.sz) (he : Opens enc W e d Q) :
  Opens enc W t (Kd.slice e d) (fun l => l.length ≤ maxLen ∧ ∀ a ∈ l, Q a) := fun fuel cs x h => by
 rcases DataW.trod_slice ht h with ⟨rfl, _⟩ | ⟨a, len, cap, elems, rest, n, _, rfl, _, _, hlc, hcm, hlen, hel, _⟩
 ·exact ⟨[], ⟨none, 0, rfl, Nat.le_refl _, rfl, by simp, fun h => absurd h (by simp)⟩, by simp, by simp⟩
 ·have each : ∀ i, i < len → ∃ c u, W.cells? 0 (a.add (i * d.sz)) d.sz = some c ∧ d.K W u c ∧ Q u := fun i hi => by
   have h1 := hel i hi
   rw [hc, List.getElem?_eq_getElem (by omega)] at h1
   obtain ⟨c, h2, h3⟩ := Option.bind_eq_some_iff.1 h1
   obtain ⟨u, hu, hq⟩ := he _ _ _ h3
   exact ⟨c, u, h2, hu, hq⟩
  obtain ⟨l, hl, hP⟩ := list_of (fun i u => ∃ c, W.cells? 0 (a.add (i * d.sz)) d.sz = some c ∧ d.K W u c ∧ Q u) len (fun i hi => by obtain ⟨c, u, h1, h2, h3⟩ := each i hi; exact ⟨u, c, h1, h2, h3⟩)
  refine ⟨l, ⟨some a, cap, by rw [hl], by omega, rfl, by unfold maxLen at hcm; omega, fun _ => ⟨a, rfl, fun j u hj => ?_⟩⟩, by omega, fun u hu => ?_⟩
  ·obtain ⟨c, h1, h2, _⟩ := hP j u hj
   obtain ⟨_, hcl, hcell⟩ := World.cells?_some h1
   refine ⟨c, hcl, h2, fun i v hv => ?_⟩
   have hi : i < d.sz := by
    have := (List.getElem?_eq_some_iff.1 hv).1
    omega
   have := hcell i hi
   rw [hv] at this
   rw [← this, add_add]
  ·obtain ⟨j, hj, rfl⟩ := List.mem_iff_getElem.1 hu
   obtain ⟨c, _, _, h3⟩ := hP j l[j] (List.getElem?_eq_getElem hj)
   exact h3
end
end Go.Proofs.YteebhoehflgfoaaGreatDoor.X
end
section
namespace Go.Proofs.YteebhoehflgfoaaGreatDoor.Y
open Go.RowKit Go.Proofs.YteebhoehflgfoaaGreatDoorW.PrintWords Go.Proofs.YteebhoehflgfoaaGreatDoorW.PrintLast Go.Proofs.YteebhoehflgfoaaGreatDoorW.PrintMore
set_option linter.unusedSimpArgs false
set_option linter.unusedVariables false
abbrev ints (l : List Nat) : List Int := l.map fun (n : Nat) => (n : Int)
theorem bytesOf_ints (s : ByteArray) : bytesOf s = ints (X.nb s) := by simp [bytesOf, X.nb, Function.comp_def]
theorem feed_l (l : List Nat) (hl : l.length ≤ 100000000000) {st : X.PS} {evs : List X.Ev} (hr : X.run .gr l = some (st, evs)) : impl_Feed.f 32 4096 (ints l) = some (evs.map X.toS) := by
 have hp : ∀ x ∈ ints l, 0 ≤ x := fun x hx => by
  obtain ⟨b, _, rfl⟩ := List.mem_map.1 hx
  omega
 have hm : (ints l).map Int.toNat = l := by simp [ints, Function.comp_def]
 unfold impl_Feed.f
 rw [if_pos ⟨rfl, rfl, by simpa [ints] using hl, hp⟩, hm, hr]
 rfl
def EvFit (e : X.Ev) : Prop := e.params.length < 1000000 ∧ e.data.length < 1000000
/-- A plan's operations, each with its text and its events. -/
def Made (l : List Op) (ps : List (ByteArray × List X.Ev)) : Prop :=
 ps.length = l.length ∧ ∀ i p (h : i < l.length), ps[i]? = some p → (∀ k, 200 ≤ k → laws_drawMade.f k l[i].f0 l[i].f1 l[i].f2 l[i].f3 l[i].f4 = some p.1) ∧ MadeAs l[i] p.1 p.2
theorem plan_made (l : List Op) (h : RightPlan l) : ∃ ps, Made l ps := by
 obtain ⟨ps, h1, h2⟩ := X.list_of (fun i (p : ByteArray × List X.Ev) => ∀ h : i < l.length, (∀ k, 200 ≤ k → laws_drawMade.f k l[i].f0 l[i].f1 l[i].f2 l[i].f3 l[i].f4 = some p.1) ∧ MadeAs l[i] p.1 p.2) l.length (fun i hi => by
  obtain ⟨t, evs, m1, m2⟩ := made l[i] (h.1 _ (List.getElem_mem hi)) 200 (by omega)
  exact ⟨(t, evs), fun _ => ⟨fun k hk => lift (laws_drawMade.mono _ _ _ _ _) hk m1, m2⟩⟩)
 exact ⟨ps, h1, fun i p hi hp => h2 i p hp hi⟩
theorem madeAs_size {o : Op} {t : ByteArray} {evs : List X.Ev} (h : MadeAs o t evs) : t.size ≤ 100 ∧ 1 ≤ t.size := by
 rcases h with ⟨_, rfl, _, hp⟩ | ⟨_, e, _, ho⟩
 ·exact ⟨by have := hp.2.2; omega, hp.2.1⟩
 ·exact ⟨ho.size, ho.pos⟩
theorem madeAs_run {o : Op} {t : ByteArray} {evs : List X.Ev} (h : MadeAs o t evs) : X.run .gr (X.nb t) = some (.gr, evs) := by
 rcases h with ⟨_, rfl, rfl, hp⟩ | ⟨_, e, rfl, ho⟩
 ·exact text_run _ hp.1
 ·exact ho.run
theorem madeAs_fit {o : Op} {t : ByteArray} {evs : List X.Ev} (h : MadeAs o t evs) : ∀ e ∈ evs, EvFit e := by
 rcases h with ⟨_, rfl, rfl, hp⟩ | ⟨_, e, rfl, ho⟩
 ·intro e he
  obtain ⟨b, _, rfl⟩ := List.mem_map.1 he
  exact ⟨by simp [X.evPrint], by simp [X.evPrint]⟩
 ·intro x hx
  rw [List.mem_singleton.1 hx]
  have := ho.pars
  exact ⟨by omega, by omega⟩
theorem madeAs_few {o : Op} {t : ByteArray} {evs : List X.Ev} (h : MadeAs o t evs) : evs.length ≤ 20 := by
 rcases h with ⟨_, rfl, rfl, hp⟩ | ⟨_, e, rfl, ho⟩
 ·have := hp.2.2
  simp only [charEvs, List.length_map]
  rw [data_length]
  exact this
 ·simp
/-- Texts joined. -/
def joinT : List ByteArray → ByteArray → ByteArray
 | [], x => x
 | t :: r, x => joinT r (x ++ t)
theorem nb_join : ∀ (ts : List ByteArray) (x : ByteArray), X.nb (joinT ts x) = X.nb x ++ (ts.map X.nb).flatten
 | [], x => by simp [joinT]
 | t :: r, x => by rw [joinT, nb_join r, X.nb_append]; simp
theorem join_size : ∀ (ts : List ByteArray) (x : ByteArray), (∀ t ∈ ts, t.size ≤ 100) → (joinT ts x).size ≤ x.size + 100 * ts.length
 | [], x, _ => by simp [joinT]
 | t :: r, x, h => by
  have h1 := h t (by simp)
  have h2 := join_size r (x ++ t) (fun u hu => h u (List.mem_cons_of_mem _ hu))
  rw [joinT]
  simp only [ByteArray.size_append, List.length_cons] at h2 ⊢
  omega
theorem made_mem {l : List Op} {ps : List (ByteArray × List X.Ev)} (h : Made l ps) (p : ByteArray × List X.Ev) (hp : p ∈ ps) : ∃ o, MadeAs o p.1 p.2 := by
 obtain ⟨i, hi, rfl⟩ := List.mem_iff_getElem.1 hp
 exact ⟨_, (h.2 i _ (by rw [← h.1]; exact hi) (List.getElem?_eq_getElem hi)).2⟩
theorem run_parts : ∀ (ps : List (ByteArray × List X.Ev)), (∀ p ∈ ps, ∃ o, MadeAs o p.1 p.2) → X.run .gr ((ps.map fun p => X.nb p.1).flatten) = some (.gr, (ps.map (·.2)).flatten)
 | [], _ => rfl
 | p :: ps, h => by
  obtain ⟨o, ho⟩ := h p (by simp)
  simp only [List.map_cons, List.flatten_cons]
  exact X.run_of (madeAs_run ho) (run_parts ps (fun q hq => h q (List.mem_cons_of_mem _ hq)))
theorem few_parts : ∀ (ps : List (ByteArray × List X.Ev)), (∀ p ∈ ps, ∃ o, MadeAs o p.1 p.2) → ((ps.map (·.2)).flatten).length ≤ 20 * ps.length
 | [], _ => by simp
 | p :: ps, h => by
  obtain ⟨o, ho⟩ := h p (by simp)
  have := few_parts ps (fun q hq => h q (List.mem_cons_of_mem _ hq))
  have := madeAs_few ho
  simp only [List.map_cons, List.flatten_cons, List.length_append, List.length_cons]
  omega
theorem text_l0 (l : List Op) (hl : l.length ≤ 20) (ps : List (ByteArray × List X.Ev)) (h : Made l ps) : ∀ (m i k : Nat) (x : ByteArray), i + m = l.length → 300 + m ≤ k → x.size ≤ 100 * i →
  laws_drawText.l0 k x l (l.length : Int) (i : Int) = some (bytesOf (joinT ((ps.drop i).map (·.1)) x))
 | 0, i, k + 1, x, hi, hk, hx => by
  have hpl := h.1
  rw [laws_drawText.l0, if_neg (by omega), conv_f x (by omega), Option.bind_some, List.drop_of_length_le (by omega)]
  rfl
 | m + 1, i, k + 1, x, hi, hk, hx => by
  have hpl := h.1
  have hil : i < l.length := by omega
  have hip : i < ps.length := by omega
  obtain ⟨q1, q2⟩ := h.2 i ps[i] hil (List.getElem?_eq_getElem hip)
  have hs := (madeAs_size q2).1
  rw [laws_drawText.l0, if_pos (by omega), if_pos (by omega), if_pos (by omega), rdO_at l i hil, q1 k (by omega), Option.bind_some, if_pos (by omega), wrap_up i (by omega)]
  rw [text_l0 l hl ps h m (i + 1) k _ (by omega) (by omega) (by rw [ByteArray.size_append]; omega), List.drop_eq_getElem_cons hip, List.map_cons, joinT]
/-- What a right plan's text is, and what it runs to. -/
theorem plan_run (l : List Op) (h : RightPlan l) : ∃ ps T, Made l ps ∧ (∀ k, 400 ≤ k → laws_drawText.f k l = some (ints T)) ∧ T = (ps.map fun p => X.nb p.1).flatten ∧ T.length ≤ 2000 ∧ X.run .gr T = some (.gr, (ps.map (·.2)).flatten) ∧
  (∀ e ∈ (ps.map (·.2)).flatten, EvFit e) ∧ ((ps.map (·.2)).flatten).length ≤ 400 := by
 obtain ⟨ps, hps⟩ := plan_made l h
 have hl := h.2.2
 have hpl := hps.1
 have hmem := made_mem hps
 refine ⟨ps, (ps.map fun p => X.nb p.1).flatten, hps, fun k hk => ?_, rfl, ?_, run_parts ps hmem, ?_, ?_⟩
 ·have := text_l0 l hl ps hps l.length 0 k ⟨#[]⟩ (by omega) (by omega) (by decide)
  unfold laws_drawText.f
  rw [List.drop_zero] at this
  refine this.trans ?_
  rw [bytesOf_ints, nb_join, List.map_map]
  rfl
 ·have h1 := join_size (ps.map (·.1)) ⟨#[]⟩ (fun t ht => by
   obtain ⟨p, hp, rfl⟩ := List.mem_map.1 ht
   obtain ⟨o, ho⟩ := hmem p hp
   exact (madeAs_size ho).1)
  have h2 := nb_join (ps.map (·.1)) ⟨#[]⟩
  have h3 := X.nb_len (joinT (ps.map (·.1)) ⟨#[]⟩)
  rw [h2, List.map_map] at h3
  have h4 : (X.nb ⟨#[]⟩ ++ ((ps.map (X.nb ∘ fun x => x.1)).flatten)).length = ((ps.map fun p => X.nb p.1).flatten).length := rfl
  have h5 : (⟨#[]⟩ : ByteArray).size = 0 := rfl
  rw [List.length_map] at h1
  omega
 ·intro e he
  obtain ⟨evs, hevs, he2⟩ := List.mem_flatten.1 he
  obtain ⟨p, hp, rfl⟩ := List.mem_map.1 hevs
  obtain ⟨o, ho⟩ := hmem p hp
  exact madeAs_fit ho e he2
 ·have := few_parts ps hmem
  omega
end Go.Proofs.YteebhoehflgfoaaGreatDoor.Y
end
section
namespace Go.Proofs.YteebhoehflgfoaaGreatDoor.Y
open Go.RowKit Go.Proofs.YteebhoehflgfoaaGreatDoorW.PrintWords Go.Proofs.YteebhoehflgfoaaGreatDoorW.PrintLast Go.Proofs.YteebhoehflgfoaaGreatDoorW.PrintMore
theorem upd_u8 {P : Program} {w : World} (mty kt et : TypeId) (r clock : Nat) (es : Array MapEntry) (s : Int) (val : Value) (hm : P.underlying mty = some (.map kt et)) (hk : P.underlying kt = some (.int .u8)) (hb : w.heap[r]? = some (.map es clock)) (hf : Instr.findNow (.int .u8) (.int .u8 s) es.toList 0 = some none) :
  (Instr.mapUpdate mty (.map (some r)) (.int .u8 s) val).run P w = .ok () { w with heap := w.heap.setIfInBounds r (.map (es.push { key := .int .u8 s, val := val, born := clock }) (clock + 1)) } := by
 have hc : (Instr.checkKey false 10000 kt (.int .u8 s)).run P w = .ok () w := MapKept.run_checkKey (k := .int .u8 s) hk (by simp [MapKept.IsKey]) false 9999
 simp [Instr.mapUpdate, run_underlying hm, MapKept.run_getObj_map hb, hc, MapKept.run_findKey hk hf, MapKept.run_setObj_map _ hb, Result.andThen]
/-- The world with one new block: a map of small numbers, as rows. -/
def mapW (w : World) (l : List (Int × Int)) : World := w.alloc (.map (l.zipIdx.map fun (p, n) => ({ key := .int .u8 p.1, val := .int .i64 p.2, born := n } : MapEntry)).toArray l.length)
theorem mapW_upd {P : Program} {w : World} (mty kt et : TypeId) (l : List (Int × Int)) (s v : Int) (hm : P.underlying mty = some (.map kt et)) (hk : P.underlying kt = some (.int .u8))
  (hf : Instr.findNow (.int .u8) (.int .u8 s) (l.zipIdx.map fun (p, n) => ({ key := .int .u8 p.1, val := .int .i64 p.2, born := n } : MapEntry)) 0 = some none) :
  (Instr.mapUpdate mty (.map (some w.heap.size)) (.int .u8 s) (.int .i64 v)).run P (mapW w l) = .ok () (mapW w (l ++ [(s, v)])) := by
 have hb : (mapW w l).heap[w.heap.size]? = some (.map (l.zipIdx.map fun (p, n) => ({ key := .int .u8 p.1, val := .int .i64 p.2, born := n } : MapEntry)).toArray l.length) := by
  show (w.heap.push _)[w.heap.size]? = _
  exact Array.getElem?_push_size
 rw [upd_u8 mty kt et w.heap.size l.length _ s _ hm hk hb (by simpa only [List.toList_toArray] using hf)]
 have he : ∀ a b : Obj, (w.heap.push a).setIfInBounds w.heap.size b = w.heap.push b := fun a b => by
  apply Array.ext
  ·rw [Array.size_setIfInBounds, Array.size_push, Array.size_push]
  ·intro i h1 h2
   rw [Array.size_push] at h2
   by_cases h : i = w.heap.size
   ·subst h
    rw [Array.getElem_setIfInBounds_self, Array.getElem_push_eq]
   ·rw [Array.getElem_setIfInBounds_ne (by rw [Array.size_push]; exact h2) (by omega), Array.getElem_push_lt (by omega), Array.getElem_push_lt (by omega)]
 show Result.ok () ({ w with heap := (w.heap.push _).setIfInBounds w.heap.size _ } : World) = Result.ok () ({ w with heap := w.heap.push _ } : World)
 rw [he]
 congr 4
 ·simp [List.zipIdx_append]
 ·simp
theorem mapW_new (w : World) : w.alloc (.map #[] 0) = mapW w [] := rfl
set_option maxRecDepth 100000 in
theorem drawFinals_calls (w : World) : Calls Tryz.prog 154 #[] w fun e w' => e = .returned (.map (some w.heap.size)) ∧ w' = mapW w [(65, 0), (66, 1), (67, 2), (68, 3), (69, 4), (70, 5), (71, 6), (88, 9), (74, 10), (75, 11), (83, 12), (84, 13), (76, 14), (77, 15), (64, 16), (80, 17), (100, 18), (101, 19), (96, 20), (97, 21), (98, 22)] := by
 have hmm := @run_makeMap Tryz.prog
 go_enter Tryz.func154, Tryz.ntmps154
 go_wp2_with fail
 rw [mapW_new]
 repeat (first | (erw [mapW_upd 164 5 2 _ _ _ Tryz.underlying164 Tryz.underlying5 rfl]; go_wp2_with fail) | fail)
 go_ret
 exact ⟨rfl, rfl⟩
theorem look_in {P : Program} {w : World} (t kt et : TypeId) (r clock : Nat) (es : List MapEntry) (s v : Int) (n : Nat) (hm : P.underlying t = some (.map kt et)) (hk : P.underlying kt = some (.int .u8)) (hb : w.heap[r]? = some (.map es.toArray clock)) (hf : Instr.findNow (.int .u8) (.int .u8 s) es 0 = some (some (n, .int .i64 v))) :
  (Instr.lookup t (.map (some r)) (.int .u8 s) true).run P w = .ok (.tuple #[.int .i64 v, .bool true]) w := by
 have hc : (Instr.checkKey es.isEmpty 10000 kt (.int .u8 s)).run P w = .ok () w := MapKept.run_checkKey (k := .int .u8 s) hk (by simp [MapKept.IsKey]) es.isEmpty 9999
 simp [Instr.lookup, run_underlying hm, MapKept.run_getObj_map hb, hc, MapKept.run_findKey hk hf, Result.andThen]
theorem look_out {P : Program} {w : World} (t kt et : TypeId) (r clock : Nat) (es : List MapEntry) (s : Int) (hm : P.underlying t = some (.map kt et)) (hk : P.underlying kt = some (.int .u8)) (hz : (zeroValue et).run P w = .ok (.int .i64 0) w) (hb : w.heap[r]? = some (.map es.toArray clock)) (hf : Instr.findNow (.int .u8) (.int .u8 s) es 0 = some none) :
  (Instr.lookup t (.map (some r)) (.int .u8 s) true).run P w = .ok (.tuple #[.int .i64 0, .bool false]) w := by
 have hc : (Instr.checkKey es.isEmpty 10000 kt (.int .u8 s)).run P w = .ok () w := MapKept.run_checkKey (k := .int .u8 s) hk (by simp [MapKept.IsKey]) es.isEmpty 9999
 simp [Instr.lookup, run_underlying hm, MapKept.run_getObj_map hb, hc, MapKept.run_findKey hk hf, Result.andThen, hz]
end Go.Proofs.YteebhoehflgfoaaGreatDoor.Y
end
section
namespace Go.Proofs.YteebhoehflgfoaaGreatDoor.Y
open Go.RowKit Go.Proofs.YteebhoehflgfoaaGreatDoorW.PrintWords Go.Proofs.YteebhoehflgfoaaGreatDoorW.PrintLast Go.Proofs.YteebhoehflgfoaaGreatDoorW.PrintMore
attribute [local go_sem] max2_int min2_int max_two min_two max_three min_three max_four min_four
set_option linter.unusedVariables false
set_option linter.unusedSimpArgs false
/-! ### spec_Value: function 195 -/
def spec_Value.f (a0 : Int) : Option (Int) := some (Go.bits .and .i64 a0 2147483647)
set_option maxHeartbeats 8000000 in
set_option maxRecDepth 100000 in
theorem spec_Value.calls (a0 : Int) (r : Int) (w : World) (h : spec_Value.f a0 = some r) :
  Calls Tryz.prog 195 #[.int .i64 a0] w fun e w' => e = .returned (.int .i64 r) ∧ Drawn0 w w' := by
 have H : (some (Go.bits .and .i64 a0 2147483647)) = some r := h
 clear h
 obtain rfl := Option.some.inj H
 go_enter Tryz.func195, Tryz.ntmps195
 go_wp2
 go_ret
 exact ⟨by first | rfl | (simp; done) | (simp [*]; done), by repeat (first | exact Drawn0.refl _ | apply Drawn0.step)⟩
/-! ### spec_Or: function 179 -/
def spec_Or.f (a0 : Int) (a1 : Int) : Option (Int) := (spec_Value.f a0).bind fun t433 => (if t433 = 2147483647 then (some a1) else ((spec_Value.f a0).bind fun t434 => (some t434)))
set_option maxHeartbeats 8000000 in
set_option maxRecDepth 100000 in
theorem spec_Or.calls (a0 : Int) (a1 : Int) (r : Int) (w : World) (h : spec_Or.f a0 a1 = some r) :
  Calls Tryz.prog 179 #[.int .i64 a0, .int .i64 a1] w fun e w' => e = .returned (.int .i64 r) ∧ Drawn0 w w' := by
 have H : ((spec_Value.f a0).bind fun t433 => (if t433 = 2147483647 then (some a1) else ((spec_Value.f a0).bind fun t434 => (some t434)))) = some r := h
 clear h
 replace H := Option.bind_eq_some_iff.mp H
 obtain ⟨t433, A30, H⟩ := H
 replace H : (if t433 = 2147483647 then (some a1) else ((spec_Value.f a0).bind fun t434 => (some t434))) = some r := H
 have A3 := Aside0.mk A30
 clear A30
 by_cases c4 : t433 = 2147483647
 ·rw [if_pos c4] at H
  have c4b0 : (t433 == 2147483647) = true := beq_iff_eq.mpr c4
  have c4b1 : (t433 != 2147483647) = false := bne_eq_false_iff_eq.mpr c4
  clear c4
  obtain rfl := Option.some.inj H
  go_enter Tryz.func179, Tryz.ntmps179
  go_wp2_with (first | ((with_reducible refine gate_callee (f := 195) rfl ?_); refine goesL_ (some 6) rfl rfl Tryz.func195 (by kernel_rfl) rfl #[.int .i64 a0] rfl (by (try simp only [List.map_toArray, List.map_cons, List.map_nil]); first | done | rfl | (simp only [List.length_drop, List.length_take]; rfl)) ?_; (with_reducible refine (spec_Value.calls a0 t433 _ A3.out).mono ?_); rintro e w' ⟨rfl, ⟨nd, rfl⟩⟩; refine ⟨_, rfl, ?_⟩))
  go_ret
  exact ⟨by first | rfl | (simp; done) | (simp [*]; done), by repeat (first | exact Drawn0.refl _ | apply Drawn0.step)⟩
 ·rw [if_neg c4] at H
  have c4b0 : (t433 == 2147483647) = false := beq_eq_false_iff_ne.mpr c4
  have c4b1 : (t433 != 2147483647) = true := bne_iff_ne.mpr c4
  replace H := Option.bind_eq_some_iff.mp H
  obtain ⟨t434, A50, H⟩ := H
  replace H : (some t434) = some r := H
  have A5 := Aside0.mk A50
  clear A50
  obtain rfl := Option.some.inj H
  go_enter Tryz.func179, Tryz.ntmps179
  go_wp2_with (first | ((with_reducible refine gate_callee (f := 195) rfl ?_); refine goesL_ (some 6) rfl rfl Tryz.func195 (by kernel_rfl) rfl #[.int .i64 a0] rfl (by (try simp only [List.map_toArray, List.map_cons, List.map_nil]); first | done | rfl | (simp only [List.length_drop, List.length_take]; rfl)) ?_; (with_reducible refine (spec_Value.calls a0 t433 _ A3.out).mono ?_); rintro e w' ⟨rfl, ⟨nd, rfl⟩⟩; refine ⟨_, rfl, ?_⟩) | ((with_reducible refine gate_callee (f := 195) rfl ?_); refine goesL_ (some 10) rfl rfl Tryz.func195 (by kernel_rfl) rfl #[.int .i64 a0] rfl (by (try simp only [List.map_toArray, List.map_cons, List.map_nil]); first | done | rfl | (simp only [List.length_drop, List.length_take]; rfl)) ?_; (with_reducible refine (spec_Value.calls a0 t434 _ A5.out).mono ?_); rintro e w' ⟨rfl, ⟨nd, rfl⟩⟩; refine ⟨_, rfl, ?_⟩))
  go_ret
  exact ⟨by first | rfl | (simp; done) | (simp [*]; done), by repeat (first | exact Drawn0.refl _ | apply Drawn0.step)⟩
end Go.Proofs.YteebhoehflgfoaaGreatDoor.Y
end
