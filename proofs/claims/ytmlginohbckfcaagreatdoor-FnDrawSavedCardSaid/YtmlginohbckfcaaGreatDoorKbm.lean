/- Texts of this claim, joined: XLawSaved. Of each, what the claim uses. -/
import Derived.Test.YtmlginohbckfcaaGreatDoorKbj
import Derived.Deep.QuietTactic
import Derived.BigQuiet
import Derived.Test.YtmlginohbckfcaaGreatDoorKbh
import Derived.Test.YtmlginohbckfcaaGreatDoorKbd
section
namespace Go.Proofs.YtmlginohbckfcaaGreatDoor.Y
open Go.RowKit Go.Proofs.YtmlginohbckfcaaGreatDoorW.PrintWords Go.Proofs.YtmlginohbckfcaaGreatDoorW.PrintLast Go.Proofs.YtmlginohbckfcaaGreatDoorW.PrintMore
set_option linter.unusedSimpArgs false
set_option linter.unusedVariables false
set_option maxRecDepth 100000
set_option maxHeartbeats 8000000
def laws_FnDrawSaved.f (a b : Int) (l : List Op) (c : Int) : Option Bool := if (0 ≤ a ∧ a ≤ 255) ∧ (0 ≤ b ∧ b ≤ 255) ∧ 0 ≤ c ∧ c ≤ 255 then some true else none
/-- Moves and styles. -/
def MoveK (k : Int) : Prop := NumK k ∨ k = 40 ∨ k = 52
theorem saved_plan (l : List Op) (h : RightPlan l) (hm : ∀ o ∈ l, MoveK o.f0) (n m : Int) (hn : 1 ≤ n ∧ n ≤ 99) (h2 : 1 ≤ m ∧ m ≤ 99) (s : Scr) : ∃ (t st : ByteArray) (tl bl : List Int) (ops : List Op) (el : List S69), impl_MakePair.f 300 0 n m = some t ∧ (laws_drawText.f 400 l = some tl ∧ strOfNums tl = st) ∧ (t.size ≤ 100 ∧ st.size ≤ 2000) ∧
    gosem_conv.f (t ++ ⟨#[27, 55]⟩ ++ st ++ ⟨#[27, 56]⟩) = some bl ∧ impl_Feed.f 32 4096 bl = some el ∧ el.length ≤ 1000 ∧ spec_DrawRead.f (el.map cv) = some (ops, true) ∧ (∀ o ∈ ops, Does o) ∧ ops.length ≤ 100 ∧
    (s.play attrA (ops.map po)).pen = { s.pen with x := clampN (n - 1) s.w, y := clampN (m - 1) s.h } := by
  obtain ⟨st, q, p1, p2, p3, p4, p5, p6, p7⟩ := plan_text l h
  obtain ⟨t, e, h1, h3, h4⟩ := pair_piece 0 n m (Or.inl rfl) hn h2
  have hl := h.2.2
  let sv : Op := ⟨50, 0, 0, ⟨#[]⟩, []⟩
  let rs : Op := ⟨51, 0, 0, ⟨#[]⟩, []⟩
  let pl : Op := ⟨40 + 0, n, m, ⟨#[]⟩, []⟩
  have gs : Good (sv, [X.evEsc 55]) := Or.inr ⟨by decide, _, rfl, Or.inr (Or.inr ⟨rfl, Or.inl rfl, rfl⟩)⟩
  have gr : Good (rs, [X.evEsc 56]) := Or.inr ⟨by decide, _, rfl, Or.inr (Or.inr ⟨rfl, Or.inr rfl, rfl⟩)⟩
  have hsz := h3.size
  have s2 : (⟨#[27, 55]⟩ : ByteArray).size = 2 := rfl
  have s3 : (⟨#[27, 56]⟩ : ByteArray).size = 2 := rfl
  obtain ⟨el, f1, f2, f3, f4⟩ := text_fed (t ++ ⟨#[27, 55]⟩ ++ st ++ ⟨#[27, 56]⟩) (by simp only [ByteArray.size_append]; omega) ((pl, [e]) :: (sv, [X.evEsc 55]) :: (q ++ [(rs, [X.evEsc 56])]))
    (by
      rw [X.nb_append, X.nb_append, X.nb_append]
      have r1 := X.run_of (X.run_of (X.run_of h3.run (show X.run .gr (X.nb ⟨#[27, 55]⟩) = some (.gr, [X.evEsc 55]) from rfl)) p3) (show X.run .gr (X.nb ⟨#[27, 56]⟩) = some (.gr, [X.evEsc 56]) from rfl)
      rw [r1]
      simp)
    (fun p hp => by
      simp only [List.mem_cons, List.mem_append, List.mem_singleton, List.not_mem_nil, or_false] at hp
      rcases hp with rfl | rfl | hp | rfl
      · exact h4
      · exact gs
      · exact p6 p hp
      · exact gr)
    (by
      simp only [List.map_cons, List.map_append, List.map_nil, p5]
      exact apart_cons _ _ _ (by show (40 + 0 : Int) ≠ 60; decide) (apart_cons _ _ _ (by decide) (apart_snoc _ _ _ p7 ⟨fun hh => absurd hh.2 (by decide), trivial⟩)))
    (by simp only [List.map_cons, List.map_append, List.flatten_cons, List.flatten_append, List.length_append, List.length_cons, List.length_nil, List.map_nil, List.flatten_nil]; omega)
  simp only [List.map_cons, List.map_append, List.map_nil, p5] at f4
  refine ⟨t, st, _, _, _, el, h1, ⟨p1, str_bytes st⟩, ⟨hsz, p2⟩, f1, f2, f3, f4, fun o ho => ?_, by simp only [List.length_cons, List.length_append, List.length_nil]; omega, ?_⟩
  · simp only [List.mem_cons, List.mem_append, List.mem_singleton, List.not_mem_nil, or_false] at ho
    rcases ho with rfl | rfl | ho | rfl
    · exact ⟨Or.inr (Or.inl ⟨Or.inl rfl, hn, h2⟩), by show 0 ≤ n ∧ n ≤ 99 ∧ 0 ≤ m ∧ m ≤ 99 ∧ (40 + 0 = (42 : Int) → 1 ≤ n); omega⟩
    · exact ⟨Or.inr (Or.inr (Or.inr (Or.inl rfl))), by show (0 : Int) ≤ 0 ∧ (0 : Int) ≤ 99 ∧ (0 : Int) ≤ 0 ∧ (0 : Int) ≤ 99 ∧ ((50 : Int) = 42 → (1 : Int) ≤ 0); omega⟩
    · exact right_does (h.1 o ho)
    · exact ⟨Or.inr (Or.inr (Or.inr (Or.inr (Or.inl rfl)))), by show (0 : Int) ≤ 0 ∧ (0 : Int) ≤ 99 ∧ (0 : Int) ≤ 0 ∧ (0 : Int) ≤ 99 ∧ ((51 : Int) = 42 → (1 : Int) ≤ 0); omega⟩
  · have hb : bytesOf ⟨#[]⟩ = [] := rfl
    have := saved_law attrA s n m (l.map po) (fun o ho => by
      obtain ⟨p, hp, rfl⟩ := List.mem_map.1 ho
      have := hm p hp
      unfold MoveK NumK at this
      show p.f0 ≠ 50
      omega)
    rw [← this]
    simp only [List.map_cons, List.map_append, List.map_nil]
    congr 1
theorem laws_FnDrawSaved.calls (a0 a1 : Int) (A2 : Option Addr) (c2 : Nat) (l2 : List Op) (a3 : Int) (r : Bool) (w : World) (hT : XTab w) (hr2 : Kd.C k42 w A2 l2.length l2) (hc2 : l2.length ≤ c2) (h : laws_FnDrawSaved.f a0 a1 l2 a3 = some r) :
    Calls Tryz.prog 7 #[.int .u8 a0, .int .u8 a1, .slice A2 l2.length c2, .int .u8 a3] w fun e w' => e = .returned (.bool r) ∧ Below w.heap.size w w' := by
  unfold laws_FnDrawSaved.f at h
  split at h
  case isFalse => cases h
  rename_i ha
  obtain rfl := Option.some.inj h
  obtain ⟨b0, f0, f1⟩ := fits_f l2 3000000000 (by omega)
  obtain ⟨Wd, H, z1, z2, z3⟩ := size_f2 a3 ha.2.2.1 ha.2.2.2
  have HI := Lib.hid (And.intro hT (And.intro hr2 (And.intro hc2 (And.intro ha (And.intro z1 (And.intro z2 z3))))))
  have HF := Lib.hid f1
  have hu42 := Tryz.underlying42
  clear h hT hr2 hc2 ha f1 z1 z2 z3
  go_enter Tryz.func7, Tryz.ntmps7
  go_wp2_with fail
  with_reducible refine (laws_zzFits3.calls 3000000000 _ _ l2 b0 _ HI.out.2.1 HI.out.2.2.1 f0).mono ?_
  rintro e w1 ⟨rfl, hb⟩
  have H1 := Lib.hid hb
  clear hb f0
  cases b0 with
  | false =>
    go_wp2_with fail
    go_ret
    exact ⟨rfl, H1.out⟩
  | true =>
    go_wp2_with fail
    with_reducible refine (laws_drawSize.calls a3 Wd H _ HI.out.2.2.2.2.1).mono ?_
    rintro e w3 ⟨rfl, ⟨nd, rfl⟩⟩
    have H3 := Lib.hid (pw_below_drewN H1.out nd)
    generalize w1.drewN nd = w3 at H3 ⊢
    clear H1
    go_wp2_with fail
    refine (isPlan_calls _ _ l2 _ (Kd.C_below HI.out.2.1 H3.out) HI.out.2.2.1 (HF.out (by trivial))).mono ?_
    rintro e w2 ⟨b1, rfl, g1, hb⟩
    have H2 := Lib.hid (below_step H3.out hb)
    have HG := Lib.hid g1
    clear hb g1 H3
    cases b1 with
    | false =>
      go_wp2_with fail
      with_reducible refine (laws_drawAwake.calls true _ (XTab.below HI.out.1 H2.out) awake).mono ?_
      rintro e w3 ⟨rfl, hb⟩
      have H3 := Lib.hid (below_step H2.out hb)
      clear hb
      go_wp2_with fail
      go_ret
      exact ⟨rfl, H3.out⟩
    | true =>
      have hlen : l2.length ≤ 20 := (HG.out (by trivial)).2.2
      go_wp2_with fail
      go_loopg [32] l2.length (fun kq v32 w' => ∃ i : Nat, v32 = .int .i64 (i : Int) ∧ i + kq = l2.length ∧ Hid ((∀ o ∈ l2.take i, MoveK o.f0) ∧ Below w.heap.size w w'))
      case atStart => exact ⟨0, rfl, by omega, by simp, H2.out⟩
      case round =>
        obtain ⟨i, rfl, hk, hA⟩ := hrel
        by_cases hi : i < l2.length
        · have d3 : (i : Int) < (l2.length : Int) := by omega
          have p0 : 0 ≤ (i : Int) := by omega
          have e1 : IntKind.i64.wrap ((i : Int) + 1) = ((i + 1 : Nat) : Int) := by rw [IntKind.wrap_i64]; omega
          obtain ⟨ad, A4, c4, e, x0, x1, x2, x3, x4, l4, g4⟩ := at_T42 HI.out.2.1 (i : Int) p0 d3
          cases e
          have hst : MoveK l2[i].f0 → ∀ o ∈ l2.take (i + 1), MoveK o.f0 := fun h o ho => by
            rw [List.take_succ_eq_append_getElem hi] at ho
            rcases List.mem_append.1 ho with ho | ho
            · exact hA.out.1 o ho
            · rw [List.mem_singleton.1 ho]; exact h
          rw [rdO_at l2 i hi] at x0 x1 x2 x3 x4 l4 g4
          generalize l2[i] = o at hst x0 x1 x2 x3 x4 l4 g4
          have HB := hA.out.2
          replace x0 := (HB.cell (World.block_lt_of_cell? w _ x0)).trans x0
          replace x1 := (HB.cell (World.block_lt_of_cell? w _ x1)).trans x1
          replace x2 := (HB.cell (World.block_lt_of_cell? w _ x2)).trans x2
          replace x3 := (HB.cell (World.block_lt_of_cell? w _ x3)).trans x3
          replace x4 := (HB.cell (World.block_lt_of_cell? w _ x4)).trans x4
          simp only [Int.toNat_natCast] at x0 x1 x2 x3 x4
          obtain ⟨bn, hbn, hbn2⟩ := isNum_f o.f0
          have HX := Lib.hid (And.intro hst (And.intro hbn hbn2))
          clear hst l4 g4 HB hbn hbn2
          replace p0 := eq_true p0
          go_upto_region 9 with fail
          obtain ⟨W, hW⟩ : ∃ W, W = wr.alloc (Obj.cells #[.int .i64 o.f0, .int .i64 o.f1, .int .i64 o.f2, .string o.f3, .slice A4 o.f4.length c4] 42) := ⟨_, rfl⟩
          rw [← hW]
          have ho : W.heap[wr.heap.size]? = some (Obj.cells #[.int .i64 o.f0, .int .i64 o.f1, .int .i64 o.f2, .string o.f3, .slice A4 o.f4.length c4] 42 (0, 0)) := by rw [hW]; exact blk_new wr _
          have hb1 : Below w.heap.size w W := below_step hA.out.2 (by rw [hW]; exact below_alloc (Below.refl _ _) _)
          have z0 : W.cell? ⟨wr.heap.size, 0, none⟩ = some (.int .i64 o.f0) := blk_cell ho 0
          have HW := Lib.hid (And.intro ho hb1)
          clear ho hb1 hW x0 x1 x2 x3 x4
          go_wp2_with fail
          with_reducible refine (spec_IsDrawNumber.calls o.f0 bn _ HX.out.2.1).mono ?_
          rintro e w4 ⟨rfl, ⟨nd, rfl⟩⟩
          have y0 : (W.drewN nd).cell? ⟨wr.heap.size, 0, none⟩ = some (.int .i64 o.f0) := z0
          have H4 := Lib.hid (pw_below_drewN HW.out.2 nd)
          generalize W.drewN nd = w4 at y0 H4 ⊢
          clear z0
          by_cases hm : MoveK o.f0
          · have hs := Lib.hid (And.intro (HX.out.1 hm) H4.out)
            cases bn with
            | true =>
              clear hm
              go_wp2_with fail
              go_roundg (l2.length - (i + 1))
              case measure => omega
              case rel => exact ⟨i + 1, rfl, by omega, hs.out⟩
            | false =>
              have hn : ¬ NumK o.f0 := fun h => by cases HX.out.2.2.2 h
              have hor : o.f0 = 40 ∨ o.f0 = 52 := hm.resolve_left hn
              clear hm hn
              rcases hor with hq | hq
              · have k1 : (o.f0 != 40) = false := by simp [hq]
                go_wp2_with fail
                go_roundg (l2.length - (i + 1))
                case measure => omega
                case rel => exact ⟨i + 1, rfl, by omega, hs.out⟩
              · have k1 : (o.f0 != 40) = true := by simp [hq]
                have k2 : (o.f0 != 52) = false := by simp [hq]
                go_wp2_with fail
                go_roundg (l2.length - (i + 1))
                case measure => omega
                case rel => exact ⟨i + 1, rfl, by omega, hs.out⟩
          · cases bn with
            | true => exact absurd (Or.inl (HX.out.2.2.1 (by trivial))) hm
            | false =>
              have k1 : (o.f0 != 40) = true := by simp; intro hq; exact hm (Or.inr (Or.inl hq))
              have k2 : (o.f0 != 52) = true := by simp; intro hq; exact hm (Or.inr (Or.inr hq))
              clear hm
              go_wp2_with fail
              with_reducible refine (laws_drawAwake.calls true _ (XTab.below HI.out.1 H4.out) awake).mono ?_
              rintro e w5 ⟨rfl, hb⟩
              have H5 := Lib.hid (below_step H4.out hb)
              clear hb
              go_wp2_with fail
              go_ret
              exact ⟨rfl, H5.out⟩
        · have d3 : decide ((i : Int) < (l2.length : Int)) = false := decide_eq_false (by omega)
          have hmv : ∀ o ∈ l2, MoveK o.f0 := by
            have := hA.out.1
            rwa [List.take_of_length_le (by omega)] at this
          have HB := Lib.hid (And.intro hmv hA.out.2)
          clear hmv hA hk H2
          obtain ⟨col, hcol, hcl⟩ : ∃ col : Nat, Int.tmod a0 (Wd : Int) = (col : Int) ∧ col < Wd := by
            have := HI.out.2.2.2.1
            have := HI.out.2.2.2.2.2
            have hp : (0 : Int) < (Wd : Int) := by omega
            refine ⟨(a0 % (Wd : Int)).toNat, ?_, ?_⟩
            · rw [Int.tmod_eq_emod_of_nonneg (by omega), Int.toNat_of_nonneg (Int.emod_nonneg _ (by omega))]
            · have := Int.emod_lt_of_pos a0 hp
              have := Int.emod_nonneg a0 (show (Wd : Int) ≠ 0 by omega)
              omega
          obtain ⟨row, hrow, hrl⟩ : ∃ row : Nat, Int.tmod a1 (H : Int) = (row : Int) ∧ row < H := by
            have := HI.out.2.2.2.1
            have := HI.out.2.2.2.2.2
            have hp : (0 : Int) < (H : Int) := by omega
            refine ⟨(a1 % (H : Int)).toNat, ?_, ?_⟩
            · rw [Int.tmod_eq_emod_of_nonneg (by omega), Int.toNat_of_nonneg (Int.emod_nonneg _ (by omega))]
            · have := Int.emod_lt_of_pos a1 hp
              have := Int.emod_nonneg a1 (show (H : Int) ≠ 0 by omega)
              omega
          have HZ := HI.out.2.2.2.2.2
          obtain ⟨t, st, tl, bl, ops, el, m1, ⟨m2, m3⟩, ⟨m4, m5⟩, m6, m7, m8, m9, m10, m11, m12⟩ := saved_plan l2 (HG.out (by trivial)) HB.out.1 ((col : Int) + 1) ((row : Int) + 1) (by omega) (by omega) (newScr Wd H)
          have n0 : (Wd : Int) ≠ 0 := by omega
          have n1 : (H : Int) ≠ 0 := by omega
          have u0 : IntKind.i64.wrap a0 = a0 := by have := HI.out.2.2.2.1; rw [IntKind.wrap_i64]; omega
          have u1 : IntKind.i64.wrap a1 = a1 := by have := HI.out.2.2.2.1; rw [IntKind.wrap_i64]; omega
          have u2 : IntKind.i64.wrap ((col : Int) + 1) = (col : Int) + 1 := by rw [IntKind.wrap_i64]; omega
          have u3 : IntKind.i64.wrap ((row : Int) + 1) = (row : Int) + 1 := by rw [IntKind.wrap_i64]; omega
          have hpx : clampN ((col : Int) + 1 - 1) Wd = col := by unfold clampN; omega
          have hpy : clampN ((row : Int) + 1 - 1) H = row := by unfold clampN; omega
          rw [show (newScr Wd H).w = Wd from rfl, show (newScr Wd H).h = H from rfl, hpx, hpy] at m12
          have HP := Lib.hid (And.intro m1 (And.intro m2 (And.intro m6 (And.intro m7 (And.intro m8 (And.intro m9 (And.intro m10 (And.intro m11 m12))))))))
          have HS := Lib.hid (And.intro m3 (And.intro m4 m5))
          clear m1 m2 m3 m4 m5 m6 m7 m8 m9 m10 m11 m12 hpx hpy HZ hcl hrl
          go_wp2_with fail
          go_quiet (fail)
          have HV := Lib.hid (pw_below_drewN HB.out.2 nq)
          generalize wr.drewN nq = V at HV ⊢
          go_wp2_with fail
          with_reducible refine (impl_MakePair.calls 300 0 ((col : Int) + 1) ((row : Int) + 1) t _ (XTab.below HI.out.1 HV.out) HP.out.1).mono ?_
          rintro e w4 ⟨rfl, hb⟩
          have H4 := Lib.hid (below_step HV.out hb)
          have s0 : (⟨#[27, 55]⟩ : ByteArray).size = 2 := rfl
          have s1 : (⟨#[27, 56]⟩ : ByteArray).size = 2 := rfl
          have s2 : t.size + 2 ≤ 9223372036854775807 := by have := HS.out.2.1; omega
          have s3 : t.size + 2 + st.size ≤ 9223372036854775807 := by have := HS.out.2; omega
          have s4 : t.size + 2 + st.size + 2 ≤ 9223372036854775807 := by have := HS.out.2; omega
          clear hb HV
          go_wp2_with fail
          with_reducible refine (laws_drawText.calls 400 _ _ l2 tl _ (XTab.below HI.out.1 H4.out) (Kd.C_below HI.out.2.1 H4.out) HI.out.2.2.1 HP.out.2.1).mono ?_
          rintro e w5 ⟨v5, rfl, hv, hb⟩
          obtain ⟨A5, c5, rfl, hc5, hf5⟩ := hv
          have hcv := Kd.C_string (P := Tryz.prog) (w := w5) (src := 30) (dst := 9) (e := 5) (c := c5) Tryz.underlying30 Tryz.underlying5 Tryz.underlying9 (Kd.F_now hf5)
          rw [HS.out.1] at hcv
          have H5 := Lib.hid (below_step H4.out hb)
          clear hb hc5 hf5 H4
          go_wp2_with (first | ((with_reducible refine gate_dst (N := 75) rfl ?_); refine conv_ev 9 30 5 rfl rfl Tryz.underlying9 Tryz.underlying30 Tryz.underlying5 (t ++ ⟨#[27, 55]⟩ ++ st ++ ⟨#[27, 56]⟩) rfl HP.out.2.2.1 ?_; rintro e w6 ⟨v6, rfl, ho0, hb⟩; refine ⟨_, rfl, ?_⟩; obtain ⟨A6, c6, rfl, hc6, hf6⟩ := ho0; have H6 := Lib.hid (And.intro (below_step H5.out hb) (And.intro hc6 (Kd.F_now hf6))); clear hb hc6 hf6 H5 hcv))
          with_reducible refine (impl_Feed.calls 32 4096 _ _ bl el _ H6.out.2.2 H6.out.2.1 HP.out.2.2.2.1).mono ?_
          rintro e w7 ⟨v7, rfl, hv, hb⟩
          have hv2 : Kd.V k69 69 w7 w7.heap.size (fun _ => True) v7 el := Kd.S_V hv
          obtain ⟨A7, c7, rfl⟩ := Kd.S_slice hv
          have H7 := Lib.hid (And.intro (below_step H6.out.1 hb) hv2)
          clear hb hv hv2 H6
          go_wp2_with fail
          refine (screen_calls A7 c7 el (fun _ => True) w7 H7.out.2 (by have := HP.out.2.2.2.2.1; omega) ops HP.out.2.2.2.2.2.1 HP.out.2.2.2.2.2.2.1 (by have := HP.out.2.2.2.2.2.2.2.1; omega) Wd H (by have := HI.out.2.2.2.2.2; omega) (by have := HI.out.2.2.2.2.2; omega)).mono ?_
          rintro e w8 ⟨g, rfl, ho⟩
          obtain ⟨B8, T8, c8, bs8, hB8, ha8⟩ := ho.out.1
          have H8 := Lib.hid (And.intro (below_step H7.out.1 ho.out.2) ha8)
          have y3 : w8.cell? ⟨g, 3, none⟩ = some (.int .i64 (col : Int)) := by have := ha8.cell 3; rw [show (scells ((newScr Wd H).play attrA (ops.map po)) T8 c8)[3]? = some (.int .i64 (((newScr Wd H).play attrA (ops.map po)).pen.x : Int)) from rfl, HP.out.2.2.2.2.2.2.2.2] at this; exact this
          have y4 : w8.cell? ⟨g, 4, none⟩ = some (.int .i64 (row : Int)) := by have := ha8.cell 4; rw [show (scells ((newScr Wd H).play attrA (ops.map po)) T8 c8)[4]? = some (.int .i64 (((newScr Wd H).play attrA (ops.map po)).pen.y : Int)) from rfl, HP.out.2.2.2.2.2.2.2.2] at this; exact this
          have y5 : w8.cell? ⟨g, 5, none⟩ = some (.int .i64 0) := by have := ha8.cell 5; rw [show (scells ((newScr Wd H).play attrA (ops.map po)) T8 c8)[5]? = some (.int .i64 ((newScr Wd H).play attrA (ops.map po)).pen.a) from rfl, HP.out.2.2.2.2.2.2.2.2] at this; exact this
          clear ho ha8 hB8 H7
          go_wp2_with fail
          with_reducible refine (laws_drawAwake.calls true _ (XTab.below HI.out.1 H8.out.1) awake).mono ?_
          rintro e w9 ⟨rfl, hb⟩
          have H9 := Lib.hid (below_step H8.out.1 hb)
          clear hb y3 y4 y5
          go_wp2_with fail
          go_ret
          exact ⟨rfl, H9.out⟩
theorem FnDrawSaved_true {Q : Op → Prop} (a0 : Int) (h0 : (Lit.int .u8 a0).wf = true) (a1 : Int) (h1 : (Lit.int .u8 a1).wf = true) (l : List Op) (_ : l.length ≤ maxLen) (_ : ∀ a ∈ l, Q a) (a3 : Int) (h3 : (Lit.int .u8 a3).wf = true) : laws_FnDrawSaved.f a0 a1 l a3 = some true := by
  have k0 : 0 ≤ a0 ∧ a0 ≤ 255 := by simpa [Lit.wf, IntKind.min, IntKind.max, IntKind.signed, IntKind.bits] using h0
  have k1 : 0 ≤ a1 ∧ a1 ≤ 255 := by simpa [Lit.wf, IntKind.min, IntKind.max, IntKind.signed, IntKind.bits] using h1
  have k3 : 0 ≤ a3 ∧ a3 ≤ 255 := by simpa [Lit.wf, IntKind.min, IntKind.max, IntKind.signed, IntKind.bits] using h3
  exact if_pos ⟨k0, k1, k3⟩
end Go.Proofs.YtmlginohbckfcaaGreatDoor.Y
end
