/- Texts of this claim, joined: XScrLaw XScrRun XLawLines. Of each, what the claim uses. -/
import Derived.Test.YtmlginohbckfcaaGreatDoorKaa
import Derived.Test.YtmlginohbckfcaaGreatDoorKab
import Derived.Test.YtmlginohbckfcaaGreatDoorKac
import Derived.Test.YtmlginohbckfcaaGreatDoorKad
import Derived.Test.YtmlginohbckfcaaGreatDoorKae
import Derived.Test.YtmlginohbckfcaaGreatDoorKaf
import Derived.Test.YtmlginohbckfcaaGreatDoorKag
import Derived.Test.YtmlginohbckfcaaGreatDoorKah
import Derived.Test.YtmlginohbckfcaaGreatDoorKai
import Derived.Test.YtmlginohbckfcaaGreatDoorKaj
import Derived.Test.YtmlginohbckfcaaGreatDoorKak
import Derived.Test.YtmlginohbckfcaaGreatDoorKal
import Derived.Test.YtmlginohbckfcaaGreatDoorKam
import Derived.Test.YtmlginohbckfcaaGreatDoorKan
import Derived.Test.YtmlginohbckfcaaGreatDoorKao
import Derived.Test.YtmlginohbckfcaaGreatDoorKap
import Derived.Test.YtmlginohbckfcaaGreatDoorKaq
import Derived.Test.YtmlginohbckfcaaGreatDoorKar
import Derived.Test.YtmlginohbckfcaaGreatDoorKas
import Derived.Test.YtmlginohbckfcaaGreatDoorKat
import Derived.Test.YtmlginohbckfcaaGreatDoorKau
import Derived.Test.YtmlginohbckfcaaGreatDoorKav
import Derived.Test.YtmlginohbckfcaaGreatDoorKaw
import Derived.Test.YtmlginohbckfcaaGreatDoorKax
import Derived.Test.YtmlginohbckfcaaGreatDoorKay
import Derived.Test.YtmlginohbckfcaaGreatDoorKaz
import Derived.Test.YtmlginohbckfcaaGreatDoorKba
import Derived.Test.YtmlginohbckfcaaGreatDoorKbb
import Derived.Test.YtmlginohbckfcaaGreatDoorKbc
import Derived.Test.YtmlginohbckfcaaGreatDoorKbd
import Derived.Test.YtmlginohbckfcaaGreatDoorKbe
import Derived.Test.YtmlginohbckfcaaGreatDoorKbf
import Derived.Test.YtmlginohbckfcaaGreatDoorKbg
import Derived.Test.YtmlginohbckfcaaGreatDoorKbh
import Derived.Test.YtmlginohbckfcaaGreatDoorKbi
import Derived.Test.YtmlginohbckfcaaGreatDoorKbj
section
namespace Go.Proofs.YtmlginohbckfcaaGreatDoor.Y
set_option linter.unusedSimpArgs false
set_option linter.unusedVariables false
theorem op_ctl (s : Scr) (A : Int → Int → Int) (n m : Int) (t l : List Int) : s.op A 61 n m t l = s.ctl n := by
  simp [Scr.op, Scr.other]
theorem clamp0 (n : Nat) : clampN 0 n = 0 := by unfold clampN; omega
theorem next_law (s : Scr) (A : Int → Int → Int) (n : Int) : s.play A [⟨1, n, 0, [], []⟩, ⟨61, 13, 0, [], []⟩] = s.play A [⟨4, n, 0, [], []⟩] := by
  show ((s.op A 1 n 0 [] []).op A 61 13 0 [] []) = s.op A 4 n 0 [] []
  rw [op_ctl]
  simp [Scr.op, Scr.ctl, Scr.move, Scr.atX, clamp0]
theorem prev_law (s : Scr) (A : Int → Int → Int) (n : Int) : s.play A [⟨0, n, 0, [], []⟩, ⟨61, 13, 0, [], []⟩] = s.play A [⟨5, n, 0, [], []⟩] := by
  show ((s.op A 0 n 0 [] []).op A 61 13 0 [] []) = s.op A 5 n 0 [] []
  rw [op_ctl]
  simp [Scr.op, Scr.ctl, Scr.move, Scr.atX, clamp0]
end Go.Proofs.YtmlginohbckfcaaGreatDoor.Y
end
section
namespace Go.Proofs.YtmlginohbckfcaaGreatDoor.Y
open Go.RowKit Go.Proofs.YtmlginohbckfcaaGreatDoorW.PrintWords Go.Proofs.YtmlginohbckfcaaGreatDoorW.PrintLast Go.Proofs.YtmlginohbckfcaaGreatDoorW.PrintMore
set_option linter.unusedSimpArgs false
set_option linter.unusedVariables false
/-- An operation of a number: its text, and how it is read. -/
theorem num_piece (k n : Nat) (hk : k ≤ 22) (h7 : k ≠ 7) (h8 : k ≠ 8) (h1 : 1 ≤ n) (hn : n ≤ 99) : ∃ t e, impl_MakeNumber.f k n = some t ∧ One t e ∧ Good (⟨k, n, 0, ⟨#[]⟩, []⟩, [e]) := by
  obtain ⟨t, e, h2, h3⟩ := num_one k n hk h7 h8 hn
  obtain ⟨h4, h5⟩ := num_read k n hk h7 h8 hn (Or.inl (by omega)) h2 h3
  exact ⟨t, e, h2, h3, Or.inr ⟨by show (k : Int) ≠ 60; omega, e, rfl, Or.inr (Or.inl ⟨h4, h5⟩)⟩⟩
end Go.Proofs.YtmlginohbckfcaaGreatDoor.Y
end
section
namespace Go.Proofs.YtmlginohbckfcaaGreatDoor.Y
open Go.RowKit Go.Proofs.YtmlginohbckfcaaGreatDoorW.PrintWords Go.Proofs.YtmlginohbckfcaaGreatDoorW.PrintLast Go.Proofs.YtmlginohbckfcaaGreatDoorW.PrintMore
set_option linter.unusedSimpArgs false
set_option linter.unusedVariables false
set_option maxRecDepth 100000
set_option maxHeartbeats 8000000
def laws_FnDrawLines.f (l : List Op) (a b : Int) : Option Bool := if (0 ≤ a ∧ a ≤ 255) ∧ 0 ≤ b ∧ b ≤ 255 then some true else none
/-- What a text runs to, told for one screen. -/
abbrev Fed (S : ByteArray) (bl : List Int) (el : List S69) (ops : List Op) : Prop :=
  gosem_conv.f S = some bl ∧ impl_Feed.f 32 4096 bl = some el ∧ el.length ≤ 1000 ∧ spec_DrawRead.f (el.map cv) = some (ops, true) ∧ (∀ o ∈ ops, Does o) ∧ ops.length ≤ 100
theorem num_does (k n : Nat) (hk : k ≤ 22) (h7 : k ≠ 7) (h8 : k ≠ 8) (h10 : k ≠ 10 ∧ k ≠ 11) (h1 : 1 ≤ n) (hn : n ≤ 99) : Does ⟨k, n, 0, ⟨#[]⟩, []⟩ :=
  ⟨Or.inl ⟨by show (0 : Int) ≤ (k : Int) ∧ (k : Int) ≤ 22 ∧ (k : Int) ≠ 7 ∧ (k : Int) ≠ 8; omega, by show (if (k : Int) = 10 ∨ (k : Int) = 11 then 0 ≤ (n : Int) ∧ (n : Int) ≤ 2 else 1 ≤ (n : Int) ∧ (n : Int) ≤ 99); rw [if_neg (by omega)]; omega⟩,
    by show (0 : Int) ≤ n ∧ (n : Int) ≤ 99 ∧ (0 : Int) ≤ 0 ∧ (0 : Int) ≤ 99 ∧ ((k : Int) = 42 → (1 : Int) ≤ n); omega⟩
theorem lines_plan (l : List Op) (h : RightPlan l) (st : ByteArray) (q : List (Op × List X.Ev)) (p2 : st.size ≤ 2000) (p3 : X.run .gr (X.nb st) = some (.gr, (q.map (·.2)).flatten)) (p4 : ((q.map (·.2)).flatten).length ≤ 400) (p5 : q.map (·.1) = l) (p6 : ∀ p ∈ q, Good p) (p7 : Apart false l)
    (ka kb : Nat) (hk : (ka = 4 ∧ kb = 1) ∨ (ka = 5 ∧ kb = 0)) (n : Nat) (h1 : 1 ≤ n) (h9 : n ≤ 99) (s : Scr) :
    ∃ (ta tb : ByteArray) (b1 b2 : List Int) (o1 o2 : List Op) (e1 e2 : List S69), impl_MakeNumber.f ka n = some ta ∧ impl_MakeNumber.f kb n = some tb ∧ (ta.size ≤ 100 ∧ tb.size ≤ 100) ∧ Fed (st ++ ta) b1 e1 o1 ∧ Fed (st ++ tb ++ ⟨#[13]⟩) b2 e2 o2 ∧ s.play attrA (o1.map po) = s.play attrA (o2.map po) := by
  obtain ⟨ta, ea, a1, a2, a3⟩ := num_piece ka n (by omega) (by omega) (by omega) h1 h9
  obtain ⟨tb, eb, b1, b2, b3⟩ := num_piece kb n (by omega) (by omega) (by omega) h1 h9
  have hl := h.2.2
  have sa := a2.size
  have sb := b2.size
  have s3 : (⟨#[13]⟩ : ByteArray).size = 1 := rfl
  let cr : Op := ⟨61, 13, 0, ⟨#[]⟩, []⟩
  have gc : Good (cr, [X.evExec 13]) := Or.inr ⟨by decide, _, rfl, Or.inl ⟨rfl, ⟨by decide, by decide⟩, rfl⟩⟩
  have dc : Does cr := ⟨Or.inr (Or.inr (Or.inr (Or.inr (Or.inr (Or.inr (Or.inr ⟨rfl, Or.inl rfl⟩)))))), by show (0 : Int) ≤ 13 ∧ (13 : Int) ≤ 99 ∧ (0 : Int) ≤ 0 ∧ (0 : Int) ≤ 99 ∧ ((61 : Int) = 42 → (1 : Int) ≤ 13); omega⟩
  obtain ⟨el1, f1, f2, f3, f4⟩ := text_fed (st ++ ta) (by simp only [ByteArray.size_append]; omega) (q ++ [(⟨ka, n, 0, ⟨#[]⟩, []⟩, [ea])])
    (by rw [X.nb_append, X.run_of p3 a2.run]; simp)
    (fun p hp => by
      rcases List.mem_append.1 hp with hp | hp
      · exact p6 p hp
      · rw [List.mem_singleton.1 hp]; exact a3)
    (by
      simp only [List.map_append, List.map_cons, List.map_nil, p5]
      exact apart_snoc _ _ _ p7 ⟨fun hh => absurd hh.2 (by show (ka : Int) ≠ 60; omega), trivial⟩)
    (by simp only [List.map_cons, List.map_append, List.flatten_cons, List.flatten_append, List.length_append, List.length_cons, List.length_nil, List.map_nil, List.flatten_nil]; omega)
  obtain ⟨el2, g1, g2, g3, g4⟩ := text_fed (st ++ tb ++ ⟨#[13]⟩) (by simp only [ByteArray.size_append]; omega) (q ++ [(⟨kb, n, 0, ⟨#[]⟩, []⟩, [eb]), (cr, [X.evExec 13])])
    (by rw [X.nb_append, X.nb_append, X.run_of (X.run_of p3 b2.run) (show X.run .gr (X.nb ⟨#[13]⟩) = some (.gr, [X.evExec 13]) from rfl)]; simp)
    (fun p hp => by
      simp only [List.mem_cons, List.mem_append, List.mem_singleton, List.not_mem_nil, or_false] at hp
      rcases hp with hp | rfl | rfl
      · exact p6 p hp
      · exact b3
      · exact gc)
    (by
      simp only [List.map_append, List.map_cons, List.map_nil, p5]
      exact apart_snoc _ _ _ p7 ⟨fun hh => absurd hh.2 (by show (kb : Int) ≠ 60; omega), apart_cons _ _ _ (by decide) trivial⟩)
    (by simp only [List.map_cons, List.map_append, List.flatten_cons, List.flatten_append, List.length_append, List.length_cons, List.length_nil, List.map_nil, List.flatten_nil]; omega)
  simp only [List.map_append, List.map_cons, List.map_nil, p5] at f4 g4
  refine ⟨ta, tb, _, _, _, _, el1, el2, a1, b1, ⟨sa, sb⟩, ⟨f1, f2, f3, f4, fun o ho => ?_, by simp only [List.length_append, List.length_cons, List.length_nil]; omega⟩, ⟨g1, g2, g3, g4, fun o ho => ?_, by simp only [List.length_append, List.length_cons, List.length_nil]; omega⟩, ?_⟩
  · rcases List.mem_append.1 ho with ho | ho
    · exact right_does (h.1 o ho)
    · rw [List.mem_singleton.1 ho]
      exact num_does ka n (by omega) (by omega) (by omega) (by omega) h1 h9
  · simp only [List.mem_cons, List.mem_append, List.mem_singleton, List.not_mem_nil, or_false] at ho
    rcases ho with ho | rfl | rfl
    · exact right_does (h.1 o ho)
    · exact num_does kb n (by omega) (by omega) (by omega) (by omega) h1 h9
    · exact dc
  · rw [List.map_append, List.map_append, play_append, play_append]
    have hb : bytesOf ⟨#[]⟩ = [] := rfl
    rcases hk with ⟨rfl, rfl⟩ | ⟨rfl, rfl⟩
    · exact (next_law _ attrA (n : Int)).symm
    · exact (prev_law _ attrA (n : Int)).symm
theorem laws_FnDrawLines.calls (A0 : Option Addr) (c0 : Nat) (l0 : List Op) (a1 a2 : Int) (r : Bool) (w : World) (hT : XTab w) (hr0 : Kd.C k42 w A0 l0.length l0) (hc0 : l0.length ≤ c0) (h : laws_FnDrawLines.f l0 a1 a2 = some r) :
    Calls Tryz.prog 5 #[.slice A0 l0.length c0, .int .u8 a1, .int .u8 a2] w fun e w' => e = .returned (.bool r) ∧ Below w.heap.size w w' := by
  unfold laws_FnDrawLines.f at h
  split at h
  case isFalse => cases h
  rename_i ha
  obtain rfl := Option.some.inj h
  obtain ⟨b0, f0, f1⟩ := fits_f l0 3000000000 (by omega)
  obtain ⟨Wd, H, z1, z2, z3⟩ := size_f2 a2 ha.2.1 ha.2.2
  have HI := Lib.hid (And.intro hT (And.intro hr0 (And.intro hc0 (And.intro ha z1))))
  have HZ := Lib.hid (And.intro z2 z3)
  have HF := Lib.hid f1
  clear h hT hr0 hc0 ha f1 z1 z2 z3
  go_enter Tryz.func5, Tryz.ntmps5
  go_wp2_with fail
  with_reducible refine (laws_zzFits3.calls 3000000000 _ _ l0 b0 _ HI.out.2.1 HI.out.2.2.1 f0).mono ?_
  rintro e w1 ⟨rfl, hb⟩
  have H1 := Lib.hid hb
  clear hb f0
  cases b0 with
  | false =>
    go_wp2_with fail
    go_ret
    exact ⟨rfl, H1.out⟩
  | true =>
    have HE := Lib.hid (fun (V : World) (hV : Below w.heap.size w V) => show Calls Tryz.prog 12 #[] V fun e w' => e = .returned (.bool true) ∧ Hid (Below w.heap.size w w') by
      refine (laws_drawAwake.calls true V (XTab.below HI.out.1 hV) awake).mono ?_
      rintro e w3 ⟨rfl, hb⟩
      exact ⟨rfl, below_step hV hb⟩)
    go_wp2_with fail
    refine (isPlan_calls _ _ l0 _ (Kd.C_below HI.out.2.1 H1.out) HI.out.2.2.1 (HF.out (by trivial))).mono ?_
    rintro e w2 ⟨b1, rfl, g1, hb⟩
    have H2 := Lib.hid (below_step H1.out hb)
    have HG := Lib.hid g1
    clear hb g1 H1
    cases b1 with
    | false =>
      go_wp2_with fail
      refine (HE.out _ H2.out).mono ?_
      rintro e w3 ⟨rfl, H3⟩
      go_wp2_with fail
      go_ret
      exact ⟨rfl, H3.out⟩
    | true =>
      obtain ⟨st, q, p1, p2, p3, p4, p5, p6, p7⟩ := plan_text l0 (HG.out (by trivial))
      have hstr := str_bytes st
      generalize bytesOf st = tl at p1 hstr
      obtain ⟨n, hn, hn9⟩ : ∃ n : Nat, Int.tmod a1 9 = (n : Int) ∧ n < 9 := by
        have := HI.out.2.2.2.1
        exact ⟨(a1 % 9).toNat, by rw [Int.tmod_eq_emod_of_nonneg (by omega)]; omega, by omega⟩
      have HP := Lib.hid (And.intro p1 (And.intro hstr (And.intro p2 (fun (ka kb : Nat) (hk : (ka = 4 ∧ kb = 1) ∨ (ka = 5 ∧ kb = 0)) => lines_plan l0 (HG.out (by trivial)) st q p2 p3 p4 p5 p6 p7 ka kb hk (n + 1) (by omega) (by omega) (newScr Wd H)))))
      have e7 : IntKind.i64.wrap ((n : Int) + 1) = (n : Int) + 1 := by rw [IntKind.wrap_i64]; omega
      have e6 : IntKind.i64.wrap (n : Int) = (n : Int) := by rw [IntKind.wrap_i64]; omega
      clear p1 p2 p3 p4 p5 p6 p7 hstr
      go_wp2_with fail
      with_reducible refine (laws_drawSize.calls a2 Wd H _ HI.out.2.2.2.2).mono ?_
      rintro e w3 ⟨rfl, ⟨nd, rfl⟩⟩
      have H3 := Lib.hid (pw_below_drewN H2.out nd)
      generalize (World.drewN _ nd) = w3 at H3 ⊢
      clear H2
      go_wp2_with fail
      with_reducible refine (laws_drawText.calls 400 _ _ l0 tl _ (XTab.below HI.out.1 H3.out) (Kd.C_below HI.out.2.1 H3.out) HI.out.2.2.1 HP.out.1).mono ?_
      rintro e w5 ⟨v5, rfl, hv, hb⟩
      obtain ⟨A5, c5, rfl, hc5, hf5⟩ := hv
      have hcv := Kd.C_string (P := Tryz.prog) (w := w5) (src := 30) (dst := 9) (e := 5) (c := c5) Tryz.underlying30 Tryz.underlying5 Tryz.underlying9 (Kd.F_now hf5)
      rw [HP.out.2.1] at hcv
      have H5 := Lib.hid (below_step H3.out hb)
      clear hb hc5 hf5 H3
      go_upto_region 8 with fail
      clear hcv
      go_wp2_with fail
      obtain ⟨V, hV⟩ : ∃ V, V = w5.alloc (Obj.cells #[.int .i64 4, .int .i64 1, .int .i64 5, .int .i64 0] 48) := ⟨_, rfl⟩
      rw [← hV]
      have HV := Lib.hid (show V.heap[w5.heap.size]? = some (Obj.cells #[.int .i64 4, .int .i64 1, .int .i64 5, .int .i64 0] 48 (0, 0)) ∧ Below w.heap.size w V by rw [hV]; exact ⟨blk_new w5 _, below_alloc H5.out _⟩)
      clear hV
      go_loopg [40] 2 (fun kq v40 w' => ∃ i : Nat, v40 = .int .i64 (i : Int) ∧ i + kq = 2 ∧ Hid (w'.heap[w5.heap.size]? = some (Obj.cells #[.int .i64 4, .int .i64 1, .int .i64 5, .int .i64 0] 48 (0, 0)) ∧ Below w.heap.size w w'))
      case atStart => exact ⟨0, rfl, by omega, HV.out⟩
      case round =>
        clear HV
        obtain ⟨i, rfl, hk, hA⟩ := hrel
        by_cases hi : i < 2
        · obtain ⟨ka, kb, hkk, t0, t1⟩ : ∃ ka kb : Nat, ((ka = 4 ∧ kb = 1) ∨ (ka = 5 ∧ kb = 0)) ∧ wr.cell? ⟨w5.heap.size, i * 2, none⟩ = some (.int .i64 (ka : Int)) ∧ wr.cell? ⟨w5.heap.size, i * 2 + 1, none⟩ = some (.int .i64 (kb : Int)) := by
            rcases (show i = 0 ∨ i = 1 by omega) with rfl | rfl
            · exact ⟨4, 1, Or.inl ⟨rfl, rfl⟩, blk_cell hA.out.1 0, blk_cell hA.out.1 1⟩
            · exact ⟨5, 0, Or.inr ⟨rfl, rfl⟩, blk_cell hA.out.1 2, blk_cell hA.out.1 3⟩
          have d3 : (i : Int) < 2 := by omega
          have i0 : (0 : Int) ≤ (i : Int) := by omega
          have f1 : IntKind.i64.wrap ((i : Int) + 1) = ((i + 1 : Nat) : Int) := by rw [IntKind.wrap_i64]; omega
          obtain ⟨ta, tb, bl1, bl2, o1, o2, el1, el2, m1, m2, ⟨m3, m4⟩, x, y, hplay⟩ := HP.out.2.2.2 ka kb hkk
          push_cast at m1 m2
          have HM := Lib.hid (And.intro m1 (And.intro m2 (And.intro x (And.intro y hplay))))
          have HS := Lib.hid (And.intro m3 m4)
          clear m1 m2 m3 m4 x y hplay hkk
          go_upto_region 11 with fail
          obtain ⟨U, hU⟩ : ∃ U, U = wr.alloc (Obj.cells #[.int .i64 (ka : Int), .int .i64 (kb : Int)] 48) := ⟨_, rfl⟩
          rw [← hU]
          have hx : U.heap[wr.heap.size]? = some (Obj.cells #[.int .i64 (ka : Int), .int .i64 (kb : Int)] 48 (0, 0)) := by rw [hU]; exact blk_new wr _
          have HU := Lib.hid (show U.heap[wr.heap.size]? = some (Obj.cells #[.int .i64 (ka : Int), .int .i64 (kb : Int)] 48 (0, 0)) ∧ Below wr.heap.size wr U from ⟨hx, by rw [hU]; exact below_alloc (Below.refl _ _) _⟩)
          have z0 : U.cell? ⟨wr.heap.size, 0, none⟩ = some (.int .i64 (ka : Int)) := blk_cell hx 0
          clear hU hx t0 t1
          go_wp2_with fail
          with_reducible refine (impl_MakeNumber.calls (ka : Int) ((n : Int) + 1) ta _ (XTab.below HI.out.1 (below_step hA.out.2 HU.out.2)) HM.out.1).mono ?_
          rintro e w8 ⟨rfl, hb⟩
          have H8 := Lib.hid (And.intro (below_step (below_step hA.out.2 HU.out.2) hb) hb)
          have s1 : st.size + ta.size ≤ 9223372036854775807 := by have := HP.out.2.2.1; have := HS.out; omega
          clear hb z0
          go_wp2_with (first | ((with_reducible refine gate_dst (N := 53) rfl ?_); refine conv_ev 9 30 5 rfl rfl Tryz.underlying9 Tryz.underlying30 Tryz.underlying5 (st ++ ta) rfl HM.out.2.2.1.1 ?_; rintro e w6 ⟨v6, rfl, ho0, hb⟩; refine ⟨_, rfl, ?_⟩; obtain ⟨A6, c6, rfl, hc6, hf6⟩ := ho0; have H6 := Lib.hid (And.intro (below_step H8.out.1 hb) (And.intro hc6 (And.intro (Kd.F_now hf6) hb))); clear hb hc6 hf6))
          with_reducible refine (impl_Feed.calls 32 4096 _ _ bl1 el1 _ H6.out.2.2.1 H6.out.2.1 HM.out.2.2.1.2.1).mono ?_
          rintro e w7 ⟨v7, rfl, hv, hb⟩
          have hv2 : Kd.V k69 69 w7 w7.heap.size (fun _ => True) v7 el1 := Kd.S_V hv
          obtain ⟨A7, c7, rfl⟩ := Kd.S_slice hv
          have H7 := Lib.hid (And.intro (below_step H6.out.1 hb) (And.intro hv2 (below_step H6.out.2.2.2 hb)))
          clear hb hv hv2 H6
          go_wp2_with fail
          refine (screen_calls A7 c7 el1 (fun _ => True) w7 H7.out.2.1 (by have := HM.out.2.2.1.2.2.1; omega) o1 HM.out.2.2.1.2.2.2.1 HM.out.2.2.1.2.2.2.2.1 (by have := HM.out.2.2.1.2.2.2.2.2; omega) Wd H (by have := HZ.out; omega) (by have := HZ.out; omega)).mono ?_
          rintro e w9 ⟨g, rfl, ho⟩
          have hub := below_step (below_step H8.out.2 H7.out.2.2) ho.out.2
          have z1 : w9.cell? ⟨wr.heap.size, 1, none⟩ = some (.int .i64 (kb : Int)) := (hub.cell (blk_lt HU.out.1)).trans (blk_cell HU.out.1 1)
          have H9 := Lib.hid (And.intro (below_step H7.out.1 ho.out.2) (And.intro ho.out.1 hub))
          clear ho H7 H8 hub s1
          go_wp2_with fail
          with_reducible refine (impl_MakeNumber.calls (kb : Int) ((n : Int) + 1) tb _ (XTab.below HI.out.1 H9.out.1) HM.out.2.1).mono ?_
          rintro e w10 ⟨rfl, hb⟩
          have H10 := Lib.hid (And.intro (below_step H9.out.1 hb) hb)
          have s0 : (⟨#[13]⟩ : ByteArray).size = 1 := rfl
          have s1 : st.size + tb.size ≤ 9223372036854775807 := by have := HP.out.2.2.1; have := HS.out; omega
          have s2 : st.size + tb.size + 1 ≤ 9223372036854775807 := by have := HP.out.2.2.1; have := HS.out; omega
          clear hb z1
          go_wp2_with (first | ((with_reducible refine gate_dst (N := 68) rfl ?_); refine conv_ev 9 30 5 rfl rfl Tryz.underlying9 Tryz.underlying30 Tryz.underlying5 (st ++ tb ++ ⟨#[13]⟩) rfl HM.out.2.2.2.1.1 ?_; rintro e w6 ⟨v6, rfl, ho0, hb⟩; refine ⟨_, rfl, ?_⟩; obtain ⟨A6, c6, rfl, hc6, hf6⟩ := ho0; have H6 := Lib.hid (And.intro (below_step H10.out.1 hb) (And.intro hc6 (And.intro (Kd.F_now hf6) hb))); clear hb hc6 hf6))
          with_reducible refine (impl_Feed.calls 32 4096 _ _ bl2 el2 _ H6.out.2.2.1 H6.out.2.1 HM.out.2.2.2.1.2.1).mono ?_
          rintro e w7 ⟨v7, rfl, hv, hb⟩
          have hv2 : Kd.V k69 69 w7 w7.heap.size (fun _ => True) v7 el2 := Kd.S_V hv
          obtain ⟨A7, c7, rfl⟩ := Kd.S_slice hv
          have H7 := Lib.hid (And.intro (below_step H6.out.1 hb) (And.intro hv2 (below_step H6.out.2.2.2 hb)))
          clear hb hv hv2 H6
          go_wp2_with fail
          refine (screen_calls A7 c7 el2 (fun _ => True) w7 H7.out.2.1 (by have := HM.out.2.2.2.1.2.2.1; omega) o2 HM.out.2.2.2.1.2.2.2.1 HM.out.2.2.2.1.2.2.2.2.1 (by have := HM.out.2.2.2.1.2.2.2.2.2; omega) Wd H (by have := HZ.out; omega) (by have := HZ.out; omega)).mono ?_
          rintro e w11 ⟨g2, rfl, ho⟩
          obtain ⟨B1, T1, c1, bs1, hB1, ha1⟩ := H9.out.2.1
          obtain ⟨B2, T2, c2, bs2, hB2, ha2⟩ := ho.out.1
          have hb9 := below_step (below_step H10.out.2 H7.out.2.2) ho.out.2
          have ha3 := ha1.below hb9
          rw [HM.out.2.2.2.2] at ha3
          have hlb := blk_below hA.out.1 (below_step HU.out.2 (below_step H9.out.2.2 hb9))
          have H11 := Lib.hid (And.intro (below_step H7.out.1 ho.out.2) (And.intro ha3 (And.intro ha2 hlb)))
          clear ho H7 H9 H10 ha1 ha2 ha3 hb9 hlb
          go_wp2_with fail
          refine (same_calls H11.out.2.1 H11.out.2.2.1 (does_fine attrA o2 (new_fine Wd H (by have := HZ.out; omega) (by have := HZ.out; omega) (by have := HZ.out; omega) (by have := HZ.out; omega)) HM.out.2.2.2.1.2.2.2.2.1)).mono ?_
          rintro e w12 ⟨rfl, hb⟩
          have H12 := Lib.hid (And.intro (blk_below H11.out.2.2.2 hb) (below_step H11.out.1 hb))
          clear hb H11
          go_wp2_with fail
          go_roundg (2 - (i + 1))
          case measure => omega
          case rel => exact ⟨i + 1, rfl, by omega, H12.out⟩
        · have d3 : decide ((i : Int) < 2) = false := decide_eq_false (by omega)
          go_wp2_with fail
          refine (HE.out _ hA.out.2).mono ?_
          rintro e w12 ⟨rfl, H12⟩
          go_wp2_with fail
          go_ret
          exact ⟨rfl, H12.out⟩
theorem FnDrawLines_true {Q : Op → Prop} (l : List Op) (_ : l.length ≤ maxLen) (_ : ∀ a ∈ l, Q a) (a1 : Int) (h1 : (Lit.int .u8 a1).wf = true) (a2 : Int) (h2 : (Lit.int .u8 a2).wf = true) : laws_FnDrawLines.f l a1 a2 = some true := by
  have k1 : 0 ≤ a1 ∧ a1 ≤ 255 := by simpa [Lit.wf, IntKind.min, IntKind.max, IntKind.signed, IntKind.bits] using h1
  have k2 : 0 ≤ a2 ∧ a2 ≤ 255 := by simpa [Lit.wf, IntKind.min, IntKind.max, IntKind.signed, IntKind.bits] using h2
  exact if_pos ⟨k1, k2⟩
end Go.Proofs.YtmlginohbckfcaaGreatDoor.Y
end
