/- Texts of this claim, joined: XScrLaw XScrRun XScrLaws XLawAgain. Of each, what the claim uses. -/
import Derived.Test.YtmlginohbckfcaaGreatDoorKaa
import Derived.Test.YtmlginohbckfcaaGreatDoorKab
import Derived.Test.YtmlginohbckfcaaGreatDoorKac
import Derived.Test.YtmlginohbckfcaaGreatDoorKad
import Derived.Test.YtmlginohbckfcaaGreatDoorKae
import Derived.Test.YtmlginohbckfcaaGreatDoorKaf
import Derived.Test.YtmlginohbckfcaaGreatDoorKag
import Derived.Test.YtmlginohbckfcaaGreatDoorKah
import Derived.Test.YtmlginohbckfcaaGreatDoorKai
import Derived.Test.YtmlginohbckfcaaGreatDoorKaj
import Derived.Test.YtmlginohbckfcaaGreatDoorKak
import Derived.Test.YtmlginohbckfcaaGreatDoorKal
import Derived.Test.YtmlginohbckfcaaGreatDoorKam
import Derived.Test.YtmlginohbckfcaaGreatDoorKan
import Derived.Test.YtmlginohbckfcaaGreatDoorKao
import Derived.Test.YtmlginohbckfcaaGreatDoorKap
import Derived.Test.YtmlginohbckfcaaGreatDoorKaq
import Derived.Test.YtmlginohbckfcaaGreatDoorKar
import Derived.Test.YtmlginohbckfcaaGreatDoorKas
import Derived.Test.YtmlginohbckfcaaGreatDoorKat
import Derived.Test.YtmlginohbckfcaaGreatDoorKau
import Derived.Test.YtmlginohbckfcaaGreatDoorKav
import Derived.Test.YtmlginohbckfcaaGreatDoorKaw
import Derived.Test.YtmlginohbckfcaaGreatDoorKax
import Derived.Test.YtmlginohbckfcaaGreatDoorKay
import Derived.Test.YtmlginohbckfcaaGreatDoorKaz
import Derived.Test.YtmlginohbckfcaaGreatDoorKba
import Derived.Test.YtmlginohbckfcaaGreatDoorKbb
import Derived.Test.YtmlginohbckfcaaGreatDoorKbc
import Derived.Test.YtmlginohbckfcaaGreatDoorKbd
import Derived.Test.YtmlginohbckfcaaGreatDoorKbe
import Derived.Test.YtmlginohbckfcaaGreatDoorKbf
import Derived.Test.YtmlginohbckfcaaGreatDoorKbg
import Derived.Test.YtmlginohbckfcaaGreatDoorKbh
import Derived.Test.YtmlginohbckfcaaGreatDoorKbi
import Derived.Test.YtmlginohbckfcaaGreatDoorKbj
import Derived.Deep.QuietTactic
import Derived.BigQuiet
section
namespace Go.Proofs.YtmlginohbckfcaaGreatDoor.Y
set_option linter.unusedSimpArgs false
set_option linter.unusedVariables false
theorem op_text (s : Scr) (A : Int → Int → Int) (n m : Int) (t l : List Int) : s.op A 60 n m t l = s.chars t := by
  simp [Scr.op, Scr.other]
theorem again_chars (c : Int) (hc : c ≠ 0) : ∀ (n : Nat) (s : Scr), s.last = c → iter Scr.again n s = s.chars (List.replicate n c)
  | 0, _, _ => rfl
  | n + 1, s, h => by
    have h1 : s.again = s.put c := by rw [Scr.again, if_neg (by rw [h]; exact hc), h]
    rw [iter, h1, again_chars c hc n (s.put c) rfl]
    rfl
/-- To repeat a character is to write it so many times more. -/
theorem again_law (s : Scr) (A : Int → Int → Int) (c : Int) (hc : c ≠ 0) (n : Nat) : s.play A [⟨60, 0, 0, [c], []⟩, ⟨22, n, 0, [], []⟩] = s.play A [⟨60, 0, 0, c :: List.replicate n c, []⟩] := by
  show ((s.op A 60 0 0 [c] []).op A 22 n 0 [] []) = s.op A 60 0 0 (c :: List.replicate n c) []
  rw [op_text, op_text, op_again, Int.toNat_natCast]
  exact again_chars c hc n (s.put c) rfl
end Go.Proofs.YtmlginohbckfcaaGreatDoor.Y
end
section
namespace Go.Proofs.YtmlginohbckfcaaGreatDoor.Y
open Go.RowKit Go.Proofs.YtmlginohbckfcaaGreatDoorW.PrintWords Go.Proofs.YtmlginohbckfcaaGreatDoorW.PrintLast Go.Proofs.YtmlginohbckfcaaGreatDoorW.PrintMore
set_option linter.unusedSimpArgs false
set_option linter.unusedVariables false
/-- An operation of a number: its text, and how it is read. -/
theorem num_piece (k n : Nat) (hk : k ≤ 22) (h7 : k ≠ 7) (h8 : k ≠ 8) (h1 : 1 ≤ n) (hn : n ≤ 99) : ∃ t e, impl_MakeNumber.f k n = some t ∧ One t e ∧ Good (⟨k, n, 0, ⟨#[]⟩, []⟩, [e]) := by
  obtain ⟨t, e, h2, h3⟩ := num_one k n hk h7 h8 hn
  obtain ⟨h4, h5⟩ := num_read k n hk h7 h8 hn (Or.inl (by omega)) h2 h3
  exact ⟨t, e, h2, h3, Or.inr ⟨by show (k : Int) ≠ 60; omega, e, rfl, Or.inr (Or.inl ⟨h4, h5⟩)⟩⟩
end Go.Proofs.YtmlginohbckfcaaGreatDoor.Y
end
section
namespace Go.Proofs.YtmlginohbckfcaaGreatDoor.Y
open Go.RowKit Go.Proofs.YtmlginohbckfcaaGreatDoorW.PrintWords Go.Proofs.YtmlginohbckfcaaGreatDoorW.PrintLast Go.Proofs.YtmlginohbckfcaaGreatDoorW.PrintMore
set_option linter.unusedSimpArgs false
set_option linter.unusedVariables false
theorem apart_last : ∀ (l : List Op) (b : Bool) (m : List Op), Apart b l → (∀ o, l.getLast? = some o → o.f0 ≠ 60) → (l = [] → b = false) → Apart false m → Apart b (l ++ m)
  | [], b, m, _, _, hb, hm => by rw [hb rfl]; exact hm
  | [o], b, m, h, hl, _, hm => ⟨h.1, by rw [decide_eq_false (hl o rfl)]; exact hm⟩
  | o :: p :: r, b, m, h, hl, _, hm => ⟨h.1, apart_last (p :: r) _ m h.2 (fun x hx => hl x (by rw [List.getLast?_cons_cons]; exact hx)) (fun e => by cases e) hm⟩
end Go.Proofs.YtmlginohbckfcaaGreatDoor.Y
end
section
namespace Go.Proofs.YtmlginohbckfcaaGreatDoor.Y
open Go.RowKit Go.Proofs.YtmlginohbckfcaaGreatDoorW.PrintWords Go.Proofs.YtmlginohbckfcaaGreatDoorW.PrintLast Go.Proofs.YtmlginohbckfcaaGreatDoorW.PrintMore
set_option linter.unusedSimpArgs false
set_option linter.unusedVariables false
set_option maxRecDepth 100000
set_option maxHeartbeats 8000000
def laws_FnDrawAgain.f (l : List Op) (a b c : Int) : Option Bool := if (0 ≤ a ∧ a ≤ 255) ∧ (0 ≤ b ∧ b ≤ 255) ∧ 0 ≤ c ∧ c ≤ 255 then some true else none
theorem read_long (x : List Op) (hn : ¬ EndsText x) (s : ByteArray) (hp : ∀ b ∈ s.data.toList, PByte b) (h1 : 1 ≤ s.size) (h20 : s.size ≤ 1000) : rdAll x ((charEvs s).map evS) = some (x ++ [⟨60, 0, 0, s, []⟩]) := by
  obtain ⟨⟨bs⟩⟩ := s
  have hsz : (⟨⟨bs⟩⟩ : ByteArray).size = bs.length := rfl
  cases bs with
  | nil => exact absurd h1 (by decide)
  | cons b bs =>
    rw [List.length_cons] at hsz
    have h0 : (⟨#[b]⟩ : ByteArray).size = 1 := rfl
    have e : (charEvs ⟨⟨b :: bs⟩⟩).map evS = evS (X.evPrint b.toNat) :: bs.map fun b => evS (X.evPrint b.toNat) := by simp [charEvs, Function.comp_def]
    rw [e, rdAll, rd_first b (hp b (by simp)) x hn, Option.bind_some, read_more x bs ⟨#[b]⟩ (fun c hc => hp c (List.mem_cons_of_mem _ hc)) (by omega),
      show (⟨#[b]⟩ : ByteArray) ++ (⟨bs.toArray⟩ : ByteArray) = ⟨⟨b :: bs⟩⟩ by apply ByteArray.ext; simp [ByteArray.data_append]]
/-- So many times a byte. -/
def reps (b : UInt8) (n : Nat) : ByteArray := ⟨(List.replicate n b).toArray⟩
theorem reps_size (b : UInt8) (n : Nat) : (reps b n).size = n := by simp [reps, ByteArray.size]
theorem reps_app (b : UInt8) (n m : Nat) : reps b n ++ reps b m = reps b (n + m) := by
  apply ByteArray.ext
  apply Array.toList_inj.1
  simp [reps, ByteArray.data_append, List.replicate_append_replicate]
theorem reps_bytes (b : UInt8) (n : Nat) : bytesOf (reps b n) = List.replicate n (b.toNat : Int) := by simp [bytesOf, reps]
theorem again_plan (l : List Op) (h : RightPlan l) (hlast : ∀ o, l.getLast? = some o → o.f0 ≠ 60) (b : UInt8) (hb : PByte b) (hb0 : (b.toNat : Int) ≠ 0) (k : Nat) (hk1 : 1 ≤ k) (hk2 : k ≤ 20) (s : Scr) : ∃ (st t : ByteArray) (tl b1 b2 : List Int) (o1 o2 : List Op) (e1 e2 : List S69),
    (laws_drawText.f 400 l = some tl ∧ strOfNums tl = st) ∧ impl_MakeNumber.f 22 k = some t ∧ (t.size ≤ 100 ∧ st.size ≤ 2000) ∧
    (gosem_conv.f (st ++ reps b 1 ++ t) = some b1 ∧ impl_Feed.f 32 4096 b1 = some e1 ∧ e1.length ≤ 1000 ∧ spec_DrawRead.f (e1.map cv) = some (o1, true) ∧ (∀ o ∈ o1, Does o) ∧ o1.length ≤ 100) ∧
    (gosem_conv.f (st ++ reps b 1 ++ reps b k) = some b2 ∧ impl_Feed.f 32 4096 b2 = some e2 ∧ e2.length ≤ 1000 ∧ spec_DrawRead.f (e2.map cv) = some (o2, true) ∧ (∀ o ∈ o2, Does o) ∧ o2.length ≤ 100) ∧
    s.play attrA (o1.map po) = s.play attrA (o2.map po) := by
  obtain ⟨st, q, p1, p2, p3, p4, p5, p6, p7⟩ := plan_text l h
  obtain ⟨t, e, h1, h3, h4⟩ := num_piece 22 k (by omega) (by omega) (by omega) hk1 (by omega)
  have hl := h.2.2
  have hsz := h3.size
  have rs1 := reps_size b 1
  have rsk := reps_size b k
  have hbs : ∀ n, ∀ x ∈ (reps b n).data.toList, PByte x := fun n x hx => by
    simp only [reps, List.mem_replicate] at hx
    rw [hx.2]
    exact hb
  have hrun : ∀ n, X.run .gr (X.nb (reps b n)) = some (.gr, charEvs (reps b n)) := fun n => text_run _ (hbs n)
  have hnt : ¬ EndsText l := fun ⟨y, o, hy, ho⟩ => hlast o (by rw [hy]; simp) ho
  have hone : PText (reps b 1) := ⟨hbs 1, by omega, by omega⟩
  obtain ⟨el, f1, f2, f3, f4⟩ := text_fed (st ++ reps b 1 ++ t) (by simp only [ByteArray.size_append]; omega) (q ++ [(⟨60, 0, 0, reps b 1, []⟩, charEvs (reps b 1)), (⟨(22 : Nat), k, 0, ⟨#[]⟩, []⟩, [e])])
    (by
      rw [X.nb_append, X.nb_append, X.run_of (X.run_of p3 (hrun 1)) h3.run]
      simp)
    (fun p hp => by
      simp only [List.mem_cons, List.mem_append, List.mem_singleton, List.not_mem_nil, or_false] at hp
      rcases hp with hp | rfl | rfl
      · exact p6 p hp
      · exact Or.inl ⟨rfl, rfl, hone⟩
      · exact h4)
    (by
      simp only [List.map_append, List.map_cons, List.map_nil, p5]
      exact apart_last l false _ p7 hlast (fun _ => rfl) ⟨fun hh => (by cases hh.1), apart_cons _ _ _ (by show ((22 : Nat) : Int) ≠ 60; decide) trivial⟩)
    (by
      have : (charEvs (reps b 1)).length = 1 := by simp [charEvs, reps]
      simp only [List.map_cons, List.map_append, List.flatten_cons, List.flatten_append, List.length_append, List.length_cons, List.length_nil, List.map_nil, List.flatten_nil]
      omega)
  simp only [List.map_append, List.map_cons, List.map_nil, p5] at f4
  have d60 : ∀ n, n ≤ 1000 → Does ⟨60, 0, 0, reps b n, []⟩ := fun n hn => ⟨Or.inr (Or.inr (Or.inr (Or.inr (Or.inr (Or.inr (Or.inl ⟨rfl, by show (reps b n).size ≤ 1000; rw [reps_size]; exact hn⟩)))))), by show (0 : Int) ≤ 0 ∧ (0 : Int) ≤ 99 ∧ (0 : Int) ≤ 0 ∧ (0 : Int) ≤ 99 ∧ ((60 : Int) = 42 → (1 : Int) ≤ 0); omega⟩
  have hrd : spec_DrawRead.f (((((q.map (·.2)).flatten ++ charEvs (reps b (1 + k))).map X.toS)).map cv) = some (l ++ [⟨60, 0, 0, reps b (1 + k), []⟩], true) := by
    have ha := read_all q [] false p6 (by rw [p5]; exact p7) (fun ⟨y, o, hy, _⟩ => by simp at hy)
    rw [p5, List.nil_append] at ha
    have hc : (charEvs (reps b (1 + k))).length = 1 + k := by simp [charEvs, reps]
    rw [List.map_map, show (cv ∘ X.toS) = evS from rfl]
    unfold spec_DrawRead.f
    rw [if_pos (by rw [List.length_map, List.length_append]; omega), List.map_append, rd_append, ha, Option.bind_some, read_long l hnt _ (hbs _) (by rw [reps_size]; omega) (by rw [reps_size]; omega)]
    rfl
  refine ⟨st, t, _, _, _, _, _, el, _, ⟨p1, str_bytes st⟩, h1, ⟨hsz, p2⟩, ⟨f1, f2, f3, f4, fun o ho => ?_, by simp only [List.length_append, List.length_cons, List.length_nil]; omega⟩,
    ⟨conv_f _ (by simp only [ByteArray.size_append]; omega), feed_f (st ++ reps b 1 ++ reps b k) (by simp only [ByteArray.size_append]; omega) (evs := (q.map (·.2)).flatten ++ charEvs (reps b (1 + k))) (by
      rw [ByteArray.append_assoc, reps_app, X.nb_append]
      exact X.run_of p3 (hrun _)), by
      have hc : (charEvs (reps b (1 + k))).length = 1 + k := by simp [charEvs, reps]
      rw [List.length_map, List.length_append]; omega, hrd, fun o ho => ?_, by simp only [List.length_append, List.length_cons, List.length_nil]; omega⟩, ?_⟩
  · simp only [List.mem_cons, List.mem_append, List.mem_singleton, List.not_mem_nil, or_false] at ho
    rcases ho with ho | rfl | rfl
    · exact right_does (h.1 o ho)
    · exact d60 1 (by omega)
    · exact ⟨Or.inl ⟨by show (0 : Int) ≤ (22 : Nat) ∧ ((22 : Nat) : Int) ≤ 22 ∧ ((22 : Nat) : Int) ≠ 7 ∧ ((22 : Nat) : Int) ≠ 8; omega, by show (if ((22 : Nat) : Int) = 10 ∨ ((22 : Nat) : Int) = 11 then 0 ≤ (k : Int) ∧ (k : Int) ≤ 2 else 1 ≤ (k : Int) ∧ (k : Int) ≤ 99); rw [if_neg (by omega)]; omega⟩, by show (0 : Int) ≤ k ∧ (k : Int) ≤ 99 ∧ (0 : Int) ≤ 0 ∧ (0 : Int) ≤ 99 ∧ (((22 : Nat) : Int) = 42 → (1 : Int) ≤ k); omega⟩
  · simp only [List.mem_cons, List.mem_append, List.mem_singleton, List.not_mem_nil, or_false] at ho
    rcases ho with ho | rfl
    · exact right_does (h.1 o ho)
    · exact d60 _ (by omega)
  · rw [List.map_append, List.map_append, play_append, play_append]
    have e1 : [(⟨60, 0, 0, reps b 1, []⟩ : Op), ⟨(22 : Nat), k, 0, ⟨#[]⟩, []⟩].map po = [⟨60, 0, 0, [(b.toNat : Int)], []⟩, ⟨22, k, 0, [], []⟩] := by
      simp only [List.map_cons, List.map_nil, po, reps_bytes]
      rfl
    have e2 : [(⟨60, 0, 0, reps b (1 + k), []⟩ : Op)].map po = [⟨60, 0, 0, (b.toNat : Int) :: List.replicate k (b.toNat : Int), []⟩] := by
      simp only [List.map_cons, List.map_nil, po, reps_bytes, Nat.add_comm 1 k, List.replicate_succ]
    rw [e1, e2]
    exact again_law _ attrA _ hb0 k
theorem laws_FnDrawAgain.calls (A0 : Option Addr) (c0 : Nat) (l0 : List Op) (a1 a2 a3 : Int) (r : Bool) (w : World) (hT : XTab w) (hr0 : Kd.C k42 w A0 l0.length l0) (hc0 : l0.length ≤ c0) (h : laws_FnDrawAgain.f l0 a1 a2 a3 = some r) :
    Calls Tryz.prog 4 #[.slice A0 l0.length c0, .int .u8 a1, .int .u8 a2, .int .u8 a3] w fun e w' => e = .returned (.bool r) ∧ Below w.heap.size w w' := by
  unfold laws_FnDrawAgain.f at h
  split at h
  case isFalse => cases h
  rename_i ha
  obtain rfl := Option.some.inj h
  obtain ⟨b0, f0, f1⟩ := fits_f l0 3000000000 (by omega)
  obtain ⟨Wd, H, z1, z2, z3⟩ := size_f2 a3 ha.2.2.1 ha.2.2.2
  have HI := Lib.hid (And.intro hT (And.intro hr0 (And.intro hc0 (And.intro ha z1))))
  have HZ := Lib.hid (And.intro z2 z3)
  have HF := Lib.hid f1
  clear h hT hr0 hc0 ha f1 z1 z2 z3
  go_enter Tryz.func4, Tryz.ntmps4
  go_wp2_with fail
  with_reducible refine (laws_zzFits3.calls 3000000000 _ _ l0 b0 _ HI.out.2.1 HI.out.2.2.1 f0).mono ?_
  rintro e w1 ⟨rfl, hb⟩
  have H1 := Lib.hid hb
  clear hb f0
  cases b0 with
  | false =>
    go_wp2_with fail
    go_ret
    exact ⟨rfl, H1.out⟩
  | true =>
    have hfit := HF.out (by trivial)
    have hmax := hfit.1
    have HFI := Lib.hid hfit
    clear hfit
    have hend : ∀ V, Below w.heap.size w V → Calls Tryz.prog 12 #[] V fun e w' => e = .returned (.bool true) ∧ Hid (Below w.heap.size w w') := fun V hV => by
      refine (laws_drawAwake.calls true V (XTab.below HI.out.1 hV) awake).mono ?_
      rintro e w3 ⟨rfl, hb⟩
      exact ⟨rfl, below_step hV hb⟩
    have HE := Lib.hid hend
    clear hend
    go_upto_region 3 with fail
    go_cut [39] (fun v39 wc => ∃ b39, v39 = .bool b39 ∧ Hid ((b39 = false → RightPlan l0 ∧ ∀ o, l0.getLast? = some o → o.f0 ≠ 60) ∧ Below w.heap.size w wc))
    case first =>
      go_wp2_with fail
      refine (isPlan_calls _ _ l0 _ (Kd.C_below HI.out.2.1 H1.out) HI.out.2.2.1 HFI.out).mono ?_
      rintro e w2 ⟨b1, rfl, g1, hb⟩
      have H2 := Lib.hid (below_step H1.out hb)
      have HG := Lib.hid g1
      clear hb g1 H1
      cases b1 with
      | false =>
        go_wp2_with fail
        go_meet
        case rel => exact ⟨_, rfl, fun h => (by cases h), H2.out⟩
      | true =>
        rcases Nat.eq_zero_or_pos l0.length with hz | hz
        · obtain rfl := List.eq_nil_of_length_eq_zero hz
          clear hz
          go_wp2_with fail
          go_meet
          case rel => exact ⟨_, rfl, fun _ => ⟨HG.out (by trivial), fun o ho => by cases ho⟩, H2.out⟩
        · have k1 : (0 : Int) < (l0.length : Int) := by omega
          have e2 : IntKind.i64.wrap ((l0.length : Int) - 1) = ((l0.length - 1 : Nat) : Int) := by rw [IntKind.wrap_i64]; omega
          have d4 : ((l0.length - 1 : Nat) : Int) < (l0.length : Int) := by omega
          have d5 : (0 : Int) ≤ ((l0.length - 1 : Nat) : Int) := by omega
          obtain ⟨ad, _, _, e, y0, _⟩ := at_T42 HI.out.2.1 ((l0.length - 1 : Nat) : Int) d5 d4
          cases e
          have hlo : l0.getLast? = some (l0[l0.length - 1]'(by omega)) := by rw [List.getLast?_eq_getElem?, List.getElem?_eq_getElem (by omega)]
          rw [rdO_at l0 (l0.length - 1) (by omega), Int.toNat_natCast] at y0
          replace y0 := (H2.out.cell (World.block_lt_of_cell? w _ y0)).trans y0
          generalize l0[l0.length - 1]'(by omega) = o at hlo y0
          have HLO := Lib.hid hlo
          clear hlo
          rcases (show (o.f0 == 60) = true ∨ (o.f0 == 60) = false by cases (o.f0 == 60) <;> simp) with k3 | k3
          · go_wp2_with fail
            go_meet
            case rel => exact ⟨_, rfl, fun h => (by cases h), H2.out⟩
          · go_wp2_with fail
            go_meet
            case rel => exact ⟨_, rfl, fun _ => ⟨HG.out (by trivial), fun x hx => by
              rw [HLO.out] at hx
              rw [← Option.some.inj hx]
              exact beq_eq_false_iff_ne.1 k3⟩, H2.out⟩
    case rest =>
    obtain ⟨b39, rfl, HB⟩ := hcut
    cases b39 with
    | true =>
      go_wp2_with fail
      refine (HE.out _ HB.out.2).mono ?_
      rintro e w3 ⟨rfl, H3⟩
      go_wp2_with fail
      go_ret
      exact ⟨rfl, H3.out⟩
    | false =>
      obtain ⟨hright, hlast⟩ := HB.out.1 (by trivial)
      obtain ⟨m, hm, hm9⟩ : ∃ m : Nat, Int.tmod a1 90 = (m : Int) ∧ m < 90 := by
        have := HI.out.2.2.2.1
        exact ⟨(a1 % 90).toNat, by rw [Int.tmod_eq_emod_of_nonneg (by omega)]; omega, by omega⟩
      obtain ⟨n, hn, hn9⟩ : ∃ n : Nat, Int.tmod a2 20 = (n : Int) ∧ n < 20 := by
        have := HI.out.2.2.2.1
        exact ⟨(a2 % 20).toNat, by rw [Int.tmod_eq_emod_of_nonneg (by omega)]; omega, by omega⟩
      have hbt : (UInt8.ofNat (33 + m)).toNat = 33 + m := by
        rw [UInt8.toNat_ofNat']
        omega
      obtain ⟨st, t, tl, bl1, bl2, o1, o2, el1, el2, ⟨m1, m2⟩, m3, ⟨m4, m5⟩, x, y, hplay⟩ := again_plan l0 hright hlast (UInt8.ofNat (33 + m)) ⟨by rw [hbt]; omega, by rw [hbt]; omega⟩ (by rw [hbt]; omega) (n + 1) (by omega) (by omega) (newScr Wd H)
      have hchar : strOfNums [((33 + m : Nat) : Int)] = reps (UInt8.ofNat (33 + m)) 1 := by
        show (⟨[UInt8.ofNat ((33 + m : Nat) : Int).toNat].toArray⟩ : ByteArray) = _
        rw [Int.toNat_natCast]
        rfl
      have hrs := reps_size (UInt8.ofNat (33 + m))
      have hra := reps_app (UInt8.ofNat (33 + m))
      have hr0 : reps (UInt8.ofNat (33 + m)) 0 = ⟨#[]⟩ := rfl
      clear hbt
      generalize UInt8.ofNat (33 + m) = bb at x y hchar hrs hra hr0
      have HP := Lib.hid (And.intro m1 (And.intro m3 (And.intro x (And.intro y hplay))))
      have HS := Lib.hid (And.intro m2 (And.intro m4 (And.intro m5 (And.intro hchar (And.intro hrs (And.intro hra hr0))))))
      have H2 := Lib.hid HB.out.2
      clear m1 m2 m3 m4 m5 x y hplay hchar hrs hra hr0 hlast hright HB
      have e8 : IntKind.u8.wrap (33 + (m : Int)) = ((33 + m : Nat) : Int) := by rw [IntKind.wrap_u8]; omega
      have e9 : (33 + (m : Int)) % 256 = ((33 + m : Nat) : Int) := by omega
      have e7 : IntKind.i64.wrap ((n : Int) + 1) = ((n + 1 : Nat) : Int) := by rw [IntKind.wrap_i64]; omega
      have e6 : IntKind.i64.wrap (n : Int) = (n : Int) := by rw [IntKind.wrap_i64]; omega
      go_wp2_with fail
      with_reducible refine (laws_drawSize.calls a3 Wd H _ HI.out.2.2.2.2).mono ?_
      rintro e w3 ⟨rfl, ⟨nd, rfl⟩⟩
      have H3 := Lib.hid (pw_below_drewN H2.out nd)
      generalize (World.drewN _ nd) = w3 at H3 ⊢
      clear H2
      go_upto_region 7 with ((with_reducible refine gate_dst (N := 49) rfl ?_); refine Kd.R_lit (Kd.int .u8) _ 5 ?hg (N := 49) ?hd (xs := ([((33 + m : Nat) : Int)] : List Int)) (inner := [.int .u8 ((33 + m : Nat) : Int)]) (ok := fun _ => True) (okp := fun _ => True) ?hr ?hp (fun _ hk => hk) trivial (Below.refl _ _) (Nat.le_refl _) (by simp) ?_; (case hd => rfl); (case hg => rfl); (case hr => first | (go_simp; done) | (go_simp; rfl)); (case hp => exact (Reps.one (show Kd.M (Kd.int .u8) _ _ _ (((33 + m : Nat) : Int)) [.int .u8 ((33 + m : Nat) : Int)] from rfl) (Reps.none _ _))); intro v158 w4 ho23 hbw hg_ hnew_; have hcv := own_string (P := Tryz.prog) Tryz.underlying30 Tryz.underlying5 Tryz.underlying9 (Kd.own_of_R ho23); rw [HS.out.2.2.2.1] at hcv; have H4 := Lib.hid (below_step H3.out hbw); clear hbw hg_ hnew_ ho23)
      clear hcv
      go_wp2_with fail
      with_reducible refine (laws_drawText.calls 400 _ _ l0 tl _ (XTab.below HI.out.1 H4.out) (Kd.C_below HI.out.2.1 H4.out) HI.out.2.2.1 HP.out.1).mono ?_
      rintro e w5 ⟨v5, rfl, hv, hb⟩
      obtain ⟨A5, c5, rfl, hc5, hf5⟩ := hv
      have hcv := Kd.C_string (P := Tryz.prog) (w := w5) (src := 30) (dst := 9) (e := 5) (c := c5) Tryz.underlying30 Tryz.underlying5 Tryz.underlying9 (Kd.F_now hf5)
      rw [HS.out.1] at hcv
      have H5 := Lib.hid (below_step H4.out hb)
      have s0 : (reps bb 1).size = 1 := HS.out.2.2.2.2.1 1
      have s1 : st.size + 1 ≤ 9223372036854775807 := by have := HS.out.2.2.1; omega
      clear hb hc5 hf5 H4
      go_wp2_with fail
      clear hcv
      go_loopg [13, 61] (n + 1) (fun kq v13 v61 w' => ∃ i : Nat, v13 = .string (reps bb i) ∧ v61 = .int .i64 (i : Int) ∧ i + kq = n + 1 ∧ w' = w5)
      case atStart => exact ⟨0, by rw [HS.out.2.2.2.2.2.2], rfl, by omega, rfl⟩
      case round =>
        obtain ⟨i, rfl, rfl, hk, hw⟩ := hrel
        obtain rfl := hw.symm
        by_cases hi : i < n + 1
        · have d3 : (i : Int) < ((n + 1 : Nat) : Int) := by omega
          have f1 : IntKind.i64.wrap ((i : Int) + 1) = ((i + 1 : Nat) : Int) := by rw [IntKind.wrap_i64]; omega
          have f2 : (reps bb i).size = i := HS.out.2.2.2.2.1 i
          have f3 : i + 1 ≤ 9223372036854775807 := by omega
          have f4 : reps bb i ++ reps bb 1 = reps bb (i + 1) := HS.out.2.2.2.2.2.1 i 1
          go_wp2_with fail
          go_roundg (n + 1 - (i + 1))
          case measure => omega
          case rel => exact ⟨i + 1, by first | rfl | rw [f4], rfl, by omega, rfl⟩
        · have d3 : decide ((i : Int) < ((n + 1 : Nat) : Int)) = false := decide_eq_false (by omega)
          obtain rfl : i = n + 1 := by omega
          go_wp2_with fail
          with_reducible refine (impl_MakeNumber.calls 22 ((n : Int) + 1) t _ (XTab.below HI.out.1 H5.out) (by have hq := HP.out.2.1; push_cast at hq; exact hq)).mono ?_
          rintro e w8 ⟨rfl, hb⟩
          have H8 := Lib.hid (below_step H5.out hb)
          have s2 : st.size + 1 + t.size ≤ 9223372036854775807 := by have := HS.out.2; omega
          have s3 : (reps bb (n + 1)).size = n + 1 := HS.out.2.2.2.2.1 (n + 1)
          have s4 : st.size + 1 + (n + 1) ≤ 9223372036854775807 := by have := HS.out.2.2.1; omega
          clear hb
          go_wp2_with (first | ((with_reducible refine gate_dst (N := 74) rfl ?_); refine conv_ev 9 30 5 rfl rfl Tryz.underlying9 Tryz.underlying30 Tryz.underlying5 (st ++ reps bb 1 ++ t) rfl HP.out.2.2.1.1 ?_; rintro e w6 ⟨v6, rfl, ho0, hb⟩; refine ⟨_, rfl, ?_⟩; obtain ⟨A6, c6, rfl, hc6, hf6⟩ := ho0; have H6 := Lib.hid (And.intro (below_step H8.out hb) (And.intro hc6 (And.intro (Kd.F_now hf6) hb))); clear hb hc6 hf6))
          with_reducible refine (impl_Feed.calls 32 4096 _ _ bl1 el1 _ H6.out.2.2.1 H6.out.2.1 HP.out.2.2.1.2.1).mono ?_
          rintro e w7 ⟨v7, rfl, hv, hb⟩
          have hv2 : Kd.V k69 69 w7 w7.heap.size (fun _ => True) v7 el1 := Kd.S_V hv
          obtain ⟨A7, c7, rfl⟩ := Kd.S_slice hv
          have H7 := Lib.hid (And.intro (below_step H6.out.1 hb) (And.intro hv2 (below_step H6.out.2.2.2 hb)))
          clear hb hv hv2 H6
          go_wp2_with fail
          refine (screen_calls A7 c7 el1 (fun _ => True) w7 H7.out.2.1 (by have := HP.out.2.2.1.2.2.1; omega) o1 HP.out.2.2.1.2.2.2.1 HP.out.2.2.1.2.2.2.2.1 (by have := HP.out.2.2.1.2.2.2.2.2; omega) Wd H (by have := HZ.out; omega) (by have := HZ.out; omega)).mono ?_
          rintro e w9 ⟨g, rfl, ho⟩
          have H9 := Lib.hid (And.intro (below_step H7.out.1 ho.out.2) ho.out.1)
          clear ho H7
          go_wp2_with (first | ((with_reducible refine gate_dst (N := 85) rfl ?_); refine conv_ev 9 30 5 rfl rfl Tryz.underlying9 Tryz.underlying30 Tryz.underlying5 (st ++ reps bb 1 ++ reps bb (n + 1)) rfl HP.out.2.2.2.1.1 ?_; rintro e w6 ⟨v6, rfl, ho0, hb⟩; refine ⟨_, rfl, ?_⟩; obtain ⟨A6, c6, rfl, hc6, hf6⟩ := ho0; have H6 := Lib.hid (And.intro (below_step H9.out.1 hb) (And.intro hc6 (And.intro (Kd.F_now hf6) hb))); clear hb hc6 hf6))
          with_reducible refine (impl_Feed.calls 32 4096 _ _ bl2 el2 _ H6.out.2.2.1 H6.out.2.1 HP.out.2.2.2.1.2.1).mono ?_
          rintro e w7 ⟨v7, rfl, hv, hb⟩
          have hv2 : Kd.V k69 69 w7 w7.heap.size (fun _ => True) v7 el2 := Kd.S_V hv
          obtain ⟨A7, c7, rfl⟩ := Kd.S_slice hv
          have H7 := Lib.hid (And.intro (below_step H6.out.1 hb) (And.intro hv2 (below_step H6.out.2.2.2 hb)))
          clear hb hv hv2 H6
          go_wp2_with fail
          refine (screen_calls A7 c7 el2 (fun _ => True) w7 H7.out.2.1 (by have := HP.out.2.2.2.1.2.2.1; omega) o2 HP.out.2.2.2.1.2.2.2.1 HP.out.2.2.2.1.2.2.2.2.1 (by have := HP.out.2.2.2.1.2.2.2.2.2; omega) Wd H (by have := HZ.out; omega) (by have := HZ.out; omega)).mono ?_
          rintro e w10 ⟨g2, rfl, ho⟩
          obtain ⟨B1, T1, c1, bs1, hB1, ha1⟩ := H9.out.2
          obtain ⟨B2, T2, c2, bs2, hB2, ha2⟩ := ho.out.1
          have ha3 := ha1.below (below_step H7.out.2.2 ho.out.2)
          rw [HP.out.2.2.2.2] at ha3
          have H10 := Lib.hid (And.intro (below_step H7.out.1 ho.out.2) (And.intro ha3 ha2))
          clear ho H7 H9 ha1 ha2 ha3
          go_wp2_with fail
          refine (same_calls H10.out.2.1 H10.out.2.2 (does_fine attrA o2 (new_fine Wd H (by have := HZ.out; omega) (by have := HZ.out; omega) (by have := HZ.out; omega) (by have := HZ.out; omega)) HP.out.2.2.2.1.2.2.2.2.1)).mono ?_
          rintro e w11 ⟨rfl, hb⟩
          have H11 := Lib.hid (below_step H10.out.1 hb)
          clear hb H10
          go_wp2_with fail
          refine (HE.out _ H11.out).mono ?_
          rintro e w12 ⟨rfl, H12⟩
          go_wp2_with fail
          go_ret
          exact ⟨rfl, H12.out⟩
theorem FnDrawAgain_true {Q : Op → Prop} (l : List Op) (_ : l.length ≤ maxLen) (_ : ∀ a ∈ l, Q a) (a1 : Int) (h1 : (Lit.int .u8 a1).wf = true) (a2 : Int) (h2 : (Lit.int .u8 a2).wf = true) (a3 : Int) (h3 : (Lit.int .u8 a3).wf = true) : laws_FnDrawAgain.f l a1 a2 a3 = some true := by
  have k1 : 0 ≤ a1 ∧ a1 ≤ 255 := by simpa [Lit.wf, IntKind.min, IntKind.max, IntKind.signed, IntKind.bits] using h1
  have k2 : 0 ≤ a2 ∧ a2 ≤ 255 := by simpa [Lit.wf, IntKind.min, IntKind.max, IntKind.signed, IntKind.bits] using h2
  have k3 : 0 ≤ a3 ∧ a3 ≤ 255 := by simpa [Lit.wf, IntKind.min, IntKind.max, IntKind.signed, IntKind.bits] using h3
  exact if_pos ⟨k1, k2, k3⟩
end Go.Proofs.YtmlginohbckfcaaGreatDoor.Y
end
