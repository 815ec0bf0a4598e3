/- Texts of this claim, joined: XScrRun XLawPlaces. Of each, what the claim uses. -/
import Derived.Test.YtmlginohbckfcaaGreatDoorKaa
import Derived.Test.YtmlginohbckfcaaGreatDoorKab
import Derived.Test.YtmlginohbckfcaaGreatDoorKac
import Derived.Test.YtmlginohbckfcaaGreatDoorKad
import Derived.Test.YtmlginohbckfcaaGreatDoorKae
import Derived.Test.YtmlginohbckfcaaGreatDoorKaf
import Derived.Test.YtmlginohbckfcaaGreatDoorKag
import Derived.Test.YtmlginohbckfcaaGreatDoorKah
import Derived.Test.YtmlginohbckfcaaGreatDoorKai
import Derived.Test.YtmlginohbckfcaaGreatDoorKaj
import Derived.Test.YtmlginohbckfcaaGreatDoorKak
import Derived.Test.YtmlginohbckfcaaGreatDoorKal
import Derived.Test.YtmlginohbckfcaaGreatDoorKam
import Derived.Test.YtmlginohbckfcaaGreatDoorKan
import Derived.Test.YtmlginohbckfcaaGreatDoorKao
import Derived.Test.YtmlginohbckfcaaGreatDoorKap
import Derived.Test.YtmlginohbckfcaaGreatDoorKaq
import Derived.Test.YtmlginohbckfcaaGreatDoorKar
import Derived.Test.YtmlginohbckfcaaGreatDoorKas
import Derived.Test.YtmlginohbckfcaaGreatDoorKat
import Derived.Test.YtmlginohbckfcaaGreatDoorKau
import Derived.Test.YtmlginohbckfcaaGreatDoorKav
import Derived.Test.YtmlginohbckfcaaGreatDoorKaw
import Derived.Test.YtmlginohbckfcaaGreatDoorKax
import Derived.Test.YtmlginohbckfcaaGreatDoorKay
import Derived.Test.YtmlginohbckfcaaGreatDoorKaz
import Derived.Test.YtmlginohbckfcaaGreatDoorKba
import Derived.Test.YtmlginohbckfcaaGreatDoorKbb
import Derived.Test.YtmlginohbckfcaaGreatDoorKbc
import Derived.Test.YtmlginohbckfcaaGreatDoorKbd
import Derived.Test.YtmlginohbckfcaaGreatDoorKbe
import Derived.Test.YtmlginohbckfcaaGreatDoorKbf
import Derived.Test.YtmlginohbckfcaaGreatDoorKbg
import Derived.Test.YtmlginohbckfcaaGreatDoorKbh
import Derived.Test.YtmlginohbckfcaaGreatDoorKbi
import Derived.Test.YtmlginohbckfcaaGreatDoorKbj
import Derived.Deep.DeepCutAuto
section
namespace Go.Proofs.YtmlginohbckfcaaGreatDoor.Y
open Go.RowKit Go.Proofs.YtmlginohbckfcaaGreatDoorW.PrintWords Go.Proofs.YtmlginohbckfcaaGreatDoorW.PrintLast Go.Proofs.YtmlginohbckfcaaGreatDoorW.PrintMore
set_option linter.unusedSimpArgs false
set_option linter.unusedVariables false
/-- An operation of a number: its text, and how it is read. -/
theorem num_piece (k n : Nat) (hk : k ≤ 22) (h7 : k ≠ 7) (h8 : k ≠ 8) (h1 : 1 ≤ n) (hn : n ≤ 99) : ∃ t e, impl_MakeNumber.f k n = some t ∧ One t e ∧ Good (⟨k, n, 0, ⟨#[]⟩, []⟩, [e]) := by
  obtain ⟨t, e, h2, h3⟩ := num_one k n hk h7 h8 hn
  obtain ⟨h4, h5⟩ := num_read k n hk h7 h8 hn (Or.inl (by omega)) h2 h3
  exact ⟨t, e, h2, h3, Or.inr ⟨by show (k : Int) ≠ 60; omega, e, rfl, Or.inr (Or.inl ⟨h4, h5⟩)⟩⟩
end Go.Proofs.YtmlginohbckfcaaGreatDoor.Y
end
section
namespace Go.Proofs.YtmlginohbckfcaaGreatDoor.Y
open Go.RowKit Go.Proofs.YtmlginohbckfcaaGreatDoorW.PrintWords Go.Proofs.YtmlginohbckfcaaGreatDoorW.PrintLast Go.Proofs.YtmlginohbckfcaaGreatDoorW.PrintMore
set_option linter.unusedSimpArgs false
set_option linter.unusedVariables false
set_option maxRecDepth 100000
set_option maxHeartbeats 8000000
def laws_FnDrawPlaces.f (a b : Int) : Option Bool := if (0 ≤ a ∧ a ≤ 255) ∧ 0 ≤ b ∧ b ≤ 255 then some true else none
/-- A text that leads to a place. -/
def Leads (S : ByteArray) (m r : Nat) : Prop := S.size ≤ 1000 ∧ ∃ (bl : List Int) (el : List S69) (ops : List Op), gosem_conv.f S = some bl ∧ impl_Feed.f 32 4096 bl = some el ∧ el.length ≤ 1000 ∧ spec_DrawRead.f (el.map cv) = some (ops, true) ∧ (∀ o ∈ ops, Does o) ∧ ops.length ≤ 100 ∧
  ((newScr 99 99).play attrA (ops.map po)).pen.x = m ∧ ((newScr 99 99).play attrA (ops.map po)).pen.y = r
/-- Operations that are no texts, with their text. -/
def Seq (S : ByteArray) (q : List (Op × List X.Ev)) : Prop := S.size ≤ 100 ∧ q.length ≤ 1 ∧ X.run .gr (X.nb S) = some (.gr, (q.map (·.2)).flatten) ∧ ((q.map (·.2)).flatten).length ≤ 1 ∧ ∀ p ∈ q, Good p ∧ p.1.f0 ≠ 60 ∧ Does p.1
theorem apart_none : ∀ (q : List (Op × List X.Ev)) (b : Bool), (∀ p ∈ q, p.1.f0 ≠ 60) → Apart b (q.map (·.1))
  | [], _, _ => trivial
  | p :: q, b, h => ⟨fun hh => h p (by simp) hh.2, apart_none q _ (fun x hx => h x (List.mem_cons_of_mem _ hx))⟩
theorem seq_leads {S1 S2 : ByteArray} {q1 q2 : List (Op × List X.Ev)} (h1 : Seq S1 q1) (h2 : Seq S2 q2) (m r : Nat) (hx : ((newScr 99 99).play attrA (((q1 ++ q2).map (·.1)).map po)).pen.x = m) (hy : ((newScr 99 99).play attrA (((q1 ++ q2).map (·.1)).map po)).pen.y = r) : Leads (S1 ++ S2) m r := by
  obtain ⟨a1, a2, a3, a4, a5⟩ := h1
  obtain ⟨b1, b2, b3, b4, b5⟩ := h2
  have hall : ∀ p ∈ q1 ++ q2, Good p ∧ p.1.f0 ≠ 60 ∧ Does p.1 := fun p hp => (List.mem_append.1 hp).elim (a5 p) (b5 p)
  obtain ⟨el, f1, f2, f3, f4⟩ := text_fed (S1 ++ S2) (by rw [ByteArray.size_append]; omega) (q1 ++ q2) (by rw [X.nb_append, X.run_of a3 b3]; simp) (fun p hp => (hall p hp).1) (apart_none _ _ (fun p hp => (hall p hp).2.1)) (by rw [List.map_append, List.flatten_append, List.length_append]; omega)
  refine ⟨by rw [ByteArray.size_append]; omega, _, el, _, f1, f2, f3, f4, fun o ho => ?_, by rw [List.length_map, List.length_append]; omega, hx, hy⟩
  obtain ⟨p, hp, rfl⟩ := List.mem_map.1 ho
  exact (hall p hp).2.2
theorem seq_none : Seq ⟨#[]⟩ [] := ⟨by decide, by decide, rfl, by decide, by simp⟩
theorem seq_one {S : ByteArray} {o : Op} {e : X.Ev} (h1 : One S e) (h2 : Good (o, [e])) (h3 : o.f0 ≠ 60) (h4 : Does o) : Seq S [(o, [e])] := ⟨h1.size, by simp, by rw [h1.run]; rfl, by simp, fun p hp => by rw [List.mem_singleton.1 hp]; exact ⟨h2, h3, h4⟩⟩
theorem num_does (k n : Nat) (hk : k ≤ 22) (h7 : k ≠ 7) (h8 : k ≠ 8) (h10 : k ≠ 10 ∧ k ≠ 11) (h1 : 1 ≤ n) (hn : n ≤ 99) : Does ⟨k, n, 0, ⟨#[]⟩, []⟩ :=
  ⟨Or.inl ⟨by show (0 : Int) ≤ (k : Int) ∧ (k : Int) ≤ 22 ∧ (k : Int) ≠ 7 ∧ (k : Int) ≠ 8; omega, by show (if (k : Int) = 10 ∨ (k : Int) = 11 then 0 ≤ (n : Int) ∧ (n : Int) ≤ 2 else 1 ≤ (n : Int) ∧ (n : Int) ≤ 99); rw [if_neg (by omega)]; omega⟩,
    by show (0 : Int) ≤ n ∧ (n : Int) ≤ 99 ∧ (0 : Int) ≤ 0 ∧ (0 : Int) ≤ 99 ∧ ((k : Int) = 42 → (1 : Int) ≤ n); omega⟩
theorem num_seq (k n : Nat) (hk : k ≤ 22) (h7 : k ≠ 7) (h8 : k ≠ 8) (h10 : k ≠ 10 ∧ k ≠ 11) (h1 : 1 ≤ n) (hn : n ≤ 99) : ∃ t e, impl_MakeNumber.f k n = some t ∧ Seq t [(⟨k, n, 0, ⟨#[]⟩, []⟩, [e])] := by
  obtain ⟨t, e, a1, a2, a3⟩ := num_piece k n hk h7 h8 h1 hn
  exact ⟨t, e, a1, seq_one a2 a3 (by show (k : Int) ≠ 60; omega) (num_does k n hk h7 h8 h10 h1 hn)⟩
theorem pair_seq (k n m : Nat) (hk : k = 0 ∨ k = 1) (hn : 1 ≤ n ∧ n ≤ 99) (hm : 1 ≤ m ∧ m ≤ 99) : ∃ t e, impl_MakePair.f 300 k n m = some t ∧ Seq t [(⟨40 + k, n, m, ⟨#[]⟩, []⟩, [e])] := by
  obtain ⟨t, e, a1, a2, a3⟩ := pair_piece k n m (by omega) (by omega) (by omega)
  exact ⟨t, e, a1, seq_one a2 a3 (by show (40 + (k : Int)) ≠ 60; omega) ⟨Or.inr (Or.inl ⟨by show 40 + (k : Int) = 40 ∨ 40 + (k : Int) = 41; omega, by show 1 ≤ (n : Int) ∧ (n : Int) ≤ 99; omega, by show 1 ≤ (m : Int) ∧ (m : Int) ≤ 99; omega⟩),
    by show (0 : Int) ≤ n ∧ (n : Int) ≤ 99 ∧ (0 : Int) ≤ m ∧ (m : Int) ≤ 99 ∧ (40 + (k : Int) = 42 → (1 : Int) ≤ n); omega⟩⟩
theorem places_plan (m r : Nat) (hm : m < 99) (hr : r < 99) : ∃ t1 t2 t3 t4 t5 tr td : ByteArray, impl_MakePair.f 300 0 ((m : Int) + 1) ((r : Int) + 1) = some t1 ∧ impl_MakePair.f 300 1 ((m : Int) + 1) ((r : Int) + 1) = some t2 ∧ impl_MakeNumber.f 6 ((m : Int) + 1) = some t3 ∧ impl_MakeNumber.f 18 ((r : Int) + 1) = some t4 ∧ impl_MakeNumber.f 20 ((m : Int) + 1) = some t5 ∧
    (if m = 0 then tr = ⟨#[]⟩ else impl_MakeNumber.f 2 (m : Int) = some tr) ∧ (if r = 0 then td = ⟨#[]⟩ else impl_MakeNumber.f 1 (r : Int) = some td) ∧ (t3.size ≤ 100 ∧ t4.size ≤ 100 ∧ t5.size ≤ 100 ∧ tr.size ≤ 100 ∧ td.size ≤ 100) ∧
    Leads t1 m r ∧ Leads t2 m r ∧ Leads (t3 ++ t4) m r ∧ Leads (t4 ++ t5) m r ∧ Leads (tr ++ td) m r ∧ Leads (td ++ tr) m r := by
  obtain ⟨t1, e1, a1, b1⟩ := pair_seq 0 (m + 1) (r + 1) (Or.inl rfl) (by omega) (by omega)
  obtain ⟨t2, e2, a2, b2⟩ := pair_seq 1 (m + 1) (r + 1) (Or.inr rfl) (by omega) (by omega)
  obtain ⟨t3, e3, a3, b3⟩ := num_seq 6 (m + 1) (by omega) (by omega) (by omega) (by omega) (by omega) (by omega)
  obtain ⟨t4, e4, a4, b4⟩ := num_seq 18 (r + 1) (by omega) (by omega) (by omega) (by omega) (by omega) (by omega)
  obtain ⟨t5, e5, a5, b5⟩ := num_seq 20 (m + 1) (by omega) (by omega) (by omega) (by omega) (by omega) (by omega)
  have hR : ∃ tr q, (if m = 0 then tr = ⟨#[]⟩ else impl_MakeNumber.f 2 (m : Int) = some tr) ∧ Seq tr q ∧ (q.map (·.1)) = if m = 0 then [] else [⟨2, m, 0, ⟨#[]⟩, []⟩] := by
    by_cases h : m = 0
    · exact ⟨_, [], by rw [if_pos h], seq_none, by rw [if_pos h]; rfl⟩
    · obtain ⟨t, e, a, b⟩ := num_seq 2 m (by omega) (by omega) (by omega) (by omega) (by omega) (by omega)
      exact ⟨t, _, by rw [if_neg h]; exact a, b, by rw [if_neg h]; rfl⟩
  have hD : ∃ td q, (if r = 0 then td = ⟨#[]⟩ else impl_MakeNumber.f 1 (r : Int) = some td) ∧ Seq td q ∧ (q.map (·.1)) = if r = 0 then [] else [⟨1, r, 0, ⟨#[]⟩, []⟩] := by
    by_cases h : r = 0
    · exact ⟨_, [], by rw [if_pos h], seq_none, by rw [if_pos h]; rfl⟩
    · obtain ⟨t, e, a, b⟩ := num_seq 1 r (by omega) (by omega) (by omega) (by omega) (by omega) (by omega)
      exact ⟨t, _, by rw [if_neg h]; exact a, b, by rw [if_neg h]; rfl⟩
  obtain ⟨tr, qr, c1, c2, c3⟩ := hR
  obtain ⟨td, qd, d1, d2, d3⟩ := hD
  push_cast at a1 a2 a3 a4 a5
  have hone : ∀ {S : ByteArray} {q : List (Op × List X.Ev)}, Seq S q → ((newScr 99 99).play attrA ((q.map (·.1)).map po)).pen.x = m → ((newScr 99 99).play attrA ((q.map (·.1)).map po)).pen.y = r → Leads S m r := fun {S} {q} h hx hy => by
    have := seq_leads h seq_none m r (by rw [List.append_nil]; exact hx) (by rw [List.append_nil]; exact hy)
    rwa [show S ++ (⟨#[]⟩ : ByteArray) = S from ByteArray.append_empty] at this
  have n1 : (newScr 99 99).w = 99 := rfl
  have n2 : (newScr 99 99).h = 99 := rfl
  have n3 : (newScr 99 99).pen = ⟨0, 0, 0⟩ := rfl
  refine ⟨t1, t2, t3, t4, t5, tr, td, a1, a2, a3, a4, a5, c1, d1, ⟨b3.1, b4.1, b5.1, c2.1, d2.1⟩, hone b1 ?_ ?_, hone b2 ?_ ?_, seq_leads b3 b4 m r ?_ ?_, seq_leads b4 b5 m r ?_ ?_, seq_leads c2 d2 m r ?_ ?_, seq_leads d2 c2 m r ?_ ?_⟩
  iterate 8 (simp [Scr.play, Scr.opO, po, Scr.op, Scr.move, clampN, n1, n2, n3]; try omega)
  all_goals
    rw [List.map_append, c3, d3]
    by_cases h : m = 0 <;> by_cases h2 : r = 0 <;> simp [h, h2, Scr.play, Scr.opO, po, Scr.op, Scr.move, clampN, n1, n2, n3] <;> omega
theorem laws_FnDrawPlaces.calls (a0 a1 : Int) (r : Bool) (w : World) (hT : XTab w) (h : laws_FnDrawPlaces.f a0 a1 = some r) :
    Calls Tryz.prog 3 #[.int .u8 a0, .int .u8 a1] w fun e w' => e = .returned (.bool r) ∧ Below w.heap.size w w' := by
  unfold laws_FnDrawPlaces.f at h
  split at h
  case isFalse => cases h
  rename_i ha
  obtain rfl := Option.some.inj h
  obtain ⟨m, hm, hm9⟩ : ∃ m : Nat, Int.tmod a0 99 = (m : Int) ∧ m < 99 := ⟨(a0 % 99).toNat, by rw [Int.tmod_eq_emod_of_nonneg (by omega)]; omega, by omega⟩
  obtain ⟨p, hp, hp9⟩ : ∃ p : Nat, Int.tmod a1 99 = (p : Int) ∧ p < 99 := ⟨(a1 % 99).toNat, by rw [Int.tmod_eq_emod_of_nonneg (by omega)]; omega, by omega⟩
  obtain ⟨t1, t2, t3, t4, t5, tr, td, x1, x2, x3, x4, x5, x6, x7, x8, y⟩ := places_plan m p hm9 hp9
  have HI := Lib.hid (And.intro hT (And.intro x6 (And.intro x7 (And.intro x8 y))))
  have HX := Lib.hid (And.intro x1 (And.intro x2 (And.intro x3 (And.intro x4 x5))))
  have H9 := Lib.hid (And.intro hm9 hp9)
  have u0 : IntKind.i64.wrap (m : Int) = (m : Int) := by rw [IntKind.wrap_i64]; omega
  have u1 : IntKind.i64.wrap (p : Int) = (p : Int) := by rw [IntKind.wrap_i64]; omega
  have u2 : IntKind.i64.wrap ((m : Int) + 1) = (m : Int) + 1 := by rw [IntKind.wrap_i64]; omega
  have u3 : IntKind.i64.wrap ((p : Int) + 1) = (p : Int) + 1 := by rw [IntKind.wrap_i64]; omega
  have u4 : IntKind.i64.wrap ((m : Int) + 1 - 1) = (m : Int) := by rw [IntKind.wrap_i64]; omega
  have u5 : IntKind.i64.wrap ((p : Int) + 1 - 1) = (p : Int) := by rw [IntKind.wrap_i64]; omega
  clear h hT ha x1 x2 x3 x4 x5 x6 x7 x8 y hm9 hp9
  go_enter Tryz.func3, Tryz.ntmps3
  go_upto_if 23 with (fail)
  go_cut [7] (fun v7 wc => v7 = .string tr ∧ Hid (Below w.heap.size w wc))
  case first =>
    rcases Nat.eq_zero_or_pos m with hz | hz
    · have ht := HI.out.2.1
      rw [if_pos hz] at ht
      have k1 : decide ((1 : Int) < (m : Int) + 1) = false := decide_eq_false (by omega)
      have HT := Lib.hid (And.intro hz ht)
      rw [k1]
      clear hz ht k1
      go_wp2_with fail
      go_meet
      case rel => exact ⟨by rw [HT.out.2], Below.refl _ _⟩
    · rw [show decide ((1 : Int) < (m : Int) + 1) = true from decide_eq_true (by omega)]
      have ht := HI.out.2.1
      rw [if_neg (by omega)] at ht
      have HT := Lib.hid ht
      clear ht
      go_wp2_with fail
      with_reducible refine (impl_MakeNumber.calls 2 (m : Int) tr _ HI.out.1 HT.out).mono ?_
      rintro e w1 ⟨rfl, hb⟩
      have H1 := Lib.hid hb
      clear hb
      go_wp2_with fail
      go_meet
      case rel => exact ⟨rfl, H1.out⟩
  case rest =>
  obtain ⟨rfl, HB⟩ := hcut
  go_upto_if 28 with (fail)
  go_cut [8] (fun v8 wc => v8 = .string td ∧ Hid (Below w.heap.size w wc))
  case first =>
    rcases Nat.eq_zero_or_pos p with hz | hz
    · have ht := HI.out.2.2.1
      rw [if_pos hz] at ht
      have k1 : decide ((1 : Int) < (p : Int) + 1) = false := decide_eq_false (by omega)
      have HT := Lib.hid (And.intro hz ht)
      rw [k1]
      clear hz ht k1
      go_wp2_with fail
      go_meet
      case rel => exact ⟨by rw [HT.out.2], HB.out⟩
    · rw [show decide ((1 : Int) < (p : Int) + 1) = true from decide_eq_true (by omega)]
      have ht := HI.out.2.2.1
      rw [if_neg (by omega)] at ht
      have HT := Lib.hid ht
      clear ht
      go_wp2_with fail
      with_reducible refine (impl_MakeNumber.calls 1 (p : Int) td _ (XTab.below HI.out.1 HB.out) HT.out).mono ?_
      rintro e w1 ⟨rfl, hb⟩
      have H1 := Lib.hid (below_step HB.out hb)
      clear hb
      go_wp2_with fail
      go_meet
      case rel => exact ⟨rfl, H1.out⟩
  case rest =>
  clear HB
  obtain ⟨rfl, HB⟩ := hcut
  have s0 : t3.size + t4.size ≤ 9223372036854775807 := by have := HI.out.2.2.2.1; omega
  have s1 : t4.size + t5.size ≤ 9223372036854775807 := by have := HI.out.2.2.2.1; omega
  have s2 : tr.size + td.size ≤ 9223372036854775807 := by have := HI.out.2.2.2.1; omega
  have s3 : td.size + tr.size ≤ 9223372036854775807 := by have := HI.out.2.2.2.1; omega
  go_wp2_with fail
  with_reducible refine (impl_MakePair.calls 300 0 ((m : Int) + 1) ((p : Int) + 1) t1 _ (XTab.below HI.out.1 HB.out) HX.out.1).mono ?_
  rintro e w1 ⟨rfl, hb⟩
  have H1 := Lib.hid (below_step HB.out hb)
  clear hb HB
  go_wp2_with fail
  with_reducible refine (impl_MakePair.calls 300 1 ((m : Int) + 1) ((p : Int) + 1) t2 _ (XTab.below HI.out.1 H1.out) HX.out.2.1).mono ?_
  rintro e w2 ⟨rfl, hb⟩
  have H2 := Lib.hid (below_step H1.out hb)
  clear hb H1
  go_wp2_with fail
  with_reducible refine (impl_MakeNumber.calls 6 ((m : Int) + 1) t3 _ (XTab.below HI.out.1 H2.out) HX.out.2.2.1).mono ?_
  rintro e w3 ⟨rfl, hb⟩
  have H3 := Lib.hid (below_step H2.out hb)
  clear hb H2
  go_wp2_with fail
  with_reducible refine (impl_MakeNumber.calls 18 ((p : Int) + 1) t4 _ (XTab.below HI.out.1 H3.out) HX.out.2.2.2.1).mono ?_
  rintro e w4 ⟨rfl, hb⟩
  have H4 := Lib.hid (below_step H3.out hb)
  clear hb H3
  go_wp2_with fail
  with_reducible refine (impl_MakeNumber.calls 18 ((p : Int) + 1) t4 _ (XTab.below HI.out.1 H4.out) HX.out.2.2.2.1).mono ?_
  rintro e w5 ⟨rfl, hb⟩
  have H5 := Lib.hid (below_step H4.out hb)
  clear hb H4
  go_wp2_with fail
  with_reducible refine (impl_MakeNumber.calls 20 ((m : Int) + 1) t5 _ (XTab.below HI.out.1 H5.out) HX.out.2.2.2.2).mono ?_
  rintro e w6 ⟨rfl, hb⟩
  have H6 := Lib.hid (below_step H5.out hb)
  clear hb H5
  go_upto_region 8 with fail
  obtain ⟨V, hV⟩ : ∃ V, V = w6.alloc (Obj.cells #[.string t1, .string t2, .string (t3 ++ t4), .string (t4 ++ t5), .string (tr ++ td), .string (td ++ tr)] 9) := ⟨_, rfl⟩
  rw [← hV]
  have HV := Lib.hid (show V.heap[w6.heap.size]? = some (Obj.cells #[.string t1, .string t2, .string (t3 ++ t4), .string (t4 ++ t5), .string (tr ++ td), .string (td ++ tr)] 9 (0, 0)) ∧ Below w.heap.size w V by rw [hV]; exact ⟨blk_new w6 _, below_alloc H6.out _⟩)
  clear hV s0 s1 s2 s3 H6
  go_wp2_with fail
  go_loopg [57] 6 (fun kq v57 w' => ∃ i : Nat, v57 = .int .i64 (i : Int) ∧ i + kq = 6 ∧ Hid (w'.heap[w6.heap.size]? = some (Obj.cells #[.string t1, .string t2, .string (t3 ++ t4), .string (t4 ++ t5), .string (tr ++ td), .string (td ++ tr)] 9 (0, 0)) ∧ Below w.heap.size w w'))
  case atStart => exact ⟨0, rfl, by omega, HV.out⟩
  case round =>
    clear HV
    obtain ⟨i, rfl, hk, hA⟩ := hrel
    by_cases hi : i < 6
    · obtain ⟨S, hS, t0⟩ : ∃ S : ByteArray, Leads S m p ∧ wr.cell? ⟨w6.heap.size, i, none⟩ = some (.string S) := by
        rcases (show i = 0 ∨ i = 1 ∨ i = 2 ∨ i = 3 ∨ i = 4 ∨ i = 5 by omega) with rfl | rfl | rfl | rfl | rfl | rfl
        · exact ⟨_, HI.out.2.2.2.2.1, blk_cell hA.out.1 0⟩
        · exact ⟨_, HI.out.2.2.2.2.2.1, blk_cell hA.out.1 1⟩
        · exact ⟨_, HI.out.2.2.2.2.2.2.1, blk_cell hA.out.1 2⟩
        · exact ⟨_, HI.out.2.2.2.2.2.2.2.1, blk_cell hA.out.1 3⟩
        · exact ⟨_, HI.out.2.2.2.2.2.2.2.2.1, blk_cell hA.out.1 4⟩
        · exact ⟨_, HI.out.2.2.2.2.2.2.2.2.2, blk_cell hA.out.1 5⟩
      obtain ⟨hs, bl, el, ops, m1, m2, m3, m4, m5, m6, m7, m8⟩ := hS
      have HM := Lib.hid (And.intro m1 (And.intro m2 (And.intro m3 (And.intro m4 (And.intro m5 (And.intro m6 (And.intro m7 m8)))))))
      have d3 : (i : Int) < 6 := by omega
      have i0 : (0 : Int) ≤ (i : Int) := by omega
      have f1 : IntKind.i64.wrap ((i : Int) + 1) = ((i + 1 : Nat) : Int) := by rw [IntKind.wrap_i64]; omega
      clear m1 m2 m3 m4 m5 m6 m7 m8 hs
      go_wp2_with (first | ((with_reducible refine gate_dst (N := 63) rfl ?_); refine conv_ev 9 30 5 rfl rfl Tryz.underlying9 Tryz.underlying30 Tryz.underlying5 S rfl HM.out.1 ?_; rintro e w7 ⟨v7, rfl, ho0, hb⟩; refine ⟨_, rfl, ?_⟩; obtain ⟨A7, c7, rfl, hc7, hf7⟩ := ho0; have H7 := Lib.hid (And.intro (below_step hA.out.2 hb) (And.intro hc7 (And.intro (Kd.F_now hf7) hb))); clear hb hc7 hf7))
      with_reducible refine (impl_Feed.calls 32 4096 _ _ bl el _ H7.out.2.2.1 H7.out.2.1 HM.out.2.1).mono ?_
      rintro e w8 ⟨v8, rfl, hv, hb⟩
      have hv2 : Kd.V k69 69 w8 w8.heap.size (fun _ => True) v8 el := Kd.S_V hv
      obtain ⟨A8, c8, rfl⟩ := Kd.S_slice hv
      have H8 := Lib.hid (And.intro (below_step H7.out.1 hb) (And.intro hv2 (below_step H7.out.2.2.2 hb)))
      clear hb hv hv2 H7 t0
      go_wp2_with fail
      refine (screen_calls A8 c8 el (fun _ => True) w8 H8.out.2.1 (by have := HM.out.2.2.1; omega) ops HM.out.2.2.2.1 HM.out.2.2.2.2.1 (by have := HM.out.2.2.2.2.2.1; omega) 99 99 (by omega) (by omega)).mono ?_
      rintro e w9 ⟨g, rfl, ho⟩
      obtain ⟨B9, T9, c9, bs9, hB9, ha9⟩ := ho.out.1
      have hb9 := below_step H8.out.2.2 ho.out.2
      have y3 : w9.cell? ⟨g, 3, none⟩ = some (.int .i64 (m : Int)) := by have hq := ha9.cell 3; rw [show (scells ((newScr 99 99).play attrA (ops.map po)) T9 c9)[3]? = some (.int .i64 (((newScr 99 99).play attrA (ops.map po)).pen.x : Int)) from rfl, HM.out.2.2.2.2.2.2.1] at hq; exact hq
      have y4 : w9.cell? ⟨g, 4, none⟩ = some (.int .i64 (p : Int)) := by have hq := ha9.cell 4; rw [show (scells ((newScr 99 99).play attrA (ops.map po)) T9 c9)[4]? = some (.int .i64 (((newScr 99 99).play attrA (ops.map po)).pen.y : Int)) from rfl, HM.out.2.2.2.2.2.2.2] at hq; exact hq
      have H9 := Lib.hid (And.intro (blk_below hA.out.1 hb9) (below_step H8.out.1 ho.out.2))
      clear ho ha9 hB9 hb9 H8
      go_wp2_with fail
      go_roundg (6 - (i + 1))
      case measure => omega
      case rel => exact ⟨i + 1, rfl, by omega, H9.out⟩
    · have d3 : decide ((i : Int) < 6) = false := decide_eq_false (by omega)
      go_wp2_with fail
      with_reducible refine (laws_drawAwake.calls true _ (XTab.below HI.out.1 hA.out.2) awake).mono ?_
      rintro e w9 ⟨rfl, hb⟩
      have H9 := Lib.hid (below_step hA.out.2 hb)
      clear hb
      go_wp2_with fail
      go_ret
      exact ⟨rfl, H9.out⟩
theorem FnDrawPlaces_true (a0 : Int) (h1 : (Lit.int .u8 a0).wf = true) (a1 : Int) (h2 : (Lit.int .u8 a1).wf = true) : laws_FnDrawPlaces.f a0 a1 = some true := by
  have k1 : 0 ≤ a0 ∧ a0 ≤ 255 := by simpa [Lit.wf, IntKind.min, IntKind.max, IntKind.signed, IntKind.bits] using h1
  have k2 : 0 ≤ a1 ∧ a1 ≤ 255 := by simpa [Lit.wf, IntKind.min, IntKind.max, IntKind.signed, IntKind.bits] using h2
  exact if_pos ⟨k1, k2⟩
end Go.Proofs.YtmlginohbckfcaaGreatDoor.Y
end
