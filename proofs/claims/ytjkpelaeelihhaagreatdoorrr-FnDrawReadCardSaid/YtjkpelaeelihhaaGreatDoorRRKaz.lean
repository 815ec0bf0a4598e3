/- Texts of this claim, joined: XRead XReads Q0 Q1D Q1 Q XSameI XSamePlanB Y27D XLawRead. Of each, what the claim uses. -/
import Derived.Test.YtjkpelaeelihhaaGreatDoorRRKaw
import Derived.Test.YtjkpelaeelihhaaGreatDoorRRKay
import Derived.Test.YtjkpelaeelihhaaGreatDoorRRProg
import Derived.Below
import Derived.Deep.Draws
import Derived.Deep.AppendLies
import Derived.Maps.AppendAt
import Derived.OwnWalk
import Derived.Laws.BytesArg
import Derived.Laws.MakeOwn
import Derived.Laws.OwnMore
import Derived.Deep.OwnRows
import Derived.Tactics
import Derived.Lib.ConvBytes
import Derived.Laws.Slices
import Derived.WalkKit
import Derived.KernelRfl
import Derived.RowKit3
import Derived.Deep.LoopGhost
import Derived.Deep.QuietTactic
import Derived.BigQuiet
import Derived.WideLaws
import Derived.Deep.DeepCutAuto
import Derived.Deep.CutBlock
import Derived.Deep.RegionHeld3
import Derived.Laws.Rows
import Derived.Lib.AppendStr
import Derived.ArgAppend
import Derived.Laws.IdiomCopy
import Derived.OrdersHeld
import Derived.Laws.BitsLemmas
import Derived.RowKit
import Derived.Test.YtjkpelaeelihhaaGreatDoorRRKac
import Derived.Test.YtjkpelaeelihhaaGreatDoorRRKaa
import Derived.Test.YtjkpelaeelihhaaGreatDoorRRKab
import Derived.Test.YtjkpelaeelihhaaGreatDoorRRKad
import Derived.Lib.Hide
import Derived.Deep.DrawnRows
import Derived.Test.YtjkpelaeelihhaaGreatDoorRRKat
import Derived.Test.YtjkpelaeelihhaaGreatDoorRRKav
import Derived.Test.YtjkpelaeelihhaaGreatDoorRRKaq
section
namespace Go.Proofs.YtjkpelaeelihhaaGreatDoorRR.Y
open Go.RowKit Go.Proofs.YtjkpelaeelihhaaGreatDoorRRW.PrintWords Go.Proofs.YtjkpelaeelihhaaGreatDoorRRW.PrintLast Go.Proofs.YtjkpelaeelihhaaGreatDoorRRW.PrintMore
set_option linter.unusedSimpArgs false
set_option linter.unusedVariables false
theorem noBytes {s : ByteArray} (h : s.toList = []) : s = ⟨#[]⟩ := by
  rw [ByteArray.toList_eq] at h
  apply ByteArray.ext
  apply Array.toList_inj.1
  exact h
/-- How an event is read that is no character. -/
def ReadsAs (e : X.Ev) (o : Op) : Prop :=
  (e.kind = 1 ∧ (0 ≤ e.byte ∧ e.byte ≤ 255) ∧ o = ⟨61, e.byte, 0, ⟨#[]⟩, []⟩) ∨
  (e.kind = 2 ∧ spec_drawControl.f e.cmd e.params = some (o.f0, o.f1, o.f2, o.f3, o.f4, true)) ∨
  (e.kind = 3 ∧ (e.cmd = 55 ∨ e.cmd = 56) ∧ o = ⟨e.cmd - 5, 0, 0, ⟨#[]⟩, []⟩)
def numRead (k n : Nat) : Bool :=
  match impl_MakeNumber.f k n with
  | some t => (match X.run .gr (X.nb t) with
    | some (_, [e]) => decide (e.kind = 2) && (match spec_drawControl.f e.cmd e.params with
      | some (a, b, c, t, l, r) => decide (a = (k : Int)) && decide (b = (n : Int)) && decide (c = 0) && decide (t.data.toList = []) && decide (l = []) && r
      | none => false)
    | _ => false)
  | _ => false
theorem nums_read : ((List.range 23).all fun k => (k == 7 || k == 8) || (List.range 100).all fun n => (n == 0 && !(k == 10 || k == 11)) || numRead k n) = true := by kernel_rfl
theorem num_read (k n : Nat) (hk : k ≤ 22) (h7 : k ≠ 7) (h8 : k ≠ 8) (hn : n ≤ 99) (h0 : n ≠ 0 ∨ k = 10 ∨ k = 11) {t : ByteArray} {e : X.Ev} (ht : impl_MakeNumber.f k n = some t) (h1 : One t e) :
    e.kind = 2 ∧ spec_drawControl.f e.cmd e.params = some ((k : Int), (n : Int), 0, ⟨#[]⟩, [], true) := by
  have h := List.all_eq_true.1 nums_read k (List.mem_range.2 (by omega))
  have h2 : ((List.range 100).all fun n => (n == 0 && !(k == 10 || k == 11)) || numRead k n) = true := by
    rcases Bool.or_eq_true _ _ ▸ h with h | h
    · simp only [Bool.or_eq_true, beq_iff_eq] at h
      omega
    · exact h
  have h3 : ((n == 0 && !(k == 10 || k == 11)) || numRead k n) = true := List.all_eq_true.1 h2 n (List.mem_range.2 (by omega))
  have h4 : numRead k n = true := by
    rcases Bool.or_eq_true _ _ ▸ h3 with h | h
    · simp only [Bool.and_eq_true, beq_iff_eq, Bool.not_eq_true', Bool.or_eq_false_iff, beq_eq_false_iff_ne] at h
      omega
    · exact h
  unfold numRead at h4
  rw [ht] at h4
  simp only [h1.run, Bool.and_eq_true, decide_eq_true_eq] at h4
  refine ⟨h4.1, ?_⟩
  have h5 := h4.2
  cases hc : spec_drawControl.f e.cmd e.params with
  | none => rw [hc] at h5; cases h5
  | some x =>
    obtain ⟨a, b, c, t, l, r⟩ := x
    rw [hc] at h5
    simp only [Bool.and_eq_true, decide_eq_true_eq] at h5
    obtain ⟨⟨⟨⟨⟨q0, q1⟩, q2⟩, q3⟩, q4⟩, q5⟩ := h5
    subst q0 q1 q2 q4 q5
    rw [show t = ⟨#[]⟩ from by apply ByteArray.ext; apply Array.toList_inj.1; exact q3]
theorem one_same {t : ByteArray} {e e2 : X.Ev} (h : One t e) (h2 : One t e2) : e = e2 := by
  have := h.run.symm.trans h2.run
  simpa using this
theorem attr_small {n : Int} (h : AttrOk n) : 0 ≤ n ∧ n < 2147483647 := by unfold AttrOk at h; omega
theorem style_read (l : List Int) (h : Attrs l) : spec_drawControl.f 109 l = some (52, 0, 0, ⟨#[]⟩, l, true) := by
  obtain ⟨ho, h1, h6⟩ := h
  have hp : ∀ p ∈ l, 0 ≤ p ∧ p < 2147483647 := fun p hp => attr_small (ho p hp)
  have p0 : spec_DrawParam.f l 0 1 = some l[0] := param_f l 0 1 h1 (hp _ (List.getElem_mem _)).1 (hp _ (List.getElem_mem _)).2
  obtain ⟨b, p1⟩ : ∃ b, spec_DrawParam.f l 1 1 = some b := by
    by_cases hl : 1 < l.length
    · exact ⟨_, param_f l 1 1 hl (hp _ (List.getElem_mem _)).1 (hp _ (List.getElem_mem _)).2⟩
    · exact ⟨_, param_none l 1 1 (by omega)⟩
  unfold spec_drawControl.f
  rw [show finalOf 109 = none by rfl]
  simp only []
  rw [p0, p1, Option.bind_some, Option.bind_some, if_neg (by omega), if_neg (by omega), if_neg (by omega), if_pos ⟨by trivial, by omega, hp⟩, if_neg (by intro h; rw [h] at h1; simp at h1)]
theorem two_read (c a b : Int) (ha : 1 ≤ a ∧ a ≤ 99) (hb : 1 ≤ b ∧ b ≤ 99) (hc : finalOf c = none) : spec_drawControl.f c [a, b] = (if c = 72 then some (40, b, a, ⟨#[]⟩, [], true) else if c = 102 then some (41, b, a, ⟨#[]⟩, [], true) else if c = 114 then some (42, a, b, ⟨#[]⟩, [], true)
    else if c = 109 ∧ [a, b].length < 1000000 ∧ (∀ p ∈ [a, b], 0 ≤ p ∧ p < 2147483647) then some (52, 0, 0, ⟨#[]⟩, (if [a, b] = [] then [0] else [a, b]), true) else none) := by
  have p0 : spec_DrawParam.f [a, b] 0 1 = some a := param_f [a, b] 0 1 (by simp) (by simp; omega) (by simp; omega)
  have p1 : spec_DrawParam.f [a, b] 1 1 = some b := param_f [a, b] 1 1 (by simp) (by simp; omega) (by simp; omega)
  unfold spec_drawControl.f
  rw [hc]
  simp only []
  rw [p0, p1, Option.bind_some, Option.bind_some, show max a 1 = a by omega, show max b 1 = b by omega]
theorem made_reads (o : Op) (ho : Right o) (k : Nat) (hk : 200 ≤ k) {t : ByteArray} {e : X.Ev} (hm : laws_drawMade.f k o.f0 o.f1 o.f2 o.f3 o.f4 = some t) (he : One t e) (h60 : o.f0 ≠ 60) : ReadsAs e o := by
  obtain ⟨k, rfl⟩ : ∃ k', k = k' + 1 := ⟨k - 1, by omega⟩
  rcases ho with ⟨h1, h2, h3, h4⟩ | ⟨h1, h2, h3, h4, h5, h6⟩ | ⟨h1, h2, h3, h4, h5⟩ | ⟨h1, h2, h3, h4⟩ | ⟨h1, h2, h3, h4, h5⟩ | ⟨h1, h2, h3, h4, h5⟩ | ⟨h1, h2, h3, h4⟩
  · have hb : 0 ≤ o.f1 ∧ o.f1 ≤ 99 ∧ (o.f1 ≠ 0 ∨ o.f0 = 10 ∨ o.f0 = 11) := by split at h4 <;> omega
    have h9 := h1
    unfold NumK at h1
    have e0 : ((o.f0.toNat : Nat) : Int) = o.f0 := Int.toNat_of_nonneg h1.1
    have e1 : ((o.f1.toNat : Nat) : Int) = o.f1 := Int.toNat_of_nonneg hb.1
    unfold laws_drawMade.f at hm
    obtain ⟨b, hb2, hn⟩ := isNum_f o.f0
    rw [hb2, Option.bind_some, if_pos (hn.2 h9)] at hm
    obtain ⟨t2, m1, m2⟩ := Option.bind_eq_some_iff.1 hm
    cases m2
    rw [← e0, ← e1] at m1
    have := num_read o.f0.toNat o.f1.toNat (by omega) (by omega) (by omega) (by omega) (by omega) m1 he
    rw [e0, e1] at this
    exact Or.inr (Or.inl ⟨this.1, by rw [this.2, h3, noBytes h2.1, h2.2]⟩)
  · rw [pair_made k o (by omega)] at hm
    have ea : ((o.f1.toNat : Nat) : Int) = o.f1 := Int.toNat_of_nonneg (by omega)
    have eb : ((o.f2.toNat : Nat) : Int) = o.f2 := Int.toNat_of_nonneg (by omega)
    unfold impl_MakePair.f at hm
    rcases h1 with h1 | h1
    · obtain ⟨t2, e2, p1, p2, p3⟩ := place_one o.f1.toNat o.f2.toNat (by omega) (by omega) k (by omega)
      rw [ea, eb] at p1
      rw [if_pos (by omega), p1, Option.bind_some] at hm
      cases hm
      rw [one_same he p2]
      rcases p3 with p3 | ⟨p3, p4, p5⟩
      · rw [p3, ea, eb]
        exact Or.inr (Or.inl ⟨rfl, by rw [show (X.evCsi 72 [o.f2, o.f1]).cmd = 72 from rfl, show (X.evCsi 72 [o.f2, o.f1]).params = [o.f2, o.f1] from rfl, two_read 72 _ _ (by omega) (by omega) rfl, if_pos rfl, h1, noBytes h2.1, h2.2]⟩)
      · rw [p3]
        have f1 : o.f1 = 1 := by omega
        have f2 : o.f2 = 1 := by omega
        exact Or.inr (Or.inl ⟨rfl, by rw [h1, f1, f2, noBytes h2.1, h2.2]; rfl⟩)
    · obtain ⟨t2, p1, p2⟩ := hv_one o.f1.toNat o.f2.toNat (by omega) (by omega)
      rw [ea, eb] at p1 p2
      rw [if_neg (by omega), if_pos (by omega), p1, Option.bind_some] at hm
      cases hm
      rw [one_same he p2]
      exact Or.inr (Or.inl ⟨rfl, by rw [show (X.evCsi 102 [o.f2, o.f1]).cmd = 102 from rfl, show (X.evCsi 102 [o.f2, o.f1]).params = [o.f2, o.f1] from rfl, two_read 102 _ _ (by omega) (by omega) rfl, if_neg (by omega), if_pos rfl, h1, noBytes h2.1, h2.2]⟩)
  · rw [pair_made k o (by omega)] at hm
    have ea : ((o.f1.toNat : Nat) : Int) = o.f1 := Int.toNat_of_nonneg (by omega)
    have eb : ((o.f2.toNat : Nat) : Int) = o.f2 := Int.toNat_of_nonneg (by omega)
    unfold impl_MakePair.f at hm
    obtain ⟨t2, p1, p2⟩ := margins_one o.f1.toNat o.f2.toNat (by omega) (by omega)
    rw [ea, eb] at p1 p2
    rw [if_neg (by omega), if_neg (by omega), if_pos (by omega), p1, Option.bind_some] at hm
    cases hm
    rw [one_same he p2]
    exact Or.inr (Or.inl ⟨rfl, by rw [show (X.evCsi 114 [o.f1, o.f2]).cmd = 114 from rfl, show (X.evCsi 114 [o.f1, o.f2]).params = [o.f1, o.f2] from rfl, two_read 114 _ _ (by omega) (by omega) rfl, if_neg (by omega), if_neg (by omega), if_pos rfl, h1, noBytes h2.1, h2.2]⟩)
  · rw [other_made _ o (by unfold NumK; omega) (by omega), laws_drawMade.j0, if_neg (by simp)] at hm
    have hz := noBytes h2.1
    obtain ⟨o0, o1, o2, o3, o4⟩ := o
    simp only at h1 h3 h4 hz hm h2 h60 ⊢
    obtain ⟨h2, rfl⟩ := h2
    subst h3 h4 hz
    rcases h1 with rfl | rfl
    · rw [if_pos rfl] at hm
      cases hm
      rw [one_same he (e2 := X.evEsc 55) ⟨rfl, ⟨_, rfl⟩, by decide, by decide, by decide⟩]
      exact Or.inr (Or.inr ⟨rfl, Or.inl rfl, rfl⟩)
    · rw [if_neg (by omega), if_pos rfl] at hm
      cases hm
      rw [one_same he (e2 := X.evEsc 56) ⟨rfl, ⟨_, rfl⟩, by decide, by decide, by decide⟩]
      exact Or.inr (Or.inr ⟨rfl, Or.inr rfl, rfl⟩)
  · rw [other_made _ o (by unfold NumK; omega) (by omega), laws_drawMade.j0, if_neg (by simp), if_neg (by omega), if_neg (by omega), if_pos h1] at hm
    obtain ⟨t2, p1, p2⟩ := style_one o.f4 h5 k (by omega)
    rw [p1, Option.bind_some] at hm
    cases hm
    rw [one_same he p2]
    exact Or.inr (Or.inl ⟨rfl, by rw [show (X.evCsi 109 o.f4).cmd = 109 from rfl, show (X.evCsi 109 o.f4).params = o.f4 from rfl, style_read _ h5, h1, h3, h4, noBytes h2]⟩)
  · exact absurd h1 h60
  · rw [other_made _ o (by unfold NumK; omega) (by omega), laws_drawMade.j0, if_neg (by simp), if_neg (by omega), if_neg (by omega), if_neg (by omega), if_pos h1] at hm
    have hz := noBytes h2.1
    obtain ⟨o0, o1, o2, o3, o4⟩ := o
    simp only at h1 h3 h4 hz hm h2 h60 ⊢
    obtain ⟨h2, rfl⟩ := h2
    subst h3 h1 hz
    rcases h4 with rfl | rfl | rfl | rfl
    · cases hm
      rw [one_same he (e2 := X.evExec 13) ⟨rfl, ⟨_, rfl⟩, by decide, by decide, by decide⟩]
      exact Or.inl ⟨rfl, by decide, rfl⟩
    · cases hm
      rw [one_same he (e2 := X.evExec 10) ⟨rfl, ⟨_, rfl⟩, by decide, by decide, by decide⟩]
      exact Or.inl ⟨rfl, by decide, rfl⟩
    · cases hm
      rw [one_same he (e2 := X.evExec 8) ⟨rfl, ⟨_, rfl⟩, by decide, by decide, by decide⟩]
      exact Or.inl ⟨rfl, by decide, rfl⟩
    · cases hm
      rw [one_same he (e2 := X.evExec 9) ⟨rfl, ⟨_, rfl⟩, by decide, by decide, by decide⟩]
      exact Or.inl ⟨rfl, by decide, rfl⟩
/-! ### Reading -/
abbrev SpEv := S49
def evS (e : X.Ev) : SpEv := cv (X.toS e)
/-- The last operation is a text. -/
def EndsText (x4 : List Op) : Prop := ∃ y o, x4 = y ++ [o] ∧ o.f0 = 60
theorem no_last {x4 : List Op} (h : ¬ EndsText x4) : lastText x4 = none := by
  unfold lastText
  rcases List.eq_nil_or_concat x4 with rfl | ⟨l, b, rfl⟩
  · rfl
  · rw [List.concat_eq_append] at h ⊢
    rw [List.getLast?_append, List.getLast?_singleton]
    simp only [Option.some_or]
    rw [if_neg (fun h6 => h ⟨l, b, rfl, h6⟩)]
theorem is_last (y : List Op) (o : Op) (h : o.f0 = 60) : lastText (y ++ [o]) = some o := by
  unfold lastText
  rw [List.getLast?_append, List.getLast?_singleton]
  simp only [Option.some_or]
  rw [if_pos h]
theorem rd_reads {e : X.Ev} {o : Op} (h : ReadsAs e o) (acc : List Op) : rdStep acc (evS e) = some (acc ++ [o]) := by
  unfold rdStep
  rcases h with ⟨h1, h2, h3⟩ | ⟨h1, h2⟩ | ⟨h1, h2, h3⟩
  · have e0 : (evS e).f0 = 1 := h1
    have e2 : (evS e).f2 = e.byte := rfl
    rw [if_neg (by omega), if_pos e0, e2, if_pos h2, ← h3]
  · have e0 : (evS e).f0 = 2 := h1
    have e2 : (evS e).f3 = e.cmd := rfl
    have e3 : (evS e).f4 = e.params := rfl
    rw [if_neg (by omega), if_neg (by omega), if_pos e0, e2, e3, h2, Option.bind_some, if_pos rfl]
  · have e0 : (evS e).f0 = 3 := h1
    have e2 : (evS e).f3 = e.cmd := rfl
    rw [if_neg (by omega), if_neg (by omega), if_neg (by omega), if_pos ⟨e0, h2⟩, e2, ← h3]
theorem chr_byte (b : UInt8) : chr (b.toNat : Int) = ⟨#[b]⟩ := by
  have := b.toNat_lt
  unfold chr
  rw [show (b.toNat : Int) % 256 = (b.toNat : Int) by omega]
  simp [strOfNums]
theorem rd_first (b : UInt8) (hb : PByte b) (acc : List Op) (hn : ¬ EndsText acc) : rdStep acc (evS (X.evPrint b.toNat)) = some (acc ++ [⟨60, 0, 0, ⟨#[b]⟩, []⟩]) := by
  obtain ⟨b0, b1⟩ := hb
  have e0 : (evS (X.evPrint b.toNat)).f0 = 0 := rfl
  have e1 : (evS (X.evPrint b.toNat)).f1 = (b.toNat : Int) := rfl
  unfold rdStep
  rw [if_pos e0, e1, if_pos (by omega), no_last hn, chr_byte]
theorem rd_more (b : UInt8) (hb : PByte b) (x : List Op) (s : ByteArray) (hs : s.size ≤ 1000) : rdStep (x ++ [⟨60, 0, 0, s, []⟩]) (evS (X.evPrint b.toNat)) = some (x ++ [⟨60, 0, 0, s ++ ⟨#[b]⟩, []⟩]) := by
  obtain ⟨b0, b1⟩ := hb
  have e0 : (evS (X.evPrint b.toNat)).f0 = 0 := rfl
  have e1 : (evS (X.evPrint b.toNat)).f1 = (b.toNat : Int) := rfl
  unfold rdStep
  rw [if_pos e0, e1, if_pos (by omega), is_last x _ rfl]
  simp only []
  rw [if_pos (by show s.size ≤ _; omega), chr_byte]
  simp
theorem rd_append (l m : List SpEv) : ∀ acc, rdAll acc (l ++ m) = (rdAll acc l).bind fun a => rdAll a m := by
  induction l with
  | nil => intro acc; rfl
  | cons e l ih =>
    intro acc
    rw [List.cons_append, rdAll, rdAll]
    cases rdStep acc e with
    | none => rfl
    | some a => exact ih a
theorem read_more (x : List Op) : ∀ (bs : List UInt8) (s : ByteArray), (∀ b ∈ bs, PByte b) → s.size + bs.length ≤ 1000 →
    rdAll (x ++ [⟨60, 0, 0, s, []⟩]) (bs.map fun b => evS (X.evPrint b.toNat)) = some (x ++ [⟨60, 0, 0, s ++ ⟨bs.toArray⟩, []⟩])
  | [], s, _, _ => by
    rw [show s ++ (⟨([] : List UInt8).toArray⟩ : ByteArray) = s from ByteArray.append_empty]
    rfl
  | b :: bs, s, hp, hs => by
    rw [List.length_cons] at hs
    have hsz : (⟨#[b]⟩ : ByteArray).size = 1 := rfl
    rw [List.map_cons, rdAll, rd_more b (hp b (by simp)) x s (by omega), Option.bind_some, read_more x bs (s ++ ⟨#[b]⟩) (fun c hc => hp c (List.mem_cons_of_mem _ hc)) (by rw [ByteArray.size_append]; omega), ByteArray.append_assoc,
      show (⟨#[b]⟩ : ByteArray) ++ (⟨bs.toArray⟩ : ByteArray) = ⟨(b :: bs).toArray⟩ by apply ByteArray.ext; simp [ByteArray.data_append]]
theorem read_text (x : List Op) (hn : ¬ EndsText x) (s : ByteArray) (hs : PText s) : rdAll x ((charEvs s).map evS) = some (x ++ [⟨60, 0, 0, s, []⟩]) := by
  obtain ⟨hp, h1, h20⟩ := hs
  obtain ⟨⟨bs⟩⟩ := s
  have hsz : (⟨⟨bs⟩⟩ : ByteArray).size = bs.length := rfl
  cases bs with
  | nil => exact absurd h1 (by decide)
  | cons b bs =>
    rw [List.length_cons] at hsz
    have h0 : (⟨#[b]⟩ : ByteArray).size = 1 := rfl
    have e : (charEvs ⟨⟨b :: bs⟩⟩).map evS = evS (X.evPrint b.toNat) :: bs.map fun b => evS (X.evPrint b.toNat) := by simp [charEvs, Function.comp_def]
    rw [e, rdAll, rd_first b (hp b (by simp)) x hn, Option.bind_some, read_more x bs ⟨#[b]⟩ (fun c hc => hp c (List.mem_cons_of_mem _ hc)) (by omega),
      show (⟨#[b]⟩ : ByteArray) ++ (⟨bs.toArray⟩ : ByteArray) = ⟨⟨b :: bs⟩⟩ by apply ByteArray.ext; simp [ByteArray.data_append]]
/-- An operation with its events. -/
def Good (p : Op × List X.Ev) : Prop := (p.1 = ⟨60, 0, 0, p.1.f3, []⟩ ∧ p.2 = charEvs p.1.f3 ∧ PText p.1.f3) ∨ (p.1.f0 ≠ 60 ∧ ∃ e, p.2 = [e] ∧ ReadsAs e p.1)
def Apart : Bool → List Op → Prop
  | _, [] => True
  | b, o :: r => ¬ (b = true ∧ o.f0 = 60) ∧ Apart (decide (o.f0 = 60)) r
theorem apart_next : ∀ (r : List Op) (o : Op), (∀ i, 0 < i → (h : i < (o :: r).length) → ¬ ((o :: r)[i].f0 = 60 ∧ ((o :: r)[i - 1]'(by omega)).f0 = 60)) → Apart (decide (o.f0 = 60)) r
  | [], _, _ => trivial
  | p :: r, o, h => by
    refine ⟨fun ⟨h1, h2⟩ => ?_, apart_next r p (fun i h0 hi => ?_)⟩
    · exact h 1 (by omega) (by simp) ⟨h2, of_decide_eq_true h1⟩
    · have := h (i + 1) (by omega) (by simp only [List.length_cons] at hi ⊢; omega)
      obtain ⟨j, rfl⟩ : ∃ j, i = j + 1 := ⟨i - 1, by omega⟩
      simpa using this
theorem apart_of (l : List Op) (h : ∀ i, 0 < i → (h : i < l.length) → ¬ (l[i].f0 = 60 ∧ (l[i - 1]'(by omega)).f0 = 60)) : Apart false l := by
  cases l with
  | nil => trivial
  | cons o r => exact ⟨fun hh => (by cases hh.1), apart_next r o h⟩
theorem ends_iff (x4 : List Op) (o : Op) (h : EndsText (x4 ++ [o])) : o.f0 = 60 := by
  obtain ⟨y, p, h1, h2⟩ := h
  have := List.append_inj_right' h1 rfl
  injection this with h3 _
  rw [h3]
  exact h2
theorem read_all : ∀ (q : List (Op × List X.Ev)) (x4 : List Op) (b : Bool), (∀ p ∈ q, Good p) → Apart b (q.map (·.1)) → (EndsText x4 → b = true) → rdAll x4 (((q.map (·.2)).flatten).map evS) = some (x4 ++ q.map (·.1))
  | [], x4, b, _, _, _ => by simp [rdAll]
  | (o, es) :: q, x4, b, hg, ha, hb => by
    rw [List.map_cons] at ha
    have ih := read_all q (x4 ++ [o]) (decide (o.f0 = 60)) (fun p hp => hg p (List.mem_cons_of_mem _ hp)) ha.2 (fun h => decide_eq_true (ends_iff x4 o h))
    rw [List.append_assoc] at ih
    rw [show ((((o, es) :: q).map (·.2)).flatten).map evS = es.map evS ++ ((q.map (·.2)).flatten).map evS by simp, rd_append]
    have h1 : rdAll x4 (es.map evS) = some (x4 ++ [o]) := by
      rcases hg (o, es) (by simp) with ⟨h1, h2, h3⟩ | ⟨h1, e, h2, h3⟩
      · simp only at h1 h2 h3
        subst h2
        rw [read_text x4 (fun h => ha.1 ⟨hb h, by rw [h1]⟩) o.f3 h3, ← h1]
      · simp only at h1 h2 h3
        subst h2
        rw [List.map_cons, List.map_nil, rdAll, rd_reads h3, Option.bind_some, rdAll]
    rw [h1, Option.bind_some, ih]
    rfl
end Go.Proofs.YtjkpelaeelihhaaGreatDoorRR.Y
end
section
namespace Go.Proofs.YtjkpelaeelihhaaGreatDoorRR.Y
open Go.RowKit Go.Proofs.YtjkpelaeelihhaaGreatDoorRRW.PrintWords Go.Proofs.YtjkpelaeelihhaaGreatDoorRRW.PrintLast Go.Proofs.YtjkpelaeelihhaaGreatDoorRRW.PrintMore
set_option linter.unusedSimpArgs false
set_option linter.unusedVariables false
theorem right_text {o : Op} (h : Right o) (h60 : o.f0 = 60) : o = ⟨60, 0, 0, o.f3, []⟩ := by
  rcases h with ⟨h1, _⟩ | ⟨h1, _⟩ | ⟨h1, _⟩ | ⟨h1, _⟩ | ⟨h1, _⟩ | ⟨h1, h2, h3, h4, h5⟩ | ⟨h1, _⟩
  · unfold NumK at h1; omega
  · omega
  · omega
  · omega
  · omega
  · obtain ⟨o0, o1, o2, o3, o4⟩ := o
    simp only at h1 h2 h3 h4
    subst h1 h2 h3 h4
    rfl
  · omega
theorem right_list {o : Op} (h : Right o) : o.f4.length < 1000000 := by
  rcases h with ⟨_, h2, _⟩ | ⟨_, h2, _⟩ | ⟨_, h2, _⟩ | ⟨_, h2, _⟩ | ⟨_, _, _, _, h2⟩ | ⟨_, _, _, h2, _⟩ | ⟨_, h2, _⟩
  · rw [h2.2]; decide
  · rw [h2.2]; decide
  · rw [h2.2]; decide
  · rw [h2.2]; decide
  · have := h2.2.2; omega
  · rw [h2]; decide
  · rw [h2.2]; decide
/-- A right plan's operations, each with its events. -/
theorem plan_good (l : List Op) (h : RightPlan l) (ps : List (ByteArray × List X.Ev)) (hm : Made l ps) : ∃ q : List (Op × List X.Ev), q.map (·.1) = l ∧ q.map (·.2) = ps.map (·.2) ∧ ∀ p ∈ q, Good p := by
  obtain ⟨h1, h2, h3⟩ := h
  obtain ⟨hl, hp⟩ := hm
  refine ⟨l.zip (ps.map (·.2)), List.map_fst_zip (by rw [List.length_map]; omega), List.map_snd_zip (by rw [List.length_map]; omega), ?_⟩
  intro p hpm
  obtain ⟨i, hi, hpi⟩ := List.getElem_of_mem hpm
  rw [List.length_zip, List.length_map] at hi
  have hil : i < l.length := by omega
  have hip : i < ps.length := by omega
  obtain ⟨g1, g2⟩ := hp i ps[i] hil (List.getElem?_eq_getElem hip)
  rw [List.getElem_zip, List.getElem_map] at hpi
  subst hpi
  have ho := h1 _ (List.getElem_mem hil)
  rcases g2 with ⟨q1, q2, q3, q4⟩ | ⟨q1, e, q2, q3⟩
  · exact Or.inl ⟨right_text ho q1, q3, q4⟩
  · exact Or.inr ⟨q1, e, q2, made_reads _ ho 200 (Nat.le_refl _) (g1 200 (Nat.le_refl _)) q3 q1⟩
/-- Good operations, no two texts side by side, are read. -/
theorem good_read (q : List (Op × List X.Ev)) (hg : ∀ p ∈ q, Good p) (ha : Apart false (q.map (·.1))) (hf : ((q.map (·.2)).flatten).length ≤ 1000000) : spec_DrawRead.f (((q.map (·.2)).flatten).map evS) = some (q.map (·.1), true) := by
  have ha := read_all q [] false hg ha (fun ⟨y, o, hy, _⟩ => by simp at hy)
  unfold spec_DrawRead.f
  rw [if_pos (by rw [List.length_map]; omega), ha]
  rfl
/-- What a right plan's events are read as. -/
theorem plan_read (l : List Op) (h : RightPlan l) (ps : List (ByteArray × List X.Ev)) (hm : Made l ps) (hf : ((ps.map (·.2)).flatten).length ≤ 400) :
    spec_DrawRead.f (((ps.map (·.2)).flatten).map evS) = some (l, true) := by
  obtain ⟨q, q1, q2, q3⟩ := plan_good l h ps hm
  have := good_read q q3 (by rw [q1]; exact apart_of l h.2.1) (by rw [q2]; omega)
  rwa [q1, q2] at this
end Go.Proofs.YtjkpelaeelihhaaGreatDoorRR.Y
end
section
namespace Go.Proofs.YtjkpelaeelihhaaGreatDoorRR.Q
open Go.RowKit Go.Proofs.YtjkpelaeelihhaaGreatDoorRRW.PrintWords Go.Proofs.YtjkpelaeelihhaaGreatDoorRRW.PrintLast Go.Proofs.YtjkpelaeelihhaaGreatDoorRRW.PrintMore
attribute [local go_sem] max2_int min2_int max_two min_two max_three min_three max_four min_four   -- for this text's walks alone
set_option linter.unusedVariables false
set_option linter.unusedSimpArgs false
def errW : Option Int → Value
  | none => .nilIface
  | some c => .iface 0 (.int .i64 c)
theorem errW_none : errW none = .nilIface := rfl
theorem errW_some (c : Int) : errW (some c) = .iface 0 (.int .i64 c) := rfl
-- the values' own types
end Go.Proofs.YtjkpelaeelihhaaGreatDoorRR.Q
end
section
namespace Go.Proofs.YtjkpelaeelihhaaGreatDoorRR.Q
open Go.RowKit Go.Proofs.YtjkpelaeelihhaaGreatDoorRRW.PrintWords Go.Proofs.YtjkpelaeelihhaaGreatDoorRRW.PrintLast Go.Proofs.YtjkpelaeelihhaaGreatDoorRRW.PrintMore
attribute [local go_sem] max2_int min2_int max_two min_two max_three min_three max_four min_four   -- for this text's walks alone
set_option linter.unusedVariables false
set_option linter.unusedSimpArgs false
/-! ### spec_SameInts: function 17 -/
def spec_SameInts.l0 : Nat → List Int → List Int → Int → Int → Option (Bool)
  | 0, _, _, _, _ => none
  | k + 1, x0, x1, x12, x13 => if x13 < x12 then (if 0 ≤ x13 then (if x13 < (x0.length : Int) then (if x13 < (x1.length : Int) then (if (rd x0 x13) = (rd x1 x13) then (spec_SameInts.l0 k x0 x1 x12 (wrap64 (x13 + 1))) else (some false)) else (none)) else (none)) else (none)) else (some true)
def spec_SameInts.f (k : Nat) (l0 : List Int) (l1 : List Int) : Option (Bool) := if (l0.length : Int) = (l1.length : Int) then (spec_SameInts.l0 k l0 l1 (l0.length : Int) 0) else (some false)
theorem spec_SameInts.mono_l : ∀ k, (∀ y0 y1 y2 y3, LeO (spec_SameInts.l0 k y0 y1 y2 y3) (spec_SameInts.l0 (k + 1) y0 y1 y2 y3))
  | 0 => fun _ _ _ _ r h => by simp [spec_SameInts.l0] at h
  | k + 1 => by
    have ih0 := spec_SameInts.mono_l k
    · intro y0 y1 y2 y3
      unfold spec_SameInts.l0
      repeat' first
      | (with_reducible exact ih0 _ _ _ _)
      | (with_reducible exact LeO.refl _)
      | (with_reducible exact LeO.none _)
      | (with_reducible refine LeO.ite ?_ ?_)
      | (with_reducible refine LeO.bind ?_ (fun _ => ?_))
      | exact ih0 _ _ _ _
      | exact LeO.none _
      | refine LeO.ite ?_ ?_
      | refine LeO.bind ?_ (fun _ => ?_)
theorem spec_SameInts.mono : ∀ a0 a1 k, LeO (spec_SameInts.f k a0 a1) (spec_SameInts.f (k + 1) a0 a1) := by
  intro a0 a1 k
  have ih0 := spec_SameInts.mono_l k
  unfold spec_SameInts.f
  repeat' first
      | (with_reducible exact ih0 _ _ _ _)
      | (with_reducible exact LeO.refl _)
      | (with_reducible exact LeO.none _)
      | (with_reducible refine LeO.ite ?_ ?_)
      | (with_reducible refine LeO.bind ?_ (fun _ => ?_))
      | exact ih0 _ _ _ _
      | exact LeO.none _
      | refine LeO.ite ?_ ?_
      | refine LeO.bind ?_ (fun _ => ?_)
end Go.Proofs.YtjkpelaeelihhaaGreatDoorRR.Q
end
section
namespace Go.Proofs.YtjkpelaeelihhaaGreatDoorRR.Q
open Go.RowKit Go.Proofs.YtjkpelaeelihhaaGreatDoorRRW.PrintWords Go.Proofs.YtjkpelaeelihhaaGreatDoorRRW.PrintLast Go.Proofs.YtjkpelaeelihhaaGreatDoorRRW.PrintMore
attribute [local go_sem] max2_int min2_int max_two min_two max_three min_three max_four min_four   -- for this text's walks alone
set_option linter.unusedVariables false
set_option linter.unusedSimpArgs false
set_option maxHeartbeats 8000000 in
set_option maxRecDepth 100000 in
theorem spec_SameInts.calls (k : Nat) (A0 : Option Addr) (c0 : Nat) (l0 : List Int) (A1 : Option Addr) (c1 : Nat) (l1 : List Int) (r : Bool) (w : World) (hr0 : Kd.C (Kd.int .i64) w A0 l0.length l0) (hc0 : l0.length ≤ c0) (hr1 : Kd.C (Kd.int .i64) w A1 l1.length l1) (hc1 : l1.length ≤ c1) (h : spec_SameInts.f k l0 l1 = some r) :
    Calls Tryz.prog 17 #[.slice A0 l0.length c0, .slice A1 l1.length c1] w fun e w' => e = .returned (.bool r) ∧ Drawn0 w w' := by
  have HR0 := Aside0.mk hr0
  have HC0 := Aside0.mk hc0
  clear hr0 hc0
  have HR1 := Aside0.mk hr1
  have HC1 := Aside0.mk hc1
  clear hr1 hc1
  have H : (if (l0.length : Int) = (l1.length : Int) then (spec_SameInts.l0 k l0 l1 (l0.length : Int) 0) else (some false)) = some r := h
  clear h
  by_cases c3 : (l0.length : Int) = (l1.length : Int)
  · rw [if_pos c3] at H
    have c3b0 : ((l0.length : Int) == (l1.length : Int)) = true := beq_iff_eq.mpr c3
    have c3b1 : ((l0.length : Int) != (l1.length : Int)) = false := bne_eq_false_iff_eq.mpr c3
    have c3b2 : (l0.length == l1.length) = true := by first | simpa using c3 | (simp at c3 ⊢; omega)
    clear c3
    have H' := Aside0.mk H
    clear H
    go_enter Tryz.func17, Tryz.ntmps17
    go_wp2
    repeat (go_quiet (fail); try go_wp2)
    go_loopg [13] k (fun kq v13 w' => ∃ (x13_1 : Int), v13 = .int .i64 x13_1 ∧ Aside0 (spec_SameInts.l0 kq l0 l1 (l0.length : Int) x13_1 = some r) ∧ Aside0 (kq ≤ k) ∧ Drawn0 w w')
    case atStart => exact ⟨(0), (by first | rfl | (simp; done) | (simp [*]; done)), H', ⟨Nat.le_refl _⟩, by repeat (first | exact Drawn0.refl _ | apply Drawn0.step)⟩
    case round =>
      clear H'
      try clear c1
      try clear p2
      try clear c3
      try clear c3b0
      try clear c3b1
      try clear c3b2
      obtain ⟨x13_1, rfl, HA, HK1, ⟨m1, rfl⟩⟩ := hrel
      cases gk with
      | zero => exact absurd HA.out (by simp [spec_SameInts.l0])
      | succ k1 =>
        have H := HA.out
        clear HA
        simp only [spec_SameInts.l0] at H
        by_cases c4 : x13_1 < (l0.length : Int)
        · rw [if_pos c4] at H
          have c4b0 : decide (x13_1 < (l0.length : Int)) = true := decide_eq_true c4
          clear c4
          by_cases c5 : 0 ≤ x13_1
          · rw [if_pos c5] at H
            have c5b0 : decide (0 ≤ x13_1) = true := decide_eq_true c5
            clear c5
            by_cases c6 : x13_1 < (l0.length : Int)
            · rw [if_pos c6] at H
              have c6b0 : decide (x13_1 < (l0.length : Int)) = true := decide_eq_true c6
              clear c6
              by_cases c7 : x13_1 < (l1.length : Int)
              · rw [if_pos c7] at H
                have c7b0 : decide (x13_1 < (l1.length : Int)) = true := decide_eq_true c7
                clear c7
                by_cases c8 : (rd l0 x13_1) = (rd l1 x13_1)
                · rw [if_pos c8] at H
                  have c8b0 : ((rd l0 x13_1) == (rd l1 x13_1)) = true := beq_iff_eq.mpr c8
                  have c8b1 : ((rd l0 x13_1) != (rd l1 x13_1)) = false := bne_eq_false_iff_eq.mpr c8
                  clear c8
                  have H' := Aside0.mk H
                  clear H
                  have p101 : 0 ≤ (x13_1 : Int) := of_decide_eq_true (by first | (with_reducible assumption) | assumption)
                  have q101 : x13_1 < (l0.length : Int) := of_decide_eq_true (by first | (with_reducible assumption) | assumption)
                  obtain ⟨ad101, e101, hx101_0⟩ := Kd.at_int HR0.out x13_1 p101 q101
                  cases e101
                  replace p101 := eq_true p101
                  replace q101 := eq_true q101
                  have p102 : 0 ≤ (x13_1 : Int) := of_decide_eq_true (by first | (with_reducible assumption) | assumption)
                  have q102 : x13_1 < (l1.length : Int) := of_decide_eq_true (by first | (with_reducible assumption) | assumption)
                  obtain ⟨ad102, e102, hx102_0⟩ := Kd.at_int HR1.out x13_1 p102 q102
                  cases e102
                  replace p102 := eq_true p102
                  replace q102 := eq_true q102
                  go_wp2
                  repeat (go_quiet (fail); try go_wp2)
                  go_roundg k1
                  case measure => have := HK1.out; omega
                  case rel => exact ⟨(wrap64 (x13_1 + 1)), (by first | rfl | (simp; done) | (simp [*]; done)), H', ⟨by have := HK1.out; omega⟩, by repeat (first | exact Drawn0.refl _ | apply Drawn0.step)⟩
                · rw [if_neg c8] at H
                  have c8b0 : ((rd l0 x13_1) == (rd l1 x13_1)) = false := beq_eq_false_iff_ne.mpr c8
                  have c8b1 : ((rd l0 x13_1) != (rd l1 x13_1)) = true := bne_iff_ne.mpr c8
                  obtain rfl := Option.some.inj H
                  have p101 : 0 ≤ (x13_1 : Int) := of_decide_eq_true (by first | (with_reducible assumption) | assumption)
                  have q101 : x13_1 < (l0.length : Int) := of_decide_eq_true (by first | (with_reducible assumption) | assumption)
                  obtain ⟨ad101, e101, hx101_0⟩ := Kd.at_int HR0.out x13_1 p101 q101
                  cases e101
                  replace p101 := eq_true p101
                  replace q101 := eq_true q101
                  have p102 : 0 ≤ (x13_1 : Int) := of_decide_eq_true (by first | (with_reducible assumption) | assumption)
                  have q102 : x13_1 < (l1.length : Int) := of_decide_eq_true (by first | (with_reducible assumption) | assumption)
                  obtain ⟨ad102, e102, hx102_0⟩ := Kd.at_int HR1.out x13_1 p102 q102
                  cases e102
                  replace p102 := eq_true p102
                  replace q102 := eq_true q102
                  go_wp2
                  repeat (go_quiet (fail); try go_wp2)
                  go_ret
                  exact ⟨by first | rfl | (simp; done) | (simp [*]; done), by repeat (first | exact Drawn0.refl _ | apply Drawn0.step)⟩
              · rw [if_neg c7] at H
                exact absurd H (by simp)
            · rw [if_neg c6] at H
              exact absurd H (by simp)
          · rw [if_neg c5] at H
            exact absurd H (by simp)
        · rw [if_neg c4] at H
          have c4b0 : decide (x13_1 < (l0.length : Int)) = false := decide_eq_false c4
          clear c4
          obtain rfl := Option.some.inj H
          go_wp2
          repeat (go_quiet (fail); try go_wp2)
          go_ret
          exact ⟨by first | rfl | (simp; done) | (simp [*]; done), by repeat (first | exact Drawn0.refl _ | apply Drawn0.step)⟩
  · rw [if_neg c3] at H
    have c3b0 : ((l0.length : Int) == (l1.length : Int)) = false := beq_eq_false_iff_ne.mpr c3
    have c3b1 : ((l0.length : Int) != (l1.length : Int)) = true := bne_iff_ne.mpr c3
    have c3b2 : (l0.length == l1.length) = false := by first | simpa using c3 | (simp at c3 ⊢; omega)
    obtain rfl := Option.some.inj H
    go_enter Tryz.func17, Tryz.ntmps17
    go_wp2
    repeat (go_quiet (fail); try go_wp2)
    go_ret
    exact ⟨by first | rfl | (simp; done) | (simp [*]; done), by repeat (first | exact Drawn0.refl _ | apply Drawn0.step)⟩
end Go.Proofs.YtjkpelaeelihhaaGreatDoorRR.Q
end
section
namespace Go.Proofs.YtjkpelaeelihhaaGreatDoorRR.Q
open Go.RowKit Go.Proofs.YtjkpelaeelihhaaGreatDoorRRW.PrintWords Go.Proofs.YtjkpelaeelihhaaGreatDoorRRW.PrintLast Go.Proofs.YtjkpelaeelihhaaGreatDoorRRW.PrintMore
attribute [local go_sem] max2_int min2_int max_two min_two max_three min_three max_four min_four   -- for this text's walks alone
set_option linter.unusedVariables false
set_option linter.unusedSimpArgs false
end Go.Proofs.YtjkpelaeelihhaaGreatDoorRR.Q
end
section
namespace Go.Proofs.YtjkpelaeelihhaaGreatDoorRR.Y
open Go.RowKit Go.Proofs.YtjkpelaeelihhaaGreatDoorRRW.PrintWords Go.Proofs.YtjkpelaeelihhaaGreatDoorRRW.PrintLast Go.Proofs.YtjkpelaeelihhaaGreatDoorRRW.PrintMore
set_option linter.unusedSimpArgs false
set_option linter.unusedVariables false
theorem q_ints (a : List Int) (hl : a.length < 1000000) : ∀ (m i k : Nat), i + m = a.length → m < k → Q.spec_SameInts.l0 k a a (a.length : Int) (i : Int) = some true
  | 0, i, k + 1, h, hk => by rw [Q.spec_SameInts.l0, if_neg (by omega)]
  | m + 1, i, k + 1, h, hk => by
    rw [Q.spec_SameInts.l0, if_pos (by omega), if_pos (by omega), if_pos (by omega), if_pos (by omega), if_pos rfl, show wrap64 ((i : Int) + 1) = ((i + 1 : Nat) : Int) by unfold wrap64; omega]
    exact q_ints a hl m (i + 1) k (by omega) (by omega)
theorem ints_same (A0 : Option Addr) (c0 : Nat) (A1 : Option Addr) (c1 : Nat) (l : List Int) (w : World) (h0 : Kd.C (Kd.int .i64) w A0 l.length l) (hc0 : l.length ≤ c0) (h1 : Kd.C (Kd.int .i64) w A1 l.length l) (hc1 : l.length ≤ c1) (hl : l.length < 1000000) :
    Calls Tryz.prog 17 #[.slice A0 l.length c0, .slice A1 l.length c1] w fun e w' => e = .returned (.bool true) ∧ Drawn0 w w' :=
  Q.spec_SameInts.calls (l.length + 1) A0 c0 l A1 c1 l true w h0 hc0 h1 hc1 (by unfold Q.spec_SameInts.f; rw [if_pos rfl]; exact q_ints l hl l.length 0 _ (by omega) (by omega))
theorem two_below (w : World) (o1 o2 : Obj) : Below w.heap.size w ((w.alloc o1).alloc o2).drew := below_drew (below_alloc (below_alloc (Below.refl _ _) _) _)
theorem two_blocks (w : World) (c1 c2 : Array Value) (t : TypeId) : ((w.alloc (.cells c1 t)).alloc (.cells c2 t)).heap[w.heap.size]? = some (.cells c1 t (0, 0)) ∧ ((w.alloc (.cells c1 t)).alloc (.cells c2 t)).heap[w.heap.size + 1]? = some (.cells c2 t (0, 0)) :=
  ⟨blk_alloc (blk_new w _) _, by have := blk_new (w.alloc (.cells c1 t)) (.cells c2 t); simpa using this⟩
end Go.Proofs.YtjkpelaeelihhaaGreatDoorRR.Y
end
section
namespace Go.Proofs.YtjkpelaeelihhaaGreatDoorRR.Y
open Go.RowKit Go.Proofs.YtjkpelaeelihhaaGreatDoorRRW.PrintWords Go.Proofs.YtjkpelaeelihhaaGreatDoorRRW.PrintLast Go.Proofs.YtjkpelaeelihhaaGreatDoorRRW.PrintMore
set_option linter.unusedSimpArgs false
set_option linter.unusedVariables false
def opEq (a b : S45) : Bool := decide (a.f0 = b.f0) && decide (a.f1 = b.f1) && decide (a.f2 = b.f2) && decide (a.f3 = b.f3) && decide (a.f4 = b.f4) && decide (a.f4.length < 1000000)
theorem opEq_spec {a b : S45} (h : opEq a b = true) : a = b ∧ a.f4.length < 1000000 := by
  simp only [opEq, Bool.and_eq_true, decide_eq_true_eq] at h
  obtain ⟨⟨⟨⟨⟨h0, h1⟩, h2⟩, h3⟩, h4⟩, h6⟩ := h
  refine ⟨?_, h6⟩
  cases a
  cases b
  simp_all
def opsEq : List S45 → List S45 → Bool
  | [], [] => true
  | a :: l, b :: m => opEq a b && opsEq l m
  | _, _ => false
theorem opsEq_spec : ∀ (l m : List S45), opsEq l m = true → l = m ∧ ∀ e ∈ l, e.f4.length < 1000000
  | [], [], _ => ⟨rfl, by simp⟩
  | [], _ :: _, h => by simp [opsEq] at h
  | _ :: _, [], h => by simp [opsEq] at h
  | a :: l, b :: m, h => by
    simp only [opsEq, Bool.and_eq_true] at h
    obtain ⟨rfl, h1⟩ := opEq_spec h.1
    obtain ⟨rfl, h2⟩ := opsEq_spec l m h.2
    exact ⟨rfl, fun e he => by
      rcases List.mem_cons.1 he with rfl | he
      · exact h1
      · exact h2 e he⟩
theorem opsEq_of : ∀ (l : List S45), (∀ e ∈ l, e.f4.length < 1000000) → opsEq l l = true
  | [], _ => rfl
  | a :: l, h => by
    have := h a (by simp)
    simp [opsEq, opEq, this, opsEq_of l (fun e he => h e (List.mem_cons_of_mem _ he))]
def spec_SameDrawPlan.f (l0 : List S45) (l1 : List S45) : Option (Bool) := if opsEq l0 l1 = true then some true else none
set_option maxRecDepth 200000 in
set_option maxHeartbeats 4000000 in
theorem spec_SameDrawPlan.calls (A0 : Option Addr) (c0 : Nat) (l0 : List S45) (A1 : Option Addr) (c1 : Nat) (l1 : List S45) (r : Bool) (w : World) (hr0 : Kd.C k45 w A0 l0.length l0) (hc0 : l0.length ≤ c0) (hr1 : Kd.C k45 w A1 l1.length l1) (hc1 : l1.length ≤ c1) (h : spec_SameDrawPlan.f l0 l1 = some r) :
    Calls Tryz.prog 13 #[.slice A0 l0.length c0, .slice A1 l1.length c1] w fun e w' => e = .returned (.bool r) ∧ Below w.heap.size w w' := by
  unfold spec_SameDrawPlan.f at h
  split at h
  · rename_i hq
    obtain rfl := Option.some.inj h
    obtain ⟨rfl, hb⟩ := opsEq_spec _ _ hq
    have HA := Lib.hid (And.intro hr0 (And.intro hr1 hb))
    have hsz := hr0.2.1
    clear h hq hb hr0 hr1
    go_enter Tryz.func13, Tryz.ntmps13
    go_wp2_with fail
    go_loopg [15] l0.length (fun kq v15 w' => ∃ i : Nat, v15 = .int .i64 (i : Int) ∧ i + kq = l0.length ∧ Hid (Below w.heap.size w w'))
    case atStart => exact ⟨0, rfl, by omega, Below.refl _ _⟩
    case round =>
      obtain ⟨i, rfl, hk, hB⟩ := hrel
      by_cases hi : i < l0.length
      · have d1 : decide ((i : Int) < (l0.length : Int)) = true := decide_eq_true (by omega)
        have d2 : (0 : Int) ≤ (i : Int) := by omega
        have d4 : (i : Int) < (l0.length : Int) := by omega
        have e20 : IntKind.i64.wrap ((i : Int) + 1) = ((i + 1 : Nat) : Int) := by rw [IntKind.wrap_i64]; omega
        obtain ⟨ad, A4, p4, e, x0, x1, x2, x3, x4, l4, g4⟩ := at_T45 (Kd.C_below HA.out.1 hB.out) (i : Int) d2 (by omega)
        obtain ⟨bd, B4, q4, e', y0, y1, y2, y3, y4, m4, h4⟩ := at_T45 (Kd.C_below HA.out.2.1 hB.out) (i : Int) d2 (by omega)
        subst e
        subst e'
        simp only [Int.toNat_natCast] at x0 x1 x2 x3 x4 y0 y1 y2 y3 y4
        have hE : (rd_T45 l0 (i : Int)).f4.length < 1000000 := by
          have : rd_T45 l0 (i : Int) = l0[i] := by simp [rd_T45, hi]
          rw [this]
          exact HA.out.2.2 _ (List.getElem_mem hi)
        have HI := Lib.hid (And.intro hE (And.intro (And.intro l4 g4) (And.intro m4 h4)))
        clear hE l4 g4 m4 h4
        generalize rd_T45 l0 (i : Int) = x at *
        obtain ⟨f0, f1, f2, f3, f4⟩ := x
        simp only at x0 x1 x2 x3 x4 y0 y1 y2 y3 y4
        have HI2 : Hid (f4.length < 1000000 ∧ (f4.length ≤ p4 ∧ Kd.C (Kd.int .i64) wr A4 f4.length f4) ∧ f4.length ≤ q4 ∧ Kd.C (Kd.int .i64) wr B4 f4.length f4) := HI.out
        clear HI
        go_upto_region 6 with fail
        go_cut [6, 7] (fun v6 v7 wc => ∃ g1 g2 : Nat, v6 = .pointer (some ⟨g1, 0, none⟩) ∧ v7 = .pointer (some ⟨g2, 0, none⟩) ∧ Hid (Below wr.heap.size wr wc) ∧
          (wc.cell? ⟨g1, 0, none⟩ = some (.int .i64 f0) ∧ wc.cell? ⟨g1, 1, none⟩ = some (.int .i64 f1) ∧ wc.cell? ⟨g1, 2, none⟩ = some (.int .i64 f2) ∧ wc.cell? ⟨g1, 3, none⟩ = some (.string f3) ∧ wc.cell? ⟨g1, 4, none⟩ = some (.slice A4 f4.length p4)) ∧
          (wc.cell? ⟨g2, 0, none⟩ = some (.int .i64 f0) ∧ wc.cell? ⟨g2, 1, none⟩ = some (.int .i64 f1) ∧ wc.cell? ⟨g2, 2, none⟩ = some (.int .i64 f2) ∧ wc.cell? ⟨g2, 3, none⟩ = some (.string f3) ∧ wc.cell? ⟨g2, 4, none⟩ = some (.slice B4 f4.length q4)))
        case first =>
          go_region_held3 (fun w' => w'.cell? (ad.add (i * 5)) = some (.int .i64 f0) ∧ w'.cell? ⟨(ad.add (i * 5)).block, (ad.add (i * 5)).off + 1, none⟩ = some (.int .i64 f1) ∧ w'.cell? ⟨(ad.add (i * 5)).block, (ad.add (i * 5)).off + 2, none⟩ = some (.int .i64 f2) ∧ w'.cell? ⟨(ad.add (i * 5)).block, (ad.add (i * 5)).off + 3, none⟩ = some (.string f3) ∧ w'.cell? ⟨(ad.add (i * 5)).block, (ad.add (i * 5)).off + 4, none⟩ = some (.slice A4 f4.length p4) ∧
            w'.cell? (bd.add (i * 5)) = some (.int .i64 f0) ∧ w'.cell? ⟨(bd.add (i * 5)).block, (bd.add (i * 5)).off + 1, none⟩ = some (.int .i64 f1) ∧ w'.cell? ⟨(bd.add (i * 5)).block, (bd.add (i * 5)).off + 2, none⟩ = some (.int .i64 f2) ∧ w'.cell? ⟨(bd.add (i * 5)).block, (bd.add (i * 5)).off + 3, none⟩ = some (.string f3) ∧ w'.cell? ⟨(bd.add (i * 5)).block, (bd.add (i * 5)).off + 4, none⟩ = some (.slice B4 f4.length q4)) (go_keep) (fail)
          all_goals (go_wp2_with fail; go_meet)
          case rel =>
            refine ⟨wr.heap.size, wr.heap.size + 1, rfl, rfl, two_below wr _ _, ?_, ?_⟩
            · have h := blk_drew (two_blocks wr #[.int .i64 f0, .int .i64 f1, .int .i64 f2, .string f3, .slice A4 f4.length p4] #[.int .i64 f0, .int .i64 f1, .int .i64 f2, .string f3, .slice B4 f4.length q4] 45).1
              exact ⟨blk_cell h 0, blk_cell h 1, blk_cell h 2, blk_cell h 3, blk_cell h 4⟩
            · have h := blk_drew (two_blocks wr #[.int .i64 f0, .int .i64 f1, .int .i64 f2, .string f3, .slice A4 f4.length p4] #[.int .i64 f0, .int .i64 f1, .int .i64 f2, .string f3, .slice B4 f4.length q4] 45).2
              exact ⟨blk_cell h 0, blk_cell h 1, blk_cell h 2, blk_cell h 3, blk_cell h 4⟩
          case rel =>
            refine ⟨wr.heap.size + 1, wr.heap.size, rfl, rfl, two_below wr _ _, ?_, ?_⟩
            · have h := blk_drew (two_blocks wr #[.int .i64 f0, .int .i64 f1, .int .i64 f2, .string f3, .slice B4 f4.length q4] #[.int .i64 f0, .int .i64 f1, .int .i64 f2, .string f3, .slice A4 f4.length p4] 45).2
              exact ⟨blk_cell h 0, blk_cell h 1, blk_cell h 2, blk_cell h 3, blk_cell h 4⟩
            · have h := blk_drew (two_blocks wr #[.int .i64 f0, .int .i64 f1, .int .i64 f2, .string f3, .slice B4 f4.length q4] #[.int .i64 f0, .int .i64 f1, .int .i64 f2, .string f3, .slice A4 f4.length p4] 45).1
              exact ⟨blk_cell h 0, blk_cell h 1, blk_cell h 2, blk_cell h 3, blk_cell h 4⟩
        case rest =>
          obtain ⟨g1, g2, rfl, rfl, hW, ⟨a0, a1, a2, a3, a4⟩, b0, b1, b2, b3, b4⟩ := hcut
          clear x0 x1 x2 x3 x4 y0 y1 y2 y3 y4
          go_wp2_with fail
          with_reducible refine (ints_same _ _ _ _ _ _ (Kd.C_below HI2.out.2.1.2 hW.out) HI2.out.2.1.1 (Kd.C_below HI2.out.2.2.2 hW.out) HI2.out.2.2.1 HI2.out.1).mono ?_
          rintro e w2 ⟨rfl, ⟨n2, rfl⟩⟩
          go_wp2_with fail
          go_roundg (l0.length - (i + 1))
          case measure => omega
          case rel => exact ⟨i + 1, by simp, by omega, pw_below_drewN (hB.out.trans (hW.out.mono hB.out.size)) _⟩
      · have d1 : decide ((i : Int) < (l0.length : Int)) = false := decide_eq_false (by omega)
        go_wp2_with fail
        go_ret
        exact ⟨rfl, hB.out⟩
  · exact absurd h (by simp)
end Go.Proofs.YtjkpelaeelihhaaGreatDoorRR.Y
end
section
namespace Go.Proofs.YtjkpelaeelihhaaGreatDoorRR.Y
open Go.RowKit Go.Proofs.YtjkpelaeelihhaaGreatDoorRRW.PrintWords Go.Proofs.YtjkpelaeelihhaaGreatDoorRRW.PrintLast Go.Proofs.YtjkpelaeelihhaaGreatDoorRRW.PrintMore
attribute [local go_sem] max2_int min2_int max_two min_two max_three min_three max_four min_four   -- for this text's walks alone
set_option linter.unusedVariables false
set_option linter.unusedSimpArgs false
/-! ### laws_FnDrawRead: function 3 -/
def laws_FnDrawRead.f (k : Nat) (l0 : List (S45)) : Option (Bool) := (laws_zzFits3.f k l0).bind fun t191 => (if t191 = true then ((spec_IsDrawPlan.f k l0).bind fun t192 => (if t192 = true then ((laws_drawText.f k l0).bind fun t194 => ((impl_Feed.f 32 4096 t194).bind fun t197 => ((laws_drawEvents.f k t197).bind fun t200 => ((spec_DrawRead.f t200).bind fun bt203 => (if bt203.2 = true then ((spec_SameDrawPlan.f bt203.1 l0).bind fun t207 => (if t207 = true then ((laws_drawAwake.f).bind fun t208 => (some t208)) else (some false))) else (some false)))))) else ((laws_drawAwake.f).bind fun t193 => (some t193)))) else (some true))
theorem laws_FnDrawRead.mono : ∀ a0 k, LeO (laws_FnDrawRead.f k a0) (laws_FnDrawRead.f (k + 1) a0) := by
  intro a0 k
  unfold laws_FnDrawRead.f
  repeat' first
      | (with_reducible exact laws_drawEvents.mono _ _)
      | (with_reducible exact laws_drawText.mono _ _)
      | (with_reducible exact laws_zzFits3.mono _ _)
      | (with_reducible exact spec_IsDrawPlan.mono _ _)
      | (with_reducible exact LeO.refl _)
      | (with_reducible exact LeO.none _)
      | (with_reducible refine LeO.ite ?_ ?_)
      | (with_reducible refine LeO.bind ?_ (fun _ => ?_))
      | exact laws_drawEvents.mono _ _
      | exact laws_drawText.mono _ _
      | exact laws_zzFits3.mono _ _
      | exact spec_IsDrawPlan.mono _ _
      | exact LeO.none _
      | refine LeO.ite ?_ ?_
      | refine LeO.bind ?_ (fun _ => ?_)
end Go.Proofs.YtjkpelaeelihhaaGreatDoorRR.Y
end
section
namespace Go.Proofs.YtjkpelaeelihhaaGreatDoorRR.Y
open Go.RowKit Go.Proofs.YtjkpelaeelihhaaGreatDoorRRW.PrintWords Go.Proofs.YtjkpelaeelihhaaGreatDoorRRW.PrintLast Go.Proofs.YtjkpelaeelihhaaGreatDoorRRW.PrintMore
set_option linter.unusedSimpArgs false
set_option linter.unusedVariables false
theorem read_law (l : List Op) (k : Nat) (hk : 7000000000 ≤ k) : laws_FnDrawRead.f k l = some true := by
  unfold laws_FnDrawRead.f
  obtain ⟨a, a1, a2⟩ := fits_f l k (by omega)
  rw [a1, Option.bind_some]
  cases a with
  | false => rw [if_neg (by simp)]
  | true =>
    rw [if_pos rfl]
    obtain ⟨b, b1, b2⟩ := plan_f l (a2 rfl) k (by omega)
    rw [b1, Option.bind_some]
    cases b with
    | false => rw [if_neg (by simp), awake, Option.bind_some]
    | true =>
      have hr := b2 rfl
      obtain ⟨ps, T, p0, p1, _, p3, p4, p5, p6⟩ := plan_run l hr
      have hd := plan_read l hr ps p0 p6
      have hs : spec_SameDrawPlan.f l l = some true := by
        unfold spec_SameDrawPlan.f
        rw [if_pos (opsEq_of l fun e he => right_list (hr.1 e he))]
      generalize (ps.map (·.2)).flatten = ev at p4 p5 p6 hd
      rw [if_pos rfl, p1 k (by omega), Option.bind_some, feed_l T (by omega) p4, Option.bind_some, drawEvents_f _ (by rw [List.length_map]; omega) k (by rw [List.length_map]; omega), Option.bind_some, List.map_map,
        show (cv ∘ X.toS) = evS from rfl, hd, Option.bind_some]
      simp only []
      rw [if_pos trivial, hs, Option.bind_some, if_pos rfl, awake, Option.bind_some]
theorem FnDrawRead_true {Q : Op → Prop} (l : List Op) (_ : l.length ≤ maxLen) (_ : ∀ a ∈ l, Q a) : laws_FnDrawRead.f 8000000000 l = some true := read_law l _ (by omega)
end Go.Proofs.YtjkpelaeelihhaaGreatDoorRR.Y
end
