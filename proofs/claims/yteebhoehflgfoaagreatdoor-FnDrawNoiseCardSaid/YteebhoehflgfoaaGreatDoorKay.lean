/- Texts of this claim, joined: XRead XReads XScr XScrLaw XScrList. Of each, what the claim uses. -/
import Derived.Test.YteebhoehflgfoaaGreatDoorKav
import Derived.Test.YteebhoehflgfoaaGreatDoorKax
import Derived.Test.YteebhoehflgfoaaGreatDoorKac
import Derived.Laws.CopyOwn
section
namespace Go.Proofs.YteebhoehflgfoaaGreatDoor.Y
open Go.RowKit Go.Proofs.YteebhoehflgfoaaGreatDoorW.PrintWords Go.Proofs.YteebhoehflgfoaaGreatDoorW.PrintLast Go.Proofs.YteebhoehflgfoaaGreatDoorW.PrintMore
set_option linter.unusedSimpArgs false
set_option linter.unusedVariables false
theorem noBytes {s : ByteArray} (h : s.toList = []) : s = ⟨#[]⟩ := by
 rw [ByteArray.toList_eq] at h
 apply ByteArray.ext
 apply Array.toList_inj.1
 exact h
/-- How an event is read that is no character. -/
def ReadsAs (e : X.Ev) (o : Op) : Prop :=
 (e.kind = 1 ∧ (0 ≤ e.byte ∧ e.byte ≤ 255) ∧ o = ⟨61, e.byte, 0, ⟨#[]⟩, []⟩) ∨
 (e.kind = 2 ∧ spec_drawControl.f e.cmd e.params = some (o.f0, o.f1, o.f2, o.f3, o.f4, true)) ∨
 (e.kind = 3 ∧ (e.cmd = 55 ∨ e.cmd = 56) ∧ o = ⟨e.cmd - 5, 0, 0, ⟨#[]⟩, []⟩)
def numRead (k n : Nat) : Bool :=
 match impl_MakeNumber.f k n with
 | some t => (match X.run .gr (X.nb t) with
  | some (_, [e]) => decide (e.kind = 2) && (match spec_drawControl.f e.cmd e.params with
   | some (a, b, c, t, l, r) => decide (a = (k : Int)) && decide (b = (n : Int)) && decide (c = 0) && decide (t.data.toList = []) && decide (l = []) && r
   | none => false)
  | _ => false)
 | _ => false
theorem nums_read : ((List.range 23).all fun k => (k == 7 || k == 8) || (List.range 100).all fun n => (n == 0 && !(k == 10 || k == 11)) || numRead k n) = true := by kernel_rfl
theorem num_read (k n : Nat) (hk : k ≤ 22) (h7 : k ≠ 7) (h8 : k ≠ 8) (hn : n ≤ 99) (h0 : n ≠ 0 ∨ k = 10 ∨ k = 11) {t : ByteArray} {e : X.Ev} (ht : impl_MakeNumber.f k n = some t) (h1 : One t e) :
  e.kind = 2 ∧ spec_drawControl.f e.cmd e.params = some ((k : Int), (n : Int), 0, ⟨#[]⟩, [], true) := by
 have h := List.all_eq_true.1 nums_read k (List.mem_range.2 (by omega))
 have h2 : ((List.range 100).all fun n => (n == 0 && !(k == 10 || k == 11)) || numRead k n) = true := by
  rcases Bool.or_eq_true _ _ ▸ h with h | h
  ·simp only [Bool.or_eq_true, beq_iff_eq] at h
   omega
  ·exact h
 have h3 : ((n == 0 && !(k == 10 || k == 11)) || numRead k n) = true := List.all_eq_true.1 h2 n (List.mem_range.2 (by omega))
 have h4 : numRead k n = true := by
  rcases Bool.or_eq_true _ _ ▸ h3 with h | h
  ·simp only [Bool.and_eq_true, beq_iff_eq, Bool.not_eq_true', Bool.or_eq_false_iff, beq_eq_false_iff_ne] at h
   omega
  ·exact h
 unfold numRead at h4
 rw [ht] at h4
 simp only [h1.run, Bool.and_eq_true, decide_eq_true_eq] at h4
 refine ⟨h4.1, ?_⟩
 have h5 := h4.2
 cases hc : spec_drawControl.f e.cmd e.params with
 | none => rw [hc] at h5; cases h5
 | some x =>
  obtain ⟨a, b, c, t, l, r⟩ := x
  rw [hc] at h5
  simp only [Bool.and_eq_true, decide_eq_true_eq] at h5
  obtain ⟨⟨⟨⟨⟨q0, q1⟩, q2⟩, q3⟩, q4⟩, q5⟩ := h5
  subst q0 q1 q2 q4 q5
  rw [show t = ⟨#[]⟩ from by apply ByteArray.ext; apply Array.toList_inj.1; exact q3]
theorem one_same {t : ByteArray} {e e2 : X.Ev} (h : One t e) (h2 : One t e2) : e = e2 := by
 have := h.run.symm.trans h2.run
 simpa using this
theorem attr_small {n : Int} (h : AttrOk n) : 0 ≤ n ∧ n < 2147483647 := by unfold AttrOk at h; omega
theorem style_read (l : List Int) (h : Attrs l) : spec_drawControl.f 109 l = some (52, 0, 0, ⟨#[]⟩, l, true) := by
 obtain ⟨ho, h1, h6⟩ := h
 have hp : ∀ p ∈ l, 0 ≤ p ∧ p < 2147483647 := fun p hp => attr_small (ho p hp)
 have p0 : spec_DrawParam.f l 0 1 = some l[0] := param_f l 0 1 h1 (hp _ (List.getElem_mem _)).1 (hp _ (List.getElem_mem _)).2
 obtain ⟨b, p1⟩ : ∃ b, spec_DrawParam.f l 1 1 = some b := by
  by_cases hl : 1 < l.length
  ·exact ⟨_, param_f l 1 1 hl (hp _ (List.getElem_mem _)).1 (hp _ (List.getElem_mem _)).2⟩
  ·exact ⟨_, param_none l 1 1 (by omega)⟩
 unfold spec_drawControl.f
 rw [show finalOf 109 = none by rfl]
 simp only []
 rw [p0, p1, Option.bind_some, Option.bind_some, if_neg (by omega), if_neg (by omega), if_neg (by omega), if_pos ⟨by trivial, by omega, hp⟩, if_neg (by intro h; rw [h] at h1; simp at h1)]
theorem two_read (c a b : Int) (ha : 1 ≤ a ∧ a ≤ 99) (hb : 1 ≤ b ∧ b ≤ 99) (hc : finalOf c = none) : spec_drawControl.f c [a, b] = (if c = 72 then some (40, b, a, ⟨#[]⟩, [], true) else if c = 102 then some (41, b, a, ⟨#[]⟩, [], true) else if c = 114 then some (42, a, b, ⟨#[]⟩, [], true)
  else if c = 109 ∧ [a, b].length < 1000000 ∧ (∀ p ∈ [a, b], 0 ≤ p ∧ p < 2147483647) then some (52, 0, 0, ⟨#[]⟩, (if [a, b] = [] then [0] else [a, b]), true) else none) := by
 have p0 : spec_DrawParam.f [a, b] 0 1 = some a := param_f [a, b] 0 1 (by simp) (by simp; omega) (by simp; omega)
 have p1 : spec_DrawParam.f [a, b] 1 1 = some b := param_f [a, b] 1 1 (by simp) (by simp; omega) (by simp; omega)
 unfold spec_drawControl.f
 rw [hc]
 simp only []
 rw [p0, p1, Option.bind_some, Option.bind_some, show max a 1 = a by omega, show max b 1 = b by omega]
theorem made_reads (o : Op) (ho : Right o) (k : Nat) (hk : 200 ≤ k) {t : ByteArray} {e : X.Ev} (hm : laws_drawMade.f k o.f0 o.f1 o.f2 o.f3 o.f4 = some t) (he : One t e) (h60 : o.f0 ≠ 60) : ReadsAs e o := by
 obtain ⟨k, rfl⟩ : ∃ k', k = k' + 1 := ⟨k - 1, by omega⟩
 rcases ho with ⟨h1, h2, h3, h4⟩ | ⟨h1, h2, h3, h4, h5, h6⟩ | ⟨h1, h2, h3, h4, h5⟩ | ⟨h1, h2, h3, h4⟩ | ⟨h1, h2, h3, h4, h5⟩ | ⟨h1, h2, h3, h4, h5⟩ | ⟨h1, h2, h3, h4⟩
 ·have hb : 0 ≤ o.f1 ∧ o.f1 ≤ 99 ∧ (o.f1 ≠ 0 ∨ o.f0 = 10 ∨ o.f0 = 11) := by split at h4 <;> omega
  have h9 := h1
  unfold NumK at h1
  have e0 : ((o.f0.toNat : Nat) : Int) = o.f0 := Int.toNat_of_nonneg h1.1
  have e1 : ((o.f1.toNat : Nat) : Int) = o.f1 := Int.toNat_of_nonneg hb.1
  unfold laws_drawMade.f at hm
  obtain ⟨b, hb2, hn⟩ := isNum_f o.f0
  rw [hb2, Option.bind_some, if_pos (hn.2 h9)] at hm
  obtain ⟨t2, m1, m2⟩ := Option.bind_eq_some_iff.1 hm
  cases m2
  rw [← e0, ← e1] at m1
  have := num_read o.f0.toNat o.f1.toNat (by omega) (by omega) (by omega) (by omega) (by omega) m1 he
  rw [e0, e1] at this
  exact Or.inr (Or.inl ⟨this.1, by rw [this.2, h3, noBytes h2.1, h2.2]⟩)
 ·rw [pair_made k o (by omega)] at hm
  have ea : ((o.f1.toNat : Nat) : Int) = o.f1 := Int.toNat_of_nonneg (by omega)
  have eb : ((o.f2.toNat : Nat) : Int) = o.f2 := Int.toNat_of_nonneg (by omega)
  unfold impl_MakePair.f at hm
  rcases h1 with h1 | h1
  ·obtain ⟨t2, e2, p1, p2, p3⟩ := place_one o.f1.toNat o.f2.toNat (by omega) (by omega) k (by omega)
   rw [ea, eb] at p1
   rw [if_pos (by omega), p1, Option.bind_some] at hm
   cases hm
   rw [one_same he p2]
   rcases p3 with p3 | ⟨p3, p4, p5⟩
   ·rw [p3, ea, eb]
    exact Or.inr (Or.inl ⟨rfl, by rw [show (X.evCsi 72 [o.f2, o.f1]).cmd = 72 from rfl, show (X.evCsi 72 [o.f2, o.f1]).params = [o.f2, o.f1] from rfl, two_read 72 _ _ (by omega) (by omega) rfl, if_pos rfl, h1, noBytes h2.1, h2.2]⟩)
   ·rw [p3]
    have f1 : o.f1 = 1 := by omega
    have f2 : o.f2 = 1 := by omega
    exact Or.inr (Or.inl ⟨rfl, by rw [h1, f1, f2, noBytes h2.1, h2.2]; rfl⟩)
  ·obtain ⟨t2, p1, p2⟩ := hv_one o.f1.toNat o.f2.toNat (by omega) (by omega)
   rw [ea, eb] at p1 p2
   rw [if_neg (by omega), if_pos (by omega), p1, Option.bind_some] at hm
   cases hm
   rw [one_same he p2]
   exact Or.inr (Or.inl ⟨rfl, by rw [show (X.evCsi 102 [o.f2, o.f1]).cmd = 102 from rfl, show (X.evCsi 102 [o.f2, o.f1]).params = [o.f2, o.f1] from rfl, two_read 102 _ _ (by omega) (by omega) rfl, if_neg (by omega), if_pos rfl, h1, noBytes h2.1, h2.2]⟩)
 ·rw [pair_made k o (by omega)] at hm
  have ea : ((o.f1.toNat : Nat) : Int) = o.f1 := Int.toNat_of_nonneg (by omega)
  have eb : ((o.f2.toNat : Nat) : Int) = o.f2 := Int.toNat_of_nonneg (by omega)
  unfold impl_MakePair.f at hm
  obtain ⟨t2, p1, p2⟩ := margins_one o.f1.toNat o.f2.toNat (by omega) (by omega)
  rw [ea, eb] at p1 p2
  rw [if_neg (by omega), if_neg (by omega), if_pos (by omega), p1, Option.bind_some] at hm
  cases hm
  rw [one_same he p2]
  exact Or.inr (Or.inl ⟨rfl, by rw [show (X.evCsi 114 [o.f1, o.f2]).cmd = 114 from rfl, show (X.evCsi 114 [o.f1, o.f2]).params = [o.f1, o.f2] from rfl, two_read 114 _ _ (by omega) (by omega) rfl, if_neg (by omega), if_neg (by omega), if_pos rfl, h1, noBytes h2.1, h2.2]⟩)
 ·rw [other_made _ o (by unfold NumK; omega) (by omega), laws_drawMade.j0, if_neg (by simp)] at hm
  have hz := noBytes h2.1
  obtain ⟨o0, o1, o2, o3, o4⟩ := o
  simp only at h1 h3 h4 hz hm h2 h60 ⊢
  obtain ⟨h2, rfl⟩ := h2
  subst h3 h4 hz
  rcases h1 with rfl | rfl
  ·rw [if_pos rfl] at hm
   cases hm
   rw [one_same he (e2 := X.evEsc 55) ⟨rfl, ⟨_, rfl⟩, by decide, by decide, by decide⟩]
   exact Or.inr (Or.inr ⟨rfl, Or.inl rfl, rfl⟩)
  ·rw [if_neg (by omega), if_pos rfl] at hm
   cases hm
   rw [one_same he (e2 := X.evEsc 56) ⟨rfl, ⟨_, rfl⟩, by decide, by decide, by decide⟩]
   exact Or.inr (Or.inr ⟨rfl, Or.inr rfl, rfl⟩)
 ·rw [other_made _ o (by unfold NumK; omega) (by omega), laws_drawMade.j0, if_neg (by simp), if_neg (by omega), if_neg (by omega), if_pos h1] at hm
  obtain ⟨t2, p1, p2⟩ := style_one o.f4 h5 k (by omega)
  rw [p1, Option.bind_some] at hm
  cases hm
  rw [one_same he p2]
  exact Or.inr (Or.inl ⟨rfl, by rw [show (X.evCsi 109 o.f4).cmd = 109 from rfl, show (X.evCsi 109 o.f4).params = o.f4 from rfl, style_read _ h5, h1, h3, h4, noBytes h2]⟩)
 ·exact absurd h1 h60
 ·rw [other_made _ o (by unfold NumK; omega) (by omega), laws_drawMade.j0, if_neg (by simp), if_neg (by omega), if_neg (by omega), if_neg (by omega), if_pos h1] at hm
  have hz := noBytes h2.1
  obtain ⟨o0, o1, o2, o3, o4⟩ := o
  simp only at h1 h3 h4 hz hm h2 h60 ⊢
  obtain ⟨h2, rfl⟩ := h2
  subst h3 h1 hz
  rcases h4 with rfl | rfl | rfl | rfl
  ·cases hm
   rw [one_same he (e2 := X.evExec 13) ⟨rfl, ⟨_, rfl⟩, by decide, by decide, by decide⟩]
   exact Or.inl ⟨rfl, by decide, rfl⟩
  ·cases hm
   rw [one_same he (e2 := X.evExec 10) ⟨rfl, ⟨_, rfl⟩, by decide, by decide, by decide⟩]
   exact Or.inl ⟨rfl, by decide, rfl⟩
  ·cases hm
   rw [one_same he (e2 := X.evExec 8) ⟨rfl, ⟨_, rfl⟩, by decide, by decide, by decide⟩]
   exact Or.inl ⟨rfl, by decide, rfl⟩
  ·cases hm
   rw [one_same he (e2 := X.evExec 9) ⟨rfl, ⟨_, rfl⟩, by decide, by decide, by decide⟩]
   exact Or.inl ⟨rfl, by decide, rfl⟩
/-! ### Reading -/
abbrev SpEv := S137
def evS (e : X.Ev) : SpEv := cv (X.toS e)
/-- The last operation is a text. -/
def EndsText (x4 : List Op) : Prop := ∃ y o, x4 = y ++ [o] ∧ o.f0 = 60
theorem no_last {x4 : List Op} (h : ¬ EndsText x4) : lastText x4 = none := by
 unfold lastText
 rcases List.eq_nil_or_concat x4 with rfl | ⟨l, b, rfl⟩
 ·rfl
 ·rw [List.concat_eq_append] at h ⊢
  rw [List.getLast?_append, List.getLast?_singleton]
  simp only [Option.some_or]
  rw [if_neg (fun h6 => h ⟨l, b, rfl, h6⟩)]
theorem is_last (y : List Op) (o : Op) (h : o.f0 = 60) : lastText (y ++ [o]) = some o := by
 unfold lastText
 rw [List.getLast?_append, List.getLast?_singleton]
 simp only [Option.some_or]
 rw [if_pos h]
theorem rd_reads {e : X.Ev} {o : Op} (h : ReadsAs e o) (acc : List Op) : rdStep acc (evS e) = some (acc ++ [o]) := by
 unfold rdStep
 rcases h with ⟨h1, h2, h3⟩ | ⟨h1, h2⟩ | ⟨h1, h2, h3⟩
 ·have e0 : (evS e).f0 = 1 := h1
  have e2 : (evS e).f2 = e.byte := rfl
  rw [if_neg (by omega), if_pos e0, e2, if_pos h2, ← h3]
 ·have e0 : (evS e).f0 = 2 := h1
  have e2 : (evS e).f3 = e.cmd := rfl
  have e3 : (evS e).f4 = e.params := rfl
  rw [if_neg (by omega), if_neg (by omega), if_pos e0, e2, e3, h2, Option.bind_some, if_pos rfl]
 ·have e0 : (evS e).f0 = 3 := h1
  have e2 : (evS e).f3 = e.cmd := rfl
  rw [if_neg (by omega), if_neg (by omega), if_neg (by omega), if_pos ⟨e0, h2⟩, e2, ← h3]
theorem chr_byte (b : UInt8) : chr (b.toNat : Int) = ⟨#[b]⟩ := by
 have := b.toNat_lt
 unfold chr
 rw [show (b.toNat : Int) % 256 = (b.toNat : Int) by omega]
 simp [strOfNums]
theorem rd_first (b : UInt8) (hb : PByte b) (acc : List Op) (hn : ¬ EndsText acc) : rdStep acc (evS (X.evPrint b.toNat)) = some (acc ++ [⟨60, 0, 0, ⟨#[b]⟩, []⟩]) := by
 obtain ⟨b0, b1⟩ := hb
 have e0 : (evS (X.evPrint b.toNat)).f0 = 0 := rfl
 have e1 : (evS (X.evPrint b.toNat)).f1 = (b.toNat : Int) := rfl
 unfold rdStep
 rw [if_pos e0, e1, if_pos (by omega), no_last hn, chr_byte]
theorem rd_more (b : UInt8) (hb : PByte b) (x : List Op) (s : ByteArray) (hs : s.size ≤ 1000) : rdStep (x ++ [⟨60, 0, 0, s, []⟩]) (evS (X.evPrint b.toNat)) = some (x ++ [⟨60, 0, 0, s ++ ⟨#[b]⟩, []⟩]) := by
 obtain ⟨b0, b1⟩ := hb
 have e0 : (evS (X.evPrint b.toNat)).f0 = 0 := rfl
 have e1 : (evS (X.evPrint b.toNat)).f1 = (b.toNat : Int) := rfl
 unfold rdStep
 rw [if_pos e0, e1, if_pos (by omega), is_last x _ rfl]
 simp only []
 rw [if_pos (by show s.size ≤ _; omega), chr_byte]
 simp
theorem rd_append (l m : List SpEv) : ∀ acc, rdAll acc (l ++ m) = (rdAll acc l).bind fun a => rdAll a m := by
 induction l with
 | nil => intro acc; rfl
 | cons e l ih =>
  intro acc
  rw [List.cons_append, rdAll, rdAll]
  cases rdStep acc e with
  | none => rfl
  | some a => exact ih a
theorem read_more (x : List Op) : ∀ (bs : List UInt8) (s : ByteArray), (∀ b ∈ bs, PByte b) → s.size + bs.length ≤ 1000 →
  rdAll (x ++ [⟨60, 0, 0, s, []⟩]) (bs.map fun b => evS (X.evPrint b.toNat)) = some (x ++ [⟨60, 0, 0, s ++ ⟨bs.toArray⟩, []⟩])
 | [], s, _, _ => by
  rw [show s ++ (⟨([] : List UInt8).toArray⟩ : ByteArray) = s from ByteArray.append_empty]
  rfl
 | b :: bs, s, hp, hs => by
  rw [List.length_cons] at hs
  have hsz : (⟨#[b]⟩ : ByteArray).size = 1 := rfl
  rw [List.map_cons, rdAll, rd_more b (hp b (by simp)) x s (by omega), Option.bind_some, read_more x bs (s ++ ⟨#[b]⟩) (fun c hc => hp c (List.mem_cons_of_mem _ hc)) (by rw [ByteArray.size_append]; omega), ByteArray.append_assoc,
   show (⟨#[b]⟩ : ByteArray) ++ (⟨bs.toArray⟩ : ByteArray) = ⟨(b :: bs).toArray⟩ by apply ByteArray.ext; simp [ByteArray.data_append]]
theorem read_text (x : List Op) (hn : ¬ EndsText x) (s : ByteArray) (hs : PText s) : rdAll x ((charEvs s).map evS) = some (x ++ [⟨60, 0, 0, s, []⟩]) := by
 obtain ⟨hp, h1, h20⟩ := hs
 obtain ⟨⟨bs⟩⟩ := s
 have hsz : (⟨⟨bs⟩⟩ : ByteArray).size = bs.length := rfl
 cases bs with
 | nil => exact absurd h1 (by decide)
 | cons b bs =>
  rw [List.length_cons] at hsz
  have h0 : (⟨#[b]⟩ : ByteArray).size = 1 := rfl
  have e : (charEvs ⟨⟨b :: bs⟩⟩).map evS = evS (X.evPrint b.toNat) :: bs.map fun b => evS (X.evPrint b.toNat) := by simp [charEvs, Function.comp_def]
  rw [e, rdAll, rd_first b (hp b (by simp)) x hn, Option.bind_some, read_more x bs ⟨#[b]⟩ (fun c hc => hp c (List.mem_cons_of_mem _ hc)) (by omega),
   show (⟨#[b]⟩ : ByteArray) ++ (⟨bs.toArray⟩ : ByteArray) = ⟨⟨b :: bs⟩⟩ by apply ByteArray.ext; simp [ByteArray.data_append]]
/-- An operation with its events. -/
def Good (p : Op × List X.Ev) : Prop := (p.1 = ⟨60, 0, 0, p.1.f3, []⟩ ∧ p.2 = charEvs p.1.f3 ∧ PText p.1.f3) ∨ (p.1.f0 ≠ 60 ∧ ∃ e, p.2 = [e] ∧ ReadsAs e p.1)
def Apart : Bool → List Op → Prop
 | _, [] => True
 | b, o :: r => ¬ (b = true ∧ o.f0 = 60) ∧ Apart (decide (o.f0 = 60)) r
theorem apart_next : ∀ (r : List Op) (o : Op), (∀ i, 0 < i → (h : i < (o :: r).length) → ¬ ((o :: r)[i].f0 = 60 ∧ ((o :: r)[i - 1]'(by omega)).f0 = 60)) → Apart (decide (o.f0 = 60)) r
 | [], _, _ => trivial
 | p :: r, o, h => by
  refine ⟨fun ⟨h1, h2⟩ => ?_, apart_next r p (fun i h0 hi => ?_)⟩
  ·exact h 1 (by omega) (by simp) ⟨h2, of_decide_eq_true h1⟩
  ·have := h (i + 1) (by omega) (by simp only [List.length_cons] at hi ⊢; omega)
   obtain ⟨j, rfl⟩ : ∃ j, i = j + 1 := ⟨i - 1, by omega⟩
   simpa using this
theorem apart_of (l : List Op) (h : ∀ i, 0 < i → (h : i < l.length) → ¬ (l[i].f0 = 60 ∧ (l[i - 1]'(by omega)).f0 = 60)) : Apart false l := by
 cases l with
 | nil => trivial
 | cons o r => exact ⟨fun hh => (by cases hh.1), apart_next r o h⟩
theorem ends_iff (x4 : List Op) (o : Op) (h : EndsText (x4 ++ [o])) : o.f0 = 60 := by
 obtain ⟨y, p, h1, h2⟩ := h
 have := List.append_inj_right' h1 rfl
 injection this with h3 _
 rw [h3]
 exact h2
theorem read_all : ∀ (q : List (Op × List X.Ev)) (x4 : List Op) (b : Bool), (∀ p ∈ q, Good p) → Apart b (q.map (·.1)) → (EndsText x4 → b = true) → rdAll x4 (((q.map (·.2)).flatten).map evS) = some (x4 ++ q.map (·.1))
 | [], x4, b, _, _, _ => by simp [rdAll]
 | (o, es) :: q, x4, b, hg, ha, hb => by
  rw [List.map_cons] at ha
  have ih := read_all q (x4 ++ [o]) (decide (o.f0 = 60)) (fun p hp => hg p (List.mem_cons_of_mem _ hp)) ha.2 (fun h => decide_eq_true (ends_iff x4 o h))
  rw [List.append_assoc] at ih
  rw [show ((((o, es) :: q).map (·.2)).flatten).map evS = es.map evS ++ ((q.map (·.2)).flatten).map evS by simp, rd_append]
  have h1 : rdAll x4 (es.map evS) = some (x4 ++ [o]) := by
   rcases hg (o, es) (by simp) with ⟨h1, h2, h3⟩ | ⟨h1, e, h2, h3⟩
   ·simp only at h1 h2 h3
    subst h2
    rw [read_text x4 (fun h => ha.1 ⟨hb h, by rw [h1]⟩) o.f3 h3, ← h1]
   ·simp only at h1 h2 h3
    subst h2
    rw [List.map_cons, List.map_nil, rdAll, rd_reads h3, Option.bind_some, rdAll]
  rw [h1, Option.bind_some, ih]
  rfl
theorem right_text {o : Op} (h : Right o) (h60 : o.f0 = 60) : o = ⟨60, 0, 0, o.f3, []⟩ := by
 rcases h with ⟨h1, _⟩ | ⟨h1, _⟩ | ⟨h1, _⟩ | ⟨h1, _⟩ | ⟨h1, _⟩ | ⟨h1, h2, h3, h4, h5⟩ | ⟨h1, _⟩
 ·unfold NumK at h1; omega
 ·omega
 ·omega
 ·omega
 ·omega
 ·obtain ⟨o0, o1, o2, o3, o4⟩ := o
  simp only at h1 h2 h3 h4
  subst h1 h2 h3 h4
  rfl
 ·omega
/-- A right plan's operations, each with its events. -/
theorem plan_good (l : List Op) (h : RightPlan l) (ps : List (ByteArray × List X.Ev)) (hm : Made l ps) : ∃ q : List (Op × List X.Ev), q.map (·.1) = l ∧ q.map (·.2) = ps.map (·.2) ∧ ∀ p ∈ q, Good p := by
 obtain ⟨h1, h2, h3⟩ := h
 obtain ⟨hl, hp⟩ := hm
 refine ⟨l.zip (ps.map (·.2)), List.map_fst_zip (by rw [List.length_map]; omega), List.map_snd_zip (by rw [List.length_map]; omega), ?_⟩
 intro p hpm
 obtain ⟨i, hi, hpi⟩ := List.getElem_of_mem hpm
 rw [List.length_zip, List.length_map] at hi
 have hil : i < l.length := by omega
 have hip : i < ps.length := by omega
 obtain ⟨g1, g2⟩ := hp i ps[i] hil (List.getElem?_eq_getElem hip)
 rw [List.getElem_zip, List.getElem_map] at hpi
 subst hpi
 have ho := h1 _ (List.getElem_mem hil)
 rcases g2 with ⟨q1, q2, q3, q4⟩ | ⟨q1, e, q2, q3⟩
 ·exact Or.inl ⟨right_text ho q1, q3, q4⟩
 ·exact Or.inr ⟨q1, e, q2, made_reads _ ho 200 (Nat.le_refl _) (g1 200 (Nat.le_refl _)) q3 q1⟩
/-- Good operations, no two texts side by side, are read. -/
theorem good_read (q : List (Op × List X.Ev)) (hg : ∀ p ∈ q, Good p) (ha : Apart false (q.map (·.1))) (hf : ((q.map (·.2)).flatten).length ≤ 1000000) : spec_DrawRead.f (((q.map (·.2)).flatten).map evS) = some (q.map (·.1), true) := by
 have ha := read_all q [] false hg ha (fun ⟨y, o, hy, _⟩ => by simp at hy)
 unfold spec_DrawRead.f
 rw [if_pos (by rw [List.length_map]; omega), ha]
 rfl
end Go.Proofs.YteebhoehflgfoaaGreatDoor.Y
end
section
namespace Go.Proofs.YteebhoehflgfoaaGreatDoor.Y
set_option linter.unusedSimpArgs false
set_option linter.unusedVariables false
structure Pen where
 x : Nat
 y : Nat
 a : Int
abbrev Gl := Int × Int
structure Scr where
 w : Nat
 h : Nat
 rows : List (List Gl)
 pen : Pen
 sav : Pen
 top : Nat
 bot : Nat
 last : Int
/-- A number, held between 0 and n - 1. -/
def clampN (v : Int) (n : Nat) : Nat := (min (max v 0) ((n : Int) - 1)).toNat
theorem clampN_lt (v : Int) (n : Nat) (h : 0 < n) : clampN v n < n := by unfold clampN; omega
def Scr.move (s : Scr) (x y : Int) : Scr := { s with pen := { s.pen with x := clampN x s.w, y := clampN y s.h } }
def Scr.put (s : Scr) (c : Int) : Scr := { s with rows := s.rows.modify s.pen.y (fun r => r.set s.pen.x (c, s.pen.a)), last := c, pen := { s.pen with x := min (s.pen.x + 1) (s.w - 1) } }
/-- A row whose cells from one on up to below another one are empty. -/
def wipeRow (r : List Gl) (a b : Nat) : List Gl := r.mapIdx fun i g => if a ≤ i ∧ i < b then (0, 0) else g
def Scr.wipe (s : Scr) (y a b : Nat) : Scr := { s with rows := s.rows.modify y (fun r => wipeRow r a b) }
def zrow (w : Nat) : List Gl := List.replicate w (0, 0)
def upL {α : Type} (l : List α) (a b : Nat) (z : α) : List α := l.take a ++ ((l.drop (a + 1)).take (b - a) ++ z :: l.drop (b + 1))
def downL {α : Type} (l : List α) (a b : Nat) (z : α) : List α := l.take a ++ (z :: ((l.drop a).take (b - a) ++ l.drop (b + 1)))
def Scr.up (s : Scr) (a : Nat) : Scr := { s with rows := upL s.rows a s.bot (zrow s.w) }
def Scr.down (s : Scr) (a : Nat) : Scr := { s with rows := downL s.rows a s.bot (zrow s.w) }
def iter {α : Type} (f : α → α) : Nat → α → α
 | 0, x => x
 | n + 1, x => iter f n (f x)
theorem iter_last {α : Type} (f : α → α) : ∀ (n : Nat) (x : α), iter f (n + 1) x = f (iter f n x)
 | 0, _ => rfl
 | n + 1, x => iter_last f n (f x)
def Scr.roll (s : Scr) (a : Nat) (n : Int) : Scr := if 0 < n then iter (fun t => t.up a) (min n.toNat s.h) s else iter (fun t => t.down a) (min (-n).toNat s.h) s
/-- The row behind an opening of k cells at x; behind a closing. -/
def openRow (r : List Gl) (x k : Nat) : List Gl := wipeRow (r.take (x + k) ++ (r.drop x).take (r.length - k - x)) x (x + k)
def closeRow (r : List Gl) (x k : Nat) : List Gl := wipeRow (r.take x ++ (r.drop (x + k) ++ r.drop (r.length - k))) (r.length - k) r.length
def Scr.shift (s : Scr) (n : Int) : Scr :=
 if 0 < n then { s with rows := s.rows.modify s.pen.y (fun r => openRow r s.pen.x (min n.toNat (s.w - s.pen.x))) }
 else { s with rows := s.rows.modify s.pen.y (fun r => closeRow r s.pen.x (min (-n).toNat (s.w - s.pen.x))) }
def Scr.atX (s : Scr) (x : Nat) : Scr := { s with pen := { s.pen with x := x } }
def Scr.ctl (s : Scr) (c : Int) : Scr :=
 if c = 13 then s.atX 0 else if c = 8 then s.atX (s.pen.x - 1) else if c = 9 then s.atX (min ((s.pen.x / 8 + 1) * 8) (s.w - 1))
 else if c = 10 then (if s.pen.y = s.bot then s.roll s.top 1 else { s with pen := { s.pen with y := min (s.pen.y + 1) (s.h - 1) } }) else s
/-- What erasing does to one row. -/
def eraseAt (s : Scr) (n : Int) (y : Nat) (r : List Gl) : List Gl :=
 if n = 2 ∨ (n = 0 ∧ s.pen.y < y) ∨ (n = 1 ∧ y < s.pen.y) then wipeRow r 0 s.w else if y = s.pen.y ∧ n = 0 then wipeRow r s.pen.x s.w else if y = s.pen.y then wipeRow r 0 (s.pen.x + 1) else r
def Scr.erase (s : Scr) (n : Int) : Scr := { s with rows := s.rows.mapIdx fun y r => eraseAt s n y r }
theorem mem_modify {α : Type} {l : List α} {i : Nat} {f : α → α} {x : α} (h : x ∈ l.modify i f) : x ∈ l ∨ ∃ y ∈ l, x = f y := by
 obtain ⟨j, hj, rfl⟩ := List.mem_iff_getElem.1 h
 rw [List.getElem_modify]
 have hj' : j < l.length := by simpa using hj
 split
 ·exact Or.inr ⟨_, List.getElem_mem hj', rfl⟩
 ·exact Or.inl (List.getElem_mem hj')
theorem len_upL {α : Type} (l : List α) (a b : Nat) (z : α) (h1 : a ≤ b) (h2 : b < l.length) : (upL l a b z).length = l.length := by simp [upL]; omega
theorem len_downL {α : Type} (l : List α) (a b : Nat) (z : α) (h1 : a ≤ b) (h2 : b < l.length) : (downL l a b z).length = l.length := by simp [downL]; omega
theorem mem_upL {α : Type} {l : List α} {a b : Nat} {z x : α} (h : x ∈ upL l a b z) : x ∈ l ∨ x = z := by
 unfold upL at h
 simp only [List.mem_append, List.mem_cons] at h
 rcases h with h | h | h | h
 ·exact Or.inl (List.mem_of_mem_take h)
 ·exact Or.inl (List.mem_of_mem_drop (List.mem_of_mem_take h))
 ·exact Or.inr h
 ·exact Or.inl (List.mem_of_mem_drop h)
theorem mem_downL {α : Type} {l : List α} {a b : Nat} {z x : α} (h : x ∈ downL l a b z) : x ∈ l ∨ x = z := by
 unfold downL at h
 simp only [List.mem_append, List.mem_cons] at h
 rcases h with h | h | h | h
 ·exact Or.inl (List.mem_of_mem_take h)
 ·exact Or.inr h
 ·exact Or.inl (List.mem_of_mem_drop (List.mem_of_mem_take h))
 ·exact Or.inl (List.mem_of_mem_drop h)
theorem len_wipe (r : List Gl) (a b : Nat) : (wipeRow r a b).length = r.length := by simp [wipeRow]
theorem len_open (r : List Gl) (x k : Nat) (h : x + k ≤ r.length) : (openRow r x k).length = r.length := by
 rw [openRow, len_wipe]; simp; omega
theorem len_close (r : List Gl) (x k : Nat) (h : x + k ≤ r.length) : (closeRow r x k).length = r.length := by
 rw [closeRow, len_wipe]; simp; omega
/-- What a screen keeps. -/
structure Fine (s : Scr) : Prop where
 w0 : 0 < s.w
 w1 : s.w ≤ 1000
 h0 : 0 < s.h
 h1 : s.h ≤ 1000
 rl : s.rows.length = s.h
 rw : ∀ r ∈ s.rows, r.length = s.w
 px : s.pen.x < s.w
 py : s.pen.y < s.h
 sx : s.sav.x < s.w
 sy : s.sav.y < s.h
 tb : s.top ≤ s.bot
 bh : s.bot < s.h
namespace Fine
variable {s : Scr}
theorem move (h : Fine s) (x y : Int) : Fine (s.move x y) := ⟨h.w0, h.w1, h.h0, h.h1, h.rl, h.rw, clampN_lt _ _ h.w0, clampN_lt _ _ h.h0, h.sx, h.sy, h.tb, h.bh⟩
theorem rowsOf (h : Fine s) (i : Nat) (f : List Gl → List Gl) (hf : ∀ r, r.length = s.w → (f r).length = s.w) : Fine { s with rows := s.rows.modify i f } :=
 ⟨h.w0, h.w1, h.h0, h.h1, by simpa using h.rl, fun r hr => by
  rcases mem_modify hr with hr | ⟨y, hy, rfl⟩
  ·exact h.rw r hr
  ·exact hf y (h.rw y hy), h.px, h.py, h.sx, h.sy, h.tb, h.bh⟩
theorem put (h : Fine s) (c : Int) : Fine (s.put c) := by
 have h2 := h.rowsOf s.pen.y (fun r => r.set s.pen.x (c, s.pen.a)) (fun r hr => by simpa using hr)
 exact ⟨h.w0, h.w1, h.h0, h.h1, h2.rl, h2.rw, by have := h.w0; simp only [Scr.put]; omega, h.py, h.sx, h.sy, h.tb, h.bh⟩
theorem wipe (h : Fine s) (y a b : Nat) : Fine (s.wipe y a b) := h.rowsOf _ _ (fun r hr => by simpa [len_wipe] using hr)
theorem up (h : Fine s) (a : Nat) (ha : a ≤ s.bot) : Fine (s.up a) :=
 ⟨h.w0, h.w1, h.h0, h.h1, (len_upL _ _ _ _ ha (by rw [h.rl]; exact h.bh)).trans h.rl, fun r hr => by
  rcases mem_upL hr with hr | rfl
  ·exact h.rw r hr
  ·simp [zrow, Scr.up], h.px, h.py, h.sx, h.sy, h.tb, h.bh⟩
theorem down (h : Fine s) (a : Nat) (ha : a ≤ s.bot) : Fine (s.down a) :=
 ⟨h.w0, h.w1, h.h0, h.h1, (len_downL _ _ _ _ ha (by rw [h.rl]; exact h.bh)).trans h.rl, fun r hr => by
  rcases mem_downL hr with hr | rfl
  ·exact h.rw r hr
  ·simp [zrow, Scr.down], h.px, h.py, h.sx, h.sy, h.tb, h.bh⟩
theorem iterUp (a : Nat) : ∀ (n : Nat) {s : Scr}, Fine s → a ≤ s.bot → Fine (iter (fun t => t.up a) n s) ∧ (iter (fun t => t.up a) n s).bot = s.bot ∧ (iter (fun t => t.up a) n s).w = s.w ∧ (iter (fun t => t.up a) n s).h = s.h ∧ (iter (fun t => t.up a) n s).pen = s.pen
 | 0, s, h, _ => ⟨h, rfl, rfl, rfl, rfl⟩
 | n + 1, s, h, ha => iterUp a n (h.up a ha) ha
theorem iterDown (a : Nat) : ∀ (n : Nat) {s : Scr}, Fine s → a ≤ s.bot → Fine (iter (fun t => t.down a) n s) ∧ (iter (fun t => t.down a) n s).bot = s.bot ∧ (iter (fun t => t.down a) n s).w = s.w ∧ (iter (fun t => t.down a) n s).h = s.h ∧ (iter (fun t => t.down a) n s).pen = s.pen
 | 0, s, h, _ => ⟨h, rfl, rfl, rfl, rfl⟩
 | n + 1, s, h, ha => iterDown a n (h.down a ha) ha
theorem roll (h : Fine s) (a : Nat) (n : Int) (ha : a ≤ s.bot) : Fine (s.roll a n) := by
 unfold Scr.roll
 split
 ·exact (iterUp a _ h ha).1
 ·exact (iterDown a _ h ha).1
theorem shift (h : Fine s) (n : Int) : Fine (s.shift n) := by
 have := h.px
 unfold Scr.shift
 split
 ·exact h.rowsOf _ _ (fun r hr => by rw [len_open _ _ _ (by omega)]; exact hr)
 ·exact h.rowsOf _ _ (fun r hr => by rw [len_close _ _ _ (by omega)]; exact hr)
theorem atX (h : Fine s) (x : Nat) (hx : x < s.w) : Fine (s.atX x) := ⟨h.w0, h.w1, h.h0, h.h1, h.rl, h.rw, hx, h.py, h.sx, h.sy, h.tb, h.bh⟩
theorem ctl (h : Fine s) (c : Int) : Fine (s.ctl c) := by
 have := h.w0
 have := h.px
 have := h.h0
 unfold Scr.ctl
 split
 ·exact h.atX _ (by omega)
 split
 ·exact h.atX _ (by omega)
 split
 ·exact h.atX _ (by omega)
 split
 ·split
  ·exact h.roll _ _ h.tb
  ·exact ⟨h.w0, h.w1, h.h0, h.h1, h.rl, h.rw, h.px, by simp only; omega, h.sx, h.sy, h.tb, h.bh⟩
 ·exact h
theorem erase (h : Fine s) (n : Int) : Fine (s.erase n) :=
 ⟨h.w0, h.w1, h.h0, h.h1, by simpa [Scr.erase] using h.rl, fun r hr => by
  simp only [Scr.erase] at hr
  obtain ⟨j, hj, rfl⟩ := List.mem_iff_getElem.1 hr
  rw [List.getElem_mapIdx]
  have hj' : j < s.rows.length := by simpa using hj
  have := h.rw _ (List.getElem_mem hj')
  unfold eraseAt
  repeat' split
  all_goals first | exact this | (rw [len_wipe]; exact this), h.px, h.py, h.sx, h.sy, h.tb, h.bh⟩
end Fine
def Scr.chars (s : Scr) (t : List Int) : Scr := t.foldl Scr.put s
def Scr.attrs (s : Scr) (A : Int → Int → Int) (l : List Int) : Scr := { s with pen := { s.pen with a := l.foldl A s.pen.a } }
def Scr.again (s : Scr) : Scr := if s.last = 0 then s else s.put s.last
def Scr.marg (s : Scr) (n m : Int) : Scr := ({ s with top := (n - 1).toNat, bot := (m - 1).toNat } : Scr).move 0 0
/-- An operation that is none of a number. A: what an attribute does. -/
def Scr.other (s : Scr) (A : Int → Int → Int) (k n m : Int) (t l : List Int) : Scr :=
 if k = 42 then (if m ≤ (s.h : Int) ∧ n < m then s.marg n m else s) else if k = 50 then { s with sav := s.pen } else if k = 51 then { s with pen := s.sav }
 else if k = 52 then s.attrs A l else if k = 60 then s.chars t else if k = 61 then s.ctl n else s
/-- An operation. -/
def Scr.op (s : Scr) (A : Int → Int → Int) (k n m : Int) (t l : List Int) : Scr :=
 if k = 0 then s.move s.pen.x (s.pen.y - n) else if k = 1 ∨ k = 19 then s.move s.pen.x (s.pen.y + n) else if k = 2 ∨ k = 21 then s.move (s.pen.x + n) s.pen.y
 else if k = 3 then s.move (s.pen.x - n) s.pen.y else if k = 4 then s.move 0 (s.pen.y + n) else if k = 5 then s.move 0 (s.pen.y - n) else if k = 6 ∨ k = 20 then s.move (n - 1) s.pen.y
 else if k = 18 then s.move s.pen.x (n - 1) else if k = 40 ∨ k = 41 then s.move (n - 1) (m - 1) else if k = 9 then s.wipe s.pen.y s.pen.x (s.pen.x + n.toNat) else if k = 10 then s.erase n
 else if k = 11 then (if n = 0 then s.wipe s.pen.y s.pen.x s.w else if n = 1 then s.wipe s.pen.y 0 (s.pen.x + 1) else s.wipe s.pen.y 0 s.w)
 else if k = 12 then s.roll s.top n else if k = 13 then s.roll s.top (-n)
 else if k = 14 ∨ k = 15 then (if s.top ≤ s.pen.y ∧ s.pen.y ≤ s.bot then s.roll s.pen.y (if k = 14 then -n else n) else s)
 else if k = 16 then s.shift n else if k = 17 then s.shift (-n) else if k = 22 then iter Scr.again n.toNat s else s.other A k n m t l
/-- What an operation's numbers are bound to. -/
def NumsOk (k n m : Int) : Prop := 0 ≤ n ∧ n ≤ 99 ∧ 0 ≤ m ∧ m ≤ 99 ∧ (k = 42 → 1 ≤ n)
namespace Fine
variable {s : Scr}
theorem chars : ∀ (t : List Int) {s : Scr}, Fine s → Fine (s.chars t)
 | [], _, h => h
 | c :: t, _, h => chars t (h.put c)
theorem again (h : Fine s) : Fine s.again := by
 unfold Scr.again
 split
 ·exact h
 ·exact h.put _
theorem agains : ∀ (n : Nat) {s : Scr}, Fine s → Fine (iter Scr.again n s)
 | 0, _, h => h
 | n + 1, _, h => agains n h.again
theorem attrs (h : Fine s) (A : Int → Int → Int) (l : List Int) : Fine (s.attrs A l) := ⟨h.w0, h.w1, h.h0, h.h1, h.rl, h.rw, h.px, h.py, h.sx, h.sy, h.tb, h.bh⟩
theorem marg (h : Fine s) (n m : Int) (h1 : 1 ≤ n) (h2 : n < m) (h3 : m ≤ (s.h : Int)) : Fine (s.marg n m) :=
 ⟨h.w0, h.w1, h.h0, h.h1, h.rl, h.rw, clampN_lt _ _ h.w0, clampN_lt _ _ h.h0, h.sx, h.sy, by simp only [Scr.marg, Scr.move]; omega, by simp only [Scr.marg, Scr.move]; omega⟩
theorem other (h : Fine s) (A : Int → Int → Int) {k n m : Int} (t l : List Int) (ho : NumsOk k n m) : Fine (s.other A k n m t l) := by
 unfold Scr.other
 split
 ·rename_i hk
  split
  ·rename_i hm
   exact h.marg _ _ (ho.2.2.2.2 hk) hm.2 hm.1
  ·exact h
 split
 ·exact ⟨h.w0, h.w1, h.h0, h.h1, h.rl, h.rw, h.px, h.py, h.px, h.py, h.tb, h.bh⟩
 split
 ·exact ⟨h.w0, h.w1, h.h0, h.h1, h.rl, h.rw, h.sx, h.sy, h.sx, h.sy, h.tb, h.bh⟩
 split
 ·exact h.attrs _ _
 split
 ·exact chars _ h
 split
 ·exact h.ctl _
 ·exact h
theorem ite_ {p : Prop} [Decidable p] {a b : Scr} (ha : p → Fine a) (hb : ¬ p → Fine b) : Fine (if p then a else b) := by
 split
 ·exact ha ‹_›
 ·exact hb ‹_›
theorem op (h : Fine s) (A : Int → Int → Int) {k n m : Int} (t l : List Int) (ho : NumsOk k n m) : Fine (s.op A k n m t l) := by
 unfold Scr.op
 iterate 9 refine ite_ (fun _ => h.move _ _) (fun _ => ?_)
 refine ite_ (fun _ => h.wipe _ _ _) (fun _ => ?_)
 refine ite_ (fun _ => h.erase _) (fun _ => ?_)
 refine ite_ (fun _ => ite_ (fun _ => h.wipe _ _ _) (fun _ => ite_ (fun _ => h.wipe _ _ _) (fun _ => h.wipe _ _ _))) (fun _ => ?_)
 refine ite_ (fun _ => h.roll _ _ h.tb) (fun _ => ?_)
 refine ite_ (fun _ => h.roll _ _ h.tb) (fun _ => ?_)
 refine ite_ (fun _ => ite_ (fun hp => h.roll _ _ hp.2) (fun _ => h)) (fun _ => ?_)
 refine ite_ (fun _ => h.shift _) (fun _ => ?_)
 refine ite_ (fun _ => h.shift _) (fun _ => ?_)
 exact ite_ (fun _ => agains _ h) (fun _ => h.other A t l ho)
end Fine
end Go.Proofs.YteebhoehflgfoaaGreatDoor.Y
end
section
namespace Go.Proofs.YteebhoehflgfoaaGreatDoor.Y
set_option linter.unusedSimpArgs false
set_option linter.unusedVariables false
/-- An operation, plainly. -/
structure PO where
 k : Int
 n : Int
 m : Int
 t : List Int
 l : List Int
def Scr.opO (A : Int → Int → Int) (s : Scr) (o : PO) : Scr := s.op A o.k o.n o.m o.t o.l
def Scr.play (A : Int → Int → Int) (s : Scr) (l : List PO) : Scr := l.foldl (Scr.opO A) s
def POk (o : PO) : Prop := NumsOk o.k o.n o.m
theorem play_append (A : Int → Int → Int) (s : Scr) (l m : List PO) : s.play A (l ++ m) = (s.play A l).play A m := List.foldl_append
theorem play_fine (A : Int → Int → Int) : ∀ (l : List PO) {s : Scr}, Fine s → (∀ o ∈ l, POk o) → Fine (s.play A l)
 | [], _, h, _ => h
 | o :: l, _, h, ho => play_fine A l (h.op A o.t o.l (ho o (by simp))) (fun p hp => ho p (List.mem_cons_of_mem _ hp))
theorem op_style (s : Scr) (A : Int → Int → Int) (n m : Int) (t l : List Int) : s.op A 52 n m t l = s.attrs A l := by
 simp [Scr.op, Scr.other]
theorem op_again (s : Scr) (A : Int → Int → Int) (n m : Int) (t l : List Int) : s.op A 22 n m t l = iter Scr.again n.toNat s := by
 simp [Scr.op]
/-! Attributes forgotten. -/
def A0 : Int → Int → Int := fun _ _ => 0
def plainG (r : List Gl) : List Gl := r.map fun g => (g.1, 0)
def Scr.strip (s : Scr) : Scr := { s with rows := s.rows.map plainG, pen := { s.pen with a := 0 }, sav := { s.sav with a := 0 } }
theorem map_modify_ {α : Type} (g : α → α) (f f' : α → α) (h : ∀ x, g (f x) = f' (g x)) : ∀ (l : List α) (i : Nat), (l.modify i f).map g = (l.map g).modify i f' := fun l i => by
 apply List.ext_getElem
 ·simp
 ·intro j h1 h2
  simp only [List.getElem_map, List.getElem_modify]
  split
  ·exact h _
  ·rfl
theorem plain_set (r : List Gl) (i : Nat) (c a : Int) : plainG (r.set i (c, a)) = (plainG r).set i (c, 0) := by simp [plainG, List.map_set]
theorem plain_wipe (r : List Gl) (a b : Nat) : plainG (wipeRow r a b) = wipeRow (plainG r) a b := by
 unfold plainG wipeRow
 apply List.ext_getElem
 ·simp
 ·intro j h1 h2
  simp only [List.getElem_map, List.getElem_mapIdx]
  split <;> rfl
theorem plain_len (r : List Gl) : (plainG r).length = r.length := by simp [plainG]
theorem plain_open (r : List Gl) (x k : Nat) : plainG (openRow r x k) = openRow (plainG r) x k := by
 unfold openRow
 rw [plain_wipe, plain_len]
 simp [plainG, List.map_take, List.map_drop]
theorem plain_close (r : List Gl) (x k : Nat) : plainG (closeRow r x k) = closeRow (plainG r) x k := by
 unfold closeRow
 rw [plain_wipe, plain_len]
 simp [plainG, List.map_take, List.map_drop]
theorem plain_z (w : Nat) : plainG (zrow w) = zrow w := by simp [plainG, zrow]
theorem map_upL {α : Type} (g : α → α) (l : List α) (a b : Nat) (z : α) : (upL l a b z).map g = upL (l.map g) a b (g z) := by simp [upL, List.map_take, List.map_drop]
theorem map_downL {α : Type} (g : α → α) (l : List α) (a b : Nat) (z : α) : (downL l a b z).map g = downL (l.map g) a b (g z) := by simp [downL, List.map_take, List.map_drop]
theorem strip_move (s : Scr) (x y : Int) : (s.move x y).strip = s.strip.move x y := rfl
theorem strip_put (s : Scr) (c : Int) : (s.put c).strip = s.strip.put c := by
 unfold Scr.strip Scr.put
 simp only
 rw [map_modify_ plainG _ (fun r => r.set s.pen.x (c, 0)) (fun r => plain_set r _ _ _)]
theorem strip_rows (s : Scr) (i : Nat) (f : List Gl → List Gl) (h : ∀ r, plainG (f r) = f (plainG r)) : ({ s with rows := s.rows.modify i f } : Scr).strip = { s.strip with rows := s.strip.rows.modify i f } := by
 unfold Scr.strip
 simp only
 rw [map_modify_ plainG f f h]
theorem strip_wipe (s : Scr) (y a b : Nat) : (s.wipe y a b).strip = s.strip.wipe y a b := strip_rows s y _ (fun r => plain_wipe r a b)
theorem strip_up (s : Scr) (a : Nat) : (s.up a).strip = s.strip.up a := by
 unfold Scr.strip Scr.up
 simp only
 rw [map_upL, plain_z]
theorem strip_down (s : Scr) (a : Nat) : (s.down a).strip = s.strip.down a := by
 unfold Scr.strip Scr.down
 simp only
 rw [map_downL, plain_z]
theorem strip_iter (f : Scr → Scr) (h : ∀ s : Scr, (f s).strip = f s.strip) : ∀ (n : Nat) (s : Scr), (iter f n s).strip = iter f n s.strip
 | 0, _ => rfl
 | n + 1, s => by rw [iter, iter, strip_iter f h n, h]
theorem ite_strip {p : Prop} [Decidable p] {a b a' b' : Scr} (ha : a.strip = a') (hb : b.strip = b') : (if p then a else b).strip = if p then a' else b' := by
 split
 ·exact ha
 ·exact hb
theorem strip_roll (s : Scr) (a : Nat) (n : Int) : (s.roll a n).strip = s.strip.roll a n :=
 ite_strip (strip_iter (fun t => t.up a) (fun _ => strip_up _ _) _ _) (strip_iter (fun t => t.down a) (fun _ => strip_down _ _) _ _)
theorem strip_shift (s : Scr) (n : Int) : (s.shift n).strip = s.strip.shift n :=
 ite_strip (strip_rows s _ _ (fun r => plain_open r _ _)) (strip_rows s _ _ (fun r => plain_close r _ _))
theorem strip_ctl (s : Scr) (c : Int) : (s.ctl c).strip = s.strip.ctl c :=
 ite_strip rfl (ite_strip rfl (ite_strip rfl (ite_strip (ite_strip (strip_roll _ _ _) rfl) rfl)))
theorem strip_again (s : Scr) : s.again.strip = s.strip.again := ite_strip rfl (strip_put _ _)
theorem strip_chars : ∀ (t : List Int) (s : Scr), (s.chars t).strip = s.strip.chars t
 | [], _ => rfl
 | c :: t, s => (strip_chars t (s.put c)).trans (by rw [strip_put]; rfl)
theorem strip_erase (s : Scr) (n : Int) : (s.erase n).strip = s.strip.erase n := by
 unfold Scr.strip Scr.erase
 simp only [Scr.mk.injEq, true_and, and_true]
 apply List.ext_getElem
 ·simp
 ·intro j h1 h2
  simp only [List.getElem_map, List.getElem_mapIdx]
  unfold eraseAt
  simp only
  repeat' split
  all_goals first | rfl | exact plain_wipe _ _ _ | (exfalso; simp_all)
theorem fold_zero : ∀ (l : List Int), l.foldl A0 0 = 0
 | [] => rfl
 | _ :: l => fold_zero l
theorem strip_attrs (s : Scr) (A : Int → Int → Int) (l : List Int) : (s.attrs A l).strip = s.strip := rfl
theorem strip_attrs0 (s : Scr) (l : List Int) : s.strip.attrs A0 l = s.strip := by
 unfold Scr.strip Scr.attrs
 simp only [fold_zero]
theorem strip_op (s : Scr) (A : Int → Int → Int) (k n m : Int) (t l : List Int) : (s.op A k n m t l).strip = s.strip.op A0 k n m t l := by
 unfold Scr.op
 iterate 9 refine ite_strip (strip_move _ _ _) ?_
 refine ite_strip (strip_wipe _ _ _ _) ?_
 refine ite_strip (strip_erase _ _) ?_
 refine ite_strip (ite_strip (strip_wipe _ _ _ _) (ite_strip (strip_wipe _ _ _ _) (strip_wipe _ _ _ _))) ?_
 refine ite_strip (strip_roll _ _ _) ?_
 refine ite_strip (strip_roll _ _ _) ?_
 refine ite_strip (ite_strip (strip_roll _ _ _) rfl) ?_
 refine ite_strip (strip_shift _ _) ?_
 refine ite_strip (strip_shift _ _) ?_
 refine ite_strip (strip_iter _ strip_again _ _) ?_
 unfold Scr.other
 refine ite_strip (ite_strip rfl rfl) ?_
 refine ite_strip rfl ?_
 refine ite_strip rfl ?_
 refine ite_strip ((strip_attrs _ _ _).trans (strip_attrs0 _ _).symm) ?_
 refine ite_strip (strip_chars _ _) ?_
 exact ite_strip (strip_ctl _ _) rfl
/-- The operations that are no styles. -/
def noStyle (l : List PO) : List PO := l.filter fun o => o.k ≠ 52
theorem strip_play (A : Int → Int → Int) : ∀ (l : List PO) (s : Scr), (s.play A l).strip = s.strip.play A0 (noStyle l)
 | [], _ => rfl
 | o :: l, s => by
  show ((s.opO A o).play A l).strip = _
  rw [strip_play A l]
  unfold noStyle
  by_cases h : o.k = 52
  ·rw [List.filter_cons_of_neg (by simpa using h)]
   congr 1
   rw [Scr.opO, h, op_style, strip_attrs]
  ·rw [List.filter_cons_of_pos (by simpa using h), Scr.opO, strip_op]
   rfl
/-- Styles between the operations leave the characters and the cursor as they are. -/
theorem noise_law (A : Int → Int → Int) (s : Scr) (l m : List PO) (h : noStyle l = noStyle m) : (s.play A l).strip = (s.play A m).strip := by rw [strip_play, strip_play, h]
def newScr (w h : Nat) : Scr := ⟨w, h, List.replicate h (zrow w), ⟨0, 0, 0⟩, ⟨0, 0, 0⟩, 0, h - 1, 0⟩
theorem new_fine (w h : Nat) (hw : 0 < w) (hw1 : w ≤ 1000) (hh : 0 < h) (hh1 : h ≤ 1000) : Fine (newScr w h) :=
 ⟨hw, hw1, hh, hh1, by simp [newScr], fun r hr => by rw [(List.mem_replicate.1 hr).2]; simp [zrow, newScr], hw, hh, hw, hh, Nat.zero_le _, by simp only [newScr]; omega⟩
theorem sub_up {α : Type} (l : List α) (a b : Nat) (h : a ≤ b) : (l.take a ++ ((l.drop (a + 1)).take (b - a) ++ l.drop (b + 1))).Sublist l := by
 have e : l.drop (b + 1) = (l.drop (a + 1)).drop (b - a) := by rw [List.drop_drop]; congr 1; omega
 rw [e, List.take_append_drop]
 conv => rhs; rw [← List.take_append_drop a l]
 refine List.Sublist.append (List.Sublist.refl _) ?_
 rw [← List.drop_drop]
 exact List.drop_sublist _ _
theorem sub_down {α : Type} (l : List α) (a b : Nat) (h : a ≤ b) : (l.take a ++ ((l.drop a).take (b - a) ++ l.drop (b + 1))).Sublist l := by
 conv => rhs; rw [← List.take_append_drop a l]
 refine List.Sublist.append (List.Sublist.refl _) ?_
 conv => rhs; rw [← List.take_append_drop (b - a) (l.drop a)]
 refine List.Sublist.append (List.Sublist.refl _) ?_
 have e : l.drop (b + 1) = ((l.drop a).drop (b - a)).drop 1 := by rw [List.drop_drop, List.drop_drop]; congr 1; omega
 rw [e]
 exact List.drop_sublist _ _
theorem nodup_mid {α : Type} (x y : List α) (z : α) (h : (x ++ y).Nodup) (hz : z ∉ x ++ y) : (x ++ z :: y).Nodup :=
 (List.perm_middle (a := z) (l₁ := x) (l₂ := y)).nodup_iff.2 (List.nodup_cons.2 ⟨hz, h⟩)
theorem nodup_up {α : Type} (l : List α) (a b : Nat) (z : α) (h : a ≤ b) (hn : l.Nodup) (hz : z ∉ l) : (upL l a b z).Nodup := by
 unfold upL
 rw [← List.append_assoc]
 have hs := sub_up l a b h
 rw [← List.append_assoc] at hs
 exact nodup_mid _ _ _ (hn.sublist hs) (fun hm => hz (hs.subset hm))
theorem nodup_down {α : Type} (l : List α) (a b : Nat) (z : α) (h : a ≤ b) (hn : l.Nodup) (hz : z ∉ l) : (downL l a b z).Nodup := by
 unfold downL
 have hs := sub_down l a b h
 exact nodup_mid _ _ _ (hn.sublist hs) (fun hm => hz (hs.subset hm))
theorem get_up {α : Type} (l : List α) (a b : Nat) (z : α) (h : a ≤ b) (hb : b < l.length) (i : Nat) : (upL l a b z)[i]? = if i < a then l[i]? else if i < b then l[i + 1]? else if i = b then some z else l[i]? := by
 unfold upL
 by_cases h1 : i < a
 ·rw [if_pos h1, List.getElem?_append_left (by simp; omega), List.getElem?_take, if_pos h1]
 ·rw [if_neg h1, List.getElem?_append_right (by simp; omega), List.length_take, Nat.min_eq_left (by omega)]
  by_cases h2 : i < b
  ·rw [if_pos h2, List.getElem?_append_left (by simp; omega), List.getElem?_take, if_pos (by omega), List.getElem?_drop]
   congr 1
   omega
  ·rw [if_neg h2, List.getElem?_append_right (by simp; omega), List.length_take, List.length_drop, Nat.min_eq_left (by omega)]
   by_cases h3 : i = b
   ·rw [if_pos h3, show i - a - (b - a) = 0 by omega]
    rfl
   ·rw [if_neg h3, show i - a - (b - a) = (i - b - 1) + 1 by omega, List.getElem?_cons_succ, List.getElem?_drop]
    congr 1
    omega
theorem get_down {α : Type} (l : List α) (a b : Nat) (z : α) (h : a ≤ b) (hb : b < l.length) (i : Nat) : (downL l a b z)[i]? = if i < a then l[i]? else if i = a then some z else if i ≤ b then l[i - 1]? else l[i]? := by
 unfold downL
 by_cases h1 : i < a
 ·rw [if_pos h1, List.getElem?_append_left (by simp; omega), List.getElem?_take, if_pos h1]
 ·rw [if_neg h1, List.getElem?_append_right (by simp; omega), List.length_take, Nat.min_eq_left (by omega)]
  by_cases h2 : i = a
  ·rw [if_pos h2, show i - a = 0 by omega]
   rfl
  ·rw [if_neg h2, show i - a = (i - a - 1) + 1 by omega, List.getElem?_cons_succ]
   by_cases h3 : i ≤ b
   ·rw [if_pos h3, List.getElem?_append_left (by simp; omega), List.getElem?_take, if_pos (by omega), List.getElem?_drop]
    congr 1
    omega
   ·rw [if_neg h3, List.getElem?_append_right (by simp; omega), List.length_take, List.length_drop, Nat.min_eq_left (by omega), List.getElem?_drop]
    congr 1
    omega
theorem get_splice {α : Type} (L : List α) (a : Nat) (cs : List α) (h : a + cs.length ≤ L.length) (i : Nat) : (splice L a cs)[i]? = if i < a then L[i]? else if i < a + cs.length then cs[i - a]? else L[i]? := by
 unfold splice
 by_cases h1 : i < a
 ·rw [if_pos h1, List.getElem?_append_left (by simp; omega), List.getElem?_take, if_pos h1]
 ·rw [if_neg h1, List.getElem?_append_right (by simp; omega), List.length_take, Nat.min_eq_left (by omega)]
  by_cases h2 : i < a + cs.length
  ·rw [if_pos h2, List.getElem?_append_left (by omega)]
  ·rw [if_neg h2, List.getElem?_append_right (by omega), List.getElem?_drop]
   congr 1
   omega
/-- What copying and storing make of a table, rolled up. -/
theorem splice_up {α β : Type} (f : α → β) (l : List α) (rest : List β) (a b : Nat) (z : α) (h : a ≤ b) (hb : b < l.length) :
  (splice (l.map f ++ rest) a (((l.drop (a + 1)).take (b - a)).map f)).set b (f z) = (upL l a b z).map f ++ rest := by
 have hl := len_upL l a b z h hb
 have hc : (((l.drop (a + 1)).take (b - a)).map f).length = b - a := by simp; omega
 apply List.ext_getElem?
 intro i
 rw [List.getElem?_set, get_splice _ _ _ (by rw [hc]; simp; omega), hc]
 have hs : (splice (l.map f ++ rest) a (((l.drop (a + 1)).take (b - a)).map f)).length = (l.map f ++ rest).length := length_splice _ _ _ (by rw [hc]; simp; omega)
 by_cases hi : i < l.length
 ·rw [List.getElem?_append_left (l₁ := (upL l a b z).map f) (by rw [List.length_map, hl]; exact hi), (List.getElem?_map : ((upL l a b z).map f)[i]? = _), get_up l a b z h hb, List.getElem?_append_left (l₁ := l.map f) (by rw [List.length_map]; exact hi)]
  by_cases hb2 : b = i
  ·subst hb2
   rw [if_pos rfl, if_pos (by rw [hs]; simp; omega), if_neg (by omega), if_neg (by omega), if_pos rfl]
   rfl
  ·rw [if_neg hb2]
   by_cases h1 : i < a
   ·rw [if_pos h1, if_pos h1, List.getElem?_map]
   ·rw [if_neg h1, if_neg h1]
    by_cases h2 : i < b
    ·rw [if_pos (by omega), if_pos h2, List.getElem?_map, List.getElem?_take, if_pos (by omega), List.getElem?_drop]
     congr 2
     omega
    ·rw [if_neg (by omega), if_neg h2, if_neg (by omega), List.getElem?_map]
 ·rw [if_neg (by omega), if_neg (by omega), if_neg (by omega), List.getElem?_append_right (by simp; omega), List.getElem?_append_right (by rw [List.length_map, hl]; omega)]
  simp [hl]
theorem splice_down {α β : Type} (f : α → β) (l : List α) (rest : List β) (a b : Nat) (z : α) (h : a ≤ b) (hb : b < l.length) :
  (splice (l.map f ++ rest) (a + 1) (((l.drop a).take (b - a)).map f)).set a (f z) = (downL l a b z).map f ++ rest := by
 have hl := len_downL l a b z h hb
 have hc : (((l.drop a).take (b - a)).map f).length = b - a := by simp; omega
 apply List.ext_getElem?
 intro i
 rw [List.getElem?_set, get_splice _ _ _ (by rw [hc]; simp; omega), hc]
 have hs : (splice (l.map f ++ rest) (a + 1) (((l.drop a).take (b - a)).map f)).length = (l.map f ++ rest).length := length_splice _ _ _ (by rw [hc]; simp; omega)
 by_cases hi : i < l.length
 ·rw [List.getElem?_append_left (l₁ := (downL l a b z).map f) (by rw [List.length_map, hl]; exact hi), (List.getElem?_map : ((downL l a b z).map f)[i]? = _), get_down l a b z h hb, List.getElem?_append_left (l₁ := l.map f) (by rw [List.length_map]; exact hi)]
  by_cases hb2 : a = i
  ·subst hb2
   rw [if_pos rfl, if_pos (by rw [hs]; simp; omega), if_neg (by omega), if_pos rfl]
   rfl
  ·rw [if_neg hb2]
   by_cases h1 : i < a
   ·rw [if_pos (by omega), if_pos h1, List.getElem?_map]
   ·rw [if_neg (show ¬ i < a + 1 by omega), if_neg h1, if_neg (show ¬ i = a by omega)]
    by_cases h2 : i ≤ b
    ·rw [if_pos (show i < a + 1 + (b - a) by omega), if_pos h2, List.getElem?_map, List.getElem?_take, if_pos (by omega), List.getElem?_drop]
     congr 2
     omega
    ·rw [if_neg (show ¬ i < a + 1 + (b - a) by omega), if_neg h2, List.getElem?_map]
 ·rw [if_neg (by omega), if_neg (by omega), if_neg (by omega), List.getElem?_append_right (by simp; omega), List.getElem?_append_right (by rw [List.length_map, hl]; omega)]
  simp [hl]
end Go.Proofs.YteebhoehflgfoaaGreatDoor.Y
end
