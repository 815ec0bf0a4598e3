/- Texts of this claim, joined: XMade XOpen Q0 Q1 Q. Of each, what the claim uses. -/
import Derived.Test.YtaaejhodlindeaaGreatDoorKau
import Derived.Test.YtaaejhodlindeaaGreatDoorKav
import Derived.Test.YtaaejhodlindeaaGreatDoorProg
import Derived.Test.YtaaejhodlindeaaGreatDoorKac
import Derived.ChangeArms
import Derived.DataReads
import Derived.Below
import Derived.Deep.Draws
import Derived.Deep.AppendLies
import Derived.Maps.AppendAt
import Derived.OwnWalk
import Derived.Laws.BytesArg
import Derived.Laws.MakeOwn
import Derived.Laws.OwnMore
import Derived.Deep.OwnRows
import Derived.Tactics
import Derived.Lib.ConvBytes
import Derived.Laws.Slices
import Derived.WalkKit
import Derived.KernelRfl
import Derived.RowKit3
import Derived.Deep.LoopGhost
import Derived.Deep.QuietTactic
import Derived.BigQuiet
import Derived.WideLaws
import Derived.Deep.DeepCutAuto
import Derived.Deep.CutBlock
import Derived.Deep.RegionHeld3
import Derived.Laws.Rows
import Derived.Lib.AppendStr
import Derived.ArgAppend
import Derived.Laws.IdiomCopy
import Derived.OrdersHeld
import Derived.Laws.BitsLemmas
import Derived.RowKit
import Derived.Test.YtaaejhodlindeaaGreatDoorKaa
import Derived.Test.YtaaejhodlindeaaGreatDoorKab
section
namespace Go.Proofs.YtaaejhodlindeaaGreatDoor.Y
open Go.RowKit Go.Proofs.YtaaejhodlindeaaGreatDoorW.PrintWords Go.Proofs.YtaaejhodlindeaaGreatDoorW.PrintLast Go.Proofs.YtaaejhodlindeaaGreatDoorW.PrintMore
set_option linter.unusedSimpArgs false
set_option linter.unusedVariables false
/-- One event, told by the last byte. -/
structure One (t : ByteArray) (e : X.Ev) : Prop where
  run : X.run .gr (X.nb t) = some (.gr, [e])
  cut : ∃ s, X.run .gr (X.nb t).dropLast = some (s, [])
  size : t.size ≤ 100
  pos : 1 ≤ t.size
  pars : e.params.length ≤ 10 ∧ e.data.length ≤ 10
def numOk (k n : Nat) : Bool :=
  match impl_MakeNumber.f k n with
  | some t =>
    (match X.run .gr (X.nb t) with
    | some (s, [e]) => decide (s = .gr) && decide (e.kind = 2) && decide (e.params.length ≤ 1) && decide (e.data = [])
    | _ => false) && (match X.run .gr (X.nb t).dropLast with | some (_, []) => true | _ => false) && decide (1 ≤ t.size) && decide (t.size ≤ 100)
  | _ => false
theorem nums_ok : ((List.range 23).all fun k => (k == 7 || k == 8) || (List.range 100).all fun n => numOk k n) = true := by kernel_rfl
theorem num_one (k n : Nat) (hk : k ≤ 22) (h7 : k ≠ 7) (h8 : k ≠ 8) (hn : n ≤ 99) : ∃ t e, impl_MakeNumber.f k n = some t ∧ One t e := by
  have h := List.all_eq_true.1 nums_ok k (List.mem_range.2 (by omega))
  have h2 : ((List.range 100).all fun n => numOk k n) = true := by
    rcases Bool.or_eq_true _ _ ▸ h with h | h
    · simp only [Bool.or_eq_true, beq_iff_eq] at h
      omega
    · exact h
  have h3 := List.all_eq_true.1 h2 n (List.mem_range.2 (by omega))
  unfold numOk at h3
  split at h3
  · rename_i t ht
    simp only [Bool.and_eq_true, decide_eq_true_eq] at h3
    obtain ⟨⟨⟨h4, h5⟩, h6⟩, h9⟩ := h3
    split at h4
    · rename_i s e hr
      simp only [Bool.and_eq_true, decide_eq_true_eq] at h4
      obtain ⟨⟨⟨g1, g2⟩, g3⟩, g4⟩ := h4
      subst g1
      split at h5
      · rename_i s2 hr2
        exact ⟨t, e, ht, hr, ⟨s2, hr2⟩, h9, h6, by omega, by rw [g4]; simp⟩
      · cases h5
    · cases h4
  · cases h3
theorem csi_pair (f a b : Nat) (hf : 64 ≤ f ∧ f ≤ 126) (ha : a ≤ 9999) (hb : b ≤ 9999) :
    X.run .gr ([27, 91] ++ X.digs a ++ [59] ++ X.digs b) = some (.csi 3 0 [(a : Int)] (b : Int), []) ∧ X.run .gr ([27, 91] ++ X.digs a ++ [59] ++ X.digs b ++ [f]) = some (.gr, [X.evCsi (f : Int) [(a : Int), (b : Int)]]) := by
  have h1 : X.run .gr [27, 91] = some (.csi 1 0 [] X.Miss, []) := rfl
  have h2 := X.run_of h1 (X.run_digs 1 (by decide) 0 [] a (by omega))
  have h3 : X.run (.csi 3 0 [] (a : Int)) [59] = some (.csi 3 0 [(a : Int)] X.Miss, []) := by simp [X.run, X.step]
  have h4 := X.run_of h2 h3
  have h5 := X.run_of h4 (X.run_digs 3 (by decide) 0 [(a : Int)] b (by omega))
  have h6 : X.run (.csi 3 0 [(a : Int)] (b : Int)) [f] = some (.gr, [X.evCsi (f : Int) [(a : Int), (b : Int)]]) := by
    simp [X.run, X.step, hf, X.closed]
  exact ⟨by simpa using h5, by simpa using X.run_of h5 h6⟩
theorem pair_one (f a b : Nat) (hf : 64 ≤ f ∧ f ≤ 126) (ha : a ≤ 9999) (hb : b ≤ 9999) {t1 t2 t : ByteArray} (h1 : X.nb t1 = X.digs a) (h2 : X.nb t2 = X.digs b) (s1 : t1.size ≤ 4) (s2 : t2.size ≤ 4)
    (ht : t = (((((⟨#[27, 91]⟩ : ByteArray) ++ t1) ++ (⟨#[59]⟩ : ByteArray)) ++ t2) ++ (⟨#[UInt8.ofNat f]⟩ : ByteArray))) : One t (X.evCsi (f : Int) [(a : Int), (b : Int)]) := by
  obtain ⟨r1, r2⟩ := csi_pair f a b hf ha hb
  have en : X.nb t = [27, 91] ++ X.digs a ++ [59] ++ X.digs b ++ [f] := by
    rw [ht]
    simp only [X.nb_append, h1, h2]
    have e1 : X.nb ⟨#[27, 91]⟩ = [27, 91] := rfl
    have e2 : X.nb ⟨#[59]⟩ = [59] := rfl
    have e3 : X.nb ⟨#[UInt8.ofNat f]⟩ = [f] := by
      show [(UInt8.ofNat f).toNat] = [f]
      simp
      omega
    rw [e1, e2, e3]
  have hz : t.size = 2 + t1.size + 1 + t2.size + 1 := by
    rw [ht]
    simp only [ByteArray.size_append]
    rfl
  refine ⟨by rw [en]; exact r2, ⟨_, by rw [en, List.dropLast_concat]; exact r1⟩, by omega, by omega, by simp [X.evCsi]⟩
theorem itoa_small (n : Nat) (h : n ≤ 9999) : ∃ t, strconv_Itoa.f (n : Int) = some t ∧ X.nb t = X.digs n ∧ t.size ≤ 4 := by
  obtain ⟨t, h1, h2, h3⟩ := X.itoa_text n (by omega)
  exact ⟨t, h1, h2, by rw [h3]; exact X.digs_pow 3 n (by omega)⟩
theorem place_one (a b : Nat) (ha : 1 ≤ a ∧ a ≤ 99) (hb : 1 ≤ b ∧ b ≤ 99) (k : Nat) (hk : 1 ≤ k) : ∃ t e, xansi_CursorPosition.f k (a : Int) (b : Int) = some t ∧ One t e ∧ (e = X.evCsi 72 [(b : Int), (a : Int)] ∨ (e = X.evCsi 72 [] ∧ a = 1 ∧ b = 1)) := by
  obtain ⟨k, rfl⟩ : ∃ k', k = k' + 1 := ⟨k - 1, by omega⟩
  obtain ⟨t1, p1, p2, p3⟩ := itoa_small b (by omega)
  obtain ⟨t2, q1, q2, q3⟩ := itoa_small a (by omega)
  have main : xansi_CursorPosition.j0 (k + 1) (a : Int) (b : Int) false = some (((((⟨#[27, 91]⟩ : ByteArray) ++ t1) ++ (⟨#[59]⟩ : ByteArray)) ++ t2) ++ (⟨#[72]⟩ : ByteArray)) := by
    rw [xansi_CursorPosition.j0, if_neg (by simp), if_pos (by omega), p1, Option.bind_some, if_pos (by omega), q1, Option.bind_some, if_pos (by omega), if_pos (by omega), if_pos (by omega), if_pos (by omega)]
  have one := pair_one 72 b a (by omega) (by omega) (by omega) p2 q2 p3 q3 rfl
  unfold xansi_CursorPosition.f
  by_cases c1 : (b : Int) ≤ 1
  · rw [if_pos c1]
    by_cases c2 : (a : Int) ≤ 1
    · rw [decide_eq_true c2, xansi_CursorPosition.j0, if_pos rfl]
      exact ⟨_, X.evCsi 72 [], rfl, ⟨rfl, ⟨_, rfl⟩, by decide, by decide, by decide⟩, Or.inr ⟨rfl, by omega, by omega⟩⟩
    · rw [decide_eq_false c2, main]
      exact ⟨_, _, rfl, one, Or.inl rfl⟩
  · rw [if_neg c1, main]
    exact ⟨_, _, rfl, one, Or.inl rfl⟩
theorem hv_one (a b : Nat) (ha : 1 ≤ a ∧ a ≤ 99) (hb : 1 ≤ b ∧ b ≤ 99) : ∃ t, xansi_HorizontalVerticalPosition.f (a : Int) (b : Int) = some t ∧ One t (X.evCsi 102 [(b : Int), (a : Int)]) := by
  obtain ⟨t1, p1, p2, p3⟩ := itoa_small b (by omega)
  obtain ⟨t2, q1, q2, q3⟩ := itoa_small a (by omega)
  unfold xansi_HorizontalVerticalPosition.f
  rw [if_pos (by omega), p1, Option.bind_some, if_pos (by omega), q1, Option.bind_some, if_pos (by omega), if_pos (by omega), if_pos (by omega), if_pos (by omega)]
  exact ⟨_, rfl, pair_one 102 b a (by omega) (by omega) (by omega) p2 q2 p3 q3 rfl⟩
theorem margins_one (a b : Nat) (ha : 1 ≤ a ∧ a ≤ 99) (hb : 1 ≤ b ∧ b ≤ 99) : ∃ t, xansi_SetTopBottomMargins.f (a : Int) (b : Int) = some t ∧ One t (X.evCsi 114 [(a : Int), (b : Int)]) := by
  obtain ⟨t1, p1, p2, p3⟩ := itoa_small a (by omega)
  obtain ⟨t2, q1, q2, q3⟩ := itoa_small b (by omega)
  unfold xansi_SetTopBottomMargins.f
  rw [if_pos (by omega), p1, Option.bind_some, if_pos (by omega), q1, Option.bind_some, if_pos (by omega), if_pos (by omega), if_pos (by omega), if_pos (by omega)]
  exact ⟨_, rfl, pair_one 114 a b (by omega) (by omega) (by omega) p2 q2 p3 q3 rfl⟩
/-- An attribute's text. -/
def attrOkB (n : Nat) : Bool := match xansi_attrStrings.f n with
  | some (t, true) => decide (X.nb t = X.digs n) && decide (t.size ≤ 2)
  | _ => false
theorem attrs_ok : ((List.range 30).all fun n => (decide (9 < n ∧ n < 22) || n == 26) || attrOkB n) = true := by kernel_rfl
theorem attr_text (n : Nat) (h : AttrOk (n : Int)) : ∃ t, xansi_attrStrings.f n = some (t, true) ∧ X.nb t = X.digs n ∧ t.size ≤ 2 := by
  obtain ⟨h0, h1, h2, h3⟩ := h
  have g := List.all_eq_true.1 attrs_ok n (List.mem_range.2 (by omega))
  have g2 : attrOkB n = true := by
    rcases Bool.or_eq_true _ _ ▸ g with g | g
    · simp only [Bool.or_eq_true, decide_eq_true_eq, beq_iff_eq] at g
      omega
    · exact g
  unfold attrOkB at g2
  split at g2
  · rename_i t ht
    simp only [Bool.and_eq_true, decide_eq_true_eq] at g2
    exact ⟨t, ht, g2.1, g2.2⟩
  · cases g2
/-- Texts of attributes. -/
def Texts (l : List Int) (ts : List ByteArray) : Prop := ts.length = l.length ∧ ∀ i (h : i < ts.length) (h2 : i < l.length), X.nb ts[i] = X.digs l[i].toNat ∧ ts[i].size ≤ 2
theorem newStyle_l0 (l : List Int) (hl : l.length ≤ 1000) (ho : ∀ n ∈ l, AttrOk n) : ∀ (m i k : Nat) (ts : List ByteArray), i + m = l.length → m < k → Texts (l.take i) ts →
    ∃ us, xansi_NewStyle.l0 k ts l (l.length : Int) (i : Int) = some us ∧ Texts l us
  | 0, i, k + 1, ts, h, hk, ht => by
    rw [List.take_of_length_le (by omega)] at ht
    rw [xansi_NewStyle.l0, if_neg (by omega)]
    exact ⟨ts, rfl, ht⟩
  | m + 1, i, k + 1, ts, h, hk, ht => by
    have hi : i < l.length := by omega
    have hok := ho _ (List.getElem_mem hi)
    obtain ⟨t, h1, h2, h3⟩ := attr_text l[i].toNat (by rw [Int.toNat_of_nonneg hok.1]; exact hok)
    rw [Int.toNat_of_nonneg hok.1] at h1
    have hlt : ts.length = i := by have := ht.1; rw [List.length_take] at this; omega
    rw [xansi_NewStyle.l0, if_pos (by omega), if_pos (by omega), if_pos (by omega), rdI_at l i hi, h1, Option.bind_some]
    simp only [if_pos]
    rw [if_pos (by omega), wrap_up i (by omega)]
    refine newStyle_l0 l hl ho m (i + 1) k (ts ++ [t]) (by omega) (by omega) ⟨by simp [hlt]; omega, fun j hj hj2 => ?_⟩
    by_cases hji : j < i
    · rw [List.getElem_append_left (by omega), List.getElem_take]
      have := ht.2 j (by omega) (by rw [List.length_take]; omega)
      rwa [List.getElem_take] at this
    · have hj3 : j = i := by simp at hj; omega
      subst hj3
      rw [List.getElem_append_right (by omega), List.getElem_take]
      simp only [hlt, Nat.sub_self, List.getElem_cons_zero]
      exact ⟨h2, h3⟩
/-- What runs over attributes joined by semicolons. -/
def pars (l : List Int) : List Int := l.dropLast
theorem join_l0 (l : List Int) (us : List ByteArray) (hu : Texts l us) (hl : l.length ≤ 28) (ho : ∀ n ∈ l, AttrOk n) : ∀ (m i k : Nat) (x : ByteArray), i + m = l.length → m < k → x.size ≤ 3 * i →
    X.run (.csi 1 0 [] X.Miss) (X.nb x) = (if i = 0 then some (.csi 1 0 [] X.Miss, []) else some (.csi 3 0 (l.take (i - 1)) (l.getD (i - 1) 0), [])) →
    ∃ y, xansi_zzJoin.l0 k (⟨#[59]⟩ : ByteArray) x us (us.length : Int) (i : Int) = some y ∧ y.size ≤ 3 * l.length ∧
      X.run (.csi 1 0 [] X.Miss) (X.nb y) = (if l.length = 0 then some (.csi 1 0 [] X.Miss, []) else some (.csi 3 0 (l.take (l.length - 1)) (l.getD (l.length - 1) 0), []))
  | 0, i, k + 1, x, h, hk, hs, hr => by
    have hul := hu.1
    rw [xansi_zzJoin.l0, if_neg (by omega)]
    obtain rfl : i = l.length := by omega
    exact ⟨x, rfl, hs, hr⟩
  | m + 1, i, k + 1, x, h, hk, hs, hr => by
    have hul := hu.1
    have hi : i < l.length := by omega
    have hiu : i < us.length := by omega
    have hok := ho _ (List.getElem_mem hi)
    obtain ⟨u1, u2⟩ := hu.2 i hiu hi
    have hd : rdOf ByteArray.empty us (i : Int) = us[i] := by simp [rdOf, hiu]
    have hz : (⟨#[59]⟩ : ByteArray).size = 1 := rfl
    have hn : l[i].toNat ≤ 29 := by have := hok.2.1; omega
    have hti : ((l[i].toNat : Nat) : Int) = l[i] := Int.toNat_of_nonneg hok.1
    rw [xansi_zzJoin.l0, if_pos (by omega), if_pos (by omega), if_pos (by omega), hd]
    have next : ∀ z : ByteArray, z.size ≤ 3 * (i + 1) → X.run (.csi 1 0 [] X.Miss) (X.nb z) = some (.csi 3 0 (l.take i) l[i], []) →
        ∃ y, xansi_zzJoin.l0 k (⟨#[59]⟩ : ByteArray) z us (us.length : Int) ((i + 1 : Nat) : Int) = some y ∧ y.size ≤ 3 * l.length ∧
          X.run (.csi 1 0 [] X.Miss) (X.nb y) = (if l.length = 0 then some (.csi 1 0 [] X.Miss, []) else some (.csi 3 0 (l.take (l.length - 1)) (l.getD (l.length - 1) 0), [])) := fun z hz2 hrz => by
      refine join_l0 l us hu hl ho m (i + 1) k z (by omega) (by omega) hz2 ?_
      rw [if_neg (by omega), hrz]
      simp [hi]
    by_cases c0 : (i : Int) > 0
    · rw [if_pos c0, hz, if_pos (by omega), if_pos (by omega), wrap_up i (by omega)]
      refine next _ (by simp only [ByteArray.size_append, hz]; omega) ?_
      rw [if_neg (by omega)] at hr
      have e59 : X.nb ⟨#[59]⟩ = [59] := rfl
      have hlast : l.getD (i - 1) 0 = l[i - 1]'(by omega) := by simp [show i - 1 < l.length by omega]
      have hok1 := ho _ (List.getElem_mem (show i - 1 < l.length by omega))
      have h3 : X.run (.csi 3 0 (l.take (i - 1)) (l.getD (i - 1) 0)) [59] = some (.csi 3 0 (l.take i) X.Miss, []) := by
        have ht : l.take i = l.take (i - 1) ++ [l[i - 1]'(by omega)] := by
          have := List.take_succ_eq_append_getElem (l := l) (i := i - 1) (by omega)
          rwa [show i - 1 + 1 = i by omega] at this
        have hpl : (l.take (i - 1)).length < 29 := by rw [List.length_take]; omega
        rw [hlast, ht]
        generalize l.take (i - 1) = p at hpl
        simp [X.run, X.step, hpl]
      have h4 := X.run_of (X.run_of hr h3) (X.run_digs 3 (by decide) 0 (l.take i) l[i].toNat (by omega))
      rw [hti] at h4
      simp only [X.nb_append, u1, e59]
      simpa using h4
    · rw [if_neg c0, if_pos (by omega), wrap_up i (by omega)]
      obtain rfl : i = 0 := by omega
      refine next _ (by simp only [ByteArray.size_append]; omega) ?_
      rw [if_pos rfl] at hr
      have h4 := X.run_of hr (X.run_digs 1 (by decide) 0 [] l[0].toNat (by omega))
      rw [hti] at h4
      simp only [X.nb_append, u1]
      simpa using h4
theorem count_l0 (l : List Int) (hl : l.length ≤ 1000) : ∀ (m i k : Nat), i + m = l.length → m < k → impl_count.l0 k (l.take i) l (l.length : Int) (i : Int) = some l
  | 0, i, k + 1, h, hk => by
    rw [impl_count.l0, if_neg (by omega), List.take_of_length_le (by omega)]
  | m + 1, i, k + 1, h, hk => by
    have hi : i < l.length := by omega
    rw [impl_count.l0, if_pos (by omega), if_pos (by omega), if_pos (by omega), if_pos (by rw [List.length_take]; omega), rdI_at l i hi, wrap_up i (by omega), ← List.take_succ_eq_append_getElem hi]
    exact count_l0 l hl m (i + 1) k (by omega) (by omega)
theorem style_one (l : List Int) (hl : Attrs l) (k : Nat) (hk : 100 ≤ k) : ∃ t, impl_MakeList.f k 4 l = some t ∧ One t (X.evCsi 109 l) := by
  obtain ⟨ho, h1, h6⟩ := hl
  have hc : impl_count.f k l = some l := count_l0 l (by omega) l.length 0 k (by omega) (by omega)
  obtain ⟨us, hu1, hu2⟩ := newStyle_l0 l (by omega) ho l.length 0 k [] (by omega) (by omega) ⟨by simp, fun i h => by simp at h⟩
  obtain ⟨y, hy1, hy2, hy3⟩ := join_l0 l us hu2 (by omega) ho l.length 0 k ⟨#[]⟩ (by omega) (by omega) (by decide) (by rw [if_pos rfl]; rfl)
  rw [if_neg (by omega)] at hy3
  have hul := hu2.1
  replace hy1 : xansi_zzJoin.l0 k (⟨#[59]⟩ : ByteArray) ⟨#[]⟩ us (us.length : Int) 0 = some y := hy1
  have hns : xansi_NewStyle.f k l = some us := by
    unfold xansi_NewStyle.f
    rw [if_neg (by omega), if_pos (by omega), if_pos (by omega)]
    exact hu1
  have hst : xansi_Style_String.f k us = some (((⟨#[27, 91]⟩ : ByteArray) ++ y) ++ (⟨#[109]⟩ : ByteArray)) := by
    unfold xansi_Style_String.f xansi_zzJoin.f
    rw [if_neg (by omega), hy1, Option.bind_some, if_pos (by omega), if_pos (by omega)]
  refine ⟨((⟨#[27, 91]⟩ : ByteArray) ++ y) ++ (⟨#[109]⟩ : ByteArray), ?_, ?_⟩
  · unfold impl_MakeList.f xansi_SelectGraphicRendition.f
    rw [if_pos rfl, hc, Option.bind_some, if_neg (by omega), hns, Option.bind_some, hst, Option.bind_some]
  · have e1 : X.nb ⟨#[27, 91]⟩ = [27, 91] := rfl
    have e2 : X.nb ⟨#[109]⟩ = [109] := rfl
    have en : X.nb (((⟨#[27, 91]⟩ : ByteArray) ++ y) ++ (⟨#[109]⟩ : ByteArray)) = [27, 91] ++ X.nb y ++ [109] := by
      simp only [X.nb_append, e1, e2]
    have g1 : X.run .gr [27, 91] = some (.csi 1 0 [] X.Miss, []) := rfl
    have g2 := X.run_of g1 hy3
    have hlast : l.getD (l.length - 1) 0 = l[l.length - 1]'(by omega) := by simp [show l.length - 1 < l.length by omega]
    have hcl : X.closed (l.take (l.length - 1)) (l.getD (l.length - 1) 0) = l := by
      have hne : ¬ (l.getD (l.length - 1) 0 = X.Miss) := by
        have := (ho _ (List.getElem_mem (show l.length - 1 < l.length by omega))).2.1
        rw [hlast]; unfold X.Miss; omega
      unfold X.closed
      rw [if_neg (fun h => hne h.2), hlast]
      have := List.take_succ_eq_append_getElem (l := l) (i := l.length - 1) (by omega)
      rw [← this, List.take_of_length_le (by omega)]
    have g3 : X.run (.csi 3 0 (l.take (l.length - 1)) (l.getD (l.length - 1) 0)) [109] = some (.gr, [X.evCsi 109 l]) := by
      simp only [X.run, X.step]
      rw [if_pos (by omega), hcl]
      simp
    have hz : (((⟨#[27, 91]⟩ : ByteArray) ++ y) ++ (⟨#[109]⟩ : ByteArray)).size = 2 + y.size + 1 := by
      simp only [ByteArray.size_append]
      rfl
    refine ⟨by rw [en]; simpa using X.run_of g2 g3, ⟨_, by rw [en, List.dropLast_concat]; exact g2⟩, by omega, by omega, by simp [X.evCsi]; omega⟩
/-- A text's characters. -/
def charEvs (s : ByteArray) : List X.Ev := s.data.toList.map fun b => X.evPrint b.toNat
theorem text_run (l : List UInt8) (h : ∀ b ∈ l, PByte b) : X.run .gr (l.map UInt8.toNat) = some (.gr, l.map fun b => X.evPrint b.toNat) := by
  induction l with
  | nil => rfl
  | cons b r ih =>
    obtain ⟨h0, h1⟩ := h b (by simp)
    have hs : X.step .gr b.toNat = some (.gr, [X.evPrint b.toNat]) := by
      simp only [X.step]
      rw [if_neg (by omega), if_pos (by omega)]
    rw [List.map_cons, X.run, hs, Option.bind_some, ih (fun c hc => h c (List.mem_cons_of_mem _ hc))]
    simp
/-- What is made of a right operation: one event, or a text's characters. -/
def MadeAs (o : Op) (t : ByteArray) (evs : List X.Ev) : Prop := (o.f0 = 60 ∧ t = o.f3 ∧ evs = charEvs o.f3 ∧ PText o.f3) ∨ (o.f0 ≠ 60 ∧ ∃ e, evs = [e] ∧ One t e)
theorem pair_made (k : Nat) (o : Op) (h : o.f0 = 40 ∨ o.f0 = 41 ∨ o.f0 = 42) : laws_drawMade.f (k + 1) o.f0 o.f1 o.f2 o.f3 o.f4 = impl_MakePair.f k (o.f0 - 40) o.f1 o.f2 := by
  unfold laws_drawMade.f
  obtain ⟨b, hb, hn⟩ := isNum_f o.f0
  rw [hb, Option.bind_some, if_neg (fun h' => by have := hn.1 h'; unfold NumK at this; omega)]
  have fin : laws_drawMade.j0 (k + 1) true o.f0 o.f1 o.f2 o.f3 o.f4 = impl_MakePair.f k (o.f0 - 40) o.f1 o.f2 := by
    rw [laws_drawMade.j0, if_pos rfl, wrap64_of _ (by omega) (by omega)]
    cases impl_MakePair.f k (o.f0 - 40) o.f1 o.f2 <;> rfl
  rcases h with h | h | h
  · rw [if_pos h, fin]
  · rw [if_neg (by omega), if_pos h, fin]
  · rw [if_neg (by omega), if_neg (by omega), show (o.f0 == 42) = true by simpa using h, fin]
theorem other_made (k : Nat) (o : Op) (h : ¬ NumK o.f0) (h2 : o.f0 ≠ 40 ∧ o.f0 ≠ 41 ∧ o.f0 ≠ 42) : laws_drawMade.f k o.f0 o.f1 o.f2 o.f3 o.f4 = laws_drawMade.j0 k false o.f0 o.f1 o.f2 o.f3 o.f4 := by
  unfold laws_drawMade.f
  obtain ⟨b, hb, hn⟩ := isNum_f o.f0
  rw [hb, Option.bind_some, if_neg (fun h' => h (hn.1 h')), if_neg h2.1, if_neg h2.2.1, show (o.f0 == 42) = false by simpa using h2.2.2]
theorem made (o : Op) (ho : Right o) (k : Nat) (hk : 200 ≤ k) : ∃ t evs, laws_drawMade.f k o.f0 o.f1 o.f2 o.f3 o.f4 = some t ∧ MadeAs o t evs := by
  obtain ⟨k, rfl⟩ : ∃ k', k = k' + 1 := ⟨k - 1, by omega⟩
  rcases ho with ⟨h1, h2, h3, h4⟩ | ⟨h1, h2, h3, h4, h5, h6⟩ | ⟨h1, h2, h3, h4, h5⟩ | ⟨h1, h2, h3, h4⟩ | ⟨h1, h2, h3, h4, h5⟩ | ⟨h1, h2, h3, h4, h5⟩ | ⟨h1, h2, h3, h4⟩
  · have hb : 0 ≤ o.f1 ∧ o.f1 ≤ 99 := by split at h4 <;> omega
    unfold NumK at h1
    obtain ⟨t, e, p1, p2⟩ := num_one o.f0.toNat o.f1.toNat (by omega) (by omega) (by omega) (by omega)
    rw [Int.toNat_of_nonneg h1.1, Int.toNat_of_nonneg hb.1] at p1
    refine ⟨t, [e], ?_, Or.inr ⟨by omega, e, rfl, p2⟩⟩
    unfold laws_drawMade.f
    obtain ⟨b, hb, hn⟩ := isNum_f o.f0
    rw [hb, Option.bind_some, if_pos (hn.2 h1), p1, Option.bind_some]
  · rw [pair_made k o (by omega)]
    have ea : ((o.f1.toNat : Nat) : Int) = o.f1 := Int.toNat_of_nonneg (by omega)
    have eb : ((o.f2.toNat : Nat) : Int) = o.f2 := Int.toNat_of_nonneg (by omega)
    unfold impl_MakePair.f
    rcases h1 with h1 | h1
    · obtain ⟨t, e, p1, p2, _⟩ := place_one o.f1.toNat o.f2.toNat (by omega) (by omega) k (by omega)
      rw [ea, eb] at p1
      rw [if_pos (by omega), p1, Option.bind_some]
      exact ⟨t, [e], rfl, Or.inr ⟨by omega, e, rfl, p2⟩⟩
    · obtain ⟨t, p1, p2⟩ := hv_one o.f1.toNat o.f2.toNat (by omega) (by omega)
      rw [ea, eb] at p1
      rw [if_neg (by omega), if_pos (by omega), p1, Option.bind_some]
      exact ⟨t, _, rfl, Or.inr ⟨by omega, _, rfl, p2⟩⟩
  · rw [pair_made k o (by omega)]
    have ea : ((o.f1.toNat : Nat) : Int) = o.f1 := Int.toNat_of_nonneg (by omega)
    have eb : ((o.f2.toNat : Nat) : Int) = o.f2 := Int.toNat_of_nonneg (by omega)
    unfold impl_MakePair.f
    obtain ⟨t, p1, p2⟩ := margins_one o.f1.toNat o.f2.toNat (by omega) (by omega)
    rw [ea, eb] at p1
    rw [if_neg (by omega), if_neg (by omega), if_pos (by omega), p1, Option.bind_some]
    exact ⟨t, _, rfl, Or.inr ⟨by omega, _, rfl, p2⟩⟩
  · rw [other_made _ o (by unfold NumK; omega) (by omega), laws_drawMade.j0, if_neg (by simp)]
    rcases h1 with h1 | h1
    · rw [if_pos h1]
      exact ⟨_, [X.evEsc 55], rfl, Or.inr ⟨by omega, _, rfl, ⟨rfl, ⟨_, rfl⟩, by decide, by decide, by decide⟩⟩⟩
    · rw [if_neg (by omega), if_pos h1]
      exact ⟨_, [X.evEsc 56], rfl, Or.inr ⟨by omega, _, rfl, ⟨rfl, ⟨_, rfl⟩, by decide, by decide, by decide⟩⟩⟩
  · rw [other_made _ o (by unfold NumK; omega) (by omega), laws_drawMade.j0, if_neg (by simp), if_neg (by omega), if_neg (by omega), if_pos h1]
    obtain ⟨t, p1, p2⟩ := style_one o.f4 h5 k (by omega)
    rw [p1, Option.bind_some]
    exact ⟨t, _, rfl, Or.inr ⟨by omega, _, rfl, p2⟩⟩
  · rw [other_made _ o (by unfold NumK; omega) (by omega), laws_drawMade.j0, if_neg (by simp), if_neg (by omega), if_neg (by omega), if_neg (by omega), if_neg (by omega)]
    exact ⟨o.f3, charEvs o.f3, rfl, Or.inl ⟨h1, rfl, rfl, h5⟩⟩
  · rw [other_made _ o (by unfold NumK; omega) (by omega), laws_drawMade.j0, if_neg (by simp), if_neg (by omega), if_neg (by omega), if_neg (by omega), if_pos h1]
    rcases h4 with h4 | h4 | h4 | h4 <;> rw [h4]
    · exact ⟨_, [X.evExec 13], rfl, Or.inr ⟨by omega, _, rfl, ⟨rfl, ⟨_, rfl⟩, by decide, by decide, by decide⟩⟩⟩
    · exact ⟨_, [X.evExec 10], rfl, Or.inr ⟨by omega, _, rfl, ⟨rfl, ⟨_, rfl⟩, by decide, by decide, by decide⟩⟩⟩
    · exact ⟨_, [X.evExec 8], rfl, Or.inr ⟨by omega, _, rfl, ⟨rfl, ⟨_, rfl⟩, by decide, by decide, by decide⟩⟩⟩
    · exact ⟨_, [X.evExec 9], rfl, Or.inr ⟨by omega, _, rfl, ⟨rfl, ⟨_, rfl⟩, by decide, by decide, by decide⟩⟩⟩
end Go.Proofs.YtaaejhodlindeaaGreatDoor.Y
end
section
namespace Go.Proofs.YtaaejhodlindeaaGreatDoor.X
open Go.RowKit Go.Proofs.YtaaejhodlindeaaGreatDoorW.PrintWords
theorem len1 {cs : List Value} (h : cs.length = 1) : ∃ a, cs = [a] := by
  match cs, h with
  | [a], _ => exact ⟨a, rfl⟩
theorem len5 {cs : List Value} (h : cs.length = 5) : ∃ a b c d e, cs = [a, b, c, d, e] := by
  match cs, h with
  | [a, b, c, d, e], _ => exact ⟨a, b, c, d, e, rfl⟩
theorem list_of {α : Type} (P : Nat → α → Prop) : ∀ n, (∀ i, i < n → ∃ u, P i u) → ∃ l : List α, l.length = n ∧ ∀ i u, l[i]? = some u → P i u
  | 0, _ => ⟨[], rfl, fun i u h => by simp at h⟩
  | n + 1, h => by
    obtain ⟨l, hl, hP⟩ := list_of P n (fun i hi => h i (by omega))
    obtain ⟨u, hu⟩ := h n (by omega)
    refine ⟨l ++ [u], by simp [hl], fun i v hv => ?_⟩
    by_cases hi : i < l.length
    · rw [List.getElem?_append_left hi] at hv
      exact hP i v hv
    · rw [List.getElem?_append_right (by omega)] at hv
      have h0 : i - l.length = 0 := by
        have := (List.getElem?_eq_some_iff.1 hv).1
        simp at this
        omega
      rw [h0] at hv
      have : u = v := by simpa using hv
      subst this
      rwa [show i = n by omega]
theorem add_add (a : Addr) (m n : Nat) : (a.add m).add n = a.add (m + n) := by
  unfold Addr.add
  by_cases hm : m = 0
  · subst hm; simp
  · by_cases hn : n = 0
    · subst hn; simp [hm]
    · simp [hm, hn, Nat.add_assoc]
section
variable {H : Type} {enc : TypeId × Value → H} {W : World}
/-- What reads at type t holds an element of kind d, of which Q is known. -/
def Opens (enc : TypeId × Value → H) (W : World) (t : TypeId) {α : Type} (d : Kd α) (Q : α → Prop) : Prop :=
  ∀ fuel cs x, DataW.trod enc Tryz.prog W 0 (fun _ => true) true fuel t cs = some x → ∃ a, d.K W a cs ∧ Q a
theorem opens_int {t : TypeId} {k : IntKind} (ht : Tryz.prog.underlying t = some (.int k)) : Opens enc W t (Kd.int k) (fun n => (Lit.int k n).wf = true) := fun fuel cs x h => by
  obtain ⟨n, rfl, _, hw⟩ := DataW.trod_int ht h
  exact ⟨n, rfl, hw⟩
theorem opens_string {t : TypeId} (ht : Tryz.prog.underlying t = some .string) : Opens enc W t Kd.string (fun s => s.size ≤ maxLen) := fun fuel cs x h => by
  obtain ⟨n, rfl, _, hw⟩ := DataW.trod_string ht h
  exact ⟨n, rfl, hw⟩
theorem opens_slice {t e : TypeId} {α : Type} {d : Kd α} {Q : α → Prop} (ht : Tryz.prog.underlying t = some (.slice e)) (hc : Tryz.prog.cellsOf e = d.sz) (he : Opens enc W e d Q) :
    Opens enc W t (Kd.slice e d) (fun l => l.length ≤ maxLen ∧ ∀ a ∈ l, Q a) := fun fuel cs x h => by
  rcases DataW.trod_slice ht h with ⟨rfl, _⟩ | ⟨a, len, cap, elems, rest, n, _, rfl, _, _, hlc, hcm, hlen, hel, _⟩
  · exact ⟨[], ⟨none, 0, rfl, Nat.le_refl _, rfl, by simp, fun h => absurd h (by simp)⟩, by simp, by simp⟩
  · have each : ∀ i, i < len → ∃ c u, W.cells? 0 (a.add (i * d.sz)) d.sz = some c ∧ d.K W u c ∧ Q u := fun i hi => by
      have h1 := hel i hi
      rw [hc, List.getElem?_eq_getElem (by omega)] at h1
      obtain ⟨c, h2, h3⟩ := Option.bind_eq_some_iff.1 h1
      obtain ⟨u, hu, hq⟩ := he _ _ _ h3
      exact ⟨c, u, h2, hu, hq⟩
    obtain ⟨l, hl, hP⟩ := list_of (fun i u => ∃ c, W.cells? 0 (a.add (i * d.sz)) d.sz = some c ∧ d.K W u c ∧ Q u) len (fun i hi => by obtain ⟨c, u, h1, h2, h3⟩ := each i hi; exact ⟨u, c, h1, h2, h3⟩)
    refine ⟨l, ⟨some a, cap, by rw [hl], by omega, rfl, by unfold maxLen at hcm; omega, fun _ => ⟨a, rfl, fun j u hj => ?_⟩⟩, by omega, fun u hu => ?_⟩
    · obtain ⟨c, h1, h2, _⟩ := hP j u hj
      obtain ⟨_, hcl, hcell⟩ := World.cells?_some h1
      refine ⟨c, hcl, h2, fun i v hv => ?_⟩
      have hi : i < d.sz := by
        have := (List.getElem?_eq_some_iff.1 hv).1
        omega
      have := hcell i hi
      rw [hv] at this
      rw [← this, add_add]
    · obtain ⟨j, hj, rfl⟩ := List.mem_iff_getElem.1 hu
      obtain ⟨c, _, _, h3⟩ := hP j l[j] (List.getElem?_eq_getElem hj)
      exact h3
end
end Go.Proofs.YtaaejhodlindeaaGreatDoor.X
end
section
namespace Go.Proofs.YtaaejhodlindeaaGreatDoor.Q
open Go.RowKit Go.Proofs.YtaaejhodlindeaaGreatDoorW.PrintWords Go.Proofs.YtaaejhodlindeaaGreatDoorW.PrintLast Go.Proofs.YtaaejhodlindeaaGreatDoorW.PrintMore
attribute [local go_sem] max2_int min2_int max_two min_two max_three min_three max_four min_four   -- for this text's walks alone
set_option linter.unusedVariables false
set_option linter.unusedSimpArgs false
def errW : Option Int → Value
  | none => .nilIface
  | some c => .iface 0 (.int .i64 c)
theorem errW_none : errW none = .nilIface := rfl
theorem errW_some (c : Int) : errW (some c) = .iface 0 (.int .i64 c) := rfl
-- the values' own types
end Go.Proofs.YtaaejhodlindeaaGreatDoor.Q
end
section
namespace Go.Proofs.YtaaejhodlindeaaGreatDoor.Q
open Go.RowKit Go.Proofs.YtaaejhodlindeaaGreatDoorW.PrintWords Go.Proofs.YtaaejhodlindeaaGreatDoorW.PrintLast Go.Proofs.YtaaejhodlindeaaGreatDoorW.PrintMore
attribute [local go_sem] max2_int min2_int max_two min_two max_three min_three max_four min_four   -- for this text's walks alone
set_option linter.unusedVariables false
set_option linter.unusedSimpArgs false
/-! ### spec_SameInts: function 34 -/
def spec_SameInts.l0 : Nat → List Int → List Int → Int → Int → Option (Bool)
  | 0, _, _, _, _ => none
  | k + 1, x0, x1, x12, x13 => if x13 < x12 then (if 0 ≤ x13 then (if x13 < (x0.length : Int) then (if x13 < (x1.length : Int) then (if (rd x0 x13) = (rd x1 x13) then (spec_SameInts.l0 k x0 x1 x12 (wrap64 (x13 + 1))) else (some false)) else (none)) else (none)) else (none)) else (some true)
def spec_SameInts.f (k : Nat) (l0 : List Int) (l1 : List Int) : Option (Bool) := if (l0.length : Int) = (l1.length : Int) then (spec_SameInts.l0 k l0 l1 (l0.length : Int) 0) else (some false)
theorem spec_SameInts.mono_l : ∀ k, (∀ y0 y1 y2 y3, LeO (spec_SameInts.l0 k y0 y1 y2 y3) (spec_SameInts.l0 (k + 1) y0 y1 y2 y3))
  | 0 => fun _ _ _ _ r h => by simp [spec_SameInts.l0] at h
  | k + 1 => by
    have ih0 := spec_SameInts.mono_l k
    · intro y0 y1 y2 y3
      unfold spec_SameInts.l0
      repeat' first
      | (with_reducible exact ih0 _ _ _ _)
      | (with_reducible exact LeO.refl _)
      | (with_reducible exact LeO.none _)
      | (with_reducible refine LeO.ite ?_ ?_)
      | (with_reducible refine LeO.bind ?_ (fun _ => ?_))
      | exact ih0 _ _ _ _
      | exact LeO.none _
      | refine LeO.ite ?_ ?_
      | refine LeO.bind ?_ (fun _ => ?_)
theorem spec_SameInts.mono : ∀ a0 a1 k, LeO (spec_SameInts.f k a0 a1) (spec_SameInts.f (k + 1) a0 a1) := by
  intro a0 a1 k
  have ih0 := spec_SameInts.mono_l k
  unfold spec_SameInts.f
  repeat' first
      | (with_reducible exact ih0 _ _ _ _)
      | (with_reducible exact LeO.refl _)
      | (with_reducible exact LeO.none _)
      | (with_reducible refine LeO.ite ?_ ?_)
      | (with_reducible refine LeO.bind ?_ (fun _ => ?_))
      | exact ih0 _ _ _ _
      | exact LeO.none _
      | refine LeO.ite ?_ ?_
      | refine LeO.bind ?_ (fun _ => ?_)
set_option maxHeartbeats 8000000 in
set_option maxRecDepth 100000 in
theorem spec_SameInts.calls (k : Nat) (A0 : Option Addr) (c0 : Nat) (l0 : List Int) (A1 : Option Addr) (c1 : Nat) (l1 : List Int) (r : Bool) (w : World) (hr0 : Kd.C (Kd.int .i64) w A0 l0.length l0) (hc0 : l0.length ≤ c0) (hr1 : Kd.C (Kd.int .i64) w A1 l1.length l1) (hc1 : l1.length ≤ c1) (h : spec_SameInts.f k l0 l1 = some r) :
    Calls Tryz.prog 34 #[.slice A0 l0.length c0, .slice A1 l1.length c1] w fun e w' => e = .returned (.bool r) ∧ Drawn0 w w' := by
  have HR0 := Aside0.mk hr0
  have HC0 := Aside0.mk hc0
  clear hr0 hc0
  have HR1 := Aside0.mk hr1
  have HC1 := Aside0.mk hc1
  clear hr1 hc1
  have H : (if (l0.length : Int) = (l1.length : Int) then (spec_SameInts.l0 k l0 l1 (l0.length : Int) 0) else (some false)) = some r := h
  clear h
  by_cases c3 : (l0.length : Int) = (l1.length : Int)
  · rw [if_pos c3] at H
    have c3b0 : ((l0.length : Int) == (l1.length : Int)) = true := beq_iff_eq.mpr c3
    have c3b1 : ((l0.length : Int) != (l1.length : Int)) = false := bne_eq_false_iff_eq.mpr c3
    have c3b2 : (l0.length == l1.length) = true := by first | simpa using c3 | (simp at c3 ⊢; omega)
    clear c3
    have H' := Aside0.mk H
    clear H
    go_enter Tryz.func34, Tryz.ntmps34
    go_wp2
    repeat (go_quiet (fail); try go_wp2)
    go_loopg [13] k (fun kq v13 w' => ∃ (x13_1 : Int), v13 = .int .i64 x13_1 ∧ Aside0 (spec_SameInts.l0 kq l0 l1 (l0.length : Int) x13_1 = some r) ∧ Aside0 (kq ≤ k) ∧ Drawn0 w w')
    case atStart => exact ⟨(0), (by first | rfl | (simp; done) | (simp [*]; done)), H', ⟨Nat.le_refl _⟩, by repeat (first | exact Drawn0.refl _ | apply Drawn0.step)⟩
    case round =>
      clear H'
      try clear c1
      try clear p2
      try clear c3
      try clear c3b0
      try clear c3b1
      try clear c3b2
      obtain ⟨x13_1, rfl, HA, HK1, ⟨m1, rfl⟩⟩ := hrel
      cases gk with
      | zero => exact absurd HA.out (by simp [spec_SameInts.l0])
      | succ k1 =>
        have H := HA.out
        clear HA
        simp only [spec_SameInts.l0] at H
        by_cases c4 : x13_1 < (l0.length : Int)
        · rw [if_pos c4] at H
          have c4b0 : decide (x13_1 < (l0.length : Int)) = true := decide_eq_true c4
          clear c4
          by_cases c5 : 0 ≤ x13_1
          · rw [if_pos c5] at H
            have c5b0 : decide (0 ≤ x13_1) = true := decide_eq_true c5
            clear c5
            by_cases c6 : x13_1 < (l0.length : Int)
            · rw [if_pos c6] at H
              have c6b0 : decide (x13_1 < (l0.length : Int)) = true := decide_eq_true c6
              clear c6
              by_cases c7 : x13_1 < (l1.length : Int)
              · rw [if_pos c7] at H
                have c7b0 : decide (x13_1 < (l1.length : Int)) = true := decide_eq_true c7
                clear c7
                by_cases c8 : (rd l0 x13_1) = (rd l1 x13_1)
                · rw [if_pos c8] at H
                  have c8b0 : ((rd l0 x13_1) == (rd l1 x13_1)) = true := beq_iff_eq.mpr c8
                  have c8b1 : ((rd l0 x13_1) != (rd l1 x13_1)) = false := bne_eq_false_iff_eq.mpr c8
                  clear c8
                  have H' := Aside0.mk H
                  clear H
                  have p101 : 0 ≤ (x13_1 : Int) := of_decide_eq_true (by first | (with_reducible assumption) | assumption)
                  have q101 : x13_1 < (l0.length : Int) := of_decide_eq_true (by first | (with_reducible assumption) | assumption)
                  obtain ⟨ad101, e101, hx101_0⟩ := Kd.at_int HR0.out x13_1 p101 q101
                  cases e101
                  replace p101 := eq_true p101
                  replace q101 := eq_true q101
                  have p102 : 0 ≤ (x13_1 : Int) := of_decide_eq_true (by first | (with_reducible assumption) | assumption)
                  have q102 : x13_1 < (l1.length : Int) := of_decide_eq_true (by first | (with_reducible assumption) | assumption)
                  obtain ⟨ad102, e102, hx102_0⟩ := Kd.at_int HR1.out x13_1 p102 q102
                  cases e102
                  replace p102 := eq_true p102
                  replace q102 := eq_true q102
                  go_wp2
                  repeat (go_quiet (fail); try go_wp2)
                  go_roundg k1
                  case measure => have := HK1.out; omega
                  case rel => exact ⟨(wrap64 (x13_1 + 1)), (by first | rfl | (simp; done) | (simp [*]; done)), H', ⟨by have := HK1.out; omega⟩, by repeat (first | exact Drawn0.refl _ | apply Drawn0.step)⟩
                · rw [if_neg c8] at H
                  have c8b0 : ((rd l0 x13_1) == (rd l1 x13_1)) = false := beq_eq_false_iff_ne.mpr c8
                  have c8b1 : ((rd l0 x13_1) != (rd l1 x13_1)) = true := bne_iff_ne.mpr c8
                  obtain rfl := Option.some.inj H
                  have p101 : 0 ≤ (x13_1 : Int) := of_decide_eq_true (by first | (with_reducible assumption) | assumption)
                  have q101 : x13_1 < (l0.length : Int) := of_decide_eq_true (by first | (with_reducible assumption) | assumption)
                  obtain ⟨ad101, e101, hx101_0⟩ := Kd.at_int HR0.out x13_1 p101 q101
                  cases e101
                  replace p101 := eq_true p101
                  replace q101 := eq_true q101
                  have p102 : 0 ≤ (x13_1 : Int) := of_decide_eq_true (by first | (with_reducible assumption) | assumption)
                  have q102 : x13_1 < (l1.length : Int) := of_decide_eq_true (by first | (with_reducible assumption) | assumption)
                  obtain ⟨ad102, e102, hx102_0⟩ := Kd.at_int HR1.out x13_1 p102 q102
                  cases e102
                  replace p102 := eq_true p102
                  replace q102 := eq_true q102
                  go_wp2
                  repeat (go_quiet (fail); try go_wp2)
                  go_ret
                  exact ⟨by first | rfl | (simp; done) | (simp [*]; done), by repeat (first | exact Drawn0.refl _ | apply Drawn0.step)⟩
              · rw [if_neg c7] at H
                exact absurd H (by simp)
            · rw [if_neg c6] at H
              exact absurd H (by simp)
          · rw [if_neg c5] at H
            exact absurd H (by simp)
        · rw [if_neg c4] at H
          have c4b0 : decide (x13_1 < (l0.length : Int)) = false := decide_eq_false c4
          clear c4
          obtain rfl := Option.some.inj H
          go_wp2
          repeat (go_quiet (fail); try go_wp2)
          go_ret
          exact ⟨by first | rfl | (simp; done) | (simp [*]; done), by repeat (first | exact Drawn0.refl _ | apply Drawn0.step)⟩
  · rw [if_neg c3] at H
    have c3b0 : ((l0.length : Int) == (l1.length : Int)) = false := beq_eq_false_iff_ne.mpr c3
    have c3b1 : ((l0.length : Int) != (l1.length : Int)) = true := bne_iff_ne.mpr c3
    have c3b2 : (l0.length == l1.length) = false := by first | simpa using c3 | (simp at c3 ⊢; omega)
    obtain rfl := Option.some.inj H
    go_enter Tryz.func34, Tryz.ntmps34
    go_wp2
    repeat (go_quiet (fail); try go_wp2)
    go_ret
    exact ⟨by first | rfl | (simp; done) | (simp [*]; done), by repeat (first | exact Drawn0.refl _ | apply Drawn0.step)⟩
/-! ### spec_SameBytes: function 84 -/
def spec_SameBytes.l0 : Nat → List Int → List Int → Int → Int → Option (Bool)
  | 0, _, _, _, _ => none
  | k + 1, x0, x1, x12, x13 => if x13 < x12 then (if 0 ≤ x13 then (if x13 < (x0.length : Int) then (if x13 < (x1.length : Int) then (if (rd x0 x13) = (rd x1 x13) then (spec_SameBytes.l0 k x0 x1 x12 (wrap64 (x13 + 1))) else (some false)) else (none)) else (none)) else (none)) else (some true)
def spec_SameBytes.f (k : Nat) (l0 : List Int) (l1 : List Int) : Option (Bool) := if (l0.length : Int) = (l1.length : Int) then (spec_SameBytes.l0 k l0 l1 (l0.length : Int) 0) else (some false)
theorem spec_SameBytes.mono_l : ∀ k, (∀ y0 y1 y2 y3, LeO (spec_SameBytes.l0 k y0 y1 y2 y3) (spec_SameBytes.l0 (k + 1) y0 y1 y2 y3))
  | 0 => fun _ _ _ _ r h => by simp [spec_SameBytes.l0] at h
  | k + 1 => by
    have ih0 := spec_SameBytes.mono_l k
    · intro y0 y1 y2 y3
      unfold spec_SameBytes.l0
      repeat' first
      | (with_reducible exact ih0 _ _ _ _)
      | (with_reducible exact LeO.refl _)
      | (with_reducible exact LeO.none _)
      | (with_reducible refine LeO.ite ?_ ?_)
      | (with_reducible refine LeO.bind ?_ (fun _ => ?_))
      | exact ih0 _ _ _ _
      | exact LeO.none _
      | refine LeO.ite ?_ ?_
      | refine LeO.bind ?_ (fun _ => ?_)
theorem spec_SameBytes.mono : ∀ a0 a1 k, LeO (spec_SameBytes.f k a0 a1) (spec_SameBytes.f (k + 1) a0 a1) := by
  intro a0 a1 k
  have ih0 := spec_SameBytes.mono_l k
  unfold spec_SameBytes.f
  repeat' first
      | (with_reducible exact ih0 _ _ _ _)
      | (with_reducible exact LeO.refl _)
      | (with_reducible exact LeO.none _)
      | (with_reducible refine LeO.ite ?_ ?_)
      | (with_reducible refine LeO.bind ?_ (fun _ => ?_))
      | exact ih0 _ _ _ _
      | exact LeO.none _
      | refine LeO.ite ?_ ?_
      | refine LeO.bind ?_ (fun _ => ?_)
set_option maxHeartbeats 8000000 in
set_option maxRecDepth 100000 in
theorem spec_SameBytes.calls (k : Nat) (A0 : Option Addr) (c0 : Nat) (l0 : List Int) (A1 : Option Addr) (c1 : Nat) (l1 : List Int) (r : Bool) (w : World) (hr0 : Kd.C (Kd.int .u8) w A0 l0.length l0) (hc0 : l0.length ≤ c0) (hr1 : Kd.C (Kd.int .u8) w A1 l1.length l1) (hc1 : l1.length ≤ c1) (h : spec_SameBytes.f k l0 l1 = some r) :
    Calls Tryz.prog 84 #[.slice A0 l0.length c0, .slice A1 l1.length c1] w fun e w' => e = .returned (.bool r) ∧ Drawn0 w w' := by
  have HR0 := Aside0.mk hr0
  have HC0 := Aside0.mk hc0
  clear hr0 hc0
  have HR1 := Aside0.mk hr1
  have HC1 := Aside0.mk hc1
  clear hr1 hc1
  have H : (if (l0.length : Int) = (l1.length : Int) then (spec_SameBytes.l0 k l0 l1 (l0.length : Int) 0) else (some false)) = some r := h
  clear h
  by_cases c3 : (l0.length : Int) = (l1.length : Int)
  · rw [if_pos c3] at H
    have c3b0 : ((l0.length : Int) == (l1.length : Int)) = true := beq_iff_eq.mpr c3
    have c3b1 : ((l0.length : Int) != (l1.length : Int)) = false := bne_eq_false_iff_eq.mpr c3
    have c3b2 : (l0.length == l1.length) = true := by first | simpa using c3 | (simp at c3 ⊢; omega)
    clear c3
    have H' := Aside0.mk H
    clear H
    go_enter Tryz.func84, Tryz.ntmps84
    go_wp2
    repeat (go_quiet (fail); try go_wp2)
    go_loopg [13] k (fun kq v13 w' => ∃ (x13_1 : Int), v13 = .int .i64 x13_1 ∧ Aside0 (spec_SameBytes.l0 kq l0 l1 (l0.length : Int) x13_1 = some r) ∧ Aside0 (kq ≤ k) ∧ Drawn0 w w')
    case atStart => exact ⟨(0), (by first | rfl | (simp; done) | (simp [*]; done)), H', ⟨Nat.le_refl _⟩, by repeat (first | exact Drawn0.refl _ | apply Drawn0.step)⟩
    case round =>
      clear H'
      try clear c1
      try clear p2
      try clear c3
      try clear c3b0
      try clear c3b1
      try clear c3b2
      obtain ⟨x13_1, rfl, HA, HK1, ⟨m1, rfl⟩⟩ := hrel
      cases gk with
      | zero => exact absurd HA.out (by simp [spec_SameBytes.l0])
      | succ k1 =>
        have H := HA.out
        clear HA
        simp only [spec_SameBytes.l0] at H
        by_cases c4 : x13_1 < (l0.length : Int)
        · rw [if_pos c4] at H
          have c4b0 : decide (x13_1 < (l0.length : Int)) = true := decide_eq_true c4
          clear c4
          by_cases c5 : 0 ≤ x13_1
          · rw [if_pos c5] at H
            have c5b0 : decide (0 ≤ x13_1) = true := decide_eq_true c5
            clear c5
            by_cases c6 : x13_1 < (l0.length : Int)
            · rw [if_pos c6] at H
              have c6b0 : decide (x13_1 < (l0.length : Int)) = true := decide_eq_true c6
              clear c6
              by_cases c7 : x13_1 < (l1.length : Int)
              · rw [if_pos c7] at H
                have c7b0 : decide (x13_1 < (l1.length : Int)) = true := decide_eq_true c7
                clear c7
                by_cases c8 : (rd l0 x13_1) = (rd l1 x13_1)
                · rw [if_pos c8] at H
                  have c8b0 : ((rd l0 x13_1) == (rd l1 x13_1)) = true := beq_iff_eq.mpr c8
                  have c8b1 : ((rd l0 x13_1) != (rd l1 x13_1)) = false := bne_eq_false_iff_eq.mpr c8
                  clear c8
                  have H' := Aside0.mk H
                  clear H
                  have p103 : 0 ≤ (x13_1 : Int) := of_decide_eq_true (by first | (with_reducible assumption) | assumption)
                  have q103 : x13_1 < (l0.length : Int) := of_decide_eq_true (by first | (with_reducible assumption) | assumption)
                  obtain ⟨ad103, e103, hx103_0⟩ := Kd.at_int HR0.out x13_1 p103 q103
                  cases e103
                  replace p103 := eq_true p103
                  replace q103 := eq_true q103
                  have p104 : 0 ≤ (x13_1 : Int) := of_decide_eq_true (by first | (with_reducible assumption) | assumption)
                  have q104 : x13_1 < (l1.length : Int) := of_decide_eq_true (by first | (with_reducible assumption) | assumption)
                  obtain ⟨ad104, e104, hx104_0⟩ := Kd.at_int HR1.out x13_1 p104 q104
                  cases e104
                  replace p104 := eq_true p104
                  replace q104 := eq_true q104
                  go_wp2
                  repeat (go_quiet (fail); try go_wp2)
                  go_roundg k1
                  case measure => have := HK1.out; omega
                  case rel => exact ⟨(wrap64 (x13_1 + 1)), (by first | rfl | (simp; done) | (simp [*]; done)), H', ⟨by have := HK1.out; omega⟩, by repeat (first | exact Drawn0.refl _ | apply Drawn0.step)⟩
                · rw [if_neg c8] at H
                  have c8b0 : ((rd l0 x13_1) == (rd l1 x13_1)) = false := beq_eq_false_iff_ne.mpr c8
                  have c8b1 : ((rd l0 x13_1) != (rd l1 x13_1)) = true := bne_iff_ne.mpr c8
                  obtain rfl := Option.some.inj H
                  have p103 : 0 ≤ (x13_1 : Int) := of_decide_eq_true (by first | (with_reducible assumption) | assumption)
                  have q103 : x13_1 < (l0.length : Int) := of_decide_eq_true (by first | (with_reducible assumption) | assumption)
                  obtain ⟨ad103, e103, hx103_0⟩ := Kd.at_int HR0.out x13_1 p103 q103
                  cases e103
                  replace p103 := eq_true p103
                  replace q103 := eq_true q103
                  have p104 : 0 ≤ (x13_1 : Int) := of_decide_eq_true (by first | (with_reducible assumption) | assumption)
                  have q104 : x13_1 < (l1.length : Int) := of_decide_eq_true (by first | (with_reducible assumption) | assumption)
                  obtain ⟨ad104, e104, hx104_0⟩ := Kd.at_int HR1.out x13_1 p104 q104
                  cases e104
                  replace p104 := eq_true p104
                  replace q104 := eq_true q104
                  go_wp2
                  repeat (go_quiet (fail); try go_wp2)
                  go_ret
                  exact ⟨by first | rfl | (simp; done) | (simp [*]; done), by repeat (first | exact Drawn0.refl _ | apply Drawn0.step)⟩
              · rw [if_neg c7] at H
                exact absurd H (by simp)
            · rw [if_neg c6] at H
              exact absurd H (by simp)
          · rw [if_neg c5] at H
            exact absurd H (by simp)
        · rw [if_neg c4] at H
          have c4b0 : decide (x13_1 < (l0.length : Int)) = false := decide_eq_false c4
          clear c4
          obtain rfl := Option.some.inj H
          go_wp2
          repeat (go_quiet (fail); try go_wp2)
          go_ret
          exact ⟨by first | rfl | (simp; done) | (simp [*]; done), by repeat (first | exact Drawn0.refl _ | apply Drawn0.step)⟩
  · rw [if_neg c3] at H
    have c3b0 : ((l0.length : Int) == (l1.length : Int)) = false := beq_eq_false_iff_ne.mpr c3
    have c3b1 : ((l0.length : Int) != (l1.length : Int)) = true := bne_iff_ne.mpr c3
    have c3b2 : (l0.length == l1.length) = false := by first | simpa using c3 | (simp at c3 ⊢; omega)
    obtain rfl := Option.some.inj H
    go_enter Tryz.func84, Tryz.ntmps84
    go_wp2
    repeat (go_quiet (fail); try go_wp2)
    go_ret
    exact ⟨by first | rfl | (simp; done) | (simp [*]; done), by repeat (first | exact Drawn0.refl _ | apply Drawn0.step)⟩
end Go.Proofs.YtaaejhodlindeaaGreatDoor.Q
end
section
namespace Go.Proofs.YtaaejhodlindeaaGreatDoor.Q
open Go.RowKit Go.Proofs.YtaaejhodlindeaaGreatDoorW.PrintWords Go.Proofs.YtaaejhodlindeaaGreatDoorW.PrintLast Go.Proofs.YtaaejhodlindeaaGreatDoorW.PrintMore
attribute [local go_sem] max2_int min2_int max_two min_two max_three min_three max_four min_four   -- for this text's walks alone
set_option linter.unusedVariables false
set_option linter.unusedSimpArgs false
end Go.Proofs.YtaaejhodlindeaaGreatDoor.Q
end
