/- Texts of this claim, joined: XPlan Y15D Y16D Y17D Y19D Y22D Y58D Y58 XAttr Y60D. Of each, what the claim uses. -/
import Derived.Test.YtjkpelaeelihhaaGreatDoorRRKat
import Derived.Test.YtjkpelaeelihhaaGreatDoorRRKad
import Derived.Test.YtjkpelaeelihhaaGreatDoorRRKaq
import Derived.Lib.ItoaNum
section
namespace Go.Proofs.YtjkpelaeelihhaaGreatDoorRR.Y
open Go.RowKit Go.Proofs.YtjkpelaeelihhaaGreatDoorRRW.PrintWords Go.Proofs.YtjkpelaeelihhaaGreatDoorRRW.PrintLast Go.Proofs.YtjkpelaeelihhaaGreatDoorRRW.PrintMore
set_option linter.unusedSimpArgs false
set_option linter.unusedVariables false
abbrev Op := S45
theorem rdO_at (l : List Op) (i : Nat) (h : i < l.length) : rd_T45 l (i : Int) = l[i] := by
  simp [rd_T45, h]
theorem rdI_at (l : List Int) (i : Nat) (h : i < l.length) : rd l (i : Int) = l[i] := by simp [rd, h]
theorem wrap_up (i : Nat) (h : i < 1000000000000) : wrap64 ((i : Int) + 1) = ((i + 1 : Nat) : Int) := by rw [wrap64_of _ (by omega) (by omega)]; omega
theorem btN (s : ByteArray) (i : Nat) (h : i < s.data.toList.length) : bt s (i : Int) = ((s.data.toList[i]).toNat : Int) := by
  rw [← rd_bytesOf]
  have : i < (bytesOf s).length := by rw [bytesOf_length, ← data_length]; exact h
  rw [rd, Int.toNat_natCast, List.getD_eq_getElem?_getD, List.getElem?_eq_getElem this]
  simp [bytesOf]
/-- An attribute that a screen has. -/
def AttrOk (n : Int) : Prop := 0 ≤ n ∧ n ≤ 29 ∧ (n ≤ 9 ∨ 22 ≤ n) ∧ n ≠ 26
def Attrs (l : List Int) : Prop := (∀ n ∈ l, AttrOk n) ∧ 1 ≤ l.length ∧ l.length ≤ 6
/-- A printable byte. -/
def PByte (b : UInt8) : Prop := 32 ≤ b.toNat ∧ b.toNat ≤ 126
def PText (s : ByteArray) : Prop := (∀ b ∈ s.data.toList, PByte b) ∧ 1 ≤ s.size ∧ s.size ≤ 20
theorem attrs_l0 (l : List Int) (hl : l.length ≤ 2147483647) : ∀ (m i k : Nat), i + m = l.length → m < k → (∀ n ∈ l.take i, AttrOk n) →
    ∃ b, spec_drawAttributes.l0 k l l (l.length : Int) (i : Int) = some b ∧ (b = true → Attrs l)
  | 0, i, k + 1, h, hk, hp => by
    rw [List.take_of_length_le (by omega)] at hp
    rw [spec_drawAttributes.l0, if_neg (by omega)]
    by_cases h1 : (l.length : Int) ≥ 1
    · rw [if_pos h1]
      refine ⟨_, rfl, fun hb => ⟨hp, by omega, ?_⟩⟩
      have := of_decide_eq_true hb
      omega
    · rw [if_neg h1]
      exact ⟨_, rfl, fun hb => by cases hb⟩
  | m + 1, i, k + 1, h, hk, hp => by
    have hi : i < l.length := by omega
    rw [spec_drawAttributes.l0, if_pos (by omega), if_pos (by omega), if_pos (by omega), rdI_at l i hi, wrap_up i (by omega)]
    have go : AttrOk l[i] → ∃ b, spec_drawAttributes.l0 k l l (l.length : Int) ((i + 1 : Nat) : Int) = some b ∧ (b = true → Attrs l) := fun ho => by
      refine attrs_l0 l hl m (i + 1) k (by omega) (by omega) (fun n hn => ?_)
      rw [List.take_succ_eq_append_getElem hi] at hn
      rcases List.mem_append.1 hn with hn | hn
      · exact hp n hn
      · rw [List.mem_singleton.1 hn]; exact ho
    unfold AttrOk at go
    generalize l[i] = x at go ⊢
    by_cases c1 : x < 0
    · rw [if_pos c1]; exact ⟨_, rfl, fun hb => by cases hb⟩
    rw [if_neg c1]
    by_cases c2 : x > 29
    · rw [if_pos c2]; exact ⟨_, rfl, fun hb => by cases hb⟩
    rw [if_neg c2]
    by_cases c3 : x > 9
    · rw [if_pos c3]
      by_cases c4 : x < 22
      · rw [if_pos c4]; exact ⟨_, rfl, fun hb => by cases hb⟩
      rw [if_neg c4]
      by_cases c5 : x = 26
      · rw [if_pos c5]; exact ⟨_, rfl, fun hb => by cases hb⟩
      rw [if_neg c5]
      exact go ⟨by omega, by omega, by omega, c5⟩
    · rw [if_neg c3, if_neg (by omega)]
      exact go ⟨by omega, by omega, by omega, by omega⟩
theorem attrs_f (l : List Int) (hl : l.length ≤ 2147483647) (k : Nat) (hk : l.length < k) : ∃ b, spec_drawAttributes.f k l = some b ∧ (b = true → Attrs l) :=
  attrs_l0 l hl l.length 0 k (by omega) hk (by simp)
theorem plain_l0 (s : ByteArray) (hl : s.size ≤ 2147483647) : ∀ (m i k : Nat), i + m = s.size → m < k → (∀ b ∈ s.data.toList.take i, PByte b) →
    ∃ b, spec_DrawPlain.l0 k s 20 (s.size : Int) (i : Int) = some b ∧ (b = true → PText s)
  | 0, i, k + 1, h, hk, hp => by
    have hlen := data_length s
    rw [List.take_of_length_le (by omega)] at hp
    rw [spec_DrawPlain.l0, if_neg (by omega)]
    by_cases h1 : (s.size : Int) ≥ 1
    · rw [if_pos h1]
      refine ⟨_, rfl, fun hb => ⟨hp, by omega, ?_⟩⟩
      have := of_decide_eq_true hb
      omega
    · rw [if_neg h1]
      exact ⟨_, rfl, fun hb => by cases hb⟩
  | m + 1, i, k + 1, h, hk, hp => by
    have hlen := data_length s
    have hi : i < s.data.toList.length := by omega
    rw [spec_DrawPlain.l0, if_pos (by omega), if_pos (by omega), if_pos (by omega), btN s i hi, wrap_up i (by omega)]
    by_cases c1 : ((s.data.toList[i]).toNat : Int) < 32
    · rw [if_pos c1]; exact ⟨_, rfl, fun hb => by cases hb⟩
    rw [if_neg c1]
    by_cases c2 : ((s.data.toList[i]).toNat : Int) > 126
    · rw [if_pos c2]; exact ⟨_, rfl, fun hb => by cases hb⟩
    rw [if_neg c2]
    refine plain_l0 s hl m (i + 1) k (by omega) (by omega) (fun b hb => ?_)
    rw [List.take_succ_eq_append_getElem hi] at hb
    rcases List.mem_append.1 hb with hb | hb
    · exact hp b hb
    · rw [List.mem_singleton.1 hb]
      exact ⟨by omega, by omega⟩
theorem plain_f (s : ByteArray) (hl : s.size ≤ 2147483647) (k : Nat) (hk : s.size < k) : ∃ b, spec_DrawPlain.f k s 20 = some b ∧ (b = true → PText s) :=
  plain_l0 s hl s.size 0 k (by omega) hk (by simp)
def NumK (k : Int) : Prop := 0 ≤ k ∧ k ≤ 22 ∧ k ≠ 7 ∧ k ≠ 8
theorem isNum_f (k : Int) : ∃ b, spec_IsDrawNumber.f k = some b ∧ (b = true ↔ NumK k) := by
  unfold spec_IsDrawNumber.f NumK
  by_cases c1 : k ≥ 0
  · rw [if_pos c1]
    by_cases c2 : k ≤ 22
    · rw [if_pos c2]
      by_cases c3 : k = 7
      · rw [if_pos c3]
        exact ⟨_, rfl, by simp; omega⟩
      · rw [if_neg c3]
        exact ⟨_, rfl, by simp; omega⟩
    · rw [if_neg c2]
      exact ⟨_, rfl, by simp; omega⟩
  · rw [if_neg c1]
    exact ⟨_, rfl, by simp; omega⟩
/-- An operation that is right. -/
def Right (o : Op) : Prop :=
  (NumK o.f0 ∧ (o.f3.toList = [] ∧ o.f4 = []) ∧ o.f2 = 0 ∧ (if o.f0 = 10 ∨ o.f0 = 11 then 0 ≤ o.f1 ∧ o.f1 ≤ 2 else 1 ≤ o.f1 ∧ o.f1 ≤ 99)) ∨
  ((o.f0 = 40 ∨ o.f0 = 41) ∧ (o.f3.toList = [] ∧ o.f4 = []) ∧ 1 ≤ o.f1 ∧ o.f1 ≤ 99 ∧ 1 ≤ o.f2 ∧ o.f2 ≤ 99) ∨
  (o.f0 = 42 ∧ (o.f3.toList = [] ∧ o.f4 = []) ∧ 1 ≤ o.f1 ∧ o.f1 < o.f2 ∧ o.f2 ≤ 99) ∨
  ((o.f0 = 50 ∨ o.f0 = 51) ∧ (o.f3.toList = [] ∧ o.f4 = []) ∧ o.f1 = 0 ∧ o.f2 = 0) ∨
  (o.f0 = 52 ∧ o.f3.toList = [] ∧ o.f1 = 0 ∧ o.f2 = 0 ∧ Attrs o.f4) ∨
  (o.f0 = 60 ∧ o.f1 = 0 ∧ o.f2 = 0 ∧ o.f4 = [] ∧ PText o.f3) ∨
  (o.f0 = 61 ∧ (o.f3.toList = [] ∧ o.f4 = []) ∧ o.f2 = 0 ∧ (o.f1 = 13 ∨ o.f1 = 10 ∨ o.f1 = 8 ∨ o.f1 = 9))
def Told (x : Option Bool) (p : Prop) : Prop := ∃ b, x = some b ∧ (b = true → p)
theorem told_false {p : Prop} : Told (some false) p := ⟨false, rfl, fun h => by cases h⟩
theorem told_of {b : Bool} {p : Prop} (h : b = true → p) : Told (some b) p := ⟨b, rfl, h⟩
theorem op_j4 (x3 x97 : Bool) (o : Op) (hx : x3 = true → o.f3.toList = [] ∧ o.f4 = []) (h97 : x97 = true → o.f0 = 50 ∨ o.f0 = 51) (hs : o.f3.size ≤ 2147483647) (hl : o.f4.length ≤ 2147483647) (k : Nat) (hk : 3000000000 ≤ k) : Told (spec_IsDrawOp.j4 k x3 x97 o.f0 o.f1 o.f2 o.f3 o.f4) (Right o) := by
  obtain ⟨k, rfl⟩ : ∃ k', k = k' + 1 := ⟨k - 1, by omega⟩
  rw [spec_IsDrawOp.j4]
  by_cases c0 : x97 = true
  · rw [if_pos c0]
    by_cases c1 : x3 = true
    · rw [if_pos c1]
      by_cases c2 : o.f1 = 0
      · rw [if_pos c2]
        exact told_of (fun hb => Or.inr (Or.inr (Or.inr (Or.inl ⟨h97 c0, hx c1, c2, by simpa using hb⟩))))
      · rw [if_neg c2]; exact told_false
    · rw [if_neg c1]; exact told_false
  rw [if_neg c0]
  by_cases c52 : o.f0 = 52
  · rw [if_pos c52]
    by_cases c1 : o.f3.toList = []
    · rw [if_pos c1]
      by_cases c2 : o.f1 = 0
      · rw [if_pos c2]
        by_cases c3 : o.f2 = 0
        · rw [if_pos c3]
          obtain ⟨b, hb, hp⟩ := attrs_f o.f4 hl k (by omega)
          rw [hb, Option.bind_some]
          exact told_of (fun h => Or.inr (Or.inr (Or.inr (Or.inr (Or.inl ⟨c52, c1, c2, c3, hp h⟩)))))
        · rw [if_neg c3]; exact told_false
      · rw [if_neg c2]; exact told_false
    · rw [if_neg c1]; exact told_false
  rw [if_neg c52]
  by_cases c60 : o.f0 = 60
  · rw [if_pos c60]
    by_cases c2 : o.f1 = 0
    · rw [if_pos c2]
      by_cases c3 : o.f2 = 0
      · rw [if_pos c3]
        by_cases c4 : (o.f4.length : Int) = 0
        · rw [if_pos c4]
          obtain ⟨b, hb, hp⟩ := plain_f o.f3 hs k (by omega)
          rw [hb, Option.bind_some]
          exact told_of (fun h => Or.inr (Or.inr (Or.inr (Or.inr (Or.inr (Or.inl ⟨c60, c2, c3, List.length_eq_zero_iff.1 (by omega), hp h⟩))))))
        · rw [if_neg c4]; exact told_false
      · rw [if_neg c3]; exact told_false
    · rw [if_neg c2]; exact told_false
  rw [if_neg c60]
  by_cases c61 : o.f0 = 61
  · rw [if_pos c61]
    by_cases c1 : x3 = true
    · rw [if_pos c1]
      by_cases c3 : o.f2 = 0
      · rw [if_pos c3]
        have fin : (o.f1 = 13 ∨ o.f1 = 10 ∨ o.f1 = 8 ∨ o.f1 = 9) → Right o := fun h => Or.inr (Or.inr (Or.inr (Or.inr (Or.inr (Or.inr ⟨c61, hx c1, c3, h⟩)))))
        by_cases d1 : o.f1 = 13
        · rw [if_pos d1]; exact told_of (fun _ => fin (Or.inl d1))
        rw [if_neg d1]
        by_cases d2 : o.f1 = 10
        · rw [if_pos d2]; exact told_of (fun _ => fin (Or.inr (Or.inl d2)))
        rw [if_neg d2]
        by_cases d3 : o.f1 = 8
        · rw [if_pos d3]; exact told_of (fun _ => fin (Or.inr (Or.inr (Or.inl d3))))
        rw [if_neg d3]
        exact told_of (fun h => fin (Or.inr (Or.inr (Or.inr (by simpa using h)))))
      · rw [if_neg c3]; exact told_false
    · rw [if_neg c1]; exact told_false
  · rw [if_neg c61]; exact told_false
theorem op_j3 (x3 x45 : Bool) (o : Op) (hx : x3 = true → o.f3.toList = [] ∧ o.f4 = []) (h45 : x45 = true → o.f0 = 40 ∨ o.f0 = 41) (hs : o.f3.size ≤ 2147483647) (hl : o.f4.length ≤ 2147483647) (k : Nat) (hk : 3000000001 ≤ k) : Told (spec_IsDrawOp.j3 k x3 x45 o.f0 o.f1 o.f2 o.f3 o.f4) (Right o) := by
  obtain ⟨k, rfl⟩ : ∃ k', k = k' + 1 := ⟨k - 1, by omega⟩
  rw [spec_IsDrawOp.j3]
  by_cases c0 : x45 = true
  · rw [if_pos c0]
    by_cases c1 : x3 = true
    · rw [if_pos c1]
      by_cases c2 : o.f1 ≥ 1
      · rw [if_pos c2]
        by_cases c3 : o.f1 ≤ 99
        · rw [if_pos c3]
          by_cases c4 : o.f2 ≥ 1
          · rw [if_pos c4]
            exact told_of (fun hb => Or.inr (Or.inl ⟨h45 c0, hx c1, c2, c3, c4, of_decide_eq_true hb⟩))
          · rw [if_neg c4]; exact told_false
        · rw [if_neg c3]; exact told_false
      · rw [if_neg c2]; exact told_false
    · rw [if_neg c1]; exact told_false
  rw [if_neg c0]
  by_cases c42 : o.f0 = 42
  · rw [if_pos c42]
    by_cases c1 : x3 = true
    · rw [if_pos c1]
      by_cases c2 : o.f1 ≥ 1
      · rw [if_pos c2]
        by_cases c3 : o.f2 > o.f1
        · rw [if_pos c3]
          exact told_of (fun hb => Or.inr (Or.inr (Or.inl ⟨c42, hx c1, c2, c3, of_decide_eq_true hb⟩)))
        · rw [if_neg c3]; exact told_false
      · rw [if_neg c2]; exact told_false
    · rw [if_neg c1]; exact told_false
  rw [if_neg c42]
  by_cases c50 : o.f0 = 50
  · rw [if_pos c50]; exact op_j4 x3 true o hx (fun _ => Or.inl c50) hs hl k (by omega)
  · rw [if_neg c50]; exact op_j4 x3 _ o hx (fun h => Or.inr (by simpa using h)) hs hl k (by omega)
theorem op_j2 (x3 : Bool) (x4 x5 : Int) (o : Op) (hx : x3 = true → o.f3.toList = [] ∧ o.f4 = []) (hr : (x4 = 0 ∧ x5 = 2 ∧ (o.f0 = 10 ∨ o.f0 = 11)) ∨ (x4 = 1 ∧ x5 = 99 ∧ ¬ (o.f0 = 10 ∨ o.f0 = 11))) (hs : o.f3.size ≤ 2147483647) (hl : o.f4.length ≤ 2147483647) (k : Nat) (hk : 3000000002 ≤ k) : Told (spec_IsDrawOp.j2 k x3 x4 x5 o.f0 o.f1 o.f2 o.f3 o.f4) (Right o) := by
  obtain ⟨k, rfl⟩ : ∃ k', k = k' + 1 := ⟨k - 1, by omega⟩
  rw [spec_IsDrawOp.j2]
  obtain ⟨b, hb, hn⟩ := isNum_f o.f0
  rw [hb, Option.bind_some]
  by_cases c0 : b = true
  · rw [if_pos c0]
    by_cases c1 : x3 = true
    · rw [if_pos c1]
      by_cases c2 : o.f2 = 0
      · rw [if_pos c2]
        by_cases c3 : o.f1 ≥ x4
        · rw [if_pos c3]
          refine told_of (fun hd => Or.inl ⟨hn.1 c0, hx c1, c2, ?_⟩)
          have hd := of_decide_eq_true hd
          rcases hr with ⟨r1, r2, r3⟩ | ⟨r1, r2, r3⟩
          · rw [if_pos r3]; omega
          · rw [if_neg r3]; omega
        · rw [if_neg c3]; exact told_false
      · rw [if_neg c2]; exact told_false
    · rw [if_neg c1]; exact told_false
  rw [if_neg c0]
  by_cases c40 : o.f0 = 40
  · rw [if_pos c40]; exact op_j3 x3 true o hx (fun _ => Or.inl c40) hs hl k (by omega)
  · rw [if_neg c40]; exact op_j3 x3 _ o hx (fun h => Or.inr (by simpa using h)) hs hl k (by omega)
theorem op_j0 (x3 : Bool) (o : Op) (hx : x3 = true → o.f3.toList = [] ∧ o.f4 = []) (hs : o.f3.size ≤ 2147483647) (hl : o.f4.length ≤ 2147483647) (k : Nat) (hk : 3000000004 ≤ k) : Told (spec_IsDrawOp.j0 k x3 o.f0 o.f1 o.f2 o.f3 o.f4) (Right o) := by
  obtain ⟨k, rfl⟩ : ∃ k', k = k' + 2 := ⟨k - 2, by omega⟩
  rw [spec_IsDrawOp.j0]
  by_cases c10 : o.f0 = 10
  · rw [if_pos c10, spec_IsDrawOp.j1, if_pos rfl]
    exact op_j2 x3 0 2 o hx (Or.inl ⟨rfl, rfl, Or.inl c10⟩) hs hl k (by omega)
  · rw [if_neg c10, spec_IsDrawOp.j1]
    by_cases c11 : o.f0 = 11
    · rw [if_pos (by simpa using c11)]
      exact op_j2 x3 0 2 o hx (Or.inl ⟨rfl, rfl, Or.inr c11⟩) hs hl k (by omega)
    · rw [if_neg (by simpa using c11)]
      exact op_j2 x3 1 99 o hx (Or.inr ⟨rfl, rfl, by omega⟩) hs hl k (by omega)
theorem op_f (o : Op) (hs : o.f3.size ≤ 2147483647) (hl : o.f4.length ≤ 2147483647) (k : Nat) (hk : 3000000004 ≤ k) : Told (spec_IsDrawOp.f k o.f0 o.f1 o.f2 o.f3 o.f4) (Right o) := by
  unfold spec_IsDrawOp.f
  by_cases c : o.f3.toList = []
  · rw [if_pos c]
    exact op_j0 _ o (fun h => ⟨c, List.length_eq_zero_iff.1 (by simpa using h)⟩) hs hl k hk
  · rw [if_neg c]
    exact op_j0 _ o (fun h => by cases h) hs hl k hk
/-- A plan that is right: right operations, no two texts side by side. -/
def RightPlan (l : List Op) : Prop := (∀ o ∈ l, Right o) ∧ (∀ i, 0 < i → (h : i < l.length) → ¬ (l[i].f0 = 60 ∧ (l[i - 1]'(by omega)).f0 = 60)) ∧ l.length ≤ 20
def Fits (l : List Op) : Prop := l.length ≤ 2147483647 ∧ ∀ o ∈ l, o.f3.size ≤ 2147483647 ∧ o.f4.length ≤ 2147483647
theorem plan_l0 (l : List Op) (hf : Fits l) : ∀ (m i k : Nat), i + m = l.length → 3000000010 + m ≤ k → (∀ o ∈ l.take i, Right o) → (∀ j, 0 < j → j < i → (h : j < l.length) → ¬ (l[j].f0 = 60 ∧ (l[j - 1]'(by omega)).f0 = 60)) →
    Told (spec_IsDrawPlan.l0 k l l (l.length : Int) (i : Int)) (RightPlan l)
  | 0, i, k + 1, h, hk, hr, ht => by
    rw [List.take_of_length_le (by omega)] at hr
    rw [spec_IsDrawPlan.l0, if_neg (by omega)]
    exact told_of (fun hd => ⟨hr, fun j h0 hj => ht j h0 (by omega) hj, by have := of_decide_eq_true hd; omega⟩)
  | m + 1, i, k + 1, h, hk, hr, ht => by
    have hi : i < l.length := by omega
    have hfl := hf.1
    obtain ⟨f1, f2⟩ := hf.2 _ (List.getElem_mem hi)
    rw [spec_IsDrawPlan.l0, if_pos (by omega), if_pos (by omega), if_pos (by omega), rdO_at l i hi, wrap_up i (by omega)]
    obtain ⟨b, hb, hR⟩ := op_f l[i] f1 f2 k (by omega)
    rw [hb, Option.bind_some]
    by_cases c0 : b = true
    · rw [if_pos c0]
      have go : ¬ (0 < i ∧ l[i].f0 = 60 ∧ (l[i - 1]'(by omega)).f0 = 60) → Told (spec_IsDrawPlan.l0 k l l (l.length : Int) ((i + 1 : Nat) : Int)) (RightPlan l) := fun hno => by
        refine plan_l0 l hf m (i + 1) k (by omega) (by omega) (fun o ho => ?_) (fun j h0 hj hlt hc => ?_)
        · rw [List.take_succ_eq_append_getElem hi] at ho
          rcases List.mem_append.1 ho with ho | ho
          · exact hr o ho
          · rw [List.mem_singleton.1 ho]; exact hR c0
        · by_cases he : j = i
          · subst he; exact hno ⟨h0, hc.1, hc.2⟩
          · exact ht j h0 (by omega) hlt hc
      by_cases c1 : (i : Int) > 0
      · rw [if_pos c1]
        by_cases c2 : l[i].f0 = 60
        · have hw : wrap64 ((i : Int) - 1) = ((i - 1 : Nat) : Int) := by rw [wrap64_of _ (by omega) (by omega)]; omega
          rw [if_pos c2, hw, if_pos (by omega), if_pos (by omega), rdO_at l (i - 1) (by omega)]
          by_cases c3 : (l[i - 1]'(by omega)).f0 = 60
          · rw [if_pos c3]; exact told_false
          · rw [if_neg c3]; exact go (fun h => c3 h.2.2)
        · rw [if_neg c2]; exact go (fun h => c2 h.2.1)
      · rw [if_neg c1]; exact go (fun h => c1 (by omega))
    · rw [if_neg c0]; exact told_false
theorem plan_f (l : List Op) (hf : Fits l) (k : Nat) (hk : 6000000000 ≤ k) : Told (spec_IsDrawPlan.f k l) (RightPlan l) :=
  plan_l0 l hf l.length 0 k (by omega) (by have := hf.1; omega) (by simp) (fun j h0 hj => by omega)
theorem fits_l0 (l : List Op) (hl : l.length ≤ 2147483647) : ∀ (m i k : Nat), i + m = l.length → m < k → (∀ o ∈ l.take i, o.f3.size ≤ 2147483647 ∧ o.f4.length ≤ 2147483647) → Told (laws_zzFits3.l0 k l (l.length : Int) (i : Int)) (Fits l)
  | 0, i, k + 1, h, hk, hp => by
    rw [List.take_of_length_le (by omega)] at hp
    rw [laws_zzFits3.l0, if_neg (by omega)]
    exact told_of (fun _ => ⟨hl, hp⟩)
  | m + 1, i, k + 1, h, hk, hp => by
    have hi : i < l.length := by omega
    rw [laws_zzFits3.l0, if_pos (by omega), if_pos (by omega), if_pos (by omega), rdO_at l i hi, wrap_up i (by omega)]
    unfold laws_zzFits4.f
    by_cases c1 : (l[i].f3.size : Int) > 2147483647
    · rw [if_pos c1, Option.bind_some, if_neg (by simp)]; exact told_false
    rw [if_neg c1]
    by_cases c2 : (l[i].f4.length : Int) > 2147483647
    · rw [if_pos c2, Option.bind_some, if_neg (by simp)]; exact told_false
    rw [if_neg c2, Option.bind_some, if_pos rfl]
    refine fits_l0 l hl m (i + 1) k (by omega) (by omega) (fun o ho => ?_)
    rw [List.take_succ_eq_append_getElem hi] at ho
    rcases List.mem_append.1 ho with ho | ho
    · exact hp o ho
    · rw [List.mem_singleton.1 ho]
      exact ⟨by omega, by omega⟩
theorem fits_f (l : List Op) (k : Nat) (hk : 2147483650 ≤ k) : Told (laws_zzFits3.f k l) (Fits l) := by
  unfold laws_zzFits3.f
  by_cases c : (l.length : Int) > 2147483647
  · rw [if_pos c]; exact told_false
  · rw [if_neg c]
    exact fits_l0 l (by omega) l.length 0 k (by omega) (by omega) (by simp)
end Go.Proofs.YtjkpelaeelihhaaGreatDoorRR.Y
end
section
namespace Go.Proofs.YtjkpelaeelihhaaGreatDoorRR.Y
open Go.RowKit Go.Proofs.YtjkpelaeelihhaaGreatDoorRRW.PrintWords Go.Proofs.YtjkpelaeelihhaaGreatDoorRRW.PrintLast Go.Proofs.YtjkpelaeelihhaaGreatDoorRRW.PrintMore
attribute [local go_sem] max2_int min2_int max_two min_two max_three min_three max_four min_four   -- for this text's walks alone
set_option linter.unusedVariables false
set_option linter.unusedSimpArgs false
/-! ### xansi_CursorPosition: function 64 -/
def xansi_CursorPosition.j0 : Nat → Int → Int → Bool → Option (ByteArray)
  | 0, _, _, _ => none
  | k + 1, x0, x1, x12 => if x12 = true then (some (⟨#[27, 91, 72]⟩ : ByteArray)) else (if x1 > 0 then ((strconv_Itoa.f x1).bind fun t160 => (if x0 > 0 then ((strconv_Itoa.f x0).bind fun t161 => (if 2 + t160.size ≤ 9223372036854775807 then (if 2 + t160.size + 1 ≤ 9223372036854775807 then (if 2 + t160.size + 1 + t161.size ≤ 9223372036854775807 then (if 2 + t160.size + 1 + t161.size + 1 ≤ 9223372036854775807 then (some (((((⟨#[27, 91]⟩ : ByteArray) ++ t160) ++ (⟨#[59]⟩ : ByteArray)) ++ t161) ++ (⟨#[72]⟩ : ByteArray))) else (none)) else (none)) else (none)) else (none))) else (if 2 + t160.size ≤ 9223372036854775807 then (if 2 + t160.size + 1 ≤ 9223372036854775807 then (if 2 + t160.size + 1 + 0 ≤ 9223372036854775807 then (if 2 + t160.size + 1 + 0 + 1 ≤ 9223372036854775807 then (some (((((⟨#[27, 91]⟩ : ByteArray) ++ t160) ++ (⟨#[59]⟩ : ByteArray)) ++ (⟨#[]⟩ : ByteArray)) ++ (⟨#[72]⟩ : ByteArray))) else (none)) else (none)) else (none)) else (none)))) else (if x0 > 0 then ((strconv_Itoa.f x0).bind fun t162 => (if 2 + 0 ≤ 9223372036854775807 then (if 2 + 0 + 1 ≤ 9223372036854775807 then (if 2 + 0 + 1 + t162.size ≤ 9223372036854775807 then (if 2 + 0 + 1 + t162.size + 1 ≤ 9223372036854775807 then (some (((((⟨#[27, 91]⟩ : ByteArray) ++ (⟨#[]⟩ : ByteArray)) ++ (⟨#[59]⟩ : ByteArray)) ++ t162) ++ (⟨#[72]⟩ : ByteArray))) else (none)) else (none)) else (none)) else (none))) else (if 2 + 0 ≤ 9223372036854775807 then (if 2 + 0 + 1 ≤ 9223372036854775807 then (if 2 + 0 + 1 + 0 ≤ 9223372036854775807 then (if 2 + 0 + 1 + 0 + 1 ≤ 9223372036854775807 then (some (((((⟨#[27, 91]⟩ : ByteArray) ++ (⟨#[]⟩ : ByteArray)) ++ (⟨#[59]⟩ : ByteArray)) ++ (⟨#[]⟩ : ByteArray)) ++ (⟨#[72]⟩ : ByteArray))) else (none)) else (none)) else (none)) else (none))))
def xansi_CursorPosition.f (k : Nat) (a0 : Int) (a1 : Int) : Option (ByteArray) := if a1 ≤ 1 then (xansi_CursorPosition.j0 k a0 a1 (decide (a0 ≤ 1))) else (xansi_CursorPosition.j0 k a0 a1 false)
theorem xansi_CursorPosition.mono_l : ∀ k, (∀ y0 y1 y2, LeO (xansi_CursorPosition.j0 k y0 y1 y2) (xansi_CursorPosition.j0 (k + 1) y0 y1 y2))
  | 0 => fun _ _ _ r h => by simp [xansi_CursorPosition.j0] at h
  | k + 1 => by
    have ih0 := xansi_CursorPosition.mono_l k
    · intro y0 y1 y2
      unfold xansi_CursorPosition.j0
      repeat' first
      | (with_reducible exact ih0 _ _ _)
      | (with_reducible exact LeO.refl _)
      | (with_reducible exact LeO.none _)
      | (with_reducible refine LeO.ite ?_ ?_)
      | (with_reducible refine LeO.bind ?_ (fun _ => ?_))
      | exact ih0 _ _ _
      | exact LeO.none _
      | refine LeO.ite ?_ ?_
      | refine LeO.bind ?_ (fun _ => ?_)
theorem xansi_CursorPosition.mono : ∀ a0 a1 k, LeO (xansi_CursorPosition.f k a0 a1) (xansi_CursorPosition.f (k + 1) a0 a1) := by
  intro a0 a1 k
  have ih0 := xansi_CursorPosition.mono_l k
  unfold xansi_CursorPosition.f
  repeat' first
      | (with_reducible exact ih0 _ _ _)
      | (with_reducible exact LeO.refl _)
      | (with_reducible exact LeO.none _)
      | (with_reducible refine LeO.ite ?_ ?_)
      | (with_reducible refine LeO.bind ?_ (fun _ => ?_))
      | exact ih0 _ _ _
      | exact LeO.none _
      | refine LeO.ite ?_ ?_
      | refine LeO.bind ?_ (fun _ => ?_)
end Go.Proofs.YtjkpelaeelihhaaGreatDoorRR.Y
end
section
namespace Go.Proofs.YtjkpelaeelihhaaGreatDoorRR.Y
open Go.RowKit Go.Proofs.YtjkpelaeelihhaaGreatDoorRRW.PrintWords Go.Proofs.YtjkpelaeelihhaaGreatDoorRRW.PrintLast Go.Proofs.YtjkpelaeelihhaaGreatDoorRRW.PrintMore
attribute [local go_sem] max2_int min2_int max_two min_two max_three min_three max_four min_four   -- for this text's walks alone
set_option linter.unusedVariables false
set_option linter.unusedSimpArgs false
/-! ### xansi_HorizontalVerticalPosition: function 65 -/
def xansi_HorizontalVerticalPosition.f (a0 : Int) (a1 : Int) : Option (ByteArray) := if a1 > 0 then ((strconv_Itoa.f a1).bind fun t163 => (if a0 > 0 then ((strconv_Itoa.f a0).bind fun t164 => (if 2 + t163.size ≤ 9223372036854775807 then (if 2 + t163.size + 1 ≤ 9223372036854775807 then (if 2 + t163.size + 1 + t164.size ≤ 9223372036854775807 then (if 2 + t163.size + 1 + t164.size + 1 ≤ 9223372036854775807 then (some (((((⟨#[27, 91]⟩ : ByteArray) ++ t163) ++ (⟨#[59]⟩ : ByteArray)) ++ t164) ++ (⟨#[102]⟩ : ByteArray))) else (none)) else (none)) else (none)) else (none))) else (if 2 + t163.size ≤ 9223372036854775807 then (if 2 + t163.size + 1 ≤ 9223372036854775807 then (if 2 + t163.size + 1 + 0 ≤ 9223372036854775807 then (if 2 + t163.size + 1 + 0 + 1 ≤ 9223372036854775807 then (some (((((⟨#[27, 91]⟩ : ByteArray) ++ t163) ++ (⟨#[59]⟩ : ByteArray)) ++ (⟨#[]⟩ : ByteArray)) ++ (⟨#[102]⟩ : ByteArray))) else (none)) else (none)) else (none)) else (none)))) else (if a0 > 0 then ((strconv_Itoa.f a0).bind fun t165 => (if 2 + 0 ≤ 9223372036854775807 then (if 2 + 0 + 1 ≤ 9223372036854775807 then (if 2 + 0 + 1 + t165.size ≤ 9223372036854775807 then (if 2 + 0 + 1 + t165.size + 1 ≤ 9223372036854775807 then (some (((((⟨#[27, 91]⟩ : ByteArray) ++ (⟨#[]⟩ : ByteArray)) ++ (⟨#[59]⟩ : ByteArray)) ++ t165) ++ (⟨#[102]⟩ : ByteArray))) else (none)) else (none)) else (none)) else (none))) else (if 2 + 0 ≤ 9223372036854775807 then (if 2 + 0 + 1 ≤ 9223372036854775807 then (if 2 + 0 + 1 + 0 ≤ 9223372036854775807 then (if 2 + 0 + 1 + 0 + 1 ≤ 9223372036854775807 then (some (((((⟨#[27, 91]⟩ : ByteArray) ++ (⟨#[]⟩ : ByteArray)) ++ (⟨#[59]⟩ : ByteArray)) ++ (⟨#[]⟩ : ByteArray)) ++ (⟨#[102]⟩ : ByteArray))) else (none)) else (none)) else (none)) else (none)))
end Go.Proofs.YtjkpelaeelihhaaGreatDoorRR.Y
end
section
namespace Go.Proofs.YtjkpelaeelihhaaGreatDoorRR.Y
open Go.RowKit Go.Proofs.YtjkpelaeelihhaaGreatDoorRRW.PrintWords Go.Proofs.YtjkpelaeelihhaaGreatDoorRRW.PrintLast Go.Proofs.YtjkpelaeelihhaaGreatDoorRRW.PrintMore
attribute [local go_sem] max2_int min2_int max_two min_two max_three min_three max_four min_four   -- for this text's walks alone
set_option linter.unusedVariables false
set_option linter.unusedSimpArgs false
/-! ### xansi_SetTopBottomMargins: function 66 -/
def xansi_SetTopBottomMargins.f (a0 : Int) (a1 : Int) : Option (ByteArray) := if a0 > 0 then ((strconv_Itoa.f a0).bind fun t166 => (if a1 > 0 then ((strconv_Itoa.f a1).bind fun t167 => (if 2 + t166.size ≤ 9223372036854775807 then (if 2 + t166.size + 1 ≤ 9223372036854775807 then (if 2 + t166.size + 1 + t167.size ≤ 9223372036854775807 then (if 2 + t166.size + 1 + t167.size + 1 ≤ 9223372036854775807 then (some (((((⟨#[27, 91]⟩ : ByteArray) ++ t166) ++ (⟨#[59]⟩ : ByteArray)) ++ t167) ++ (⟨#[114]⟩ : ByteArray))) else (none)) else (none)) else (none)) else (none))) else (if 2 + t166.size ≤ 9223372036854775807 then (if 2 + t166.size + 1 ≤ 9223372036854775807 then (if 2 + t166.size + 1 + 0 ≤ 9223372036854775807 then (if 2 + t166.size + 1 + 0 + 1 ≤ 9223372036854775807 then (some (((((⟨#[27, 91]⟩ : ByteArray) ++ t166) ++ (⟨#[59]⟩ : ByteArray)) ++ (⟨#[]⟩ : ByteArray)) ++ (⟨#[114]⟩ : ByteArray))) else (none)) else (none)) else (none)) else (none)))) else (if a1 > 0 then ((strconv_Itoa.f a1).bind fun t168 => (if 2 + 0 ≤ 9223372036854775807 then (if 2 + 0 + 1 ≤ 9223372036854775807 then (if 2 + 0 + 1 + t168.size ≤ 9223372036854775807 then (if 2 + 0 + 1 + t168.size + 1 ≤ 9223372036854775807 then (some (((((⟨#[27, 91]⟩ : ByteArray) ++ (⟨#[]⟩ : ByteArray)) ++ (⟨#[59]⟩ : ByteArray)) ++ t168) ++ (⟨#[114]⟩ : ByteArray))) else (none)) else (none)) else (none)) else (none))) else (if 2 + 0 ≤ 9223372036854775807 then (if 2 + 0 + 1 ≤ 9223372036854775807 then (if 2 + 0 + 1 + 0 ≤ 9223372036854775807 then (if 2 + 0 + 1 + 0 + 1 ≤ 9223372036854775807 then (some (((((⟨#[27, 91]⟩ : ByteArray) ++ (⟨#[]⟩ : ByteArray)) ++ (⟨#[59]⟩ : ByteArray)) ++ (⟨#[]⟩ : ByteArray)) ++ (⟨#[114]⟩ : ByteArray))) else (none)) else (none)) else (none)) else (none)))
end Go.Proofs.YtjkpelaeelihhaaGreatDoorRR.Y
end
section
namespace Go.Proofs.YtjkpelaeelihhaaGreatDoorRR.Y
open Go.RowKit Go.Proofs.YtjkpelaeelihhaaGreatDoorRRW.PrintWords Go.Proofs.YtjkpelaeelihhaaGreatDoorRRW.PrintLast Go.Proofs.YtjkpelaeelihhaaGreatDoorRRW.PrintMore
attribute [local go_sem] max2_int min2_int max_two min_two max_three min_three max_four min_four   -- for this text's walks alone
set_option linter.unusedVariables false
set_option linter.unusedSimpArgs false
/-! ### xansi_CursorPositionReport: function 68 -/
def xansi_CursorPositionReport.j0 : Nat → Int → Int → Option (ByteArray)
  | 0, _, _ => none
  | k + 1, x0, x1 => if x1 < 1 then ((strconv_Itoa.f x0).bind fun t169 => (if 2 + t169.size ≤ 9223372036854775807 then (if 2 + t169.size + 1 ≤ 9223372036854775807 then ((strconv_Itoa.f 1).bind fun t170 => (if 2 + t169.size + 1 + t170.size ≤ 9223372036854775807 then (if 2 + t169.size + 1 + t170.size + 1 ≤ 9223372036854775807 then (some (((((⟨#[27, 91]⟩ : ByteArray) ++ t169) ++ (⟨#[59]⟩ : ByteArray)) ++ t170) ++ (⟨#[82]⟩ : ByteArray))) else (none)) else (none))) else (none)) else (none))) else ((strconv_Itoa.f x0).bind fun t171 => (if 2 + t171.size ≤ 9223372036854775807 then (if 2 + t171.size + 1 ≤ 9223372036854775807 then ((strconv_Itoa.f x1).bind fun t172 => (if 2 + t171.size + 1 + t172.size ≤ 9223372036854775807 then (if 2 + t171.size + 1 + t172.size + 1 ≤ 9223372036854775807 then (some (((((⟨#[27, 91]⟩ : ByteArray) ++ t171) ++ (⟨#[59]⟩ : ByteArray)) ++ t172) ++ (⟨#[82]⟩ : ByteArray))) else (none)) else (none))) else (none)) else (none)))
def xansi_CursorPositionReport.f (k : Nat) (a0 : Int) (a1 : Int) : Option (ByteArray) := if a0 < 1 then (xansi_CursorPositionReport.j0 k 1 a1) else (xansi_CursorPositionReport.j0 k a0 a1)
theorem xansi_CursorPositionReport.mono_l : ∀ k, (∀ y0 y1, LeO (xansi_CursorPositionReport.j0 k y0 y1) (xansi_CursorPositionReport.j0 (k + 1) y0 y1))
  | 0 => fun _ _ r h => by simp [xansi_CursorPositionReport.j0] at h
  | k + 1 => by
    have ih0 := xansi_CursorPositionReport.mono_l k
    · intro y0 y1
      unfold xansi_CursorPositionReport.j0
      repeat' first
      | (with_reducible exact ih0 _ _)
      | (with_reducible exact LeO.refl _)
      | (with_reducible exact LeO.none _)
      | (with_reducible refine LeO.ite ?_ ?_)
      | (with_reducible refine LeO.bind ?_ (fun _ => ?_))
      | exact ih0 _ _
      | exact LeO.none _
      | refine LeO.ite ?_ ?_
      | refine LeO.bind ?_ (fun _ => ?_)
theorem xansi_CursorPositionReport.mono : ∀ a0 a1 k, LeO (xansi_CursorPositionReport.f k a0 a1) (xansi_CursorPositionReport.f (k + 1) a0 a1) := by
  intro a0 a1 k
  have ih0 := xansi_CursorPositionReport.mono_l k
  unfold xansi_CursorPositionReport.f
  repeat' first
      | (with_reducible exact ih0 _ _)
      | (with_reducible exact LeO.refl _)
      | (with_reducible exact LeO.none _)
      | (with_reducible refine LeO.ite ?_ ?_)
      | (with_reducible refine LeO.bind ?_ (fun _ => ?_))
      | exact ih0 _ _
      | exact LeO.none _
      | refine LeO.ite ?_ ?_
      | refine LeO.bind ?_ (fun _ => ?_)
end Go.Proofs.YtjkpelaeelihhaaGreatDoorRR.Y
end
section
namespace Go.Proofs.YtjkpelaeelihhaaGreatDoorRR.Y
open Go.RowKit Go.Proofs.YtjkpelaeelihhaaGreatDoorRRW.PrintWords Go.Proofs.YtjkpelaeelihhaaGreatDoorRRW.PrintLast Go.Proofs.YtjkpelaeelihhaaGreatDoorRRW.PrintMore
attribute [local go_sem] max2_int min2_int max_two min_two max_three min_three max_four min_four   -- for this text's walks alone
set_option linter.unusedVariables false
set_option linter.unusedSimpArgs false
/-! ### impl_MakePair: function 18 -/
def impl_MakePair.f (k : Nat) (a0 : Int) (a1 : Int) (a2 : Int) : Option (ByteArray) := if a0 = 0 then ((xansi_CursorPosition.f k a1 a2).bind fun t173 => (some t173)) else (if a0 = 1 then ((xansi_HorizontalVerticalPosition.f a1 a2).bind fun t174 => (some t174)) else (if a0 = 2 then ((xansi_SetTopBottomMargins.f a1 a2).bind fun t175 => (some t175)) else (if a0 = 3 then (none) else (if a0 = 4 then ((xansi_CursorPositionReport.f k a1 a2).bind fun t176 => (some t176)) else (if a0 = 5 then (none) else (if a0 = 6 then (none) else (some (⟨#[]⟩ : ByteArray))))))))
theorem impl_MakePair.mono : ∀ a0 a1 a2 k, LeO (impl_MakePair.f k a0 a1 a2) (impl_MakePair.f (k + 1) a0 a1 a2) := by
  intro a0 a1 a2 k
  unfold impl_MakePair.f
  repeat' first
      | (with_reducible exact xansi_CursorPosition.mono _ _ _)
      | (with_reducible exact xansi_CursorPositionReport.mono _ _ _)
      | (with_reducible exact LeO.refl _)
      | (with_reducible exact LeO.none _)
      | (with_reducible refine LeO.ite ?_ ?_)
      | (with_reducible refine LeO.bind ?_ (fun _ => ?_))
      | exact xansi_CursorPosition.mono _ _ _
      | exact xansi_CursorPositionReport.mono _ _ _
      | exact LeO.none _
      | refine LeO.ite ?_ ?_
      | refine LeO.bind ?_ (fun _ => ?_)
end Go.Proofs.YtjkpelaeelihhaaGreatDoorRR.Y
end
section
namespace Go.Proofs.YtjkpelaeelihhaaGreatDoorRR.Y
open Go.RowKit Go.Proofs.YtjkpelaeelihhaaGreatDoorRRW.PrintWords Go.Proofs.YtjkpelaeelihhaaGreatDoorRRW.PrintLast Go.Proofs.YtjkpelaeelihhaaGreatDoorRRW.PrintMore
attribute [local go_sem] max2_int min2_int max_two min_two max_three min_three max_four min_four   -- for this text's walks alone
set_option linter.unusedVariables false
set_option linter.unusedSimpArgs false
/-! ### impl_count: function 71 -/
def impl_count.l0 : Nat → List Int → List Int → Int → Int → Option (List Int)
  | 0, _, _, _, _ => none
  | k + 1, x3, x6, x7, x8 => if x8 < x7 then (if 0 ≤ x8 then (if x8 < (x6.length : Int) then (if x3.length < 17592186044416 then (impl_count.l0 k (x3 ++ [rd x6 x8]) x6 x7 (wrap64 (x8 + 1))) else (none)) else (none)) else (none)) else (some x3)
def impl_count.f (k : Nat) (l0 : List Int) : Option (List Int) := impl_count.l0 k ([] : List Int) l0 (l0.length : Int) 0
theorem impl_count.mono_l : ∀ k, (∀ y0 y1 y2 y3, LeO (impl_count.l0 k y0 y1 y2 y3) (impl_count.l0 (k + 1) y0 y1 y2 y3))
  | 0 => fun _ _ _ _ r h => by simp [impl_count.l0] at h
  | k + 1 => by
    have ih0 := impl_count.mono_l k
    · intro y0 y1 y2 y3
      unfold impl_count.l0
      repeat' first
      | (with_reducible exact ih0 _ _ _ _)
      | (with_reducible exact LeO.refl _)
      | (with_reducible exact LeO.none _)
      | (with_reducible refine LeO.ite ?_ ?_)
      | (with_reducible refine LeO.bind ?_ (fun _ => ?_))
      | exact ih0 _ _ _ _
      | exact LeO.none _
      | refine LeO.ite ?_ ?_
      | refine LeO.bind ?_ (fun _ => ?_)
theorem impl_count.mono : ∀ a0 k, LeO (impl_count.f k a0) (impl_count.f (k + 1) a0) := by
  intro a0 k
  have ih0 := impl_count.mono_l k
  unfold impl_count.f
  repeat' first
      | (with_reducible exact ih0 _ _ _ _)
      | (with_reducible exact LeO.refl _)
      | (with_reducible exact LeO.none _)
      | (with_reducible refine LeO.ite ?_ ?_)
      | (with_reducible refine LeO.bind ?_ (fun _ => ?_))
      | exact ih0 _ _ _ _
      | exact LeO.none _
      | refine LeO.ite ?_ ?_
      | refine LeO.bind ?_ (fun _ => ?_)
end Go.Proofs.YtjkpelaeelihhaaGreatDoorRR.Y
end
section
namespace Go.Proofs.YtjkpelaeelihhaaGreatDoorRR.Y
open Go.RowKit Go.Proofs.YtjkpelaeelihhaaGreatDoorRRW.PrintWords Go.Proofs.YtjkpelaeelihhaaGreatDoorRRW.PrintLast Go.Proofs.YtjkpelaeelihhaaGreatDoorRRW.PrintMore
attribute [local go_sem] max2_int min2_int max_two min_two max_three min_three max_four min_four   -- for this text's walks alone
set_option linter.unusedVariables false
set_option linter.unusedSimpArgs false
set_option maxHeartbeats 8000000 in
set_option maxRecDepth 100000 in
theorem impl_count.calls (k : Nat) (A0 : Option Addr) (c0 : Nat) (l0 : List Int) (r : List Int) (w : World) (hr0 : Kd.C (Kd.int .i64) w A0 l0.length l0) (hc0 : l0.length ≤ c0) (h : impl_count.f k l0 = some r) :
    Calls Tryz.prog 71 #[.slice A0 l0.length c0] w fun e w' => ∃ v0_ : Value, e = .returned (v0_) ∧ Kd.R (Kd.int .i64) 3 w' w.heap.size (fun _ => True) v0_ r ∧ Below w.heap.size w w' := by
  have HR0 := Aside0.mk hr0
  have HC0 := Aside0.mk hc0
  clear hr0 hc0
  have HB := Aside0.mk (Below.refl w.heap.size w)
  have H : (impl_count.l0 k ([] : List Int) l0 (l0.length : Int) 0) = some r := h
  clear h
  have H' := Aside0.mk H
  clear H
  go_enter Tryz.func71, Tryz.ntmps71
  go_wp2
  go_loopg [3, 8] k (fun kq v3 v8 w' => ∃ (x3_1 : List Int) (x8_1 : Int), v8 = .int .i64 x8_1 ∧ Aside0 (impl_count.l0 kq x3_1 l0 (l0.length : Int) x8_1 = some r) ∧ Aside0 (kq ≤ k) ∧ Aside0 (Kd.R (Kd.int .i64) 3 w' w.heap.size (fun _ => True) v3 x3_1) ∧ Aside0 (Below w.heap.size w w'))
  case atStart => exact ⟨(([] : List Int)), (0), (by first | rfl | (simp; done) | (simp [*]; done)), H', ⟨Nat.le_refl _⟩, ⟨by first | exact Kd.R_nil _ _ _ _ _ | exact Kd.N_nil _ _ _ _ _ | exact Kd.V_nil _ _ _ _ _ | exact Kd.Q_nil _ _ _ _ _ | exact Kd.S_nil _ _ _ _ _⟩, ⟨by repeat (first | (with_reducible first | exact HB.out | apply below_alloc | apply pw_below_drewN | apply below_drew1) | exact HB.out)⟩⟩
  case round =>
    clear H'
    obtain ⟨x3_1, x8_1, rfl, HA, HK1, HO_3, HB⟩ := hrel
    cases gk with
    | zero => exact absurd HA.out (by simp [impl_count.l0])
    | succ k1 =>
      have H := HA.out
      clear HA
      simp only [impl_count.l0] at H
      by_cases c2 : x8_1 < (l0.length : Int)
      · rw [if_pos c2] at H
        have c2b0 : decide (x8_1 < (l0.length : Int)) = true := decide_eq_true c2
        clear c2
        by_cases c3 : 0 ≤ x8_1
        · rw [if_pos c3] at H
          have c3b0 : decide (0 ≤ x8_1) = true := decide_eq_true c3
          clear c3
          by_cases c4 : x8_1 < (l0.length : Int)
          · rw [if_pos c4] at H
            have c4b0 : decide (x8_1 < (l0.length : Int)) = true := decide_eq_true c4
            clear c4
            by_cases c5 : x3_1.length < 17592186044416
            · rw [if_pos c5] at H
              have LMc5 := Aside0.mk c5
              clear c5
              obtain ⟨y332, hy332⟩ : ∃ y_ : List Int, y_ = (x3_1 ++ [rd l0 x8_1]) := ⟨_, rfl⟩
              replace H : (impl_count.l0 k1 y332 l0 (l0.length : Int) (wrap64 (x8_1 + 1))) = some r := by first | (rw [hy332]; with_reducible exact H) | (have H2_ := (Option.bind_some _ _).symm.trans H; rw [hy332]; with_reducible exact H2_) | (have H2_ := (Option.bind_some _ _).symm.trans H; with_reducible exact H2_) | with_reducible exact H | (rw [hy332]; exact H) | exact H
              have Ny332 := Aside0.mk hy332
              clear hy332
              have H' := Aside0.mk H
              clear H
              have p331 : 0 ≤ (x8_1 : Int) := of_decide_eq_true (by first | (with_reducible assumption) | assumption)
              have q331 : x8_1 < (l0.length : Int) := of_decide_eq_true (by first | (with_reducible assumption) | assumption)
              obtain ⟨ad331, e331, hx331_0⟩ := Kd.at_int HR0.out x8_1 p331 q331
              cases e331
              replace hx331_0 := (HB.out.cell (World.block_lt_of_cell? w _ hx331_0)).trans hx331_0
              replace p331 := eq_true p331
              replace q331 := eq_true q331
              go_wp2_with (first | ((with_reducible refine gate_builtin (b := .append) (xs := #[.tmp 12, .tmp 14]) rfl ?_); at_builtin; refine Kd.R_append (Kd.int .i64) (w0 := w) w.heap.size rfl (.tmp 12) (.tmp 14) 63 3 (.int .i64 0) 8 rfl Tryz.underlying63 info3 rfl (by decide) (by omega) u3 x3_1 (rd l0 x8_1) [.int .i64 (rd l0 x8_1)] (fun _ => True) (fun _ => False) rfl rfl ?aP (fun _ hk => hk.elim) ?aF ?aO ?aB ?aS ?aL ?_; (case aP => exact rfl); (case aB => exact (by repeat (first | (with_reducible first | exact HB.out | apply below_alloc | apply pw_below_drewN | apply below_drew1) | exact HB.out))); (case aF => exact (fun _ _ => trivial)); (case aO => exact (by (with_reducible repeat (first | apply Kd.R_alloc | apply Kd.R_drewN | apply Kd.R_drew)); exact HO_3.out)); (case aS => exact (below_size (by repeat (first | (with_reducible first | exact HB.out | apply below_alloc | apply pw_below_drewN | apply below_drew1) | exact HB.out)))); (case aL => have := LMc5.out; omega); intro v333 w6 ho hb hg hat; rw [← Ny332.out] at ho; have n0_ := Aside0.mk (hb); have n1_ := Aside0.mk (ho); clear HB; clear HO_3; have HB := n0_; have HO334 := n1_; clear n0_ n1_; clear ho hb hg hat))
              go_roundg k1
              case measure => have := HK1.out; omega
              case rel => exact ⟨(y332), (wrap64 (x8_1 + 1)), (by first | rfl | (simp; done) | (simp [*]; done)), H', ⟨by have := HK1.out; omega⟩, ⟨by (with_reducible repeat (first | apply Kd.R_alloc | apply Kd.R_drewN | apply Kd.R_drew)); exact HO334.out⟩, ⟨by repeat (first | (with_reducible first | exact HB.out | apply below_alloc | apply pw_below_drewN | apply below_drew1) | exact HB.out)⟩⟩
            · rw [if_neg c5] at H
              exact absurd H (by simp)
          · rw [if_neg c4] at H
            exact absurd H (by simp)
        · rw [if_neg c3] at H
          exact absurd H (by simp)
      · rw [if_neg c2] at H
        have c2b0 : decide (x8_1 < (l0.length : Int)) = false := decide_eq_false c2
        clear c2
        obtain rfl := Option.some.inj H
        go_wp2
        go_ret
        exact ⟨_, by first | rfl | (simp [errW_none, errW_some] <;> rfl) | (simp [*, errW_none, errW_some] <;> rfl), by (with_reducible repeat (first | apply Kd.R_alloc | apply Kd.R_drewN | apply Kd.R_drew)); exact HO_3.out, by repeat (first | (with_reducible first | exact HB.out | apply below_alloc | apply pw_below_drewN | apply below_drew1) | exact HB.out)⟩
end Go.Proofs.YtjkpelaeelihhaaGreatDoorRR.Y
end
section
namespace Go.Proofs.YtjkpelaeelihhaaGreatDoorRR.Y
open Go.RowKit Go.Proofs.YtjkpelaeelihhaaGreatDoorRRW.PrintWords Go.Proofs.YtjkpelaeelihhaaGreatDoorRRW.PrintLast Go.Proofs.YtjkpelaeelihhaaGreatDoorRRW.PrintMore
def xansi_attrStrings.f (a0 : Int) : Option (ByteArray × Bool) := if (0 ≤ a0 ∧ a0 ≤ 9) ∨ (22 ≤ a0 ∧ a0 ≤ 29 ∧ a0 ≠ 26) then some (⟨(Lib.itoa a0).toArray⟩, true) else none
theorem xansi_attrStrings.calls (a0 : Int) (r1 : ByteArray) (r2 : Bool) (w : World) (h : xansi_attrStrings.f a0 = some (r1, r2)) :
    Calls Tryz.prog 114 #[.int .i64 a0] w fun e w' => e = .returned (.tuple #[.string r1, .bool r2]) ∧ Drawn0 w w' := by
  unfold xansi_attrStrings.f at h
  split at h
  · rename_i hc
    simp only [Option.some.injEq, Prod.mk.injEq] at h
    obtain ⟨rfl, rfl⟩ := h
    have : a0 = 0 ∨ a0 = 1 ∨ a0 = 2 ∨ a0 = 3 ∨ a0 = 4 ∨ a0 = 5 ∨ a0 = 6 ∨ a0 = 7 ∨ a0 = 8 ∨ a0 = 9 ∨ a0 = 22 ∨ a0 = 23 ∨ a0 = 24 ∨ a0 = 25 ∨ a0 = 27 ∨ a0 = 28 ∨ a0 = 29 := by omega
    clear hc
    rcases this with rfl | rfl | rfl | rfl | rfl | rfl | rfl | rfl | rfl | rfl | rfl | rfl | rfl | rfl | rfl | rfl | rfl
    · rw [show (⟨(Lib.itoa 0).toArray⟩ : ByteArray) = ⟨#[48]⟩ by kernel_rfl]
      go_enter Tryz.func114, Tryz.ntmps114
      go_wp2_with fail
      go_ret2
      exact ⟨rfl, Drawn0.refl _⟩
    · rw [show (⟨(Lib.itoa 1).toArray⟩ : ByteArray) = ⟨#[49]⟩ by kernel_rfl]
      go_enter Tryz.func114, Tryz.ntmps114
      go_wp2_with fail
      go_ret2
      exact ⟨rfl, Drawn0.refl _⟩
    · rw [show (⟨(Lib.itoa 2).toArray⟩ : ByteArray) = ⟨#[50]⟩ by kernel_rfl]
      go_enter Tryz.func114, Tryz.ntmps114
      go_wp2_with fail
      go_ret2
      exact ⟨rfl, Drawn0.refl _⟩
    · rw [show (⟨(Lib.itoa 3).toArray⟩ : ByteArray) = ⟨#[51]⟩ by kernel_rfl]
      go_enter Tryz.func114, Tryz.ntmps114
      go_wp2_with fail
      go_ret2
      exact ⟨rfl, Drawn0.refl _⟩
    · rw [show (⟨(Lib.itoa 4).toArray⟩ : ByteArray) = ⟨#[52]⟩ by kernel_rfl]
      go_enter Tryz.func114, Tryz.ntmps114
      go_wp2_with fail
      go_ret2
      exact ⟨rfl, Drawn0.refl _⟩
    · rw [show (⟨(Lib.itoa 5).toArray⟩ : ByteArray) = ⟨#[53]⟩ by kernel_rfl]
      go_enter Tryz.func114, Tryz.ntmps114
      go_wp2_with fail
      go_ret2
      exact ⟨rfl, Drawn0.refl _⟩
    · rw [show (⟨(Lib.itoa 6).toArray⟩ : ByteArray) = ⟨#[54]⟩ by kernel_rfl]
      go_enter Tryz.func114, Tryz.ntmps114
      go_wp2_with fail
      go_ret2
      exact ⟨rfl, Drawn0.refl _⟩
    · rw [show (⟨(Lib.itoa 7).toArray⟩ : ByteArray) = ⟨#[55]⟩ by kernel_rfl]
      go_enter Tryz.func114, Tryz.ntmps114
      go_wp2_with fail
      go_ret2
      exact ⟨rfl, Drawn0.refl _⟩
    · rw [show (⟨(Lib.itoa 8).toArray⟩ : ByteArray) = ⟨#[56]⟩ by kernel_rfl]
      go_enter Tryz.func114, Tryz.ntmps114
      go_wp2_with fail
      go_ret2
      exact ⟨rfl, Drawn0.refl _⟩
    · rw [show (⟨(Lib.itoa 9).toArray⟩ : ByteArray) = ⟨#[57]⟩ by kernel_rfl]
      go_enter Tryz.func114, Tryz.ntmps114
      go_wp2_with fail
      go_ret2
      exact ⟨rfl, Drawn0.refl _⟩
    · rw [show (⟨(Lib.itoa 22).toArray⟩ : ByteArray) = ⟨#[50, 50]⟩ by kernel_rfl]
      go_enter Tryz.func114, Tryz.ntmps114
      go_wp2_with fail
      go_ret2
      exact ⟨rfl, Drawn0.refl _⟩
    · rw [show (⟨(Lib.itoa 23).toArray⟩ : ByteArray) = ⟨#[50, 51]⟩ by kernel_rfl]
      go_enter Tryz.func114, Tryz.ntmps114
      go_wp2_with fail
      go_ret2
      exact ⟨rfl, Drawn0.refl _⟩
    · rw [show (⟨(Lib.itoa 24).toArray⟩ : ByteArray) = ⟨#[50, 52]⟩ by kernel_rfl]
      go_enter Tryz.func114, Tryz.ntmps114
      go_wp2_with fail
      go_ret2
      exact ⟨rfl, Drawn0.refl _⟩
    · rw [show (⟨(Lib.itoa 25).toArray⟩ : ByteArray) = ⟨#[50, 53]⟩ by kernel_rfl]
      go_enter Tryz.func114, Tryz.ntmps114
      go_wp2_with fail
      go_ret2
      exact ⟨rfl, Drawn0.refl _⟩
    · rw [show (⟨(Lib.itoa 27).toArray⟩ : ByteArray) = ⟨#[50, 55]⟩ by kernel_rfl]
      go_enter Tryz.func114, Tryz.ntmps114
      go_wp2_with fail
      go_ret2
      exact ⟨rfl, Drawn0.refl _⟩
    · rw [show (⟨(Lib.itoa 28).toArray⟩ : ByteArray) = ⟨#[50, 56]⟩ by kernel_rfl]
      go_enter Tryz.func114, Tryz.ntmps114
      go_wp2_with fail
      go_ret2
      exact ⟨rfl, Drawn0.refl _⟩
    · rw [show (⟨(Lib.itoa 29).toArray⟩ : ByteArray) = ⟨#[50, 57]⟩ by kernel_rfl]
      go_enter Tryz.func114, Tryz.ntmps114
      go_wp2_with fail
      go_ret2
      exact ⟨rfl, Drawn0.refl _⟩
  · exact absurd h (by simp)
end Go.Proofs.YtjkpelaeelihhaaGreatDoorRR.Y
end
section
namespace Go.Proofs.YtjkpelaeelihhaaGreatDoorRR.Y
open Go.RowKit Go.Proofs.YtjkpelaeelihhaaGreatDoorRRW.PrintWords Go.Proofs.YtjkpelaeelihhaaGreatDoorRRW.PrintLast Go.Proofs.YtjkpelaeelihhaaGreatDoorRRW.PrintMore
attribute [local go_sem] max2_int min2_int max_two min_two max_three min_three max_four min_four   -- for this text's walks alone
set_option linter.unusedVariables false
set_option linter.unusedSimpArgs false
/-! ### xansi_NewStyle: function 104 -/
def xansi_NewStyle.l0 : Nat → List ByteArray → List Int → Int → Int → Option (List ByteArray)
  | 0, _, _, _, _ => none
  | k + 1, x3, x15, x16, x17 => if x17 < x16 then (if 0 ≤ x17 then (if x17 < (x15.length : Int) then ((xansi_attrStrings.f (rd x15 x17)).bind fun bt342 => (if bt342.2 = true then (if x3.length < 8796093022208 then (xansi_NewStyle.l0 k (x3 ++ [bt342.1]) x15 x16 (wrap64 (x17 + 1))) else (none)) else (if (rd x15 x17) < 0 then ((strconv_Itoa.f 0).bind fun t347 => (if x3.length < 8796093022208 then (xansi_NewStyle.l0 k (x3 ++ [t347]) x15 x16 (wrap64 (x17 + 1))) else (none))) else ((strconv_Itoa.f (rd x15 x17)).bind fun t351 => (if x3.length < 8796093022208 then (xansi_NewStyle.l0 k (x3 ++ [t351]) x15 x16 (wrap64 (x17 + 1))) else (none)))))) else (none)) else (none)) else (some x3)
def xansi_NewStyle.f (k : Nat) (l0 : List Int) : Option (List ByteArray) := if (l0.length : Int) = 0 then (some (([] : List ByteArray))) else (if 0 ≤ (l0.length : Int) then (if ((l0.length : Int) : Int).toNat ≤ 17592186044416 then (xansi_NewStyle.l0 k (([] : List ByteArray)) l0 (l0.length : Int) 0) else (none)) else (none))
theorem xansi_NewStyle.mono_l : ∀ k, (∀ y0 y1 y2 y3, LeO (xansi_NewStyle.l0 k y0 y1 y2 y3) (xansi_NewStyle.l0 (k + 1) y0 y1 y2 y3))
  | 0 => fun _ _ _ _ r h => by simp [xansi_NewStyle.l0] at h
  | k + 1 => by
    have ih0 := xansi_NewStyle.mono_l k
    · intro y0 y1 y2 y3
      unfold xansi_NewStyle.l0
      repeat' first
      | (with_reducible exact ih0 _ _ _ _)
      | (with_reducible exact LeO.refl _)
      | (with_reducible exact LeO.none _)
      | (with_reducible refine LeO.ite ?_ ?_)
      | (with_reducible refine LeO.bind ?_ (fun _ => ?_))
      | exact ih0 _ _ _ _
      | exact LeO.none _
      | refine LeO.ite ?_ ?_
      | refine LeO.bind ?_ (fun _ => ?_)
theorem xansi_NewStyle.mono : ∀ a0 k, LeO (xansi_NewStyle.f k a0) (xansi_NewStyle.f (k + 1) a0) := by
  intro a0 k
  have ih0 := xansi_NewStyle.mono_l k
  unfold xansi_NewStyle.f
  repeat' first
      | (with_reducible exact ih0 _ _ _ _)
      | (with_reducible exact LeO.refl _)
      | (with_reducible exact LeO.none _)
      | (with_reducible refine LeO.ite ?_ ?_)
      | (with_reducible refine LeO.bind ?_ (fun _ => ?_))
      | exact ih0 _ _ _ _
      | exact LeO.none _
      | refine LeO.ite ?_ ?_
      | refine LeO.bind ?_ (fun _ => ?_)
end Go.Proofs.YtjkpelaeelihhaaGreatDoorRR.Y
end
