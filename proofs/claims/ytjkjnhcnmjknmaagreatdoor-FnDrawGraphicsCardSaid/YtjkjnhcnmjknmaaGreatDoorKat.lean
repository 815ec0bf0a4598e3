/- Texts of this claim, joined: Y58D Y59D XTold Y41D Y42D Y43D XWord Y44D Y45D Y46D Y47D Y48D Y49D Y50D Y51D Y57D Y60D. Of each, what the claim uses. -/
import Derived.Test.YtjkjnhcnmjknmaaGreatDoorKac
import Derived.Test.YtjkjnhcnmjknmaaGreatDoorKaq
section
namespace Go.Proofs.YtjkjnhcnmjknmaaGreatDoor.Y
open Go.RowKit Go.Proofs.YtjkjnhcnmjknmaaGreatDoorW.PrintWords Go.Proofs.YtjkjnhcnmjknmaaGreatDoorW.PrintLast Go.Proofs.YtjkjnhcnmjknmaaGreatDoorW.PrintMore
attribute [local go_sem] max2_int min2_int max_two min_two max_three min_three max_four min_four   -- for this text's walks alone
set_option linter.unusedVariables false
set_option linter.unusedSimpArgs false
/-! ### spec_drawBehind: function 60 -/
def spec_drawBehind.l0 : Nat → ByteArray → Int → Int → Int → Option (ByteArray)
  | 0, _, _, _, _ => none
  | k + 1, x0, x1, x7, x8 => if x8 < x7 then (if 0 ≤ x8 then (if x8 < (x0.size : Int) then (if (bt x0 x8) = 59 then (if (wrap64 (x1 - 1)) = 0 then (if 0 ≤ (wrap64 (x8 + 1)) then (if (wrap64 (x8 + 1)) ≤ (x0.size : Int) then (some (x0.extract ((wrap64 (x8 + 1)) : Int).toNat x0.size)) else (none)) else (none)) else (spec_drawBehind.l0 k x0 (wrap64 (x1 - 1)) x7 (wrap64 (x8 + 1)))) else (spec_drawBehind.l0 k x0 x1 x7 (wrap64 (x8 + 1)))) else (none)) else (none)) else (some (⟨#[]⟩ : ByteArray))
def spec_drawBehind.f (k : Nat) (a0 : ByteArray) (a1 : Int) : Option (ByteArray) := spec_drawBehind.l0 k a0 a1 (a0.size : Int) 0
theorem spec_drawBehind.mono_l : ∀ k, (∀ y0 y1 y2 y3, LeO (spec_drawBehind.l0 k y0 y1 y2 y3) (spec_drawBehind.l0 (k + 1) y0 y1 y2 y3))
  | 0 => fun _ _ _ _ r h => by simp [spec_drawBehind.l0] at h
  | k + 1 => by
    have ih0 := spec_drawBehind.mono_l k
    · intro y0 y1 y2 y3
      unfold spec_drawBehind.l0
      repeat' first
      | (with_reducible exact ih0 _ _ _ _)
      | (with_reducible exact LeO.refl _)
      | (with_reducible exact LeO.none _)
      | (with_reducible refine LeO.ite ?_ ?_)
      | (with_reducible refine LeO.bind ?_ (fun _ => ?_))
      | exact ih0 _ _ _ _
      | exact LeO.none _
      | refine LeO.ite ?_ ?_
      | refine LeO.bind ?_ (fun _ => ?_)
theorem spec_drawBehind.mono : ∀ a0 a1 k, LeO (spec_drawBehind.f k a0 a1) (spec_drawBehind.f (k + 1) a0 a1) := by
  intro a0 a1 k
  have ih0 := spec_drawBehind.mono_l k
  unfold spec_drawBehind.f
  repeat' first
      | (with_reducible exact ih0 _ _ _ _)
      | (with_reducible exact LeO.refl _)
      | (with_reducible exact LeO.none _)
      | (with_reducible refine LeO.ite ?_ ?_)
      | (with_reducible refine LeO.bind ?_ (fun _ => ?_))
      | exact ih0 _ _ _ _
      | exact LeO.none _
      | refine LeO.ite ?_ ?_
      | refine LeO.bind ?_ (fun _ => ?_)
end Go.Proofs.YtjkjnhcnmjknmaaGreatDoor.Y
end
section
namespace Go.Proofs.YtjkjnhcnmjknmaaGreatDoor.Y
open Go.RowKit Go.Proofs.YtjkjnhcnmjknmaaGreatDoorW.PrintWords Go.Proofs.YtjkjnhcnmjknmaaGreatDoorW.PrintLast Go.Proofs.YtjkjnhcnmjknmaaGreatDoorW.PrintMore
attribute [local go_sem] max2_int min2_int max_two min_two max_three min_three max_four min_four   -- for this text's walks alone
set_option linter.unusedVariables false
set_option linter.unusedSimpArgs false
/-! ### spec_DrawTold: function 28 -/
mutual
def spec_DrawTold.l0 : Nat → List Int → List ByteArray → List (S65) → Int → Int → Option (List ByteArray)
  | 0, _, _, _, _, _ => none
  | k + 1, x1, x5, x13, x14, x15 => if x15 < x14 then (if 0 ≤ x15 then (if x15 < (x13.length : Int) then (spec_DrawTold.l1 k x1 x5 x13 x14 x15 x1 (x1.length : Int) 0 ((rd_T65 x13 x15).f0) ((rd_T65 x13 x15).f1) ((rd_T65 x13 x15).f2) ((rd_T65 x13 x15).f3) ((rd_T65 x13 x15).f4) ((rd_T65 x13 x15).f5)) else (none)) else (none)) else (some x5)
def spec_DrawTold.l1 : Nat → List Int → List ByteArray → List (S65) → Int → Int → List Int → Int → Int → Int → Int → Int → Int → List Int → List Int → Option (List ByteArray)
  | 0, _, _, _, _, _, _, _, _, _, _, _, _, _, _ => none
  | k + 1, x1, x5, x13, x14, x15, x19, x20, x21, x144000, x144001, x144002, x144003, x144004, x144005 => if x21 < x20 then (if 0 ≤ x21 then (if x21 < (x19.length : Int) then (if x144000 = 5 then (if x144003 = (rd x19 x21) then ((spec_drawBehind.f k (strOfNums x144005) 1).bind fun t145 => (if x21 < (x5.length : Int) then (spec_DrawTold.l1 k x1 (x5.set (x21 : Int).toNat t145) x13 x14 x15 x19 x20 (wrap64 (x21 + 1)) x144000 x144001 x144002 x144003 x144004 x144005) else (none))) else (spec_DrawTold.l1 k x1 x5 x13 x14 x15 x19 x20 (wrap64 (x21 + 1)) x144000 x144001 x144002 x144003 x144004 x144005)) else (spec_DrawTold.l1 k x1 x5 x13 x14 x15 x19 x20 (wrap64 (x21 + 1)) x144000 x144001 x144002 x144003 x144004 x144005)) else (none)) else (none)) else (spec_DrawTold.l0 k x1 x5 x13 x14 (wrap64 (x15 + 1)))
end
def spec_DrawTold.f (k : Nat) (l0 : List (S65)) (l1 : List Int) : Option (List ByteArray) := if 0 ≤ (l1.length : Int) then (if ((l1.length : Int) : Int).toNat ≤ 17592186044416 then (spec_DrawTold.l0 k l1 (List.replicate ((l1.length : Int) : Int).toNat (⟨#[]⟩ : ByteArray)) l0 (l0.length : Int) 0) else (none)) else (none)
theorem spec_DrawTold.mono_l : ∀ k, (∀ y0 y1 y2 y3 y4, LeO (spec_DrawTold.l0 k y0 y1 y2 y3 y4) (spec_DrawTold.l0 (k + 1) y0 y1 y2 y3 y4)) ∧ (∀ y0 y1 y2 y3 y4 y5 y6 y7 y8 y9 y10 y11 y12 y13, LeO (spec_DrawTold.l1 k y0 y1 y2 y3 y4 y5 y6 y7 y8 y9 y10 y11 y12 y13) (spec_DrawTold.l1 (k + 1) y0 y1 y2 y3 y4 y5 y6 y7 y8 y9 y10 y11 y12 y13))
  | 0 => ⟨fun _ _ _ _ _ r h => by simp [spec_DrawTold.l0] at h, fun _ _ _ _ _ _ _ _ _ _ _ _ _ _ r h => by simp [spec_DrawTold.l1] at h⟩
  | k + 1 => by
    obtain ⟨ih0, ih1⟩ := spec_DrawTold.mono_l k
    refine ⟨?_, ?_⟩
    · intro y0 y1 y2 y3 y4
      unfold spec_DrawTold.l0
      repeat' first
      | (with_reducible exact ih0 _ _ _ _ _)
      | (with_reducible exact ih1 _ _ _ _ _ _ _ _ _ _ _ _ _ _)
      | (with_reducible exact spec_drawBehind.mono _ _ _)
      | (with_reducible exact LeO.refl _)
      | (with_reducible exact LeO.none _)
      | (with_reducible refine LeO.ite ?_ ?_)
      | (with_reducible refine LeO.bind ?_ (fun _ => ?_))
      | exact ih0 _ _ _ _ _
      | exact ih1 _ _ _ _ _ _ _ _ _ _ _ _ _ _
      | exact spec_drawBehind.mono _ _ _
      | exact LeO.none _
      | refine LeO.ite ?_ ?_
      | refine LeO.bind ?_ (fun _ => ?_)
    · intro y0 y1 y2 y3 y4 y5 y6 y7 y8 y9 y10 y11 y12 y13
      unfold spec_DrawTold.l1
      repeat' first
      | (with_reducible exact ih0 _ _ _ _ _)
      | (with_reducible exact ih1 _ _ _ _ _ _ _ _ _ _ _ _ _ _)
      | (with_reducible exact spec_drawBehind.mono _ _ _)
      | (with_reducible exact LeO.refl _)
      | (with_reducible exact LeO.none _)
      | (with_reducible refine LeO.ite ?_ ?_)
      | (with_reducible refine LeO.bind ?_ (fun _ => ?_))
      | exact ih0 _ _ _ _ _
      | exact ih1 _ _ _ _ _ _ _ _ _ _ _ _ _ _
      | exact spec_drawBehind.mono _ _ _
      | exact LeO.none _
      | refine LeO.ite ?_ ?_
      | refine LeO.bind ?_ (fun _ => ?_)
theorem spec_DrawTold.mono : ∀ a0 a1 k, LeO (spec_DrawTold.f k a0 a1) (spec_DrawTold.f (k + 1) a0 a1) := by
  intro a0 a1 k
  obtain ⟨ih0, ih1⟩ := spec_DrawTold.mono_l k
  unfold spec_DrawTold.f
  repeat' first
      | (with_reducible exact ih0 _ _ _ _ _)
      | (with_reducible exact ih1 _ _ _ _ _ _ _ _ _ _ _ _ _ _)
      | (with_reducible exact spec_drawBehind.mono _ _ _)
      | (with_reducible exact LeO.refl _)
      | (with_reducible exact LeO.none _)
      | (with_reducible refine LeO.ite ?_ ?_)
      | (with_reducible refine LeO.bind ?_ (fun _ => ?_))
      | exact ih0 _ _ _ _ _
      | exact ih1 _ _ _ _ _ _ _ _ _ _ _ _ _ _
      | exact spec_drawBehind.mono _ _ _
      | exact LeO.none _
      | refine LeO.ite ?_ ?_
      | refine LeO.bind ?_ (fun _ => ?_)
end Go.Proofs.YtjkjnhcnmjknmaaGreatDoor.Y
end
section
namespace Go.Proofs.YtjkjnhcnmjknmaaGreatDoor.Y
open Go.RowKit Go.Proofs.YtjkjnhcnmjknmaaGreatDoorW.PrintWords Go.Proofs.YtjkjnhcnmjknmaaGreatDoorW.PrintLast Go.Proofs.YtjkjnhcnmjknmaaGreatDoorW.PrintMore
abbrev SEv := S65
def nums (l : List UInt8) : List Int := l.map fun b => (b.toNat : Int)
def nn (l : List UInt8) : List Nat := l.map UInt8.toNat
theorem strOf_nums (l : List UInt8) : strOfNums (nums l) = ⟨l.toArray⟩ := by
  apply ByteArray.ext
  apply Array.toList_inj.1
  simp [strOfNums, nums, Function.comp_def]
theorem bt_get (s : ByteArray) (i : Nat) (b : UInt8) (h : s.data.toList[i]? = some b) : bt s (i : Int) = (b.toNat : Int) := by
  rw [← rd_bytesOf, rd, Int.toNat_natCast, List.getD_eq_getElem?_getD, bytesOf, List.getElem?_map, h]
  rfl
theorem wup (i : Nat) (h : i < 1000000000000) : wrap64 ((i : Int) + 1) = ((i + 1 : Nat) : Int) := by rw [wrap64_of _ (by omega) (by omega)]; omega
/-- Behind the first ';'. -/
theorem behind_l0 (s : ByteArray) (p q : List UInt8) (hs : s.data.toList = p ++ 59 :: q) (hp : ∀ b ∈ p, b ≠ 59) (hl : s.size ≤ 100000) : ∀ (m i k : Nat), i + m = p.length → m + 1 ≤ k →
    spec_drawBehind.l0 k s 1 (s.size : Int) (i : Int) = some ⟨q.toArray⟩
  | 0, i, k + 1, h, hk => by
    have hlen : s.data.toList.length = s.size := data_length s
    have hL : s.data.toList.length = p.length + (q.length + 1) := by rw [hs]; simp
    have hi : i = p.length := by omega
    have hb : bt s (i : Int) = 59 := bt_get s i 59 (by rw [hs, hi]; simp)
    have h1 : wrap64 (1 - 1) = 0 := by unfold wrap64; omega
    rw [spec_drawBehind.l0, if_pos (by omega), if_pos (by omega), if_pos (by omega), hb, if_pos rfl, if_pos h1, wup i (by omega), if_pos (by omega), if_pos (by omega), Int.toNat_natCast]
    congr 1
    apply ByteArray.ext
    apply Array.toList_inj.1
    simp only [ByteArray.data_extract, Array.toList_extract, List.extract_eq_take_drop]
    rw [hs, hi, List.take_of_length_le]
    · simp
    · rw [List.length_drop, ← hs]; omega
  | m + 1, i, k + 1, h, hk => by
    have hlen : s.data.toList.length = s.size := data_length s
    have hL : s.data.toList.length = p.length + (q.length + 1) := by rw [hs]; simp
    have hi : i < p.length := by omega
    have hb : bt s (i : Int) = (p[i].toNat : Int) := bt_get s i p[i] (by rw [hs, List.getElem?_append_left hi, List.getElem?_eq_getElem hi])
    have hne : ¬ (p[i].toNat : Int) = 59 := fun e => hp _ (List.getElem_mem hi) (UInt8.toNat_inj.1 (by show _ = 59; omega))
    rw [spec_drawBehind.l0, if_pos (by omega), if_pos (by omega), if_pos (by omega), hb, if_neg hne, wup i (by omega)]
    exact behind_l0 s p q hs hp hl m (i + 1) k (by omega) (by omega)
theorem behind_f (p q : List UInt8) (hp : ∀ b ∈ p, b ≠ 59) (hl : p.length + q.length ≤ 90000) (k : Nat) (hk : p.length + 1 ≤ k) :
    spec_drawBehind.f k (strOfNums (nums (p ++ 59 :: q))) 1 = some ⟨q.toArray⟩ := by
  rw [strOf_nums]
  unfold spec_drawBehind.f
  exact behind_l0 ⟨(p ++ 59 :: q).toArray⟩ p q rfl hp (by show (p ++ 59 :: q).toArray.size ≤ _; simp; omega) p.length 0 k (by omega) hk
/-- One command told, to those that ask for it. -/
def tell (cs : List Int) (c : Int) (t : ByteArray) (v : List ByteArray) : List ByteArray := List.zipWith (fun d x => if c = d then t else x) cs v
theorem tell_len (cs : List Int) (c : Int) (t : ByteArray) (v : List ByteArray) (h : v.length = cs.length) : (tell cs c t v).length = cs.length := by
  unfold tell
  rw [List.length_zipWith, h, Nat.min_self]
theorem told_l1 (cs : List Int) (hcs : cs.length ≤ 100) (E : List SEv) (x14 x15 g0 g1 g2 g3 : Int) (g4 g5 : List Int) (t : ByteArray) (kb : Nat) (h0 : g0 = 5) (ht : spec_drawBehind.f kb (strOfNums g5) 1 = some t) :
    ∀ (cb ca : List Int) (a b : List ByteArray) (j : Nat), ca ++ cb = cs → ca.length = a.length → cb.length = b.length → kb ≤ j →
      spec_DrawTold.l1 (j + cb.length + 1) cs (a ++ b) E x14 x15 cs (cs.length : Int) (ca.length : Int) g0 g1 g2 g3 g4 g5 = spec_DrawTold.l0 j cs (a ++ tell cb g3 t b) E x14 (wrap64 (x15 + 1))
  | [], ca, a, b, j, hc, ha, hb, hj => by
    have hb0 : b = [] := List.length_eq_zero_iff.1 hb.symm
    subst hb0
    have hL := congrArg List.length hc
    simp only [List.length_append, List.length_nil] at hL
    rw [spec_DrawTold.l1, if_neg (by omega)]
    simp [tell]
  | d :: cb, ca, a, [], j, hc, ha, hb, hj => by simp at hb
  | d :: cb, ca, a, x :: b, j, hc, ha, hb, hj => by
    have hL := congrArg List.length hc
    simp only [List.length_append, List.length_cons] at hL hb
    have hr : rd cs (ca.length : Int) = d := by rw [← hc]; simp [rd]
    have ih := fun z => told_l1 cs hcs E x14 x15 g0 g1 g2 g3 g4 g5 t kb h0 ht cb (ca ++ [d]) (a ++ [z]) b j (by rw [← hc]; simp) (by simp [ha]) (by omega) hj
    have hk : j + (d :: cb).length + 1 = (j + cb.length + 1) + 1 := by simp; omega
    have e1 : ((ca ++ [d]).length : Int) = ((ca.length + 1 : Nat) : Int) := by simp
    rw [hk, spec_DrawTold.l1, if_pos (by omega), if_pos (by omega), if_pos (by omega), if_pos h0, hr, wup _ (by omega)]
    by_cases hd : g3 = d
    · have ih1 := ih t
      rw [e1] at ih1
      rw [if_pos hd, lift (spec_drawBehind.mono _ _) (by omega) ht, Option.bind_some, if_pos (by simp; omega), Int.toNat_natCast, ha, ← ha]
      have e2 : (a ++ x :: b).set ca.length t = (a ++ [t]) ++ b := by rw [ha]; simp
      rw [e2, ih1]
      simp [tell, hd]
    · have ih1 := ih x
      rw [e1] at ih1
      rw [if_neg hd]
      have e2 : (a ++ x :: b) = (a ++ [x]) ++ b := by simp
      rw [e2, ih1]
      simp [tell, hd]
theorem rdU_of_drop {l r : List SEv} {a : SEv} {i : Nat} (h : l.drop i = a :: r) : i < l.length ∧ rd_T65 l (i : Int) = a ∧ l.drop (i + 1) = r := by
  have hi : i < l.length := by
    rcases Nat.lt_or_ge i l.length with h' | h'
    · exact h'
    · rw [List.drop_of_length_le h'] at h
      cases h
  have h2 := List.drop_eq_getElem_cons hi
  rw [h] at h2
  injection h2 with h3 h4
  exact ⟨hi, by rw [rdU_at l i hi, h3], h4.symm⟩
section
variable {α : Type} (g : α → SEv) (c : α → Int) (t : α → ByteArray) (kb : Nat)
theorem told_l0 (cs : List Int) (hcs : cs.length ≤ 100) (E : List SEv) (hE : E.length ≤ 1000000) : ∀ (l : List α) (i k : Nat) (v : List ByteArray), (∀ a ∈ l, (g a).f0 = 5 ∧ (g a).f3 = c a ∧ spec_drawBehind.f kb (strOfNums (g a).f5) 1 = some (t a)) →
    E.drop i = l.map g → v.length = cs.length → kb + l.length * (cs.length + 2) + 1 ≤ k →
    spec_DrawTold.l0 k cs v E (E.length : Int) (i : Int) = some (l.foldl (fun v a => tell cs (c a) (t a) v) v)
  | [], i, k, v, _, hd, hv, hk => by
    obtain ⟨k, rfl⟩ : ∃ k', k = k' + 1 := ⟨k - 1, by omega⟩
    have hi : E.length ≤ i := by
      rcases Nat.lt_or_ge i E.length with h | h
      · rw [List.drop_eq_getElem_cons h] at hd
        cases hd
      · exact h
    rw [spec_DrawTold.l0, if_neg (by omega)]
    rfl
  | a :: l, i, k, v, hg, hd, hv, hk => by
    obtain ⟨h1, h2, h3⟩ := rdU_of_drop hd
    obtain ⟨g0, g3, gt⟩ := hg a (by simp)
    have hm : (a :: l).length * (cs.length + 2) = l.length * (cs.length + 2) + (cs.length + 2) := by rw [List.length_cons, Nat.succ_mul]
    obtain ⟨k, rfl⟩ : ∃ k', k = (k' + cs.length + 1) + 1 := ⟨k - cs.length - 2, by omega⟩
    have e1 := told_l1 cs hcs E (E.length : Int) (i : Int) (g a).f0 (g a).f1 (g a).f2 (g a).f3 (g a).f4 (g a).f5 (t a) kb g0 gt cs [] [] v k rfl rfl hv.symm (by omega)
    rw [spec_DrawTold.l0, if_pos (by omega), if_pos (by omega), if_pos (by omega), h2]
    have e2 : ((([] : List Int).length : Nat) : Int) = 0 := rfl
    rw [e2, List.nil_append, List.nil_append, g3, wup i (by omega)] at e1
    rw [g3, e1]
    exact told_l0 cs hcs E hE l (i + 1) k _ (fun b hb => hg b (List.mem_cons_of_mem _ hb)) h3 (tell_len _ _ _ _ hv) (by omega)
theorem told_f (cs : List Int) (hcs : cs.length ≤ 100) (l : List α) (hl : l.length ≤ 1000000) (hg : ∀ a ∈ l, (g a).f0 = 5 ∧ (g a).f3 = c a ∧ spec_drawBehind.f kb (strOfNums (g a).f5) 1 = some (t a)) (k : Nat) (hk : kb + l.length * (cs.length + 2) + 1 ≤ k) :
    spec_DrawTold.f k (l.map g) cs = some (l.foldl (fun v a => tell cs (c a) (t a) v) (List.replicate cs.length ⟨#[]⟩)) := by
  unfold spec_DrawTold.f
  rw [if_pos (by omega), Int.toNat_natCast, if_pos (by omega)]
  exact told_l0 g c t kb cs hcs (l.map g) (by simpa using hl) l 0 k _ hg (by simp) (by simp) hk
end
/-- The text of a system command. -/
theorem run_osc (cmd : Int) (hc : cmd ≠ X.Miss) (r : List UInt8) : ∀ d : List Int, (∀ b ∈ r, 32 ≤ b.toNat ∧ b.toNat ≤ 126) → d.length + r.length ≤ 4000 → X.run (.osc cmd d) (nn r) = some (.osc cmd (d ++ nums r), []) := by
  induction r with
  | nil => intro d _ _; simp [nn, nums, X.run]
  | cons b r ih =>
    intro d hb hl
    obtain ⟨b0, b1⟩ := hb b (by simp)
    have h1 : X.step (.osc cmd d) b.toNat = some (.osc cmd (d ++ [(b.toNat : Int)]), []) := by
      simp only [X.step]
      rw [if_pos (by omega), if_pos (by simp only [List.length_cons] at hl; omega), if_neg (fun h => hc h.2)]
    have h2 := ih (d ++ [(b.toNat : Int)]) (fun c hc => hb c (List.mem_cons_of_mem _ hc)) (by simp only [List.length_append, List.length_cons, List.length_nil] at hl ⊢; omega)
    show X.run _ (b.toNat :: nn r) = _
    rw [X.run, h1, Option.bind_some, h2]
    simp [nums, List.append_assoc]
theorem osc_run (c : Int) (hc : c ≠ X.Miss) (p : List UInt8) (hp : X.run .gr ([27, 93] ++ nn p ++ [59]) = some (.osc c (nums (p ++ [59])), [])) (s : List UInt8) (hs : ∀ b ∈ s, 32 ≤ b.toNat ∧ b.toNat ≤ 126) (hl : p.length + s.length ≤ 3990) :
    X.run .gr ([27, 93] ++ nn p ++ [59] ++ nn s ++ [7]) = some (.gr, [X.evOsc c (nums (p ++ 59 :: s))]) := by
  have h1 := X.run_of hp (run_osc c hc s (nums (p ++ [59])) hs (by simp [nums]; omega))
  have h2 : X.run (.osc c (nums (p ++ [59]) ++ nums s)) [7] = some (.gr, [X.evOsc c (nums (p ++ 59 :: s))]) := by
    have : nums (p ++ [59]) ++ nums s = nums (p ++ 59 :: s) := by simp [nums]
    rw [this]
    simp [X.run, X.step, hc]
  exact X.run_of h1 h2
end Go.Proofs.YtjkjnhcnmjknmaaGreatDoor.Y
end
section
namespace Go.Proofs.YtjkjnhcnmjknmaaGreatDoor.Y
open Go.RowKit Go.Proofs.YtjkjnhcnmjknmaaGreatDoorW.PrintWords Go.Proofs.YtjkjnhcnmjknmaaGreatDoorW.PrintLast Go.Proofs.YtjkjnhcnmjknmaaGreatDoorW.PrintMore
attribute [local go_sem] max2_int min2_int max_two min_two max_three min_three max_four min_four   -- for this text's walks alone
set_option linter.unusedVariables false
set_option linter.unusedSimpArgs false
/-! ### spec_DrawWord: function 22 -/
def spec_DrawWord.l0 : Nat → ByteArray → Int → Int → Int → Option (Bool)
  | 0, _, _, _, _ => none
  | k + 1, x0, x1, x9, x10 => if x10 < x9 then (if 0 ≤ x10 then (if x10 < (x0.size : Int) then (if 97 ≤ (bt x0 x10) then (if (bt x0 x10) ≤ 122 then (spec_DrawWord.l0 k x0 x1 x9 (wrap64 (x10 + 1))) else (if 65 ≤ (bt x0 x10) then (if ((bt x0 x10) ≤ 90) then (spec_DrawWord.l0 k x0 x1 x9 (wrap64 (x10 + 1))) else (if x10 = 0 then (some false) else (if (bt x0 x10) < 48 then (if (bt x0 x10) = 32 then (spec_DrawWord.l0 k x0 x1 x9 (wrap64 (x10 + 1))) else (if (bt x0 x10) = 46 then (spec_DrawWord.l0 k x0 x1 x9 (wrap64 (x10 + 1))) else (some false))) else (if (bt x0 x10) > 57 then (if (bt x0 x10) = 32 then (spec_DrawWord.l0 k x0 x1 x9 (wrap64 (x10 + 1))) else (if (bt x0 x10) = 46 then (spec_DrawWord.l0 k x0 x1 x9 (wrap64 (x10 + 1))) else (some false))) else (spec_DrawWord.l0 k x0 x1 x9 (wrap64 (x10 + 1))))))) else (if x10 = 0 then (some false) else (if (bt x0 x10) < 48 then (if (bt x0 x10) = 32 then (spec_DrawWord.l0 k x0 x1 x9 (wrap64 (x10 + 1))) else (if (bt x0 x10) = 46 then (spec_DrawWord.l0 k x0 x1 x9 (wrap64 (x10 + 1))) else (some false))) else (if (bt x0 x10) > 57 then (if (bt x0 x10) = 32 then (spec_DrawWord.l0 k x0 x1 x9 (wrap64 (x10 + 1))) else (if (bt x0 x10) = 46 then (spec_DrawWord.l0 k x0 x1 x9 (wrap64 (x10 + 1))) else (some false))) else (spec_DrawWord.l0 k x0 x1 x9 (wrap64 (x10 + 1)))))))) else (if 65 ≤ (bt x0 x10) then (if ((bt x0 x10) ≤ 90) then (spec_DrawWord.l0 k x0 x1 x9 (wrap64 (x10 + 1))) else (if x10 = 0 then (some false) else (if (bt x0 x10) < 48 then (if (bt x0 x10) = 32 then (spec_DrawWord.l0 k x0 x1 x9 (wrap64 (x10 + 1))) else (if (bt x0 x10) = 46 then (spec_DrawWord.l0 k x0 x1 x9 (wrap64 (x10 + 1))) else (some false))) else (if (bt x0 x10) > 57 then (if (bt x0 x10) = 32 then (spec_DrawWord.l0 k x0 x1 x9 (wrap64 (x10 + 1))) else (if (bt x0 x10) = 46 then (spec_DrawWord.l0 k x0 x1 x9 (wrap64 (x10 + 1))) else (some false))) else (spec_DrawWord.l0 k x0 x1 x9 (wrap64 (x10 + 1))))))) else (if x10 = 0 then (some false) else (if (bt x0 x10) < 48 then (if (bt x0 x10) = 32 then (spec_DrawWord.l0 k x0 x1 x9 (wrap64 (x10 + 1))) else (if (bt x0 x10) = 46 then (spec_DrawWord.l0 k x0 x1 x9 (wrap64 (x10 + 1))) else (some false))) else (if (bt x0 x10) > 57 then (if (bt x0 x10) = 32 then (spec_DrawWord.l0 k x0 x1 x9 (wrap64 (x10 + 1))) else (if (bt x0 x10) = 46 then (spec_DrawWord.l0 k x0 x1 x9 (wrap64 (x10 + 1))) else (some false))) else (spec_DrawWord.l0 k x0 x1 x9 (wrap64 (x10 + 1)))))))) else (none)) else (none)) else (if (x0.size : Int) ≥ 1 then (some (decide ((x0.size : Int) ≤ x1))) else (some false))
def spec_DrawWord.f (k : Nat) (a0 : ByteArray) (a1 : Int) : Option (Bool) := spec_DrawWord.l0 k a0 a1 (a0.size : Int) 0
theorem spec_DrawWord.mono_l : ∀ k, (∀ y0 y1 y2 y3, LeO (spec_DrawWord.l0 k y0 y1 y2 y3) (spec_DrawWord.l0 (k + 1) y0 y1 y2 y3))
  | 0 => fun _ _ _ _ r h => by simp [spec_DrawWord.l0] at h
  | k + 1 => by
    have ih0 := spec_DrawWord.mono_l k
    · intro y0 y1 y2 y3
      unfold spec_DrawWord.l0
      repeat' first
      | (with_reducible exact ih0 _ _ _ _)
      | (with_reducible exact LeO.refl _)
      | (with_reducible exact LeO.none _)
      | (with_reducible refine LeO.ite ?_ ?_)
      | (with_reducible refine LeO.bind ?_ (fun _ => ?_))
      | exact ih0 _ _ _ _
      | exact LeO.none _
      | refine LeO.ite ?_ ?_
      | refine LeO.bind ?_ (fun _ => ?_)
theorem spec_DrawWord.mono : ∀ a0 a1 k, LeO (spec_DrawWord.f k a0 a1) (spec_DrawWord.f (k + 1) a0 a1) := by
  intro a0 a1 k
  have ih0 := spec_DrawWord.mono_l k
  unfold spec_DrawWord.f
  repeat' first
      | (with_reducible exact ih0 _ _ _ _)
      | (with_reducible exact LeO.refl _)
      | (with_reducible exact LeO.none _)
      | (with_reducible refine LeO.ite ?_ ?_)
      | (with_reducible refine LeO.bind ?_ (fun _ => ?_))
      | exact ih0 _ _ _ _
      | exact LeO.none _
      | refine LeO.ite ?_ ?_
      | refine LeO.bind ?_ (fun _ => ?_)
end Go.Proofs.YtjkjnhcnmjknmaaGreatDoor.Y
end
section
namespace Go.Proofs.YtjkjnhcnmjknmaaGreatDoor.Y
open Go.RowKit Go.Proofs.YtjkjnhcnmjknmaaGreatDoorW.PrintWords Go.Proofs.YtjkjnhcnmjknmaaGreatDoorW.PrintLast Go.Proofs.YtjkjnhcnmjknmaaGreatDoorW.PrintMore
attribute [local go_sem] max2_int min2_int max_two min_two max_three min_three max_four min_four   -- for this text's walks alone
set_option linter.unusedVariables false
set_option linter.unusedSimpArgs false
/-! ### laws_zzFits8: function 46 -/
def laws_zzFits8.f (a0_0 : Int) (a0_1 : ByteArray) : Option (Bool) := if (a0_1.size : Int) > 2147483647 then (some false) else (some true)
end Go.Proofs.YtjkjnhcnmjknmaaGreatDoor.Y
end
section
namespace Go.Proofs.YtjkjnhcnmjknmaaGreatDoor.Y
open Go.RowKit Go.Proofs.YtjkjnhcnmjknmaaGreatDoorW.PrintWords Go.Proofs.YtjkjnhcnmjknmaaGreatDoorW.PrintLast Go.Proofs.YtjkjnhcnmjknmaaGreatDoorW.PrintMore
attribute [local go_sem] max2_int min2_int max_two min_two max_three min_three max_four min_four   -- for this text's walks alone
set_option linter.unusedVariables false
set_option linter.unusedSimpArgs false
/-! ### laws_zzFits7: function 26 -/
def laws_zzFits7.l0 : Nat → List (S62) → Int → Int → Option (Bool)
  | 0, _, _, _ => none
  | k + 1, x8, x9, x10 => if x10 < x9 then (if 0 ≤ x10 then (if x10 < (x8.length : Int) then ((laws_zzFits8.f ((rd_T62 x8 x10).f0) ((rd_T62 x8 x10).f1)).bind fun t130 => (if t130 = true then (laws_zzFits7.l0 k x8 x9 (wrap64 (x10 + 1))) else (some false))) else (none)) else (none)) else (some true)
def laws_zzFits7.f (k : Nat) (l0 : List (S62)) : Option (Bool) := if (l0.length : Int) > 2147483647 then (some false) else (laws_zzFits7.l0 k l0 (l0.length : Int) 0)
theorem laws_zzFits7.mono_l : ∀ k, (∀ y0 y1 y2, LeO (laws_zzFits7.l0 k y0 y1 y2) (laws_zzFits7.l0 (k + 1) y0 y1 y2))
  | 0 => fun _ _ _ r h => by simp [laws_zzFits7.l0] at h
  | k + 1 => by
    have ih0 := laws_zzFits7.mono_l k
    · intro y0 y1 y2
      unfold laws_zzFits7.l0
      repeat' first
      | (with_reducible exact ih0 _ _ _)
      | (with_reducible exact LeO.refl _)
      | (with_reducible exact LeO.none _)
      | (with_reducible refine LeO.ite ?_ ?_)
      | (with_reducible refine LeO.bind ?_ (fun _ => ?_))
      | exact ih0 _ _ _
      | exact LeO.none _
      | refine LeO.ite ?_ ?_
      | refine LeO.bind ?_ (fun _ => ?_)
theorem laws_zzFits7.mono : ∀ a0 k, LeO (laws_zzFits7.f k a0) (laws_zzFits7.f (k + 1) a0) := by
  intro a0 k
  have ih0 := laws_zzFits7.mono_l k
  unfold laws_zzFits7.f
  repeat' first
      | (with_reducible exact ih0 _ _ _)
      | (with_reducible exact LeO.refl _)
      | (with_reducible exact LeO.none _)
      | (with_reducible refine LeO.ite ?_ ?_)
      | (with_reducible refine LeO.bind ?_ (fun _ => ?_))
      | exact ih0 _ _ _
      | exact LeO.none _
      | refine LeO.ite ?_ ?_
      | refine LeO.bind ?_ (fun _ => ?_)
end Go.Proofs.YtjkjnhcnmjknmaaGreatDoor.Y
end
section
namespace Go.Proofs.YtjkjnhcnmjknmaaGreatDoor.Y
open Go.RowKit Go.Proofs.YtjkjnhcnmjknmaaGreatDoorW.PrintWords Go.Proofs.YtjkjnhcnmjknmaaGreatDoorW.PrintLast Go.Proofs.YtjkjnhcnmjknmaaGreatDoorW.PrintMore
set_option linter.unusedSimpArgs false
def Says (x : Option Bool) (p : Prop) : Prop := ∃ b, x = some b ∧ (b = true → p)
theorem says_false {p : Prop} : Says (some false) p := ⟨false, rfl, fun h => by cases h⟩
theorem says_of {b : Bool} {p : Prop} (h : b = true → p) : Says (some b) p := ⟨b, rfl, h⟩
def WByte (b : UInt8) : Prop := 32 ≤ b.toNat ∧ b.toNat ≤ 126 ∧ b.toNat ≠ 59
def WText (n : Nat) (s : ByteArray) : Prop := (∀ b ∈ s.data.toList, WByte b) ∧ 1 ≤ s.size ∧ s.size ≤ n
theorem word_l0 (n : Nat) (hn : n ≤ 1000) (s : ByteArray) (hl : s.size ≤ 2147483647) : ∀ (m i k : Nat), i + m = s.size → m < k → (∀ b ∈ s.data.toList.take i, WByte b) →
    Says (spec_DrawWord.l0 k s (n : Int) (s.size : Int) (i : Int)) (WText n s)
  | 0, i, k + 1, h, hk, hb => by
    have hlen : s.data.toList.length = s.size := data_length s
    rw [List.take_of_length_le (by omega)] at hb
    rw [spec_DrawWord.l0, if_neg (by omega)]
    by_cases h1 : (s.size : Int) ≥ 1
    · rw [if_pos h1]
      exact says_of fun h2 => ⟨hb, by omega, by have := of_decide_eq_true h2; omega⟩
    · rw [if_neg h1]; exact says_false
  | m + 1, i, k + 1, h, hk, hb => by
    have hlen : s.data.toList.length = s.size := data_length s
    have hi : i < s.data.toList.length := by omega
    have hrec : WByte s.data.toList[i] → Says (spec_DrawWord.l0 k s (n : Int) (s.size : Int) ((i + 1 : Nat) : Int)) (WText n s) := fun hw => by
      refine word_l0 n hn s hl m (i + 1) k (by omega) (by omega) (fun b hb2 => ?_)
      rw [List.take_succ_eq_append_getElem hi] at hb2
      rcases List.mem_append.1 hb2 with hb2 | hb2
      · exact hb b hb2
      · rw [List.mem_singleton.1 hb2]; exact hw
    unfold WByte at hrec
    have h255 := (s.data.toList[i]).toNat_lt
    rw [spec_DrawWord.l0, if_pos (by omega), if_pos (by omega), if_pos (by omega), bt_get s i s.data.toList[i] (by rw [List.getElem?_eq_getElem hi]), wup i (by omega)]
    generalize spec_DrawWord.l0 k s (n : Int) (s.size : Int) ((i + 1 : Nat) : Int) = R at hrec ⊢
    generalize (s.data.toList[i]).toNat = c at hrec h255 ⊢
    clear hb hlen
    repeat' split
    all_goals first | exact says_false | exact hrec (by omega)
theorem word_f (n : Nat) (hn : n ≤ 1000) (s : ByteArray) (hl : s.size ≤ 2147483647) (k : Nat) (hk : s.size < k) : Says (spec_DrawWord.f k s (n : Int)) (WText n s) := by
  unfold spec_DrawWord.f
  exact word_l0 n hn s hl s.size 0 k (by omega) hk (by simp)
abbrev Ti := S62
theorem rdTi_at (l : List Ti) (i : Nat) (h : i < l.length) : rd_T62 l (i : Int) = l[i] := by
  simp [rd_T62, h]
def TiFits (l : List Ti) : Prop := l.length ≤ 2147483647 ∧ ∀ t ∈ l, t.f1.size ≤ 2147483647
theorem fitsTi_l0 (l : List Ti) (hl : l.length ≤ 2147483647) : ∀ (m i k : Nat), i + m = l.length → m < k → (∀ t ∈ l.take i, t.f1.size ≤ 2147483647) → Says (laws_zzFits7.l0 k l (l.length : Int) (i : Int)) (TiFits l)
  | 0, i, k + 1, h, hk, hp => by
    rw [List.take_of_length_le (by omega)] at hp
    rw [laws_zzFits7.l0, if_neg (by omega)]
    exact says_of (fun _ => ⟨hl, hp⟩)
  | m + 1, i, k + 1, h, hk, hp => by
    have hi : i < l.length := by omega
    rw [laws_zzFits7.l0, if_pos (by omega), if_pos (by omega), if_pos (by omega), rdTi_at l i hi, wup i (by omega)]
    unfold laws_zzFits8.f
    by_cases c1 : (l[i].f1.size : Int) > 2147483647
    · rw [if_pos c1, Option.bind_some, if_neg (by simp)]; exact says_false
    rw [if_neg c1, Option.bind_some, if_pos rfl]
    refine fitsTi_l0 l hl m (i + 1) k (by omega) (by omega) (fun o ho => ?_)
    rw [List.take_succ_eq_append_getElem hi] at ho
    rcases List.mem_append.1 ho with ho | ho
    · exact hp o ho
    · rw [List.mem_singleton.1 ho]
      omega
theorem fitsTi_f (l : List Ti) (k : Nat) (hk : 2147483650 ≤ k) : Says (laws_zzFits7.f k l) (TiFits l) := by
  unfold laws_zzFits7.f
  by_cases c : (l.length : Int) > 2147483647
  · rw [if_pos c]; exact says_false
  · rw [if_neg c]
    exact fitsTi_l0 l (by omega) l.length 0 k (by omega) (by omega) (by simp)
theorem wbytes {n : Nat} {s : ByteArray} (h : WText n s) : ∀ b ∈ s.data.toList, 32 ≤ b.toNat ∧ b.toNat ≤ 126 := fun b hb => ⟨(h.1 b hb).1, (h.1 b hb).2.1⟩
theorem data_eta (s : ByteArray) : (⟨s.data.toList.toArray⟩ : ByteArray) = s := by
  apply ByteArray.ext
  simp
/-- A text behind a number of one or two digits, as an event. -/
def evText (c : Int) (p : List UInt8) (s : ByteArray) : X.Ev := X.evOsc c (nums (p ++ 59 :: s.data.toList))
theorem evText_run (c : Int) (hc : c ≠ X.Miss) (p : List UInt8) (hp : X.run .gr ([27, 93] ++ nn p ++ [59]) = some (.osc c (nums (p ++ [59])), [])) (hpl : p.length ≤ 10) (s : ByteArray) (hs : WText 20 s) (t : ByteArray)
    (ht : X.nb t = [27, 93] ++ nn p ++ [59] ++ nn s.data.toList ++ [7]) : X.run .gr (X.nb t) = some (.gr, [evText c p s]) := by
  have hlen : s.data.toList.length = s.size := data_length s
  have h3 := hs.2.2
  rw [ht]
  exact osc_run c hc p hp _ (wbytes hs) (by omega)
theorem evText_told (c : Int) (p : List UInt8) (hp : ∀ b ∈ p, b ≠ 59) (hpl : p.length ≤ 9) (s : ByteArray) (hs : s.size ≤ 1000) :
    (cv (X.toS (evText c p s))).f0 = 5 ∧ (cv (X.toS (evText c p s))).f3 = c ∧ spec_drawBehind.f 10 (strOfNums (cv (X.toS (evText c p s))).f5) 1 = some s := by
  have hlen : s.data.toList.length = s.size := data_length s
  refine ⟨rfl, rfl, ?_⟩
  have := behind_f p s.data.toList hp (by omega) 10 (by omega)
  rw [data_eta] at this
  exact this
end Go.Proofs.YtjkjnhcnmjknmaaGreatDoor.Y
end
section
namespace Go.Proofs.YtjkjnhcnmjknmaaGreatDoor.Y
open Go.RowKit Go.Proofs.YtjkjnhcnmjknmaaGreatDoorW.PrintWords Go.Proofs.YtjkjnhcnmjknmaaGreatDoorW.PrintLast Go.Proofs.YtjkjnhcnmjknmaaGreatDoorW.PrintMore
attribute [local go_sem] max2_int min2_int max_two min_two max_three min_three max_four min_four   -- for this text's walks alone
set_option linter.unusedVariables false
set_option linter.unusedSimpArgs false
/-! ### xansi_SetWindowTitle: function 47 -/
def xansi_SetWindowTitle.f (a0 : ByteArray) : Option (ByteArray) := if 4 + a0.size ≤ 9223372036854775807 then (if 4 + a0.size + 1 ≤ 9223372036854775807 then (some (((⟨#[27, 93, 50, 59]⟩ : ByteArray) ++ a0) ++ (⟨#[7]⟩ : ByteArray))) else (none)) else (none)
end Go.Proofs.YtjkjnhcnmjknmaaGreatDoor.Y
end
section
namespace Go.Proofs.YtjkjnhcnmjknmaaGreatDoor.Y
open Go.RowKit Go.Proofs.YtjkjnhcnmjknmaaGreatDoorW.PrintWords Go.Proofs.YtjkjnhcnmjknmaaGreatDoorW.PrintLast Go.Proofs.YtjkjnhcnmjknmaaGreatDoorW.PrintMore
attribute [local go_sem] max2_int min2_int max_two min_two max_three min_three max_four min_four   -- for this text's walks alone
set_option linter.unusedVariables false
set_option linter.unusedSimpArgs false
/-! ### xansi_SetIconName: function 48 -/
def xansi_SetIconName.f (a0 : ByteArray) : Option (ByteArray) := if 4 + a0.size ≤ 9223372036854775807 then (if 4 + a0.size + 1 ≤ 9223372036854775807 then (some (((⟨#[27, 93, 49, 59]⟩ : ByteArray) ++ a0) ++ (⟨#[7]⟩ : ByteArray))) else (none)) else (none)
end Go.Proofs.YtjkjnhcnmjknmaaGreatDoor.Y
end
section
namespace Go.Proofs.YtjkjnhcnmjknmaaGreatDoor.Y
open Go.RowKit Go.Proofs.YtjkjnhcnmjknmaaGreatDoorW.PrintWords Go.Proofs.YtjkjnhcnmjknmaaGreatDoorW.PrintLast Go.Proofs.YtjkjnhcnmjknmaaGreatDoorW.PrintMore
attribute [local go_sem] max2_int min2_int max_two min_two max_three min_three max_four min_four   -- for this text's walks alone
set_option linter.unusedVariables false
set_option linter.unusedSimpArgs false
/-! ### xansi_SetIconNameWindowTitle: function 49 -/
def xansi_SetIconNameWindowTitle.f (a0 : ByteArray) : Option (ByteArray) := if 4 + a0.size ≤ 9223372036854775807 then (if 4 + a0.size + 1 ≤ 9223372036854775807 then (some (((⟨#[27, 93, 48, 59]⟩ : ByteArray) ++ a0) ++ (⟨#[7]⟩ : ByteArray))) else (none)) else (none)
end Go.Proofs.YtjkjnhcnmjknmaaGreatDoor.Y
end
section
namespace Go.Proofs.YtjkjnhcnmjknmaaGreatDoor.Y
open Go.RowKit Go.Proofs.YtjkjnhcnmjknmaaGreatDoorW.PrintWords Go.Proofs.YtjkjnhcnmjknmaaGreatDoorW.PrintLast Go.Proofs.YtjkjnhcnmjknmaaGreatDoorW.PrintMore
attribute [local go_sem] max2_int min2_int max_two min_two max_three min_three max_four min_four   -- for this text's walks alone
set_option linter.unusedVariables false
set_option linter.unusedSimpArgs false
/-! ### xansi_SetForegroundColor: function 50 -/
def xansi_SetForegroundColor.f (a0 : ByteArray) : Option (ByteArray) := if 5 + a0.size ≤ 9223372036854775807 then (if 5 + a0.size + 1 ≤ 9223372036854775807 then (some (((⟨#[27, 93, 49, 48, 59]⟩ : ByteArray) ++ a0) ++ (⟨#[7]⟩ : ByteArray))) else (none)) else (none)
end Go.Proofs.YtjkjnhcnmjknmaaGreatDoor.Y
end
section
namespace Go.Proofs.YtjkjnhcnmjknmaaGreatDoor.Y
open Go.RowKit Go.Proofs.YtjkjnhcnmjknmaaGreatDoorW.PrintWords Go.Proofs.YtjkjnhcnmjknmaaGreatDoorW.PrintLast Go.Proofs.YtjkjnhcnmjknmaaGreatDoorW.PrintMore
attribute [local go_sem] max2_int min2_int max_two min_two max_three min_three max_four min_four   -- for this text's walks alone
set_option linter.unusedVariables false
set_option linter.unusedSimpArgs false
/-! ### xansi_SetBackgroundColor: function 51 -/
def xansi_SetBackgroundColor.f (a0 : ByteArray) : Option (ByteArray) := if 5 + a0.size ≤ 9223372036854775807 then (if 5 + a0.size + 1 ≤ 9223372036854775807 then (some (((⟨#[27, 93, 49, 49, 59]⟩ : ByteArray) ++ a0) ++ (⟨#[7]⟩ : ByteArray))) else (none)) else (none)
end Go.Proofs.YtjkjnhcnmjknmaaGreatDoor.Y
end
section
namespace Go.Proofs.YtjkjnhcnmjknmaaGreatDoor.Y
open Go.RowKit Go.Proofs.YtjkjnhcnmjknmaaGreatDoorW.PrintWords Go.Proofs.YtjkjnhcnmjknmaaGreatDoorW.PrintLast Go.Proofs.YtjkjnhcnmjknmaaGreatDoorW.PrintMore
attribute [local go_sem] max2_int min2_int max_two min_two max_three min_three max_four min_four   -- for this text's walks alone
set_option linter.unusedVariables false
set_option linter.unusedSimpArgs false
/-! ### xansi_SetCursorColor: function 52 -/
def xansi_SetCursorColor.f (a0 : ByteArray) : Option (ByteArray) := if 5 + a0.size ≤ 9223372036854775807 then (if 5 + a0.size + 1 ≤ 9223372036854775807 then (some (((⟨#[27, 93, 49, 50, 59]⟩ : ByteArray) ++ a0) ++ (⟨#[7]⟩ : ByteArray))) else (none)) else (none)
end Go.Proofs.YtjkjnhcnmjknmaaGreatDoor.Y
end
section
namespace Go.Proofs.YtjkjnhcnmjknmaaGreatDoor.Y
open Go.RowKit Go.Proofs.YtjkjnhcnmjknmaaGreatDoorW.PrintWords Go.Proofs.YtjkjnhcnmjknmaaGreatDoorW.PrintLast Go.Proofs.YtjkjnhcnmjknmaaGreatDoorW.PrintMore
attribute [local go_sem] max2_int min2_int max_two min_two max_three min_three max_four min_four   -- for this text's walks alone
set_option linter.unusedVariables false
set_option linter.unusedSimpArgs false
/-! ### xansi_SetPointerShape: function 53 -/
def xansi_SetPointerShape.f (a0 : ByteArray) : Option (ByteArray) := if 5 + a0.size ≤ 9223372036854775807 then (if 5 + a0.size + 1 ≤ 9223372036854775807 then (some (((⟨#[27, 93, 50, 50, 59]⟩ : ByteArray) ++ a0) ++ (⟨#[7]⟩ : ByteArray))) else (none)) else (none)
end Go.Proofs.YtjkjnhcnmjknmaaGreatDoor.Y
end
section
namespace Go.Proofs.YtjkjnhcnmjknmaaGreatDoor.Y
open Go.RowKit Go.Proofs.YtjkjnhcnmjknmaaGreatDoorW.PrintWords Go.Proofs.YtjkjnhcnmjknmaaGreatDoorW.PrintLast Go.Proofs.YtjkjnhcnmjknmaaGreatDoorW.PrintMore
attribute [local go_sem] max2_int min2_int max_two min_two max_three min_three max_four min_four   -- for this text's walks alone
set_option linter.unusedVariables false
set_option linter.unusedSimpArgs false
/-! ### xansi_Notify: function 54 -/
def xansi_Notify.f (a0 : ByteArray) : Option (ByteArray) := if 4 + a0.size ≤ 9223372036854775807 then (if 4 + a0.size + 1 ≤ 9223372036854775807 then (some (((⟨#[27, 93, 57, 59]⟩ : ByteArray) ++ a0) ++ (⟨#[7]⟩ : ByteArray))) else (none)) else (none)
end Go.Proofs.YtjkjnhcnmjknmaaGreatDoor.Y
end
section
namespace Go.Proofs.YtjkjnhcnmjknmaaGreatDoor.Y
open Go.RowKit Go.Proofs.YtjkjnhcnmjknmaaGreatDoorW.PrintWords Go.Proofs.YtjkjnhcnmjknmaaGreatDoorW.PrintLast Go.Proofs.YtjkjnhcnmjknmaaGreatDoorW.PrintMore
attribute [local go_sem] max2_int min2_int max_two min_two max_three min_three max_four min_four   -- for this text's walks alone
set_option linter.unusedVariables false
set_option linter.unusedSimpArgs false
/-! ### impl_MakeText: function 27 -/
def impl_MakeText.f (a0 : Int) (a1 : ByteArray) : Option (ByteArray) := if a0 = 0 then ((xansi_SetWindowTitle.f a1).bind fun t131 => (some t131)) else (if a0 = 1 then ((xansi_SetIconName.f a1).bind fun t132 => (some t132)) else (if a0 = 2 then ((xansi_SetIconNameWindowTitle.f a1).bind fun t133 => (some t133)) else (if a0 = 3 then ((xansi_SetForegroundColor.f a1).bind fun t134 => (some t134)) else (if a0 = 4 then ((xansi_SetBackgroundColor.f a1).bind fun t135 => (some t135)) else (if a0 = 5 then ((xansi_SetCursorColor.f a1).bind fun t136 => (some t136)) else (if a0 = 6 then ((xansi_SetPointerShape.f a1).bind fun t137 => (some t137)) else (if a0 = 7 then ((xansi_Notify.f a1).bind fun t138 => (some t138)) else (if a0 = 8 then (none) else (if a0 = 9 then (none) else (if a0 = 10 then (none) else (if a0 = 11 then (none) else (if a0 = 12 then (none) else (some (⟨#[]⟩ : ByteArray))))))))))))))
end Go.Proofs.YtjkjnhcnmjknmaaGreatDoor.Y
end
section
namespace Go.Proofs.YtjkjnhcnmjknmaaGreatDoor.Y
open Go.RowKit Go.Proofs.YtjkjnhcnmjknmaaGreatDoorW.PrintWords Go.Proofs.YtjkjnhcnmjknmaaGreatDoorW.PrintLast Go.Proofs.YtjkjnhcnmjknmaaGreatDoorW.PrintMore
attribute [local go_sem] max2_int min2_int max_two min_two max_three min_three max_four min_four   -- for this text's walks alone
set_option linter.unusedVariables false
set_option linter.unusedSimpArgs false
/-! ### laws_FnDrawColors: function 6 -/
mutual
def laws_FnDrawColors.l0 : Nat → List (S62) → List ByteArray → ByteArray → List (S62) → Int → Int → Option (Bool)
  | 0, _, _, _, _, _, _ => none
  | k + 1, x0, x3, x4, x12, x13, x14 => if x14 < x13 then (if 0 ≤ x14 then (if x14 < (x12.length : Int) then (if ((rd_T62 x12 x14).f0) > 2 then (laws_FnDrawColors.j1 k x0 x3 x4 x12 x13 x14 true ((rd_T62 x12 x14).f0) ((rd_T62 x12 x14).f1)) else ((spec_DrawWord.f k ((rd_T62 x12 x14).f1) 20).bind fun t153 => (laws_FnDrawColors.j1 k x0 x3 x4 x12 x13 x14 (!t153) ((rd_T62 x12 x14).f0) ((rd_T62 x12 x14).f1)))) else (none)) else (none)) else (if (x0.length : Int) < 1 then (laws_FnDrawColors.j2 k x3 x4 true) else (laws_FnDrawColors.j2 k x3 x4 (decide ((x0.length : Int) > 8))))
def laws_FnDrawColors.j1 : Nat → List (S62) → List ByteArray → ByteArray → List (S62) → Int → Int → Bool → Int → ByteArray → Option (Bool)
  | 0, _, _, _, _, _, _, _, _, _ => none
  | k + 1, x0, x3, x4, x12, x13, x14, x26, x153000, x153001 => if x26 = true then ((laws_drawAwake.f).bind fun t154 => (some t154)) else ((impl_MakeText.f (wrap64 ((wrap64 (x153000)) + 3)) x153001).bind fun t155 => (if x4.size + t155.size ≤ 9223372036854775807 then (if 0 ≤ x153000 then (if x153000 < (x3.length : Int) then (laws_FnDrawColors.l0 k x0 (x3.set (x153000 : Int).toNat x153001) (x4 ++ t155) x12 x13 (wrap64 (x14 + 1))) else (none)) else (none)) else (none)))
def laws_FnDrawColors.j2 : Nat → List ByteArray → ByteArray → Bool → Option (Bool)
  | 0, _, _, _ => none
  | k + 1, x3, x4, x51 => if x51 = true then ((laws_drawAwake.f).bind fun t157 => (some t157)) else ((gosem_conv.f x4).bind fun t158 => ((impl_Feed.f 32 4096 t158).bind fun t161 => ((laws_drawEvents.f k t161).bind fun t164 => ((spec_DrawTold.f k t164 (([10, 11, 12] : List Int))).bind fun t170 => (if 0 < (t170.length : Int) then (if 0 < (x3.length : Int) then (if (rdOf ByteArray.empty t170 0).toList = (rdOf ByteArray.empty x3 0).toList then (if 1 < (t170.length : Int) then (if 1 < (x3.length : Int) then (if (rdOf ByteArray.empty t170 1).toList = (rdOf ByteArray.empty x3 1).toList then (if 2 < (t170.length : Int) then (if 2 < (x3.length : Int) then (if (rdOf ByteArray.empty t170 2).toList = (rdOf ByteArray.empty x3 2).toList then ((laws_drawAwake.f).bind fun t179 => (some t179)) else (some false)) else (none)) else (none)) else (some false)) else (none)) else (none)) else (some false)) else (none)) else (none))))))
end
def laws_FnDrawColors.f (k : Nat) (l0 : List (S62)) : Option (Bool) := (laws_zzFits7.f k l0).bind fun t147 => (if t147 = true then (if 3 ≤ 17592186044416 then (laws_FnDrawColors.l0 k l0 (List.replicate 3 (⟨#[]⟩ : ByteArray)) (⟨#[]⟩ : ByteArray) l0 (l0.length : Int) 0) else (none)) else (some true))
theorem laws_FnDrawColors.mono_l : ∀ k, (∀ y0 y1 y2 y3 y4 y5, LeO (laws_FnDrawColors.l0 k y0 y1 y2 y3 y4 y5) (laws_FnDrawColors.l0 (k + 1) y0 y1 y2 y3 y4 y5)) ∧ (∀ y0 y1 y2 y3 y4 y5 y6 y7 y8, LeO (laws_FnDrawColors.j1 k y0 y1 y2 y3 y4 y5 y6 y7 y8) (laws_FnDrawColors.j1 (k + 1) y0 y1 y2 y3 y4 y5 y6 y7 y8)) ∧ (∀ y0 y1 y2, LeO (laws_FnDrawColors.j2 k y0 y1 y2) (laws_FnDrawColors.j2 (k + 1) y0 y1 y2))
  | 0 => ⟨fun _ _ _ _ _ _ r h => by simp [laws_FnDrawColors.l0] at h, fun _ _ _ _ _ _ _ _ _ r h => by simp [laws_FnDrawColors.j1] at h, fun _ _ _ r h => by simp [laws_FnDrawColors.j2] at h⟩
  | k + 1 => by
    obtain ⟨ih0, ih1, ih2⟩ := laws_FnDrawColors.mono_l k
    refine ⟨?_, ?_, ?_⟩
    · intro y0 y1 y2 y3 y4 y5
      unfold laws_FnDrawColors.l0
      repeat' first
      | (with_reducible exact ih0 _ _ _ _ _ _)
      | (with_reducible exact ih1 _ _ _ _ _ _ _ _ _)
      | (with_reducible exact ih2 _ _ _)
      | (with_reducible exact laws_drawEvents.mono _ _)
      | (with_reducible exact laws_zzFits7.mono _ _)
      | (with_reducible exact spec_DrawTold.mono _ _ _)
      | (with_reducible exact spec_DrawWord.mono _ _ _)
      | (with_reducible exact LeO.refl _)
      | (with_reducible exact LeO.none _)
      | (with_reducible refine LeO.ite ?_ ?_)
      | (with_reducible refine LeO.bind ?_ (fun _ => ?_))
      | exact ih0 _ _ _ _ _ _
      | exact ih1 _ _ _ _ _ _ _ _ _
      | exact ih2 _ _ _
      | exact laws_drawEvents.mono _ _
      | exact laws_zzFits7.mono _ _
      | exact spec_DrawTold.mono _ _ _
      | exact spec_DrawWord.mono _ _ _
      | exact LeO.none _
      | refine LeO.ite ?_ ?_
      | refine LeO.bind ?_ (fun _ => ?_)
    · intro y0 y1 y2 y3 y4 y5 y6 y7 y8
      unfold laws_FnDrawColors.j1
      repeat' first
      | (with_reducible exact ih0 _ _ _ _ _ _)
      | (with_reducible exact ih1 _ _ _ _ _ _ _ _ _)
      | (with_reducible exact ih2 _ _ _)
      | (with_reducible exact laws_drawEvents.mono _ _)
      | (with_reducible exact laws_zzFits7.mono _ _)
      | (with_reducible exact spec_DrawTold.mono _ _ _)
      | (with_reducible exact spec_DrawWord.mono _ _ _)
      | (with_reducible exact LeO.refl _)
      | (with_reducible exact LeO.none _)
      | (with_reducible refine LeO.ite ?_ ?_)
      | (with_reducible refine LeO.bind ?_ (fun _ => ?_))
      | exact ih0 _ _ _ _ _ _
      | exact ih1 _ _ _ _ _ _ _ _ _
      | exact ih2 _ _ _
      | exact laws_drawEvents.mono _ _
      | exact laws_zzFits7.mono _ _
      | exact spec_DrawTold.mono _ _ _
      | exact spec_DrawWord.mono _ _ _
      | exact LeO.none _
      | refine LeO.ite ?_ ?_
      | refine LeO.bind ?_ (fun _ => ?_)
    · intro y0 y1 y2
      unfold laws_FnDrawColors.j2
      repeat' first
      | (with_reducible exact ih0 _ _ _ _ _ _)
      | (with_reducible exact ih1 _ _ _ _ _ _ _ _ _)
      | (with_reducible exact ih2 _ _ _)
      | (with_reducible exact laws_drawEvents.mono _ _)
      | (with_reducible exact laws_zzFits7.mono _ _)
      | (with_reducible exact spec_DrawTold.mono _ _ _)
      | (with_reducible exact spec_DrawWord.mono _ _ _)
      | (with_reducible exact LeO.refl _)
      | (with_reducible exact LeO.none _)
      | (with_reducible refine LeO.ite ?_ ?_)
      | (with_reducible refine LeO.bind ?_ (fun _ => ?_))
      | exact ih0 _ _ _ _ _ _
      | exact ih1 _ _ _ _ _ _ _ _ _
      | exact ih2 _ _ _
      | exact laws_drawEvents.mono _ _
      | exact laws_zzFits7.mono _ _
      | exact spec_DrawTold.mono _ _ _
      | exact spec_DrawWord.mono _ _ _
      | exact LeO.none _
      | refine LeO.ite ?_ ?_
      | refine LeO.bind ?_ (fun _ => ?_)
theorem laws_FnDrawColors.mono : ∀ a0 k, LeO (laws_FnDrawColors.f k a0) (laws_FnDrawColors.f (k + 1) a0) := by
  intro a0 k
  obtain ⟨ih0, ih1, ih2⟩ := laws_FnDrawColors.mono_l k
  unfold laws_FnDrawColors.f
  repeat' first
      | (with_reducible exact ih0 _ _ _ _ _ _)
      | (with_reducible exact ih1 _ _ _ _ _ _ _ _ _)
      | (with_reducible exact ih2 _ _ _)
      | (with_reducible exact laws_drawEvents.mono _ _)
      | (with_reducible exact laws_zzFits7.mono _ _)
      | (with_reducible exact spec_DrawTold.mono _ _ _)
      | (with_reducible exact spec_DrawWord.mono _ _ _)
      | (with_reducible exact LeO.refl _)
      | (with_reducible exact LeO.none _)
      | (with_reducible refine LeO.ite ?_ ?_)
      | (with_reducible refine LeO.bind ?_ (fun _ => ?_))
      | exact ih0 _ _ _ _ _ _
      | exact ih1 _ _ _ _ _ _ _ _ _
      | exact ih2 _ _ _
      | exact laws_drawEvents.mono _ _
      | exact laws_zzFits7.mono _ _
      | exact spec_DrawTold.mono _ _ _
      | exact spec_DrawWord.mono _ _ _
      | exact LeO.none _
      | refine LeO.ite ?_ ?_
      | refine LeO.bind ?_ (fun _ => ?_)
def laws_FnDrawColors.T16 : Bool × List (List Nat × List Nat) := (true, [([], []), ([0], [0]), ([1], [1]), ([], []), ([3], [3]), ([4], [4]), ([2, 5], [2, 5]), ([6], [6]), ([7], [7]), ([8, 7], [7, 8]), ([9, 7], [7, 9]), ([7], [7]), ([11, 7], [7, 11]), ([12, 7], [7, 12]), ([10, 13, 7], [7, 10, 13]), ([7, 14], [7, 14]), ([15, 7], [15]), ([16], [16]), ([17, 16], [16, 17]), ([18, 16], [16, 18]), ([16], [16]), ([20, 16], [16, 20]), ([21, 16], [16, 21]), ([19, 22, 16], [16, 19, 22]), ([16, 23], [16, 23]), ([24, 16], [24]), ([25, 25], [25]), ([25, 26], [25, 26]), ([27, 26, 0, 1, 2, 3, 4, 5, 6, 7, 8, 9, 10, 11, 12, 13, 14, 15, 16, 17, 18, 19, 20, 21, 22, 23, 24, 25, 26, 27], [27])])
def laws_FnDrawColors.B16 : List Nat := [0, 1, 3, 0, 8, 24, 63, 127, 255, 511, 1023, 255, 2303, 6399, 16383, 32767, 65535, 131071, 262143, 524287, 131071, 1179647, 3276799, 8388607, 16777215, 33554431, 67108863, 134217727, 268435455]
theorem laws_FnDrawColors.tab16 : rtab .any (opsOf Tryz.f6 16) = laws_FnDrawColors.T16 := by kernel_rfl
theorem laws_FnDrawColors.bits16 : waitsOk laws_FnDrawColors.T16.2 laws_FnDrawColors.B16 = true := by kernel_rfl
end Go.Proofs.YtjkjnhcnmjknmaaGreatDoor.Y
end
