/- Texts of this claim, joined: Y48D Y49D XTold XConv2 Y51D Y52D Y53D Y54D Y55D Y56D Y57D. Of each, what the claim uses. -/
import Derived.Test.YtjkjnhcnmjknmaaDoorKad
import Derived.Test.YtjkjnhcnmjknmaaDoorKaq
import Derived.Test.YtjkjnhcnmjknmaaDoorKac
section
namespace Go.Proofs.YtjkjnhcnmjknmaaDoor.Y
open Go.RowKit Go.Proofs.YtjkjnhcnmjknmaaDoorW.PrintWords Go.Proofs.YtjkjnhcnmjknmaaDoorW.PrintLast Go.Proofs.YtjkjnhcnmjknmaaDoorW.PrintMore
attribute [local go_sem] max2_int min2_int max_two min_two max_three min_three max_four min_four   -- for this text's walks alone
set_option linter.unusedVariables false
set_option linter.unusedSimpArgs false
/-! ### spec_drawBehind: function 55 -/
def spec_drawBehind.l0 : Nat → ByteArray → Int → Int → Int → Option (ByteArray)
  | 0, _, _, _, _ => none
  | k + 1, x0, x1, x7, x8 => if x8 < x7 then (if 0 ≤ x8 then (if x8 < (x0.size : Int) then (if (bt x0 x8) = 59 then (if (wrap64 (x1 - 1)) = 0 then (if 0 ≤ (wrap64 (x8 + 1)) then (if (wrap64 (x8 + 1)) ≤ (x0.size : Int) then (some (x0.extract ((wrap64 (x8 + 1)) : Int).toNat x0.size)) else (none)) else (none)) else (spec_drawBehind.l0 k x0 (wrap64 (x1 - 1)) x7 (wrap64 (x8 + 1)))) else (spec_drawBehind.l0 k x0 x1 x7 (wrap64 (x8 + 1)))) else (none)) else (none)) else (some (⟨#[]⟩ : ByteArray))
def spec_drawBehind.f (k : Nat) (a0 : ByteArray) (a1 : Int) : Option (ByteArray) := spec_drawBehind.l0 k a0 a1 (a0.size : Int) 0
theorem spec_drawBehind.mono_l : ∀ k, (∀ y0 y1 y2 y3, LeO (spec_drawBehind.l0 k y0 y1 y2 y3) (spec_drawBehind.l0 (k + 1) y0 y1 y2 y3))
  | 0 => fun _ _ _ _ r h => by simp [spec_drawBehind.l0] at h
  | k + 1 => by
    have ih0 := spec_drawBehind.mono_l k
    · intro y0 y1 y2 y3
      unfold spec_drawBehind.l0
      repeat' first
      | (with_reducible exact ih0 _ _ _ _)
      | (with_reducible exact LeO.refl _)
      | (with_reducible exact LeO.none _)
      | (with_reducible refine LeO.ite ?_ ?_)
      | (with_reducible refine LeO.bind ?_ (fun _ => ?_))
      | exact ih0 _ _ _ _
      | exact LeO.none _
      | refine LeO.ite ?_ ?_
      | refine LeO.bind ?_ (fun _ => ?_)
theorem spec_drawBehind.mono : ∀ a0 a1 k, LeO (spec_drawBehind.f k a0 a1) (spec_drawBehind.f (k + 1) a0 a1) := by
  intro a0 a1 k
  have ih0 := spec_drawBehind.mono_l k
  unfold spec_drawBehind.f
  repeat' first
      | (with_reducible exact ih0 _ _ _ _)
      | (with_reducible exact LeO.refl _)
      | (with_reducible exact LeO.none _)
      | (with_reducible refine LeO.ite ?_ ?_)
      | (with_reducible refine LeO.bind ?_ (fun _ => ?_))
      | exact ih0 _ _ _ _
      | exact LeO.none _
      | refine LeO.ite ?_ ?_
      | refine LeO.bind ?_ (fun _ => ?_)
end Go.Proofs.YtjkjnhcnmjknmaaDoor.Y
end
section
namespace Go.Proofs.YtjkjnhcnmjknmaaDoor.Y
open Go.RowKit Go.Proofs.YtjkjnhcnmjknmaaDoorW.PrintWords Go.Proofs.YtjkjnhcnmjknmaaDoorW.PrintLast Go.Proofs.YtjkjnhcnmjknmaaDoorW.PrintMore
attribute [local go_sem] max2_int min2_int max_two min_two max_three min_three max_four min_four   -- for this text's walks alone
set_option linter.unusedVariables false
set_option linter.unusedSimpArgs false
/-! ### spec_DrawTold: function 12 -/
mutual
def spec_DrawTold.l0 : Nat → List Int → List ByteArray → List (S33) → Int → Int → Option (List ByteArray)
  | 0, _, _, _, _, _ => none
  | k + 1, x1, x5, x13, x14, x15 => if x15 < x14 then (if 0 ≤ x15 then (if x15 < (x13.length : Int) then (spec_DrawTold.l1 k x1 x5 x13 x14 x15 x1 (x1.length : Int) 0 ((rd_T33 x13 x15).f0) ((rd_T33 x13 x15).f1) ((rd_T33 x13 x15).f2) ((rd_T33 x13 x15).f3) ((rd_T33 x13 x15).f4) ((rd_T33 x13 x15).f5)) else (none)) else (none)) else (some x5)
def spec_DrawTold.l1 : Nat → List Int → List ByteArray → List (S33) → Int → Int → List Int → Int → Int → Int → Int → Int → Int → List Int → List Int → Option (List ByteArray)
  | 0, _, _, _, _, _, _, _, _, _, _, _, _, _, _ => none
  | k + 1, x1, x5, x13, x14, x15, x19, x20, x21, x182000, x182001, x182002, x182003, x182004, x182005 => if x21 < x20 then (if 0 ≤ x21 then (if x21 < (x19.length : Int) then (if x182000 = 5 then (if x182003 = (rd x19 x21) then ((spec_drawBehind.f k (strOfNums x182005) 1).bind fun t183 => (if x21 < (x5.length : Int) then (spec_DrawTold.l1 k x1 (x5.set (x21 : Int).toNat t183) x13 x14 x15 x19 x20 (wrap64 (x21 + 1)) x182000 x182001 x182002 x182003 x182004 x182005) else (none))) else (spec_DrawTold.l1 k x1 x5 x13 x14 x15 x19 x20 (wrap64 (x21 + 1)) x182000 x182001 x182002 x182003 x182004 x182005)) else (spec_DrawTold.l1 k x1 x5 x13 x14 x15 x19 x20 (wrap64 (x21 + 1)) x182000 x182001 x182002 x182003 x182004 x182005)) else (none)) else (none)) else (spec_DrawTold.l0 k x1 x5 x13 x14 (wrap64 (x15 + 1)))
end
def spec_DrawTold.f (k : Nat) (l0 : List (S33)) (l1 : List Int) : Option (List ByteArray) := if 0 ≤ (l1.length : Int) then (if ((l1.length : Int) : Int).toNat ≤ 17592186044416 then (spec_DrawTold.l0 k l1 (List.replicate ((l1.length : Int) : Int).toNat (⟨#[]⟩ : ByteArray)) l0 (l0.length : Int) 0) else (none)) else (none)
theorem spec_DrawTold.mono_l : ∀ k, (∀ y0 y1 y2 y3 y4, LeO (spec_DrawTold.l0 k y0 y1 y2 y3 y4) (spec_DrawTold.l0 (k + 1) y0 y1 y2 y3 y4)) ∧ (∀ y0 y1 y2 y3 y4 y5 y6 y7 y8 y9 y10 y11 y12 y13, LeO (spec_DrawTold.l1 k y0 y1 y2 y3 y4 y5 y6 y7 y8 y9 y10 y11 y12 y13) (spec_DrawTold.l1 (k + 1) y0 y1 y2 y3 y4 y5 y6 y7 y8 y9 y10 y11 y12 y13))
  | 0 => ⟨fun _ _ _ _ _ r h => by simp [spec_DrawTold.l0] at h, fun _ _ _ _ _ _ _ _ _ _ _ _ _ _ r h => by simp [spec_DrawTold.l1] at h⟩
  | k + 1 => by
    obtain ⟨ih0, ih1⟩ := spec_DrawTold.mono_l k
    refine ⟨?_, ?_⟩
    · intro y0 y1 y2 y3 y4
      unfold spec_DrawTold.l0
      repeat' first
      | (with_reducible exact ih0 _ _ _ _ _)
      | (with_reducible exact ih1 _ _ _ _ _ _ _ _ _ _ _ _ _ _)
      | (with_reducible exact spec_drawBehind.mono _ _ _)
      | (with_reducible exact LeO.refl _)
      | (with_reducible exact LeO.none _)
      | (with_reducible refine LeO.ite ?_ ?_)
      | (with_reducible refine LeO.bind ?_ (fun _ => ?_))
      | exact ih0 _ _ _ _ _
      | exact ih1 _ _ _ _ _ _ _ _ _ _ _ _ _ _
      | exact spec_drawBehind.mono _ _ _
      | exact LeO.none _
      | refine LeO.ite ?_ ?_
      | refine LeO.bind ?_ (fun _ => ?_)
    · intro y0 y1 y2 y3 y4 y5 y6 y7 y8 y9 y10 y11 y12 y13
      unfold spec_DrawTold.l1
      repeat' first
      | (with_reducible exact ih0 _ _ _ _ _)
      | (with_reducible exact ih1 _ _ _ _ _ _ _ _ _ _ _ _ _ _)
      | (with_reducible exact spec_drawBehind.mono _ _ _)
      | (with_reducible exact LeO.refl _)
      | (with_reducible exact LeO.none _)
      | (with_reducible refine LeO.ite ?_ ?_)
      | (with_reducible refine LeO.bind ?_ (fun _ => ?_))
      | exact ih0 _ _ _ _ _
      | exact ih1 _ _ _ _ _ _ _ _ _ _ _ _ _ _
      | exact spec_drawBehind.mono _ _ _
      | exact LeO.none _
      | refine LeO.ite ?_ ?_
      | refine LeO.bind ?_ (fun _ => ?_)
theorem spec_DrawTold.mono : ∀ a0 a1 k, LeO (spec_DrawTold.f k a0 a1) (spec_DrawTold.f (k + 1) a0 a1) := by
  intro a0 a1 k
  obtain ⟨ih0, ih1⟩ := spec_DrawTold.mono_l k
  unfold spec_DrawTold.f
  repeat' first
      | (with_reducible exact ih0 _ _ _ _ _)
      | (with_reducible exact ih1 _ _ _ _ _ _ _ _ _ _ _ _ _ _)
      | (with_reducible exact spec_drawBehind.mono _ _ _)
      | (with_reducible exact LeO.refl _)
      | (with_reducible exact LeO.none _)
      | (with_reducible refine LeO.ite ?_ ?_)
      | (with_reducible refine LeO.bind ?_ (fun _ => ?_))
      | exact ih0 _ _ _ _ _
      | exact ih1 _ _ _ _ _ _ _ _ _ _ _ _ _ _
      | exact spec_drawBehind.mono _ _ _
      | exact LeO.none _
      | refine LeO.ite ?_ ?_
      | refine LeO.bind ?_ (fun _ => ?_)
end Go.Proofs.YtjkjnhcnmjknmaaDoor.Y
end
section
namespace Go.Proofs.YtjkjnhcnmjknmaaDoor.Y
open Go.RowKit Go.Proofs.YtjkjnhcnmjknmaaDoorW.PrintWords Go.Proofs.YtjkjnhcnmjknmaaDoorW.PrintLast Go.Proofs.YtjkjnhcnmjknmaaDoorW.PrintMore
abbrev SEv := S33
def nums (l : List UInt8) : List Int := l.map fun b => (b.toNat : Int)
def nn (l : List UInt8) : List Nat := l.map UInt8.toNat
theorem strOf_nums (l : List UInt8) : strOfNums (nums l) = ⟨l.toArray⟩ := by
  apply ByteArray.ext
  apply Array.toList_inj.1
  simp [strOfNums, nums, Function.comp_def]
theorem bt_get (s : ByteArray) (i : Nat) (b : UInt8) (h : s.data.toList[i]? = some b) : bt s (i : Int) = (b.toNat : Int) := by
  rw [← rd_bytesOf, rd, Int.toNat_natCast, List.getD_eq_getElem?_getD, bytesOf, List.getElem?_map, h]
  rfl
theorem wup (i : Nat) (h : i < 1000000000000) : wrap64 ((i : Int) + 1) = ((i + 1 : Nat) : Int) := by rw [wrap64_of _ (by omega) (by omega)]; omega
/-- Behind the first ';'. -/
theorem behind_l0 (s : ByteArray) (p q : List UInt8) (hs : s.data.toList = p ++ 59 :: q) (hp : ∀ b ∈ p, b ≠ 59) (hl : s.size ≤ 100000) : ∀ (m i k : Nat), i + m = p.length → m + 1 ≤ k →
    spec_drawBehind.l0 k s 1 (s.size : Int) (i : Int) = some ⟨q.toArray⟩
  | 0, i, k + 1, h, hk => by
    have hlen : s.data.toList.length = s.size := data_length s
    have hL : s.data.toList.length = p.length + (q.length + 1) := by rw [hs]; simp
    have hi : i = p.length := by omega
    have hb : bt s (i : Int) = 59 := bt_get s i 59 (by rw [hs, hi]; simp)
    have h1 : wrap64 (1 - 1) = 0 := by unfold wrap64; omega
    rw [spec_drawBehind.l0, if_pos (by omega), if_pos (by omega), if_pos (by omega), hb, if_pos rfl, if_pos h1, wup i (by omega), if_pos (by omega), if_pos (by omega), Int.toNat_natCast]
    congr 1
    apply ByteArray.ext
    apply Array.toList_inj.1
    simp only [ByteArray.data_extract, Array.toList_extract, List.extract_eq_take_drop]
    rw [hs, hi, List.take_of_length_le]
    · simp
    · rw [List.length_drop, ← hs]; omega
  | m + 1, i, k + 1, h, hk => by
    have hlen : s.data.toList.length = s.size := data_length s
    have hL : s.data.toList.length = p.length + (q.length + 1) := by rw [hs]; simp
    have hi : i < p.length := by omega
    have hb : bt s (i : Int) = (p[i].toNat : Int) := bt_get s i p[i] (by rw [hs, List.getElem?_append_left hi, List.getElem?_eq_getElem hi])
    have hne : ¬ (p[i].toNat : Int) = 59 := fun e => hp _ (List.getElem_mem hi) (UInt8.toNat_inj.1 (by show _ = 59; omega))
    rw [spec_drawBehind.l0, if_pos (by omega), if_pos (by omega), if_pos (by omega), hb, if_neg hne, wup i (by omega)]
    exact behind_l0 s p q hs hp hl m (i + 1) k (by omega) (by omega)
theorem behind_f (p q : List UInt8) (hp : ∀ b ∈ p, b ≠ 59) (hl : p.length + q.length ≤ 90000) (k : Nat) (hk : p.length + 1 ≤ k) :
    spec_drawBehind.f k (strOfNums (nums (p ++ 59 :: q))) 1 = some ⟨q.toArray⟩ := by
  rw [strOf_nums]
  unfold spec_drawBehind.f
  exact behind_l0 ⟨(p ++ 59 :: q).toArray⟩ p q rfl hp (by show (p ++ 59 :: q).toArray.size ≤ _; simp; omega) p.length 0 k (by omega) hk
/-- One command told, to those that ask for it. -/
def tell (cs : List Int) (c : Int) (t : ByteArray) (v : List ByteArray) : List ByteArray := List.zipWith (fun d x => if c = d then t else x) cs v
theorem tell_len (cs : List Int) (c : Int) (t : ByteArray) (v : List ByteArray) (h : v.length = cs.length) : (tell cs c t v).length = cs.length := by
  unfold tell
  rw [List.length_zipWith, h, Nat.min_self]
theorem told_l1 (cs : List Int) (hcs : cs.length ≤ 100) (E : List SEv) (x14 x15 g0 g1 g2 g3 : Int) (g4 g5 : List Int) (t : ByteArray) (kb : Nat) (h0 : g0 = 5) (ht : spec_drawBehind.f kb (strOfNums g5) 1 = some t) :
    ∀ (cb ca : List Int) (a b : List ByteArray) (j : Nat), ca ++ cb = cs → ca.length = a.length → cb.length = b.length → kb ≤ j →
      spec_DrawTold.l1 (j + cb.length + 1) cs (a ++ b) E x14 x15 cs (cs.length : Int) (ca.length : Int) g0 g1 g2 g3 g4 g5 = spec_DrawTold.l0 j cs (a ++ tell cb g3 t b) E x14 (wrap64 (x15 + 1))
  | [], ca, a, b, j, hc, ha, hb, hj => by
    have hb0 : b = [] := List.length_eq_zero_iff.1 hb.symm
    subst hb0
    have hL := congrArg List.length hc
    simp only [List.length_append, List.length_nil] at hL
    rw [spec_DrawTold.l1, if_neg (by omega)]
    simp [tell]
  | d :: cb, ca, a, [], j, hc, ha, hb, hj => by simp at hb
  | d :: cb, ca, a, x :: b, j, hc, ha, hb, hj => by
    have hL := congrArg List.length hc
    simp only [List.length_append, List.length_cons] at hL hb
    have hr : rd cs (ca.length : Int) = d := by rw [← hc]; simp [rd]
    have ih := fun z => told_l1 cs hcs E x14 x15 g0 g1 g2 g3 g4 g5 t kb h0 ht cb (ca ++ [d]) (a ++ [z]) b j (by rw [← hc]; simp) (by simp [ha]) (by omega) hj
    have hk : j + (d :: cb).length + 1 = (j + cb.length + 1) + 1 := by simp; omega
    have e1 : ((ca ++ [d]).length : Int) = ((ca.length + 1 : Nat) : Int) := by simp
    rw [hk, spec_DrawTold.l1, if_pos (by omega), if_pos (by omega), if_pos (by omega), if_pos h0, hr, wup _ (by omega)]
    by_cases hd : g3 = d
    · have ih1 := ih t
      rw [e1] at ih1
      rw [if_pos hd, lift (spec_drawBehind.mono _ _) (by omega) ht, Option.bind_some, if_pos (by simp; omega), Int.toNat_natCast, ha, ← ha]
      have e2 : (a ++ x :: b).set ca.length t = (a ++ [t]) ++ b := by rw [ha]; simp
      rw [e2, ih1]
      simp [tell, hd]
    · have ih1 := ih x
      rw [e1] at ih1
      rw [if_neg hd]
      have e2 : (a ++ x :: b) = (a ++ [x]) ++ b := by simp
      rw [e2, ih1]
      simp [tell, hd]
theorem rdU_of_drop {l r : List SEv} {a : SEv} {i : Nat} (h : l.drop i = a :: r) : i < l.length ∧ rd_T33 l (i : Int) = a ∧ l.drop (i + 1) = r := by
  have hi : i < l.length := by
    rcases Nat.lt_or_ge i l.length with h' | h'
    · exact h'
    · rw [List.drop_of_length_le h'] at h
      cases h
  have h2 := List.drop_eq_getElem_cons hi
  rw [h] at h2
  injection h2 with h3 h4
  exact ⟨hi, by rw [rdU_at l i hi, h3], h4.symm⟩
section
variable {α : Type} (g : α → SEv) (c : α → Int) (t : α → ByteArray) (kb : Nat)
theorem told_l0 (cs : List Int) (hcs : cs.length ≤ 100) (E : List SEv) (hE : E.length ≤ 1000000) : ∀ (l : List α) (i k : Nat) (v : List ByteArray), (∀ a ∈ l, (g a).f0 = 5 ∧ (g a).f3 = c a ∧ spec_drawBehind.f kb (strOfNums (g a).f5) 1 = some (t a)) →
    E.drop i = l.map g → v.length = cs.length → kb + l.length * (cs.length + 2) + 1 ≤ k →
    spec_DrawTold.l0 k cs v E (E.length : Int) (i : Int) = some (l.foldl (fun v a => tell cs (c a) (t a) v) v)
  | [], i, k, v, _, hd, hv, hk => by
    obtain ⟨k, rfl⟩ : ∃ k', k = k' + 1 := ⟨k - 1, by omega⟩
    have hi : E.length ≤ i := by
      rcases Nat.lt_or_ge i E.length with h | h
      · rw [List.drop_eq_getElem_cons h] at hd
        cases hd
      · exact h
    rw [spec_DrawTold.l0, if_neg (by omega)]
    rfl
  | a :: l, i, k, v, hg, hd, hv, hk => by
    obtain ⟨h1, h2, h3⟩ := rdU_of_drop hd
    obtain ⟨g0, g3, gt⟩ := hg a (by simp)
    have hm : (a :: l).length * (cs.length + 2) = l.length * (cs.length + 2) + (cs.length + 2) := by rw [List.length_cons, Nat.succ_mul]
    obtain ⟨k, rfl⟩ : ∃ k', k = (k' + cs.length + 1) + 1 := ⟨k - cs.length - 2, by omega⟩
    have e1 := told_l1 cs hcs E (E.length : Int) (i : Int) (g a).f0 (g a).f1 (g a).f2 (g a).f3 (g a).f4 (g a).f5 (t a) kb g0 gt cs [] [] v k rfl rfl hv.symm (by omega)
    rw [spec_DrawTold.l0, if_pos (by omega), if_pos (by omega), if_pos (by omega), h2]
    have e2 : ((([] : List Int).length : Nat) : Int) = 0 := rfl
    rw [e2, List.nil_append, List.nil_append, g3, wup i (by omega)] at e1
    rw [g3, e1]
    exact told_l0 cs hcs E hE l (i + 1) k _ (fun b hb => hg b (List.mem_cons_of_mem _ hb)) h3 (tell_len _ _ _ _ hv) (by omega)
theorem told_f (cs : List Int) (hcs : cs.length ≤ 100) (l : List α) (hl : l.length ≤ 1000000) (hg : ∀ a ∈ l, (g a).f0 = 5 ∧ (g a).f3 = c a ∧ spec_drawBehind.f kb (strOfNums (g a).f5) 1 = some (t a)) (k : Nat) (hk : kb + l.length * (cs.length + 2) + 1 ≤ k) :
    spec_DrawTold.f k (l.map g) cs = some (l.foldl (fun v a => tell cs (c a) (t a) v) (List.replicate cs.length ⟨#[]⟩)) := by
  unfold spec_DrawTold.f
  rw [if_pos (by omega), Int.toNat_natCast, if_pos (by omega)]
  exact told_l0 g c t kb cs hcs (l.map g) (by simpa using hl) l 0 k _ hg (by simp) (by simp) hk
end
/-- The text of a system command. -/
theorem run_osc (cmd : Int) (hc : cmd ≠ X.Miss) (r : List UInt8) : ∀ d : List Int, (∀ b ∈ r, 32 ≤ b.toNat ∧ b.toNat ≤ 126) → d.length + r.length ≤ 4000 → X.run (.osc cmd d) (nn r) = some (.osc cmd (d ++ nums r), []) := by
  induction r with
  | nil => intro d _ _; simp [nn, nums, X.run]
  | cons b r ih =>
    intro d hb hl
    obtain ⟨b0, b1⟩ := hb b (by simp)
    have h1 : X.step (.osc cmd d) b.toNat = some (.osc cmd (d ++ [(b.toNat : Int)]), []) := by
      simp only [X.step]
      rw [if_pos (by omega), if_pos (by simp only [List.length_cons] at hl; omega), if_neg (fun h => hc h.2)]
    have h2 := ih (d ++ [(b.toNat : Int)]) (fun c hc => hb c (List.mem_cons_of_mem _ hc)) (by simp only [List.length_append, List.length_cons, List.length_nil] at hl ⊢; omega)
    show X.run _ (b.toNat :: nn r) = _
    rw [X.run, h1, Option.bind_some, h2]
    simp [nums, List.append_assoc]
theorem osc_run (c : Int) (hc : c ≠ X.Miss) (p : List UInt8) (hp : X.run .gr ([27, 93] ++ nn p ++ [59]) = some (.osc c (nums (p ++ [59])), [])) (s : List UInt8) (hs : ∀ b ∈ s, 32 ≤ b.toNat ∧ b.toNat ≤ 126) (hl : p.length + s.length ≤ 3990) :
    X.run .gr ([27, 93] ++ nn p ++ [59] ++ nn s ++ [7]) = some (.gr, [X.evOsc c (nums (p ++ 59 :: s))]) := by
  have h1 := X.run_of hp (run_osc c hc s (nums (p ++ [59])) hs (by simp [nums]; omega))
  have h2 : X.run (.osc c (nums (p ++ [59]) ++ nums s)) [7] = some (.gr, [X.evOsc c (nums (p ++ 59 :: s))]) := by
    have : nums (p ++ [59]) ++ nums s = nums (p ++ 59 :: s) := by simp [nums]
    rw [this]
    simp [X.run, X.step, hc]
  exact X.run_of h1 h2
end Go.Proofs.YtjkjnhcnmjknmaaDoor.Y
end
section
namespace Go.Proofs.YtjkjnhcnmjknmaaDoorW.PrintWords
open Go.RowKit
theorem conv_step {P : Program} {ops : Array Oper} {o : Oper} {a : Act} {Q : Exit → Act → World → Prop} {Kc : Act → World → Prop} {W : World} (T U E : TypeId) {x : Operand}
    (hw : Region.wanted o (yielded ops a.tmps) = true) (ho : o.op = .convert T U x) (hT : P.underlying T = some .string) (hU : P.underlying U = some (.slice E)) (hE : P.underlying E = some (.int .u8))
    (s : ByteArray) (hx : a.eval x = .string s) {r : List Int} (h : gosem_conv.f s = some r)
    (k : ∀ e w', (∃ v0_ : Value, e = Ending.returned v0_ ∧ Kd.V (Kd.int .u8) E w' W.heap.size (fun k_ => (W.heap.size ≤ k_)) v0_ r ∧ Below W.heap.size W w') → ∃ v, e = Ending.returned v ∧ Kc (a.put o.dst v) w') :
    if Region.wanted o (yielded ops a.tmps) = true then Oper.wp P o a W Kc Q else Kc (a.put o.dst undef) W := by
  unfold gosem_conv.f at h
  split at h
  · rename_i hs
    obtain rfl := Option.some.inj h
    have hlen : (bytesOf s).length = s.size := bytesOf_length s
    have hcap : s.size ≤ grownCap W s.size 0 E := grownCap_ge _ _ _ _
    have hF : Kd.F (Kd.int .u8) (Lib.bytesWorld W E s) (fun k_ => (W.heap.size ≤ k_)) (some ⟨W.heap.size, 0, none⟩) (bytesOf s).length (bytesOf s) := fun W' hW => by
      have hb : W'.heap[W.heap.size]? = (Lib.bytesWorld W E s).heap[W.heap.size]? := hW W.heap.size (Nat.le_refl _) (by rw [Lib.bytesWorld_size]; omega)
      obtain ⟨h1, h2, h3⟩ := bytes_reads W E s (by omega)
      rw [hlen]
      refine Kd.C_of_reads (d := (0 : Int)) ⟨h1, h2, fun hn => ?_⟩
      obtain ⟨ad, he, hc⟩ := h3 hn
      refine ⟨ad, he, fun j hj => ?_⟩
      injection he with he
      subst he
      rw [World.cell?_of_block (w := Lib.bytesWorld W E s) (by rw [add_plain]; exact hb)]
      exact hc j hj
    obtain ⟨v, hv, hk⟩ := k (.returned (.slice (some ⟨W.heap.size, 0, none⟩) (bytesOf s).length (grownCap W s.size 0 E))) (Lib.bytesWorld W E s) ⟨_, rfl, Kd.V_mk (by rw [hlen]; exact hcap) hF, bytes_below (Below.refl _ _) (Nat.le_refl _) E s⟩
    injection hv with hv
    subst hv
    refine event_step hw ?_ hk
    rw [hlen]
    unfold execOp
    simp [ho, hx, print_bytes T U E hT hU hE s W]
  · cases h
end Go.Proofs.YtjkjnhcnmjknmaaDoorW.PrintWords
end
section
namespace Go.Proofs.YtjkjnhcnmjknmaaDoor.Y
open Go.RowKit Go.Proofs.YtjkjnhcnmjknmaaDoorW.PrintWords Go.Proofs.YtjkjnhcnmjknmaaDoorW.PrintLast Go.Proofs.YtjkjnhcnmjknmaaDoorW.PrintMore
attribute [local go_sem] max2_int min2_int max_two min_two max_three min_three max_four min_four   -- for this text's walks alone
set_option linter.unusedVariables false
set_option linter.unusedSimpArgs false
/-! ### xansi_zzBase64: function 80 -/
mutual
def xansi_zzBase64.l0 : Nat → ByteArray → List Int → Int → Option (ByteArray)
  | 0, _, _, _ => none
  | k + 1, x0, x3, x4 => if x4 < (x0.size : Int) then (if 0 ≤ x4 then (if (wrap64 (x4 + 1)) < (x0.size : Int) then (if 0 ≤ (wrap64 (x4 + 1)) then (xansi_zzBase64.j1 k x0 x3 x4 (Go.bits .or .u32 ((((bt x0 x4) % 4294967296) * 65536) % 4294967296) ((((bt x0 (wrap64 (x4 + 1))) % 4294967296) * 256) % 4294967296))) else (none)) else (xansi_zzBase64.j1 k x0 x3 x4 ((((bt x0 x4) % 4294967296) * 65536) % 4294967296))) else (none)) else (some (strOfNums x3))
def xansi_zzBase64.j1 : Nat → ByteArray → List Int → Int → Int → Option (ByteArray)
  | 0, _, _, _, _ => none
  | k + 1, x0, x3, x4, x5 => if (wrap64 (x4 + 2)) < (x0.size : Int) then (if 0 ≤ (wrap64 (x4 + 2)) then (xansi_zzBase64.j2 k x0 x3 x4 (Go.bits .or .u32 x5 ((bt x0 (wrap64 (x4 + 2))) % 4294967296))) else (none)) else (xansi_zzBase64.j2 k x0 x3 x4 x5)
def xansi_zzBase64.j2 : Nat → ByteArray → List Int → Int → Int → Option (ByteArray)
  | 0, _, _, _, _ => none
  | k + 1, x0, x3, x4, x5 => if 0 ≤ (Go.bits .and .u32 (x5 / 262144) 63) then (if (Go.bits .and .u32 (x5 / 262144) 63) < 64 then (if 0 ≤ (Go.bits .and .u32 (x5 / 4096) 63) then (if (Go.bits .and .u32 (x5 / 4096) 63) < 64 then (if 0 ≤ (Go.bits .and .u32 (x5 / 64) 63) then (if (Go.bits .and .u32 (x5 / 64) 63) < 64 then (if 0 ≤ (Go.bits .and .u32 x5 63) then (if (Go.bits .and .u32 x5 63) < 64 then ((some (([bt (⟨#[65, 66, 67, 68, 69, 70, 71, 72, 73, 74, 75, 76, 77, 78, 79, 80, 81, 82, 83, 84, 85, 86, 87, 88, 89, 90, 97, 98, 99, 100, 101, 102, 103, 104, 105, 106, 107, 108, 109, 110, 111, 112, 113, 114, 115, 116, 117, 118, 119, 120, 121, 122, 48, 49, 50, 51, 52, 53, 54, 55, 56, 57, 43, 47]⟩ : ByteArray) (Go.bits .and .u32 (x5 / 262144) 63), bt (⟨#[65, 66, 67, 68, 69, 70, 71, 72, 73, 74, 75, 76, 77, 78, 79, 80, 81, 82, 83, 84, 85, 86, 87, 88, 89, 90, 97, 98, 99, 100, 101, 102, 103, 104, 105, 106, 107, 108, 109, 110, 111, 112, 113, 114, 115, 116, 117, 118, 119, 120, 121, 122, 48, 49, 50, 51, 52, 53, 54, 55, 56, 57, 43, 47]⟩ : ByteArray) (Go.bits .and .u32 (x5 / 4096) 63), bt (⟨#[65, 66, 67, 68, 69, 70, 71, 72, 73, 74, 75, 76, 77, 78, 79, 80, 81, 82, 83, 84, 85, 86, 87, 88, 89, 90, 97, 98, 99, 100, 101, 102, 103, 104, 105, 106, 107, 108, 109, 110, 111, 112, 113, 114, 115, 116, 117, 118, 119, 120, 121, 122, 48, 49, 50, 51, 52, 53, 54, 55, 56, 57, 43, 47]⟩ : ByteArray) (Go.bits .and .u32 (x5 / 64) 63), bt (⟨#[65, 66, 67, 68, 69, 70, 71, 72, 73, 74, 75, 76, 77, 78, 79, 80, 81, 82, 83, 84, 85, 86, 87, 88, 89, 90, 97, 98, 99, 100, 101, 102, 103, 104, 105, 106, 107, 108, 109, 110, 111, 112, 113, 114, 115, 116, 117, 118, 119, 120, 121, 122, 48, 49, 50, 51, 52, 53, 54, 55, 56, 57, 43, 47]⟩ : ByteArray) (Go.bits .and .u32 x5 63)] : List Int) : List Int)).bind fun y190 => (if x3.length + y190.length < 140737488355328 then ((some (x3 ++ y190 : List Int)).bind fun y193 => (if (wrap64 (x4 + 1)) ≥ (x0.size : Int) then (if 0 ≤ (wrap64 ((y193.length : Int) - 2)) then (if (wrap64 ((y193.length : Int) - 2)) < (y193.length : Int) then ((some (y193.set ((wrap64 ((y193.length : Int) - 2)) : Int).toNat 61 : List Int)).bind fun y196 => (if (wrap64 (x4 + 2)) ≥ (x0.size : Int) then (if 0 ≤ (wrap64 ((y193.length : Int) - 1)) then (if (wrap64 ((y193.length : Int) - 1)) < (y193.length : Int) then (xansi_zzBase64.l0 k x0 (y196.set ((wrap64 ((y193.length : Int) - 1)) : Int).toNat 61) (wrap64 (x4 + 3))) else (none)) else (none)) else (xansi_zzBase64.l0 k x0 y196 (wrap64 (x4 + 3))))) else (none)) else (none)) else (if (wrap64 (x4 + 2)) ≥ (x0.size : Int) then (if 0 ≤ (wrap64 ((y193.length : Int) - 1)) then (if (wrap64 ((y193.length : Int) - 1)) < (y193.length : Int) then (xansi_zzBase64.l0 k x0 (y193.set ((wrap64 ((y193.length : Int) - 1)) : Int).toNat 61) (wrap64 (x4 + 3))) else (none)) else (none)) else (xansi_zzBase64.l0 k x0 y193 (wrap64 (x4 + 3)))))) else (none))) else (none)) else (none)) else (none)) else (none)) else (none)) else (none)) else (none)) else (none)
end
def xansi_zzBase64.f (k : Nat) (a0 : ByteArray) : Option (ByteArray) := xansi_zzBase64.l0 k a0 ([] : List Int) 0
theorem xansi_zzBase64.mono_l : ∀ k, (∀ y0 y1 y2, LeO (xansi_zzBase64.l0 k y0 y1 y2) (xansi_zzBase64.l0 (k + 1) y0 y1 y2)) ∧ (∀ y0 y1 y2 y3, LeO (xansi_zzBase64.j1 k y0 y1 y2 y3) (xansi_zzBase64.j1 (k + 1) y0 y1 y2 y3)) ∧ (∀ y0 y1 y2 y3, LeO (xansi_zzBase64.j2 k y0 y1 y2 y3) (xansi_zzBase64.j2 (k + 1) y0 y1 y2 y3))
  | 0 => ⟨fun _ _ _ r h => by simp [xansi_zzBase64.l0] at h, fun _ _ _ _ r h => by simp [xansi_zzBase64.j1] at h, fun _ _ _ _ r h => by simp [xansi_zzBase64.j2] at h⟩
  | k + 1 => by
    obtain ⟨ih0, ih1, ih2⟩ := xansi_zzBase64.mono_l k
    refine ⟨?_, ?_, ?_⟩
    · intro y0 y1 y2
      unfold xansi_zzBase64.l0
      repeat' first
      | (with_reducible exact ih0 _ _ _)
      | (with_reducible exact ih1 _ _ _ _)
      | (with_reducible exact ih2 _ _ _ _)
      | (with_reducible exact LeO.refl _)
      | (with_reducible exact LeO.none _)
      | (with_reducible refine LeO.ite ?_ ?_)
      | (with_reducible refine LeO.bind ?_ (fun _ => ?_))
      | exact ih0 _ _ _
      | exact ih1 _ _ _ _
      | exact ih2 _ _ _ _
      | exact LeO.none _
      | refine LeO.ite ?_ ?_
      | refine LeO.bind ?_ (fun _ => ?_)
    · intro y0 y1 y2 y3
      unfold xansi_zzBase64.j1
      repeat' first
      | (with_reducible exact ih0 _ _ _)
      | (with_reducible exact ih1 _ _ _ _)
      | (with_reducible exact ih2 _ _ _ _)
      | (with_reducible exact LeO.refl _)
      | (with_reducible exact LeO.none _)
      | (with_reducible refine LeO.ite ?_ ?_)
      | (with_reducible refine LeO.bind ?_ (fun _ => ?_))
      | exact ih0 _ _ _
      | exact ih1 _ _ _ _
      | exact ih2 _ _ _ _
      | exact LeO.none _
      | refine LeO.ite ?_ ?_
      | refine LeO.bind ?_ (fun _ => ?_)
    · intro y0 y1 y2 y3
      unfold xansi_zzBase64.j2
      repeat' first
      | (with_reducible exact ih0 _ _ _)
      | (with_reducible exact ih1 _ _ _ _)
      | (with_reducible exact ih2 _ _ _ _)
      | (with_reducible exact LeO.refl _)
      | (with_reducible exact LeO.none _)
      | (with_reducible refine LeO.ite ?_ ?_)
      | (with_reducible refine LeO.bind ?_ (fun _ => ?_))
      | exact ih0 _ _ _
      | exact ih1 _ _ _ _
      | exact ih2 _ _ _ _
      | exact LeO.none _
      | refine LeO.ite ?_ ?_
      | refine LeO.bind ?_ (fun _ => ?_)
theorem xansi_zzBase64.mono : ∀ a0 k, LeO (xansi_zzBase64.f k a0) (xansi_zzBase64.f (k + 1) a0) := by
  intro a0 k
  obtain ⟨ih0, ih1, ih2⟩ := xansi_zzBase64.mono_l k
  unfold xansi_zzBase64.f
  repeat' first
      | (with_reducible exact ih0 _ _ _)
      | (with_reducible exact ih1 _ _ _ _)
      | (with_reducible exact ih2 _ _ _ _)
      | (with_reducible exact LeO.refl _)
      | (with_reducible exact LeO.none _)
      | (with_reducible refine LeO.ite ?_ ?_)
      | (with_reducible refine LeO.bind ?_ (fun _ => ?_))
      | exact ih0 _ _ _
      | exact ih1 _ _ _ _
      | exact ih2 _ _ _ _
      | exact LeO.none _
      | refine LeO.ite ?_ ?_
      | refine LeO.bind ?_ (fun _ => ?_)
def xansi_zzBase64.T10 : Bool × List (List Nat × List Nat) := (true, [([], []), ([], []), ([1], [1]), ([2], [2]), ([3], [3]), ([], []), ([5], [5]), ([6], [6]), ([7], [7]), ([], []), ([9], [9]), ([10], [10]), ([11], [11]), ([], []), ([13], [13]), ([14], [14]), ([4, 8, 12, 15], [4, 8, 12, 15]), ([0, 16], [0, 16]), ([17, 17, 0, 1, 2, 3, 4, 5, 6, 7, 8, 9, 10, 11, 12, 13, 14, 15, 16, 17], [0, 17])])
def xansi_zzBase64.B10 : List Nat := [0, 0, 2, 6, 14, 0, 32, 96, 224, 0, 512, 1536, 3584, 0, 8192, 24576, 65534, 131071, 262143]
theorem xansi_zzBase64.tab10 : rtab .any (opsOf Tryd.f80 10) = xansi_zzBase64.T10 := by kernel_rfl
theorem xansi_zzBase64.bits10 : waitsOk xansi_zzBase64.T10.2 xansi_zzBase64.B10 = true := by kernel_rfl
end Go.Proofs.YtjkjnhcnmjknmaaDoor.Y
end
section
namespace Go.Proofs.YtjkjnhcnmjknmaaDoor.Y
open Go.RowKit Go.Proofs.YtjkjnhcnmjknmaaDoorW.PrintWords Go.Proofs.YtjkjnhcnmjknmaaDoorW.PrintLast Go.Proofs.YtjkjnhcnmjknmaaDoorW.PrintMore
attribute [local go_sem] max2_int min2_int max_two min_two max_three min_three max_four min_four   -- for this text's walks alone
set_option linter.unusedVariables false
set_option linter.unusedSimpArgs false
/-! ### xansi_SetClipboard: function 56 -/
def xansi_SetClipboard.f (k : Nat) (a0 : Int) (a1 : ByteArray) : Option (ByteArray) := if a1.toList = ([] : List UInt8) then (if 5 + (Utf8.encode a0).size ≤ 9223372036854775807 then (if 5 + (Utf8.encode a0).size + 1 ≤ 9223372036854775807 then (if 5 + (Utf8.encode a0).size + 1 + a1.size ≤ 9223372036854775807 then (if 5 + (Utf8.encode a0).size + 1 + a1.size + 1 ≤ 9223372036854775807 then (some (((((⟨#[27, 93, 53, 50, 59]⟩ : ByteArray) ++ (Utf8.encode a0)) ++ (⟨#[59]⟩ : ByteArray)) ++ a1) ++ (⟨#[7]⟩ : ByteArray))) else (none)) else (none)) else (none)) else (none)) else ((xansi_zzBase64.f k a1).bind fun t199 => (if 5 + (Utf8.encode a0).size ≤ 9223372036854775807 then (if 5 + (Utf8.encode a0).size + 1 ≤ 9223372036854775807 then (if 5 + (Utf8.encode a0).size + 1 + t199.size ≤ 9223372036854775807 then (if 5 + (Utf8.encode a0).size + 1 + t199.size + 1 ≤ 9223372036854775807 then (some (((((⟨#[27, 93, 53, 50, 59]⟩ : ByteArray) ++ (Utf8.encode a0)) ++ (⟨#[59]⟩ : ByteArray)) ++ t199) ++ (⟨#[7]⟩ : ByteArray))) else (none)) else (none)) else (none)) else (none)))
theorem xansi_SetClipboard.mono : ∀ a0 a1 k, LeO (xansi_SetClipboard.f k a0 a1) (xansi_SetClipboard.f (k + 1) a0 a1) := by
  intro a0 a1 k
  unfold xansi_SetClipboard.f
  repeat' first
      | (with_reducible exact xansi_zzBase64.mono _ _)
      | (with_reducible exact LeO.refl _)
      | (with_reducible exact LeO.none _)
      | (with_reducible refine LeO.ite ?_ ?_)
      | (with_reducible refine LeO.bind ?_ (fun _ => ?_))
      | exact xansi_zzBase64.mono _ _
      | exact LeO.none _
      | refine LeO.ite ?_ ?_
      | refine LeO.bind ?_ (fun _ => ?_)
end Go.Proofs.YtjkjnhcnmjknmaaDoor.Y
end
section
namespace Go.Proofs.YtjkjnhcnmjknmaaDoor.Y
open Go.RowKit Go.Proofs.YtjkjnhcnmjknmaaDoorW.PrintWords Go.Proofs.YtjkjnhcnmjknmaaDoorW.PrintLast Go.Proofs.YtjkjnhcnmjknmaaDoorW.PrintMore
attribute [local go_sem] max2_int min2_int max_two min_two max_three min_three max_four min_four   -- for this text's walks alone
set_option linter.unusedVariables false
set_option linter.unusedSimpArgs false
/-! ### xansi_RequestClipboard: function 57 -/
def xansi_RequestClipboard.f (a0 : Int) : Option (ByteArray) := if 5 + (Utf8.encode a0).size ≤ 9223372036854775807 then (if 5 + (Utf8.encode a0).size + 3 ≤ 9223372036854775807 then (some (((⟨#[27, 93, 53, 50, 59]⟩ : ByteArray) ++ (Utf8.encode a0)) ++ (⟨#[59, 63, 7]⟩ : ByteArray))) else (none)) else (none)
end Go.Proofs.YtjkjnhcnmjknmaaDoor.Y
end
section
namespace Go.Proofs.YtjkjnhcnmjknmaaDoor.Y
open Go.RowKit Go.Proofs.YtjkjnhcnmjknmaaDoorW.PrintWords Go.Proofs.YtjkjnhcnmjknmaaDoorW.PrintLast Go.Proofs.YtjkjnhcnmjknmaaDoorW.PrintMore
attribute [local go_sem] max2_int min2_int max_two min_two max_three min_three max_four min_four   -- for this text's walks alone
set_option linter.unusedVariables false
set_option linter.unusedSimpArgs false
/-! ### xansi_ResetClipboard: function 58 -/
def xansi_ResetClipboard.f (k : Nat) (a0 : Int) : Option (ByteArray) := (xansi_SetClipboard.f k a0 (⟨#[]⟩ : ByteArray)).bind fun t200 => (some t200)
theorem xansi_ResetClipboard.mono : ∀ a0 k, LeO (xansi_ResetClipboard.f k a0) (xansi_ResetClipboard.f (k + 1) a0) := by
  intro a0 k
  unfold xansi_ResetClipboard.f
  repeat' first
      | (with_reducible exact xansi_SetClipboard.mono _ _ _)
      | (with_reducible exact LeO.refl _)
      | (with_reducible exact LeO.none _)
      | (with_reducible refine LeO.ite ?_ ?_)
      | (with_reducible refine LeO.bind ?_ (fun _ => ?_))
      | exact xansi_SetClipboard.mono _ _ _
      | exact LeO.none _
      | refine LeO.ite ?_ ?_
      | refine LeO.bind ?_ (fun _ => ?_)
end Go.Proofs.YtjkjnhcnmjknmaaDoor.Y
end
section
namespace Go.Proofs.YtjkjnhcnmjknmaaDoor.Y
open Go.RowKit Go.Proofs.YtjkjnhcnmjknmaaDoorW.PrintWords Go.Proofs.YtjkjnhcnmjknmaaDoorW.PrintLast Go.Proofs.YtjkjnhcnmjknmaaDoorW.PrintMore
attribute [local go_sem] max2_int min2_int max_two min_two max_three min_three max_four min_four   -- for this text's walks alone
set_option linter.unusedVariables false
set_option linter.unusedSimpArgs false
/-! ### xansi_SetSystemClipboard: function 59 -/
def xansi_SetSystemClipboard.f (k : Nat) (a0 : ByteArray) : Option (ByteArray) := (xansi_SetClipboard.f k 99 a0).bind fun t201 => (some t201)
theorem xansi_SetSystemClipboard.mono : ∀ a0 k, LeO (xansi_SetSystemClipboard.f k a0) (xansi_SetSystemClipboard.f (k + 1) a0) := by
  intro a0 k
  unfold xansi_SetSystemClipboard.f
  repeat' first
      | (with_reducible exact xansi_SetClipboard.mono _ _ _)
      | (with_reducible exact LeO.refl _)
      | (with_reducible exact LeO.none _)
      | (with_reducible refine LeO.ite ?_ ?_)
      | (with_reducible refine LeO.bind ?_ (fun _ => ?_))
      | exact xansi_SetClipboard.mono _ _ _
      | exact LeO.none _
      | refine LeO.ite ?_ ?_
      | refine LeO.bind ?_ (fun _ => ?_)
end Go.Proofs.YtjkjnhcnmjknmaaDoor.Y
end
section
namespace Go.Proofs.YtjkjnhcnmjknmaaDoor.Y
open Go.RowKit Go.Proofs.YtjkjnhcnmjknmaaDoorW.PrintWords Go.Proofs.YtjkjnhcnmjknmaaDoorW.PrintLast Go.Proofs.YtjkjnhcnmjknmaaDoorW.PrintMore
attribute [local go_sem] max2_int min2_int max_two min_two max_three min_three max_four min_four   -- for this text's walks alone
set_option linter.unusedVariables false
set_option linter.unusedSimpArgs false
/-! ### xansi_SetPrimaryClipboard: function 60 -/
def xansi_SetPrimaryClipboard.f (k : Nat) (a0 : ByteArray) : Option (ByteArray) := (xansi_SetClipboard.f k 112 a0).bind fun t202 => (some t202)
theorem xansi_SetPrimaryClipboard.mono : ∀ a0 k, LeO (xansi_SetPrimaryClipboard.f k a0) (xansi_SetPrimaryClipboard.f (k + 1) a0) := by
  intro a0 k
  unfold xansi_SetPrimaryClipboard.f
  repeat' first
      | (with_reducible exact xansi_SetClipboard.mono _ _ _)
      | (with_reducible exact LeO.refl _)
      | (with_reducible exact LeO.none _)
      | (with_reducible refine LeO.ite ?_ ?_)
      | (with_reducible refine LeO.bind ?_ (fun _ => ?_))
      | exact xansi_SetClipboard.mono _ _ _
      | exact LeO.none _
      | refine LeO.ite ?_ ?_
      | refine LeO.bind ?_ (fun _ => ?_)
end Go.Proofs.YtjkjnhcnmjknmaaDoor.Y
end
section
namespace Go.Proofs.YtjkjnhcnmjknmaaDoor.Y
open Go.RowKit Go.Proofs.YtjkjnhcnmjknmaaDoorW.PrintWords Go.Proofs.YtjkjnhcnmjknmaaDoorW.PrintLast Go.Proofs.YtjkjnhcnmjknmaaDoorW.PrintMore
attribute [local go_sem] max2_int min2_int max_two min_two max_three min_three max_four min_four   -- for this text's walks alone
set_option linter.unusedVariables false
set_option linter.unusedSimpArgs false
/-! ### impl_MakeClipboard: function 14 -/
def impl_MakeClipboard.f (k : Nat) (a0 : Int) (a1 : Int) (a2 : ByteArray) : Option (ByteArray) := if a0 = 0 then ((xansi_SetClipboard.f k a1 a2).bind fun t203 => (some t203)) else (if a0 = 1 then ((xansi_RequestClipboard.f a1).bind fun t204 => (some t204)) else (if a0 = 2 then ((xansi_ResetClipboard.f k a1).bind fun t205 => (some t205)) else (if a0 = 3 then ((xansi_SetSystemClipboard.f k a2).bind fun t206 => (some t206)) else (if a0 = 4 then ((xansi_SetPrimaryClipboard.f k a2).bind fun t207 => (some t207)) else (some (⟨#[]⟩ : ByteArray))))))
theorem impl_MakeClipboard.mono : ∀ a0 a1 a2 k, LeO (impl_MakeClipboard.f k a0 a1 a2) (impl_MakeClipboard.f (k + 1) a0 a1 a2) := by
  intro a0 a1 a2 k
  unfold impl_MakeClipboard.f
  repeat' first
      | (with_reducible exact xansi_ResetClipboard.mono _ _)
      | (with_reducible exact xansi_SetClipboard.mono _ _ _)
      | (with_reducible exact xansi_SetPrimaryClipboard.mono _ _)
      | (with_reducible exact xansi_SetSystemClipboard.mono _ _)
      | (with_reducible exact LeO.refl _)
      | (with_reducible exact LeO.none _)
      | (with_reducible refine LeO.ite ?_ ?_)
      | (with_reducible refine LeO.bind ?_ (fun _ => ?_))
      | exact xansi_ResetClipboard.mono _ _
      | exact xansi_SetClipboard.mono _ _ _
      | exact xansi_SetPrimaryClipboard.mono _ _
      | exact xansi_SetSystemClipboard.mono _ _
      | exact LeO.none _
      | refine LeO.ite ?_ ?_
      | refine LeO.bind ?_ (fun _ => ?_)
end Go.Proofs.YtjkjnhcnmjknmaaDoor.Y
end
