/- Texts of this claim, joined: XScrShift XScrCtl XScrErase Y60D Y60. Of each, what the claim uses. -/
import Derived.Test.YteebhoehflgfoaaGreatDoorKaz
import Derived.Test.YteebhoehflgfoaaGreatDoorKac
section
namespace Go.Proofs.YteebhoehflgfoaaGreatDoor.Y
open Go.RowKit Go.Proofs.YteebhoehflgfoaaGreatDoorW.PrintWords Go.Proofs.YteebhoehflgfoaaGreatDoorW.PrintLast Go.Proofs.YteebhoehflgfoaaGreatDoorW.PrintMore
attribute [local go_sem] max2_int min2_int max_two min_two
set_option linter.unusedSimpArgs false
set_option linter.unusedVariables false
set_option maxRecDepth 100000
set_option maxHeartbeats 8000000
theorem gsplice (r q : List Gl) (p : Nat) : splice (gcells r) (p * 2) (gcells q) = gcells (splice r p q) := by
 unfold splice
 rw [gcells_append, gcells_append, gcells_take, gcells_drop, gcells_len, show p * 2 + 2 * q.length = (p + q.length) * 2 by omega]
theorem cut_from (t e sz : Nat) (ht : Tryz.prog.underlying t = some (.slice e)) (hsz : (Tryz.prog.info? e).map (·.size) = some sz) (T n lo : Nat) (h1 : lo ≤ n) :
  ∃ A' : Option Addr, (∀ W : World, (Instr.slice t (.slice (some ⟨T, 0, none⟩) n n) (some (.int .i64 (lo : Int))) none none).run Tryz.prog W = .ok (.slice A' (n - lo) (n - lo)) W) ∧ (lo < n → A' = some ⟨T, lo * sz, none⟩) := by
 obtain ⟨i, hi0, hi2⟩ := Option.map_eq_some_iff.1 hsz
 refine ⟨if n = lo then some ⟨T, 0, none⟩ else (some (⟨T, 0, none⟩ : Addr)).map (·.add (lo * sz)), fun W => ?_, fun h => ?_⟩
 ·have hel : Tryz.prog.elem t = e := by simp [Program.elem, ht]
  have hu : Tryz.prog.underlying t = some (.slice (Tryz.prog.elem t)) := by rw [hel]; exact ht
  rw [run_slice_l W t (some ⟨T, 0, none⟩) n n hu .i64 lo (by omega) (by omega), hel]
  simp [sizeOf, typeInfo, hi0, hi2, sliced, Result.andThen]
 ·rw [if_neg (by omega)]
  unfold Addr.add
  simp only [Option.map_some]
  split <;> simp_all
theorem row_src {w : World} {b : Nat} {r : List Gl} (hr : w.heap[b]? = some (Obj.cells (gcells r).toArray 89 (0, 0))) (lo m : Nat) (j : Nat) (v : Value)
  (h : (gcells ((r.drop lo).take m))[j]? = some v) : w.cell? ((⟨b, lo * 2, none⟩ : Addr).add j) = some v := by
 rw [Addr.add_mid, blk_cell hr]
 rw [gcells_take, gcells_drop, List.getElem?_take] at h
 split at h
 ·rw [List.getElem?_drop] at h
  simpa using h
 ·cases h
theorem set_wipe (s : Scr) (y a b : Nat) (r' : List Gl) (hy : y < s.rows.length) : ({ s with rows := s.rows.set y r' } : Scr).wipe y a b = { s with rows := s.rows.set y (wipeRow r' a b) } := by
 unfold Scr.wipe
 simp only [Scr.mk.injEq, true_and, and_true]
 rw [AtX.modify_set _ _ _ (by rw [List.length_set]; exact hy), List.getElem_set_self, List.set_set]
theorem open_eq (r : List Gl) (x k : Nat) (h : x + k ≤ r.length) : splice r (x + k) ((r.drop x).take (r.length - k - x)) = r.take (x + k) ++ (r.drop x).take (r.length - k - x) := by
 have e : r.drop (x + k + ((r.drop x).take (r.length - k - x)).length) = [] := List.drop_of_length_le (by simp; omega)
 unfold splice
 rw [e, List.append_nil]
theorem close_eq (r : List Gl) (x k : Nat) (h : x + k ≤ r.length) : splice r x ((r.drop (x + k)).take (r.length - (x + k))) = r.take x ++ (r.drop (x + k) ++ r.drop (r.length - k)) := by
 have e : (r.drop (x + k)).take (r.length - (x + k)) = r.drop (x + k) := List.take_of_length_le (by simp)
 unfold splice
 rw [e, List.length_drop, show x + (r.length - (x + k)) = r.length - k by omega]
theorem shift_pos {s : Scr} (hf : Fine s) (m k : Nat) (hm : 1 ≤ m) (hk : k = min m (s.w - s.pen.x)) (r : List Gl) (hr : s.rows[s.pen.y]? = some r) : s.shift m = { s with rows := s.rows.set s.pen.y (openRow r s.pen.x k) } := by
 obtain ⟨hy, e⟩ := List.getElem?_eq_some_iff.1 hr
 unfold Scr.shift
 rw [if_pos (by omega), AtX.modify_set _ _ _ hy, e, Int.toNat_natCast, ← hk]
theorem shift_neg {s : Scr} (hf : Fine s) (m k : Nat) (hm : 1 ≤ m) (hk : k = min m (s.w - s.pen.x)) (r : List Gl) (hr : s.rows[s.pen.y]? = some r) : s.shift (-(m : Int)) = { s with rows := s.rows.set s.pen.y (closeRow r s.pen.x k) } := by
 obtain ⟨hy, e⟩ := List.getElem?_eq_some_iff.1 hr
 unfold Scr.shift
 rw [if_neg (by omega), AtX.modify_set _ _ _ hy, e, Int.neg_neg, Int.toNat_natCast, ← hk]
theorem shift_pos_calls {w : World} {B g T c : Nat} {bs : List Nat} {s : Scr} (h : AtX w B g T c bs s) (hf : Fine s) (m : Nat) (hm : 1 ≤ m) (hm2 : m ≤ 100000) :
  Calls Tryz.prog 160 #[.pointer (some ⟨g, 0, none⟩), .int .i64 m] w fun e w' => e = .returned (.tuple #[]) ∧ AtX w' B g T c bs (s.shift m) ∧ Below B w w' := by
 obtain ⟨b, hb, hB, hrow, hT⟩ := h.get (i := s.pen.y) (by rw [hf.rl]; exact hf.py)
 have hrl : s.rows[s.pen.y]? = some (s.rows[s.pen.y]'(by rw [hf.rl]; exact hf.py)) := List.getElem?_eq_getElem _
 have hlen := hf.rw _ (List.getElem_mem (show s.pen.y < s.rows.length by rw [hf.rl]; exact hf.py))
 generalize s.rows[s.pen.y]'(by rw [hf.rl]; exact hf.py) = r at hrow hrl hlen
 obtain ⟨D, hD⟩ : ∃ D, D = s.w - s.pen.x := ⟨_, rfl⟩
 obtain ⟨k, hk⟩ : ∃ k, k = min m (s.w - s.pen.x) := ⟨_, rfl⟩
 rw [shift_pos hf m k hm hk r hrl]
 have hxw := hf.px
 have b1 := hf.w1
 have c0 : w.cell? ⟨g, 0, none⟩ = some (.int .i64 s.w) := h.cell 0
 have c2 : w.cell? ⟨g, 2, none⟩ = some (.slice (some ⟨T, 0, none⟩) s.h c) := h.cell 2
 have c3 : w.cell? ⟨g, 3, none⟩ = some (.int .i64 s.pen.x) := h.cell 3
 have c4 : w.cell? ⟨g, 4, none⟩ = some (.int .i64 s.pen.y) := h.cell 4
 have d1 : (s.pen.y : Int) < (s.h : Int) := by have := hf.py; omega
 have e0 : IntKind.i64.wrap (-(m : Int)) = -(m : Int) := wrapI _ (by omega) (by omega)
 have d0 : ((m : Int) < -(m : Int)) = False := eq_false (by omega)
 have d2 : (0 : Int) < (m : Int) := by omega
 have e1 : IntKind.i64.wrap ((s.w : Int) - (s.pen.x : Int)) = (D : Int) := by rw [wrapI _ (by omega) (by omega)]; omega
 have hkd : ((D : Int) < (m : Int) ∧ k = D) ∨ ((m : Int) ≤ (D : Int) ∧ k = m) := by omega
 have hkx : s.pen.x + k ≤ s.w := by omega
 unfold rowV at hT
 have e2 : IntKind.i64.wrap ((s.pen.x : Int) + (k : Int)) = (s.pen.x : Int) + (k : Int) := wrapI _ (by omega) (by omega)
 obtain ⟨V, hV⟩ : ∃ V, V = s.w - k := ⟨_, rfl⟩
 have e3 : IntKind.i64.wrap ((s.w : Int) - (k : Int)) = (V : Int) := by rw [wrapI _ (by omega) (by omega)]; omega
 obtain ⟨A1, hs1, hp1⟩ := cut_from 87 89 2 Tryz.underlying87 (by kernel_rfl) b s.w (s.pen.x + k) (by omega)
 obtain ⟨A2, hs2, hp2⟩ := cut_of 87 89 2 Tryz.underlying87 (by kernel_rfl) b s.w s.w s.pen.x V (by omega) (by omega)
 push_cast at hs1
 have HI := Lib.hid (And.intro h (And.intro hf (And.intro hb (And.intro hB (And.intro hrow (And.intro hrl (And.intro hlen (And.intro hp1 (And.intro hp2 (And.intro hkx (And.intro hV (And.intro hxw (And.intro b1 hm))))))))))))) 
 clear h hf hb hB hrow hrl hlen hp1 hp2 hkx hV hxw b1 hD hk hm
 go_enter Tryz.func160, Tryz.ntmps160
 rcases hkd with ⟨hc, rfl⟩ | ⟨hc, rfl⟩
 all_goals
  go_wp2_with fail
  go_still (by kernel_rfl)
  change Exit.then _ _ _ _ w.drew
  obtain ⟨w1, hw1⟩ : ∃ w1, w1 = w.drew := ⟨_, rfl⟩
  rw [← hw1]
  have c0' : w1.cell? ⟨g, 0, none⟩ = some (.int .i64 s.w) := by rw [hw1]; exact c0
  have c2' : w1.cell? ⟨g, 2, none⟩ = some (.slice (some ⟨T, 0, none⟩) s.h c) := by rw [hw1]; exact c2
  have c3' : w1.cell? ⟨g, 3, none⟩ = some (.int .i64 s.pen.x) := by rw [hw1]; exact c3
  have c4' : w1.cell? ⟨g, 4, none⟩ = some (.int .i64 s.pen.y) := by rw [hw1]; exact c4
  have HI1 : Hid (AtX w1 B g T c bs s ∧ Below B w w1 ∧ w1.heap[b]? = some (Obj.cells (gcells r).toArray 89 (0, 0))) := by rw [hw1]; exact ⟨HI.out.1.drew, (Below.refl B w).drew, HI.out.2.2.2.2.1⟩
  clear c0 c2 c3 c4 hT hw1
  go_wp2_with fail
  go_still (by kernel_rfl)
  change Exit.then _ _ _ _ w1.drew
  obtain ⟨w2, hw2⟩ : ∃ w2, w2 = w1.drew := ⟨_, rfl⟩
  rw [← hw2]
  have c0 : w2.cell? ⟨g, 0, none⟩ = some (.int .i64 s.w) := by rw [hw2]; exact c0'
  have c3 : w2.cell? ⟨g, 3, none⟩ = some (.int .i64 s.pen.x) := by rw [hw2]; exact c3'
  have HI2 : Hid (AtX w2 B g T c bs s ∧ Below B w w2 ∧ w2.heap[b]? = some (Obj.cells (gcells r).toArray 89 (0, 0))) := by rw [hw2]; exact ⟨HI1.out.1.drew, HI1.out.2.1.drew, HI1.out.2.2⟩
  clear c0' c2' c3' c4' hw2
  go_wp2_with fail
  go_still_tail 22, (by kernel_rfl)
  change wpList _ _ _ _ _ w2.drew
  have k1 := HI.out.2.2.2.2.2.2.2.2.2.1
  have k2 := HI.out.2.2.2.2.2.2.2.2.2.2.1
  have k3 := HI.out.2.2.2.2.2.2.1
  have k4 := HI.out.2.1.w1
  refine wpList_copyN rfl (.tmp 42) (.tmp 55) 87 87 rfl 89 2 (by decide) Tryz.underlying87 (by kernel_rfl) A1 A2 (s.w - (s.pen.x + k)) (s.w - (s.pen.x + k)) (V - s.pen.x) (s.w - s.pen.x) rfl rfl b ((s.pen.x + k) * 2) (gcells r) 89 HI2.out.2.2
   (gcells ((r.drop s.pen.x).take (r.length - k - s.pen.x))) (by rw [gcells_len]; simp only [List.length_take, List.length_drop]; show _ = min _ _ * 2; omega)
   (fun hp => by
    rw [gcells_len] at hp
    simp only [List.length_take, List.length_drop] at hp
    exact ⟨HI.out.2.2.2.2.2.2.2.1 (by omega), _, HI.out.2.2.2.2.2.2.2.2.1 (by omega), fun j v hv => row_src (w := w2.drew) HI2.out.2.2 s.pen.x _ j v hv⟩)
   (by rw [gcells_len, gcells_len]; simp only [List.length_take, List.length_drop]; omega) (gcells_one _) ?_
  intro w3 hcop
  obtain ⟨r', hr'⟩ : ∃ r', r' = splice r (s.pen.x + k) ((r.drop s.pen.x).take (r.length - k - s.pen.x)) := ⟨_, rfl⟩
  have hat := hcop.at_
  rw [gsplice, ← hr'] at hat
  have h3 : Hid (AtX w3 B g T c bs { s with rows := s.rows.set s.pen.y r' } ∧ Below B w w3) := ⟨HI2.out.1.reRow HI.out.2.2.1 r' hat (fun q hq _ => hcop.keep q hq), HI2.out.2.1.trans ((Below.refl B w2).drew.trans (hcop.below B HI.out.2.2.2.1))⟩
  clear hcop hat
  have c3' : w3.cell? ⟨g, 3, none⟩ = some (.int .i64 s.pen.x) := h3.out.1.cell 3
  have c4' : w3.cell? ⟨g, 4, none⟩ = some (.int .i64 s.pen.y) := h3.out.1.cell 4
  clear c0 c3
  have hf3 : Fine ({ s with rows := s.rows.set s.pen.y r' } : Scr) := by
   have hm := HI.out.2.1.rowsOf s.pen.y (fun _ => r') (fun q _ => by
    rw [hr', open_eq _ _ _ (by omega)]
    simp only [List.length_append, List.length_take, List.length_drop]
    omega)
   rwa [AtX.modify_set _ _ _ (List.getElem?_eq_some_iff.1 HI.out.2.2.2.2.2.1).1] at hm
  have hwc := wipe_calls (w := w3.drew) h3.out.1.drew hf3 s.pen.y s.pen.x (s.pen.x + k) HI.out.2.1.py (by omega) (by omega)
  push_cast at hwc
  have HW := Lib.hid hwc
  clear hwc hf3 k1 k2 k3 k4
  go_wp2_with fail
  go_still_tail 18, (by kernel_rfl)
  change wpList _ _ _ _ _ w3.drew
  go_wp2_with fail
  refine HW.out.mono ?_
  rintro e w4 ⟨rfl, ha4, hb4, _⟩
  have hend : Hid (AtX w4 B g T c bs { s with rows := s.rows.set s.pen.y (openRow r s.pen.x k) } ∧ Below B w w4) := by
   refine ⟨?_, h3.out.2.trans ((Below.refl B w3).drew.trans hb4)⟩
   rw [set_wipe s s.pen.y _ _ r' (List.getElem?_eq_some_iff.1 HI.out.2.2.2.2.2.1).1, hr', open_eq _ _ _ (by have := HI.out.2.2.2.2.2.2.1; have := HI.out.2.2.2.2.2.2.2.2.2.1; omega)] at ha4
   exact ha4
  clear ha4 hb4
  go_wp2_with fail
  go_end0
  exact ⟨rfl, hend.out⟩
theorem shift_neg_calls {w : World} {B g T c : Nat} {bs : List Nat} {s : Scr} (h : AtX w B g T c bs s) (hf : Fine s) (m : Nat) (hm : 1 ≤ m) (hm2 : m ≤ 100000) :
  Calls Tryz.prog 160 #[.pointer (some ⟨g, 0, none⟩), .int .i64 (-(m : Int))] w fun e w' => e = .returned (.tuple #[]) ∧ AtX w' B g T c bs (s.shift (-(m : Int))) ∧ Below B w w' := by
 obtain ⟨b, hb, hB, hrow, hT⟩ := h.get (i := s.pen.y) (by rw [hf.rl]; exact hf.py)
 have hrl : s.rows[s.pen.y]? = some (s.rows[s.pen.y]'(by rw [hf.rl]; exact hf.py)) := List.getElem?_eq_getElem _
 have hlen := hf.rw _ (List.getElem_mem (show s.pen.y < s.rows.length by rw [hf.rl]; exact hf.py))
 generalize s.rows[s.pen.y]'(by rw [hf.rl]; exact hf.py) = r at hrow hrl hlen
 obtain ⟨D, hD⟩ : ∃ D, D = s.w - s.pen.x := ⟨_, rfl⟩
 obtain ⟨k, hk⟩ : ∃ k, k = min m (s.w - s.pen.x) := ⟨_, rfl⟩
 rw [shift_neg hf m k hm hk r hrl]
 have hxw := hf.px
 have b1 := hf.w1
 have c0 : w.cell? ⟨g, 0, none⟩ = some (.int .i64 s.w) := h.cell 0
 have c2 : w.cell? ⟨g, 2, none⟩ = some (.slice (some ⟨T, 0, none⟩) s.h c) := h.cell 2
 have c3 : w.cell? ⟨g, 3, none⟩ = some (.int .i64 s.pen.x) := h.cell 3
 have c4 : w.cell? ⟨g, 4, none⟩ = some (.int .i64 s.pen.y) := h.cell 4
 have d1 : (s.pen.y : Int) < (s.h : Int) := by have := hf.py; omega
 have e0 : IntKind.i64.wrap (m : Int) = (m : Int) := wrapI _ (by omega) (by omega)
 have d0 : (-(m : Int) < (m : Int)) = True := eq_true (by omega)
 have d2 : decide ((0 : Int) < -(m : Int)) = false := decide_eq_false (by omega)
 have e1 : IntKind.i64.wrap ((s.w : Int) - (s.pen.x : Int)) = (D : Int) := by rw [wrapI _ (by omega) (by omega)]; omega
 have hkd : ((D : Int) < (m : Int) ∧ k = D) ∨ ((m : Int) ≤ (D : Int) ∧ k = m) := by omega
 have hkx : s.pen.x + k ≤ s.w := by omega
 unfold rowV at hT
 have e2 : IntKind.i64.wrap ((s.pen.x : Int) + (k : Int)) = (s.pen.x : Int) + (k : Int) := wrapI _ (by omega) (by omega)
 obtain ⟨V, hV⟩ : ∃ V, V = s.w - k := ⟨_, rfl⟩
 have e3 : IntKind.i64.wrap ((s.w : Int) - (k : Int)) = (V : Int) := by rw [wrapI _ (by omega) (by omega)]; omega
 obtain ⟨A1, hs1, hp1⟩ := cut_from 87 89 2 Tryz.underlying87 (by kernel_rfl) b s.w s.pen.x (by omega)
 obtain ⟨A2, hs2, hp2⟩ := cut_from 87 89 2 Tryz.underlying87 (by kernel_rfl) b s.w (s.pen.x + k) (by omega)
 push_cast at hs2
 have HI := Lib.hid (And.intro h (And.intro hf (And.intro hb (And.intro hB (And.intro hrow (And.intro hrl (And.intro hlen (And.intro hp1 (And.intro hp2 (And.intro hkx (And.intro hV (And.intro hxw (And.intro b1 hm))))))))))))) 
 clear h hf hb hB hrow hrl hlen hp1 hp2 hkx hV hxw b1 hD hk hm
 go_enter Tryz.func160, Tryz.ntmps160
 rcases hkd with ⟨hc, rfl⟩ | ⟨hc, rfl⟩
 all_goals
  go_wp2_with fail
  go_still (by kernel_rfl)
  change Exit.then _ _ _ _ w.drew
  obtain ⟨w1, hw1⟩ : ∃ w1, w1 = w.drew := ⟨_, rfl⟩
  rw [← hw1]
  have c0' : w1.cell? ⟨g, 0, none⟩ = some (.int .i64 s.w) := by rw [hw1]; exact c0
  have c2' : w1.cell? ⟨g, 2, none⟩ = some (.slice (some ⟨T, 0, none⟩) s.h c) := by rw [hw1]; exact c2
  have c3' : w1.cell? ⟨g, 3, none⟩ = some (.int .i64 s.pen.x) := by rw [hw1]; exact c3
  have c4' : w1.cell? ⟨g, 4, none⟩ = some (.int .i64 s.pen.y) := by rw [hw1]; exact c4
  have HI1 : Hid (AtX w1 B g T c bs s ∧ Below B w w1 ∧ w1.heap[b]? = some (Obj.cells (gcells r).toArray 89 (0, 0))) := by rw [hw1]; exact ⟨HI.out.1.drew, (Below.refl B w).drew, HI.out.2.2.2.2.1⟩
  clear c0 c2 c3 c4 hT hw1
  go_wp2_with fail
  go_still (by kernel_rfl)
  change Exit.then _ _ _ _ w1.drew
  obtain ⟨w2, hw2⟩ : ∃ w2, w2 = w1.drew := ⟨_, rfl⟩
  rw [← hw2]
  have c0 : w2.cell? ⟨g, 0, none⟩ = some (.int .i64 s.w) := by rw [hw2]; exact c0'
  have c3 : w2.cell? ⟨g, 3, none⟩ = some (.int .i64 s.pen.x) := by rw [hw2]; exact c3'
  have HI2 : Hid (AtX w2 B g T c bs s ∧ Below B w w2 ∧ w2.heap[b]? = some (Obj.cells (gcells r).toArray 89 (0, 0))) := by rw [hw2]; exact ⟨HI1.out.1.drew, HI1.out.2.1.drew, HI1.out.2.2⟩
  clear c0' c2' c3' c4' hw2
  go_wp2_with fail
  go_still_tail 16, (by kernel_rfl)
  change wpList _ _ _ _ _ w2.drew
  have k1 := HI.out.2.2.2.2.2.2.2.2.2.1
  have k2 := HI.out.2.2.2.2.2.2.2.2.2.2.1
  have k3 := HI.out.2.2.2.2.2.2.1
  have k4 := HI.out.2.1.w1
  refine wpList_copyN rfl (.tmp 82) (.tmp 91) 87 87 rfl 89 2 (by decide) Tryz.underlying87 (by kernel_rfl) A1 A2 (s.w - s.pen.x) (s.w - s.pen.x) (s.w - (s.pen.x + k)) (s.w - (s.pen.x + k)) rfl rfl b (s.pen.x * 2) (gcells r) 89 HI2.out.2.2
   (gcells ((r.drop (s.pen.x + k)).take (r.length - (s.pen.x + k)))) (by rw [gcells_len]; simp only [List.length_take, List.length_drop]; show _ = min _ _ * 2; omega)
   (fun hp => by
    rw [gcells_len] at hp
    simp only [List.length_take, List.length_drop] at hp
    exact ⟨HI.out.2.2.2.2.2.2.2.1 (by omega), _, HI.out.2.2.2.2.2.2.2.2.1 (by omega), fun j v hv => row_src (w := w2.drew) HI2.out.2.2 (s.pen.x + k) _ j v hv⟩)
   (by rw [gcells_len, gcells_len]; simp only [List.length_take, List.length_drop]; omega) (gcells_one _) ?_
  intro w3 hcop
  obtain ⟨r', hr'⟩ : ∃ r', r' = splice r s.pen.x ((r.drop (s.pen.x + k)).take (r.length - (s.pen.x + k))) := ⟨_, rfl⟩
  have hat := hcop.at_
  rw [gsplice, ← hr'] at hat
  have h3 : Hid (AtX w3 B g T c bs { s with rows := s.rows.set s.pen.y r' } ∧ Below B w w3) := ⟨HI2.out.1.reRow HI.out.2.2.1 r' hat (fun q hq _ => hcop.keep q hq), HI2.out.2.1.trans ((Below.refl B w2).drew.trans (hcop.below B HI.out.2.2.2.1))⟩
  clear hcop hat
  have c0' : w3.cell? ⟨g, 0, none⟩ = some (.int .i64 s.w) := h3.out.1.cell 0
  have c4' : w3.cell? ⟨g, 4, none⟩ = some (.int .i64 s.pen.y) := h3.out.1.cell 4
  clear c0 c3
  have hf3 : Fine ({ s with rows := s.rows.set s.pen.y r' } : Scr) := by
   have hm := HI.out.2.1.rowsOf s.pen.y (fun _ => r') (fun q _ => by
    rw [hr', close_eq _ _ _ (by omega)]
    simp only [List.length_append, List.length_take, List.length_drop]
    omega)
   rwa [AtX.modify_set _ _ _ (List.getElem?_eq_some_iff.1 HI.out.2.2.2.2.2.1).1] at hm
  have hwc := wipe_calls (w := w3.drew) h3.out.1.drew hf3 s.pen.y V s.w HI.out.2.1.py (by omega) (by omega)
  have HW := Lib.hid hwc
  clear hwc hf3 k1 k2 k3 k4
  go_wp2_with fail
  go_still_tail 16, (by kernel_rfl)
  change wpList _ _ _ _ _ w3.drew
  go_wp2_with fail
  refine HW.out.mono ?_
  rintro e w4 ⟨rfl, ha4, hb4, _⟩
  have hend : Hid (AtX w4 B g T c bs { s with rows := s.rows.set s.pen.y (closeRow r s.pen.x k) } ∧ Below B w w4) := by
   refine ⟨?_, h3.out.2.trans ((Below.refl B w3).drew.trans hb4)⟩
   rw [set_wipe s s.pen.y _ _ r' (List.getElem?_eq_some_iff.1 HI.out.2.2.2.2.2.1).1, hr', close_eq _ _ _ (by have := HI.out.2.2.2.2.2.2.1; have := HI.out.2.2.2.2.2.2.2.2.2.1; omega)] at ha4
   have k1 := HI.out.2.2.2.2.2.2.1
   have k2 := HI.out.2.2.2.2.2.2.2.2.2.2.1
   unfold closeRow
   rw [k1, ← k2]
   rw [k1, ← k2] at ha4
   exact ha4
  clear ha4 hb4
  go_wp2_with fail
  go_end0
  exact ⟨rfl, hend.out⟩
theorem atX_end {w : World} {B g T c : Nat} {bs : List Nat} {s : Scr} (h : AtX w B g T c bs s) (n : Nat) (v : Int) (e : v = (n : Int)) : (∃ bs', AtX (w.setCell ⟨g, 3, none⟩ (.int .i64 v)) B g T c bs' (s.atX n)) ∧ Below B w (w.setCell ⟨g, 3, none⟩ (.int .i64 v)) := by
 subst e
 exact ⟨⟨_, h.setG 3 _ (s' := s.atX n) rfl rfl rfl rfl⟩, (Below.refl B w).setCell (p := ⟨g, 3, none⟩) h.bg _⟩
theorem atY_end {w : World} {B g T c : Nat} {bs : List Nat} {s : Scr} (h : AtX w B g T c bs s) (n : Nat) (v : Int) (e : v = (n : Int)) : (∃ bs', AtX (w.setCell ⟨g, 4, none⟩ (.int .i64 v)) B g T c bs' { s with pen := { s.pen with y := n } }) ∧ Below B w (w.setCell ⟨g, 4, none⟩ (.int .i64 v)) := by
 subst e
 exact ⟨⟨_, h.setG 4 _ (s' := { s with pen := { s.pen with y := n } }) rfl rfl rfl rfl⟩, (Below.refl B w).setCell (p := ⟨g, 4, none⟩) h.bg _⟩
theorem atXd_end {w : World} {B g T c : Nat} {bs : List Nat} {s : Scr} (h : AtX w B g T c bs s) (n : Nat) (v : Int) (e : v = (n : Int)) : (∃ bs', AtX (w.setCell ⟨g, 3, none⟩ (.int .i64 v)).drew B g T c bs' (s.atX n)) ∧ Below B w (w.setCell ⟨g, 3, none⟩ (.int .i64 v)).drew := by
 obtain ⟨⟨bs', h1⟩, h2⟩ := atX_end h n v e
 exact ⟨⟨bs', h1.drew⟩, h2.drew⟩
theorem atYd_end {w : World} {B g T c : Nat} {bs : List Nat} {s : Scr} (h : AtX w B g T c bs s) (n : Nat) (v : Int) (e : v = (n : Int)) : (∃ bs', AtX (w.setCell ⟨g, 4, none⟩ (.int .i64 v)).drew B g T c bs' { s with pen := { s.pen with y := n } }) ∧ Below B w (w.setCell ⟨g, 4, none⟩ (.int .i64 v)).drew := by
 obtain ⟨⟨bs', h1⟩, h2⟩ := atY_end h n v e
 exact ⟨⟨bs', h1.drew⟩, h2.drew⟩
theorem ctl_calls {w : World} {B g T c : Nat} {bs : List Nat} {s : Scr} (h : AtX w B g T c bs s) (hf : Fine s) (n : Int) (hn : n = 13 ∨ n = 8 ∨ n = 9 ∨ n = 10) :
  Calls Tryz.prog 181 #[.pointer (some ⟨g, 0, none⟩), .int .i64 n] w fun e w' => e = .returned (.tuple #[]) ∧ (∃ bs', AtX w' B g T c bs' (s.ctl n)) ∧ Below B w w' := by
 have HI := Lib.hid (And.intro h hf)
 have b1 := hf.w1
 have b2 := hf.h1
 have b3 := hf.px
 have b4 := hf.py
 have b5 := hf.bh
 have c0 : w.cell? ⟨g, 0, none⟩ = some (.int .i64 s.w) := h.cell 0
 have c1 : w.cell? ⟨g, 1, none⟩ = some (.int .i64 s.h) := h.cell 1
 have c3 : w.cell? ⟨g, 3, none⟩ = some (.int .i64 s.pen.x) := h.cell 3
 have c4 : w.cell? ⟨g, 4, none⟩ = some (.int .i64 s.pen.y) := h.cell 4
 have c9 : w.cell? ⟨g, 9, none⟩ = some (.int .i64 s.top) := h.cell 9
 have c10 : w.cell? ⟨g, 10, none⟩ = some (.int .i64 s.bot) := h.cell 10
 have f3 := h.frozen 3
 have f4 := h.frozen 4
 have e0 : IntKind.i64.wrap ((s.pen.x : Int) - 1) = (s.pen.x : Int) - 1 := wrapI _ (by omega) (by omega)
 have e1 : IntKind.i64.wrap ((s.w : Int) - 1) = (s.w : Int) - 1 := wrapI _ (by omega) (by omega)
 have e2 : IntKind.i64.wrap ((s.h : Int) - 1) = (s.h : Int) - 1 := wrapI _ (by omega) (by omega)
 have e3 : IntKind.i64.wrap ((s.pen.y : Int) + 1) = (s.pen.y : Int) + 1 := wrapI _ (by omega) (by omega)
 rcases hn with rfl | rfl | rfl | rfl
 ·clear h hf b1 b2 b3 b4 b5 e0 e1 e2 e3
  go_enter Tryz.func181, Tryz.ntmps181
  go_wp2_with fail
  go_end0
  exact ⟨rfl, atX_end HI.out.1 0 _ rfl⟩
 ·have hs : s.ctl 8 = s.atX (s.pen.x - 1) := by simp [Scr.ctl]
  rw [hs]
  rcases (show (s.pen.x : Int) - 1 < 0 ∨ (0 : Int) ≤ (s.pen.x : Int) - 1 by omega) with hc | hc
  all_goals
   clear h hf b1 b2 b4 b5 e1 e2 e3
   go_enter Tryz.func181, Tryz.ntmps181
   go_wp2_with fail
   go_end0
   exact ⟨rfl, atX_end HI.out.1 (s.pen.x - 1) _ (by omega)⟩
 ·have hs : s.ctl 9 = s.atX (min ((s.pen.x / 8 + 1) * 8) (s.w - 1)) := by simp [Scr.ctl]
  rw [hs]
  have e4 : IntKind.i64.wrap ((s.pen.x : Int) / 8) = (s.pen.x : Int) / 8 := wrapI _ (by omega) (by omega)
  have e5 : IntKind.i64.wrap ((s.pen.x : Int) / 8 + 1) = (s.pen.x : Int) / 8 + 1 := wrapI _ (by omega) (by omega)
  have e6 : IntKind.i64.wrap (((s.pen.x : Int) / 8 + 1) * 8) = ((s.pen.x : Int) / 8 + 1) * 8 := wrapI _ (by omega) (by omega)
  rcases (show (s.w : Int) - 1 < ((s.pen.x : Int) / 8 + 1) * 8 ∨ ((s.pen.x : Int) / 8 + 1) * 8 ≤ (s.w : Int) - 1 by omega) with hc | hc
  all_goals
   clear h hf b1 b2 b4 b5 e0 e2 e3
   go_enter Tryz.func181, Tryz.ntmps181
   go_wp2_with fail
   go_still_tail 18, (by kernel_rfl)
   change wpList _ _ _ _ _ w.drew
   go_wp2_with fail
   go_end0
   exact ⟨rfl, atXd_end HI.out.1 (min ((s.pen.x / 8 + 1) * 8) (s.w - 1)) _ (by omega)⟩
 ·by_cases hy : s.pen.y = s.bot
  ·have hs : s.ctl 10 = s.roll s.top 1 := by simp [Scr.ctl, hy]
   rw [hs]
   have d1 : ((s.pen.y : Int) == (s.bot : Int)) = true := beq_iff_eq.2 (by omega)
   clear h hf b1 b2 b4 b5 e0 e1 e2 e3 hy
   go_enter Tryz.func181, Tryz.ntmps181
   go_wp2_with fail
   go_still (by kernel_rfl)
   change Exit.then _ _ _ _ w.drew
   obtain ⟨w1, hw1⟩ : ∃ w1, w1 = w.drew := ⟨_, rfl⟩
   rw [← hw1]
   have c9' : w1.cell? ⟨g, 9, none⟩ = some (.int .i64 s.top) := by rw [hw1]; exact c9
   have h1 : AtX w1 B g T c bs s ∧ Below B w w1 := by rw [hw1]; exact ⟨HI.out.1.drew, (Below.refl B w).drew⟩
   have HR := Lib.hid (And.intro (roll_up_calls h1.1 HI.out.2 s.top 1 HI.out.2.tb (Nat.le_refl _) (by omega)) h1.2)
   clear c0 c1 c3 c4 c9 c10 f3 f4 hw1 h1
   go_wp2_with fail
   refine HR.out.1.mono ?_
   rintro e w4 ⟨rfl, ha4, hb4⟩
   have hend := Lib.hid (And.intro ha4 (HR.out.2.trans hb4))
   clear ha4 hb4
   go_wp2_with fail
   go_end0
   exact ⟨rfl, hend.out⟩
  ·have hs : s.ctl 10 = { s with pen := { s.pen with y := min (s.pen.y + 1) (s.h - 1) } } := by simp [Scr.ctl, hy]
   rw [hs]
   have d1 : ((s.pen.y : Int) == (s.bot : Int)) = false := beq_eq_false_iff_ne.2 (by omega)
   rcases (show (s.h : Int) - 1 < (s.pen.y : Int) + 1 ∨ (s.pen.y : Int) + 1 ≤ (s.h : Int) - 1 by omega) with hc | hc
   all_goals
    clear h hf b1 b2 b3 b5 e0 e1 hy hs
    go_enter Tryz.func181, Tryz.ntmps181
    go_wp2_with fail
    go_still (by kernel_rfl)
    change Exit.then _ _ _ _ w.drew
    obtain ⟨w1, hw1⟩ : ∃ w1, w1 = w.drew := ⟨_, rfl⟩
    rw [← hw1]
    have c1' : w1.cell? ⟨g, 1, none⟩ = some (.int .i64 s.h) := by rw [hw1]; exact c1
    have c4' : w1.cell? ⟨g, 4, none⟩ = some (.int .i64 s.pen.y) := by rw [hw1]; exact c4
    have f4' : w1.frozen? ⟨g, 4, none⟩ = false := by rw [hw1]; exact f4
    have h1 := Lib.hid (show AtX w1 B g T c bs s ∧ Below B w w1 by rw [hw1]; exact ⟨HI.out.1.drew, (Below.refl B w).drew⟩)
    clear c0 c1 c3 c4 c9 c10 f3 f4 hw1
    go_wp2_with fail
    go_still_tail 16, (by kernel_rfl)
    change wpList _ _ _ _ _ w1.drew
    go_wp2_with fail
    go_end0
    refine ⟨rfl, ?_⟩
    refine (fun x => ⟨x.1, h1.out.2.trans x.2⟩) (atYd_end h1.out.1 (min (s.pen.y + 1) (s.h - 1)) _ (by omega))
end Go.Proofs.YteebhoehflgfoaaGreatDoor.Y
end
section
namespace Go.Proofs.YteebhoehflgfoaaGreatDoor.Y
open Go.RowKit Go.Proofs.YteebhoehflgfoaaGreatDoorW.PrintWords Go.Proofs.YteebhoehflgfoaaGreatDoorW.PrintLast Go.Proofs.YteebhoehflgfoaaGreatDoorW.PrintMore
set_option linter.unusedSimpArgs false
set_option linter.unusedVariables false
set_option maxRecDepth 100000
set_option maxHeartbeats 8000000
/-- Erased in the first i rows. -/
def Scr.erasedTo (s : Scr) (n : Int) (i : Nat) : Scr := { s with rows := s.rows.mapIdx fun y r => if y < i then eraseAt s n y r else r }
theorem erased_none (s : Scr) (n : Int) : s.erasedTo n 0 = s := by
 unfold Scr.erasedTo
 have : s.rows.mapIdx (fun y r => if y < 0 then eraseAt s n y r else r) = s.rows := by
  apply List.ext_getElem
  ·simp
  ·intro j h1 h2
   simp
 rw [this]
theorem erased_all (s : Scr) (n : Int) (i : Nat) (h : s.rows.length ≤ i) : s.erasedTo n i = s.erase n := by
 unfold Scr.erasedTo Scr.erase
 simp only [Scr.mk.injEq, true_and, and_true]
 apply List.ext_getElem
 ·simp
 ·intro j h1 h2
  have hj : j < s.rows.length := by simpa using h1
  simp only [List.getElem_mapIdx]
  rw [if_pos (by omega)]
theorem erased_step (s : Scr) (n : Int) (i a b : Nat) (h : ∀ r, eraseAt s n i r = wipeRow r a b) : (s.erasedTo n i).wipe i a b = s.erasedTo n (i + 1) := by
 unfold Scr.erasedTo Scr.wipe
 simp only [Scr.mk.injEq, true_and, and_true]
 apply List.ext_getElem
 ·simp
 ·intro j h1 h2
  simp only [List.getElem_modify, List.getElem_mapIdx]
  by_cases hj : i = j
  ·subst hj
   rw [if_pos rfl, if_neg (by omega), if_pos (by omega), h]
  ·rw [if_neg hj]
   by_cases hl : j < i
   ·rw [if_pos hl, if_pos (by omega)]
   ·rw [if_neg hl, if_neg (by omega)]
theorem erased_skip (s : Scr) (n : Int) (i : Nat) (h : ∀ r, eraseAt s n i r = r) : s.erasedTo n i = s.erasedTo n (i + 1) := by
 unfold Scr.erasedTo
 simp only [Scr.mk.injEq, true_and, and_true]
 apply List.ext_getElem
 ·simp
 ·intro j h1 h2
  simp only [List.getElem_mapIdx]
  by_cases hj : j = i
  ·subst hj
   rw [if_neg (by omega), if_pos (by omega), h]
  ·by_cases hl : j < i
   ·rw [if_pos hl, if_pos (by omega)]
   ·rw [if_neg hl, if_neg (by omega)]
theorem erased_fine {s : Scr} (h : Fine s) (n : Int) (i : Nat) : Fine (s.erasedTo n i) :=
 ⟨h.w0, h.w1, h.h0, h.h1, by simpa [Scr.erasedTo] using h.rl, fun r hr => by
  simp only [Scr.erasedTo] at hr
  obtain ⟨j, hj, rfl⟩ := List.mem_iff_getElem.1 hr
  rw [List.getElem_mapIdx]
  have hj' : j < s.rows.length := by simpa using hj
  have := h.rw _ (List.getElem_mem hj')
  unfold eraseAt
  repeat' split
  all_goals first | exact this | (rw [len_wipe]; exact this), h.px, h.py, h.sx, h.sy, h.tb, h.bh⟩
theorem erase_calls0 {w : World} {B g T c : Nat} {bs : List Nat} {s : Scr} (h : AtX w B g T c bs s) (hf : Fine s) :
  Calls Tryz.prog 158 #[.pointer (some ⟨g, 0, none⟩), .int .i64 0] w fun e w' => e = .returned (.tuple #[]) ∧ AtX w' B g T c bs (s.erase 0) ∧ Below B w w' := by
  have HI := Lib.hid (And.intro h hf)
  have b2 := hf.h1
  have c1 : w.cell? ⟨g, 1, none⟩ = some (.int .i64 s.h) := h.cell 1
  clear h hf
  go_enter Tryz.func158, Tryz.ntmps158
  go_wp2_with fail
  go_loopg [9] s.h (fun kq v9 w' => ∃ i : Nat, v9 = .int .i64 (i : Int) ∧ i + kq = s.h ∧ Hid (AtX w' B g T c bs (s.erasedTo 0 i) ∧ Below B w w'))
  case atStart => exact ⟨0, rfl, by omega, by rw [erased_none]; exact HI.out.1, Below.refl _ _⟩
  case round =>
   obtain ⟨i, rfl, hk, hA⟩ := hrel
   have c0' : wr.cell? ⟨g, 0, none⟩ = some (.int .i64 s.w) := hA.out.1.cell 0
   have c3' : wr.cell? ⟨g, 3, none⟩ = some (.int .i64 s.pen.x) := hA.out.1.cell 3
   have c4' : wr.cell? ⟨g, 4, none⟩ = some (.int .i64 s.pen.y) := hA.out.1.cell 4
   have px := HI.out.2.px
   have pw := HI.out.2.w1
   have e0 : IntKind.i64.wrap ((s.pen.x : Int) + 1) = (s.pen.x : Int) + 1 := wrapI _ (by omega) (by omega)
   have e1 : IntKind.i64.wrap ((i : Int) + 1) = ((i + 1 : Nat) : Int) := by rw [wrapI _ (by omega) (by omega)]; omega
   have hfi := Lib.hid (erased_fine HI.out.2 0 i)
   by_cases hi : i < s.h
   ·have d3 : (i : Int) < (s.h : Int) := by omega
    rcases Nat.lt_trichotomy i s.pen.y with hy | hy | hy
    ·have g1 : ((i : Int) == (s.pen.y : Int)) = false := beq_eq_false_iff_ne.2 (by omega)
     have g2 : i ≤ s.pen.y := by omega
     have g3 : ¬ s.pen.y ≤ i := by omega
     have hst : s.erasedTo 0 i = s.erasedTo 0 (i + 1) := erased_skip s 0 i (fun r => by unfold eraseAt; rw [if_neg (by omega), if_neg (by omega), if_neg (by omega)])
     have hend : Hid (AtX wr B g T c bs (s.erasedTo 0 (i + 1)) ∧ Below B w wr) := by rw [← hst]; exact hA.out
     clear hst px pw
     go_wp2_with fail
     go_roundg (s.h - (i + 1))
     case measure => omega
     case rel => exact ⟨i + 1, rfl, by omega, hend.out⟩
    ·subst hy
     have hwc := wipe_calls (w := wr.drew) hA.out.1.drew hfi.out s.pen.y s.pen.x s.w hi (by omega) (by omega)
     have hst : (s.erasedTo 0 s.pen.y).wipe s.pen.y s.pen.x s.w = s.erasedTo 0 (s.pen.y + 1) := erased_step s 0 s.pen.y s.pen.x s.w (fun r => by unfold eraseAt; rw [if_neg (by omega), if_pos ⟨rfl, rfl⟩])
     rw [hst] at hwc
     push_cast at hwc
     have HW := Lib.hid hwc
     clear hwc hst px pw
     go_wp2_with fail
     go_still_tail 11, (by kernel_rfl)
     change wpList _ _ _ _ _ wr.drew
     go_wp2_with fail
     refine HW.out.mono ?_
     rintro e w4 ⟨rfl, ha4, hb4, _⟩
     have hend := Lib.hid (And.intro ha4 (hA.out.2.trans ((Below.refl B wr).drew.trans hb4)))
     clear ha4 hb4
     go_wp2_with fail
     go_roundg (s.h - (s.pen.y + 1))
     case measure => omega
     case rel => exact ⟨s.pen.y + 1, rfl, by omega, hend.out⟩
    ·have g1 : ((i : Int) == (s.pen.y : Int)) = false := beq_eq_false_iff_ne.2 (by omega)
     have g2 : ¬ i ≤ s.pen.y := by omega
     have g3 : s.pen.y ≤ i := by omega
     have hwc := wipe_calls (w := wr) hA.out.1 hfi.out i 0 s.w hi (by omega) (by omega)
     have hst : (s.erasedTo 0 i).wipe i 0 s.w = s.erasedTo 0 (i + 1) := erased_step s 0 i 0 s.w (fun r => by unfold eraseAt; rw [if_pos (by omega)])
     rw [hst] at hwc
     push_cast at hwc
     have HW := Lib.hid hwc
     clear hwc hst px pw
     go_wp2_with fail
     refine HW.out.mono ?_
     rintro e w4 ⟨rfl, ha4, hb4, _⟩
     have hend := Lib.hid (And.intro ha4 (hA.out.2.trans (hb4)))
     clear ha4 hb4
     go_wp2_with fail
     go_roundg (s.h - (i + 1))
     case measure => omega
     case rel => exact ⟨i + 1, rfl, by omega, hend.out⟩
   ·have d3 : decide ((i : Int) < (s.h : Int)) = false := decide_eq_false (by omega)
    go_wp2_with fail
    go_end0
    exact ⟨rfl, by rw [← erased_all s 0 i (by rw [HI.out.2.rl]; omega)]; exact hA.out⟩
theorem erase_calls1 {w : World} {B g T c : Nat} {bs : List Nat} {s : Scr} (h : AtX w B g T c bs s) (hf : Fine s) :
  Calls Tryz.prog 158 #[.pointer (some ⟨g, 0, none⟩), .int .i64 1] w fun e w' => e = .returned (.tuple #[]) ∧ AtX w' B g T c bs (s.erase 1) ∧ Below B w w' := by
  have HI := Lib.hid (And.intro h hf)
  have b2 := hf.h1
  have c1 : w.cell? ⟨g, 1, none⟩ = some (.int .i64 s.h) := h.cell 1
  clear h hf
  go_enter Tryz.func158, Tryz.ntmps158
  go_wp2_with fail
  go_loopg [9] s.h (fun kq v9 w' => ∃ i : Nat, v9 = .int .i64 (i : Int) ∧ i + kq = s.h ∧ Hid (AtX w' B g T c bs (s.erasedTo 1 i) ∧ Below B w w'))
  case atStart => exact ⟨0, rfl, by omega, by rw [erased_none]; exact HI.out.1, Below.refl _ _⟩
  case round =>
   obtain ⟨i, rfl, hk, hA⟩ := hrel
   have c0' : wr.cell? ⟨g, 0, none⟩ = some (.int .i64 s.w) := hA.out.1.cell 0
   have c3' : wr.cell? ⟨g, 3, none⟩ = some (.int .i64 s.pen.x) := hA.out.1.cell 3
   have c4' : wr.cell? ⟨g, 4, none⟩ = some (.int .i64 s.pen.y) := hA.out.1.cell 4
   have px := HI.out.2.px
   have pw := HI.out.2.w1
   have e0 : IntKind.i64.wrap ((s.pen.x : Int) + 1) = (s.pen.x : Int) + 1 := wrapI _ (by omega) (by omega)
   have e1 : IntKind.i64.wrap ((i : Int) + 1) = ((i + 1 : Nat) : Int) := by rw [wrapI _ (by omega) (by omega)]; omega
   have hfi := Lib.hid (erased_fine HI.out.2 1 i)
   by_cases hi : i < s.h
   ·have d3 : (i : Int) < (s.h : Int) := by omega
    rcases Nat.lt_trichotomy i s.pen.y with hy | hy | hy
    ·have g1 : ((i : Int) == (s.pen.y : Int)) = false := beq_eq_false_iff_ne.2 (by omega)
     have g2 : i ≤ s.pen.y := by omega
     have g3 : ¬ s.pen.y ≤ i := by omega
     have hwc := wipe_calls (w := wr) hA.out.1 hfi.out i 0 s.w hi (by omega) (by omega)
     have hst : (s.erasedTo 1 i).wipe i 0 s.w = s.erasedTo 1 (i + 1) := erased_step s 1 i 0 s.w (fun r => by unfold eraseAt; rw [if_pos (by omega)])
     rw [hst] at hwc
     push_cast at hwc
     have HW := Lib.hid hwc
     clear hwc hst px pw
     go_wp2_with fail
     refine HW.out.mono ?_
     rintro e w4 ⟨rfl, ha4, hb4, _⟩
     have hend := Lib.hid (And.intro ha4 (hA.out.2.trans (hb4)))
     clear ha4 hb4
     go_wp2_with fail
     go_roundg (s.h - (i + 1))
     case measure => omega
     case rel => exact ⟨i + 1, rfl, by omega, hend.out⟩
    ·subst hy
     have hwc := wipe_calls (w := wr) hA.out.1 hfi.out s.pen.y 0 (s.pen.x + 1) hi (by omega) (by omega)
     have hst : (s.erasedTo 1 s.pen.y).wipe s.pen.y 0 (s.pen.x + 1) = s.erasedTo 1 (s.pen.y + 1) := erased_step s 1 s.pen.y 0 (s.pen.x + 1) (fun r => by unfold eraseAt; rw [if_neg (by omega), if_neg (by omega), if_pos rfl])
     rw [hst] at hwc
     push_cast at hwc
     have HW := Lib.hid hwc
     clear hwc hst px pw
     go_wp2_with fail
     refine HW.out.mono ?_
     rintro e w4 ⟨rfl, ha4, hb4, _⟩
     have hend := Lib.hid (And.intro ha4 (hA.out.2.trans (hb4)))
     clear ha4 hb4
     go_wp2_with fail
     go_roundg (s.h - (s.pen.y + 1))
     case measure => omega
     case rel => exact ⟨s.pen.y + 1, rfl, by omega, hend.out⟩
    ·have g1 : ((i : Int) == (s.pen.y : Int)) = false := beq_eq_false_iff_ne.2 (by omega)
     have g2 : ¬ i ≤ s.pen.y := by omega
     have g3 : s.pen.y ≤ i := by omega
     have hst : s.erasedTo 1 i = s.erasedTo 1 (i + 1) := erased_skip s 1 i (fun r => by unfold eraseAt; rw [if_neg (by omega), if_neg (by omega), if_neg (by omega)])
     have hend : Hid (AtX wr B g T c bs (s.erasedTo 1 (i + 1)) ∧ Below B w wr) := by rw [← hst]; exact hA.out
     clear hst px pw
     go_wp2_with fail
     go_roundg (s.h - (i + 1))
     case measure => omega
     case rel => exact ⟨i + 1, rfl, by omega, hend.out⟩
   ·have d3 : decide ((i : Int) < (s.h : Int)) = false := decide_eq_false (by omega)
    go_wp2_with fail
    go_end0
    exact ⟨rfl, by rw [← erased_all s 1 i (by rw [HI.out.2.rl]; omega)]; exact hA.out⟩
theorem erase_calls2 {w : World} {B g T c : Nat} {bs : List Nat} {s : Scr} (h : AtX w B g T c bs s) (hf : Fine s) :
  Calls Tryz.prog 158 #[.pointer (some ⟨g, 0, none⟩), .int .i64 2] w fun e w' => e = .returned (.tuple #[]) ∧ AtX w' B g T c bs (s.erase 2) ∧ Below B w w' := by
  have HI := Lib.hid (And.intro h hf)
  have b2 := hf.h1
  have c1 : w.cell? ⟨g, 1, none⟩ = some (.int .i64 s.h) := h.cell 1
  clear h hf
  go_enter Tryz.func158, Tryz.ntmps158
  go_wp2_with fail
  go_loopg [9] s.h (fun kq v9 w' => ∃ i : Nat, v9 = .int .i64 (i : Int) ∧ i + kq = s.h ∧ Hid (AtX w' B g T c bs (s.erasedTo 2 i) ∧ Below B w w'))
  case atStart => exact ⟨0, rfl, by omega, by rw [erased_none]; exact HI.out.1, Below.refl _ _⟩
  case round =>
   obtain ⟨i, rfl, hk, hA⟩ := hrel
   have c0' : wr.cell? ⟨g, 0, none⟩ = some (.int .i64 s.w) := hA.out.1.cell 0
   have c3' : wr.cell? ⟨g, 3, none⟩ = some (.int .i64 s.pen.x) := hA.out.1.cell 3
   have c4' : wr.cell? ⟨g, 4, none⟩ = some (.int .i64 s.pen.y) := hA.out.1.cell 4
   have px := HI.out.2.px
   have pw := HI.out.2.w1
   have e0 : IntKind.i64.wrap ((s.pen.x : Int) + 1) = (s.pen.x : Int) + 1 := wrapI _ (by omega) (by omega)
   have e1 : IntKind.i64.wrap ((i : Int) + 1) = ((i + 1 : Nat) : Int) := by rw [wrapI _ (by omega) (by omega)]; omega
   have hfi := Lib.hid (erased_fine HI.out.2 2 i)
   by_cases hi : i < s.h
   ·have d3 : (i : Int) < (s.h : Int) := by omega
    rcases Nat.lt_trichotomy i s.pen.y with hy | hy | hy
    ·have g1 : ((i : Int) == (s.pen.y : Int)) = false := beq_eq_false_iff_ne.2 (by omega)
     have g2 : i ≤ s.pen.y := by omega
     have g3 : ¬ s.pen.y ≤ i := by omega
     have hwc := wipe_calls (w := wr) hA.out.1 hfi.out i 0 s.w hi (by omega) (by omega)
     have hst : (s.erasedTo 2 i).wipe i 0 s.w = s.erasedTo 2 (i + 1) := erased_step s 2 i 0 s.w (fun r => by unfold eraseAt; rw [if_pos (by omega)])
     rw [hst] at hwc
     push_cast at hwc
     have HW := Lib.hid hwc
     clear hwc hst px pw
     go_wp2_with fail
     refine HW.out.mono ?_
     rintro e w4 ⟨rfl, ha4, hb4, _⟩
     have hend := Lib.hid (And.intro ha4 (hA.out.2.trans (hb4)))
     clear ha4 hb4
     go_wp2_with fail
     go_roundg (s.h - (i + 1))
     case measure => omega
     case rel => exact ⟨i + 1, rfl, by omega, hend.out⟩
    ·subst hy
     have hwc := wipe_calls (w := wr) hA.out.1 hfi.out s.pen.y 0 s.w hi (by omega) (by omega)
     have hst : (s.erasedTo 2 s.pen.y).wipe s.pen.y 0 s.w = s.erasedTo 2 (s.pen.y + 1) := erased_step s 2 s.pen.y 0 s.w (fun r => by unfold eraseAt; rw [if_pos (by omega)])
     rw [hst] at hwc
     push_cast at hwc
     have HW := Lib.hid hwc
     clear hwc hst px pw
     go_wp2_with fail
     refine HW.out.mono ?_
     rintro e w4 ⟨rfl, ha4, hb4, _⟩
     have hend := Lib.hid (And.intro ha4 (hA.out.2.trans (hb4)))
     clear ha4 hb4
     go_wp2_with fail
     go_roundg (s.h - (s.pen.y + 1))
     case measure => omega
     case rel => exact ⟨s.pen.y + 1, rfl, by omega, hend.out⟩
    ·have g1 : ((i : Int) == (s.pen.y : Int)) = false := beq_eq_false_iff_ne.2 (by omega)
     have g2 : ¬ i ≤ s.pen.y := by omega
     have g3 : s.pen.y ≤ i := by omega
     have hwc := wipe_calls (w := wr) hA.out.1 hfi.out i 0 s.w hi (by omega) (by omega)
     have hst : (s.erasedTo 2 i).wipe i 0 s.w = s.erasedTo 2 (i + 1) := erased_step s 2 i 0 s.w (fun r => by unfold eraseAt; rw [if_pos (by omega)])
     rw [hst] at hwc
     push_cast at hwc
     have HW := Lib.hid hwc
     clear hwc hst px pw
     go_wp2_with fail
     refine HW.out.mono ?_
     rintro e w4 ⟨rfl, ha4, hb4, _⟩
     have hend := Lib.hid (And.intro ha4 (hA.out.2.trans (hb4)))
     clear ha4 hb4
     go_wp2_with fail
     go_roundg (s.h - (i + 1))
     case measure => omega
     case rel => exact ⟨i + 1, rfl, by omega, hend.out⟩
   ·have d3 : decide ((i : Int) < (s.h : Int)) = false := decide_eq_false (by omega)
    go_wp2_with fail
    go_end0
    exact ⟨rfl, by rw [← erased_all s 2 i (by rw [HI.out.2.rl]; omega)]; exact hA.out⟩
theorem erase_calls {w : World} {B g T c : Nat} {bs : List Nat} {s : Scr} (h : AtX w B g T c bs s) (hf : Fine s) (n : Int) (hn : n = 0 ∨ n = 1 ∨ n = 2) :
  Calls Tryz.prog 158 #[.pointer (some ⟨g, 0, none⟩), .int .i64 n] w fun e w' => e = .returned (.tuple #[]) ∧ AtX w' B g T c bs (s.erase n) ∧ Below B w w' := by
 rcases hn with rfl | rfl | rfl
 ·exact erase_calls0 h hf
 ·exact erase_calls1 h hf
 ·exact erase_calls2 h hf
end Go.Proofs.YteebhoehflgfoaaGreatDoor.Y
end
section
namespace Go.Proofs.YteebhoehflgfoaaGreatDoor.Y
open Go.RowKit Go.Proofs.YteebhoehflgfoaaGreatDoorW.PrintWords Go.Proofs.YteebhoehflgfoaaGreatDoorW.PrintLast Go.Proofs.YteebhoehflgfoaaGreatDoorW.PrintMore
attribute [local go_sem] max2_int min2_int max_two min_two max_three min_three max_four min_four
set_option linter.unusedVariables false
set_option linter.unusedSimpArgs false
/-! ### spec_DrawAttr: function 180 -/
def spec_DrawAttr.f (a0 : Int) (a1 : Int) : Option (Int) := if a1 = 0 then (some 0) else (if a1 ≤ 9 then (if 0 ≤ a1 then (some (Go.bits .or .i64 a0 (shl .i64 1 a1))) else (none)) else (if a1 = 22 then (some (Go.bits .andNot .i64 a0 6)) else (if a1 = 25 then (some (Go.bits .andNot .i64 a0 96)) else (if 0 ≤ (wrap64 (a1 - 20)) then (some (Go.bits .andNot .i64 a0 (shl .i64 1 (wrap64 (a1 - 20))))) else (none)))))
set_option maxHeartbeats 8000000 in
set_option maxRecDepth 100000 in
theorem spec_DrawAttr.calls (a0 : Int) (a1 : Int) (r : Int) (w : World) (h : spec_DrawAttr.f a0 a1 = some r) :
  Calls Tryz.prog 180 #[.int .i64 a0, .int .i64 a1] w fun e w' => e = .returned (.int .i64 r) ∧ Drawn0 w w' := by
 have H : (if a1 = 0 then (some 0) else (if a1 ≤ 9 then (if 0 ≤ a1 then (some (Go.bits .or .i64 a0 (shl .i64 1 a1))) else (none)) else (if a1 = 22 then (some (Go.bits .andNot .i64 a0 6)) else (if a1 = 25 then (some (Go.bits .andNot .i64 a0 96)) else (if 0 ≤ (wrap64 (a1 - 20)) then (some (Go.bits .andNot .i64 a0 (shl .i64 1 (wrap64 (a1 - 20))))) else (none)))))) = some r := h
 clear h
 by_cases c3 : a1 = 0
 ·rw [if_pos c3] at H
  have c3b0 : (a1 == 0) = true := beq_iff_eq.mpr c3
  have c3b1 : (a1 != 0) = false := bne_eq_false_iff_eq.mpr c3
  clear c3
  obtain rfl := Option.some.inj H
  go_enter Tryz.func180, Tryz.ntmps180
  go_wp2
  go_ret
  exact ⟨by first | rfl | (simp; done) | (simp [*]; done), by repeat (first | exact Drawn0.refl _ | apply Drawn0.step)⟩
 ·rw [if_neg c3] at H
  have c3b0 : (a1 == 0) = false := beq_eq_false_iff_ne.mpr c3
  have c3b1 : (a1 != 0) = true := bne_iff_ne.mpr c3
  by_cases c4 : a1 ≤ 9
  ·rw [if_pos c4] at H
   have c4b0 : decide (a1 ≤ 9) = true := decide_eq_true c4
   clear c4
   by_cases c5 : 0 ≤ a1
   ·rw [if_pos c5] at H
    have c5b0 := eq_true c5
    have c5b1 : decide (0 ≤ a1) = true := decide_eq_true c5
    clear c5
    obtain ⟨ji6, hji6⟩ : ∃ j_ : Int, (shl .i64 1 a1) = j_ := ⟨_, rfl⟩
    replace H : (some (Go.bits .or .i64 a0 (ji6))) = some r := by first | (rw [hji6] at H; exact H) | (simp only [hji6] at H ⊢; exact H)
    have hji6_ : (IntKind.i64.wrap (1 * 2 ^ min a1.toNat 64)) = ji6 := hji6
    have hji6z : a1 ≤ 64 → (IntKind.i64.wrap (1 * 2 ^ a1.toNat)) = ji6 := shl_small hji6
    have hji6u : (IntKind.i64.wrap (2 ^ min a1.toNat 64)) = ji6 := by have h_ := hji6_; rw [Int.one_mul] at h_; exact h_
    have hji6v : a1 ≤ 64 → (IntKind.i64.wrap (2 ^ a1.toNat)) = ji6 := fun hle_ => by have h_ := hji6z hle_; rw [Int.one_mul] at h_; exact h_
    have hji6y : (wrap64 (1 * 2 ^ min a1.toNat 64)) = ji6 := (i64_w _).symm.trans hji6_
    have hji6x : a1 ≤ 64 → (wrap64 (1 * 2 ^ a1.toNat)) = ji6 := fun h_ => (i64_w _).symm.trans (hji6z h_)
    obtain rfl := Option.some.inj H
    go_enter Tryz.func180, Tryz.ntmps180
    go_wp2
    go_ret
    exact ⟨by first | rfl | (simp; done) | (simp only [← hji6] <;> (first | rfl | simp)) | (simp [*]; done), by repeat (first | exact Drawn0.refl _ | apply Drawn0.step)⟩
   ·rw [if_neg c5] at H
    exact absurd H (by simp)
  ·rw [if_neg c4] at H
   have c4b0 : decide (a1 ≤ 9) = false := decide_eq_false c4
   clear c4
   by_cases c7 : a1 = 22
   ·rw [if_pos c7] at H
    have c7b0 : (a1 == 22) = true := beq_iff_eq.mpr c7
    have c7b1 : (a1 != 22) = false := bne_eq_false_iff_eq.mpr c7
    clear c7
    obtain rfl := Option.some.inj H
    go_enter Tryz.func180, Tryz.ntmps180
    go_wp2
    go_ret
    exact ⟨by first | rfl | (simp; done) | (simp [*]; done), by repeat (first | exact Drawn0.refl _ | apply Drawn0.step)⟩
   ·rw [if_neg c7] at H
    have c7b0 : (a1 == 22) = false := beq_eq_false_iff_ne.mpr c7
    have c7b1 : (a1 != 22) = true := bne_iff_ne.mpr c7
    by_cases c8 : a1 = 25
    ·rw [if_pos c8] at H
     have c8b0 : (a1 == 25) = true := beq_iff_eq.mpr c8
     have c8b1 : (a1 != 25) = false := bne_eq_false_iff_eq.mpr c8
     clear c8
     obtain rfl := Option.some.inj H
     go_enter Tryz.func180, Tryz.ntmps180
     go_wp2
     go_ret
     exact ⟨by first | rfl | (simp; done) | (simp [*]; done), by repeat (first | exact Drawn0.refl _ | apply Drawn0.step)⟩
    ·rw [if_neg c8] at H
     have c8b0 : (a1 == 25) = false := beq_eq_false_iff_ne.mpr c8
     have c8b1 : (a1 != 25) = true := bne_iff_ne.mpr c8
     obtain ⟨ji9, hji9⟩ : ∃ j_ : Int, (wrap64 (a1 - 20)) = j_ := ⟨_, rfl⟩
     replace H : (if 0 ≤ (ji9) then (some (Go.bits .andNot .i64 a0 (shl .i64 1 (ji9)))) else (none)) = some r := by first | (rw [hji9] at H; exact H) | (simp only [hji9] at H ⊢; exact H)
     have hji9w : (IntKind.i64.wrap (a1 - 20)) = ji9 := (i64_w _).trans hji9
     by_cases c10 : 0 ≤ (ji9)
     ·rw [if_pos c10] at H
      have c10b0 := eq_true c10
      have c10b1 : decide (0 ≤ (ji9)) = true := decide_eq_true c10
      clear c10
      obtain ⟨ji11, hji11⟩ : ∃ j_ : Int, (shl .i64 1 (ji9)) = j_ := ⟨_, rfl⟩
      replace H : (some (Go.bits .andNot .i64 a0 (ji11))) = some r := by first | (rw [hji11] at H; exact H) | (simp only [hji11] at H ⊢; exact H)
      have hji11_ : (IntKind.i64.wrap (1 * 2 ^ min (ji9).toNat 64)) = ji11 := hji11
      have hji11z : (ji9) ≤ 64 → (IntKind.i64.wrap (1 * 2 ^ (ji9).toNat)) = ji11 := shl_small hji11
      have hji11u : (IntKind.i64.wrap (2 ^ min (ji9).toNat 64)) = ji11 := by have h_ := hji11_; rw [Int.one_mul] at h_; exact h_
      have hji11v : (ji9) ≤ 64 → (IntKind.i64.wrap (2 ^ (ji9).toNat)) = ji11 := fun hle_ => by have h_ := hji11z hle_; rw [Int.one_mul] at h_; exact h_
      have hji11y : (wrap64 (1 * 2 ^ min (ji9).toNat 64)) = ji11 := (i64_w _).symm.trans hji11_
      have hji11x : (ji9) ≤ 64 → (wrap64 (1 * 2 ^ (ji9).toNat)) = ji11 := fun h_ => (i64_w _).symm.trans (hji11z h_)
      obtain rfl := Option.some.inj H
      go_enter Tryz.func180, Tryz.ntmps180
      go_wp2
      go_ret
      exact ⟨by first | rfl | (simp; done) | (simp only [← hji9, ← hji11] <;> (first | rfl | simp)) | (simp [*]; done), by repeat (first | exact Drawn0.refl _ | apply Drawn0.step)⟩
     ·rw [if_neg c10] at H
      exact absurd H (by simp)
end Go.Proofs.YteebhoehflgfoaaGreatDoor.Y
end
