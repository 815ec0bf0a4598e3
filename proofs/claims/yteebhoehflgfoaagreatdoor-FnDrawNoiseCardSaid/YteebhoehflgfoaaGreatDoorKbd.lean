/- Texts of this claim, joined: XScrDoI XScrDoJ XScrDo XScrPlay XScrRun Y3 Y4 Y5. Of each, what the claim uses. -/
import Derived.Test.YteebhoehflgfoaaGreatDoorKbb
import Derived.Deep.DeepCutAuto
import Derived.Deep.QuietTactic
import Derived.BigQuiet
import Derived.Test.YteebhoehflgfoaaGreatDoorKbc
import Derived.Test.YteebhoehflgfoaaGreatDoorKay
import Derived.Test.YteebhoehflgfoaaGreatDoorKac
import Derived.Test.YteebhoehflgfoaaGreatDoorKat
section
namespace Go.Proofs.YteebhoehflgfoaaGreatDoor.Y
open Go.RowKit Go.Proofs.YteebhoehflgfoaaGreatDoorW.PrintWords Go.Proofs.YteebhoehflgfoaaGreatDoorW.PrintLast Go.Proofs.YteebhoehflgfoaaGreatDoorW.PrintMore
set_option linter.unusedSimpArgs false
set_option linter.unusedVariables false
set_option maxRecDepth 100000
set_option maxHeartbeats 80000000
theorem again_stay {s : Scr} (h : s.last = 0) : s.again = s := if_pos h
theorem again_puts {s : Scr} (h : s.last ≠ 0) : s.again = s.put s.last := if_neg h
theorem doI_calls {w : World} {B g T c : Nat} {bs : List Nat} {s : Scr} (h : AtX w B g T c bs s) (hf : Fine s) (k n m : Int) (t : ByteArray) (L : Option Addr) (lc : Nat) (l : List Int) (hop : (k = 22 ∧ 1 ≤ n ∧ n ≤ 99)) :
  Calls Tryz.prog 138 #[.pointer (some ⟨g, 0, none⟩), opV k n m t L lc l] w fun e w' => e = .returned (.tuple #[]) ∧ (∃ bs', AtX w' B g T c bs' (s.op attrA k n m (bytesOf t) l)) ∧ Below B w w' := by
 have sz := h.size
 have HP := Lib.hid (show w.heap.size ∉ bs ∧ w.heap.size ≠ g from ⟨h.fresh, Nat.ne_of_gt (blk_lt h.blk)⟩)
 have HO := Lib.hid hop
 clear hop
 go_enter Tryz.func138, Tryz.ntmps138
 go_upto_region 1 with fail
 obtain ⟨W, hW⟩ : ∃ W, W = w.alloc (Obj.cells #[.int .i64 k, .int .i64 n, .int .i64 m, .string t, .slice L l.length lc] 38) := ⟨_, rfl⟩
 rw [← hW]
 have HI := Lib.hid (show AtX W B g T c bs s ∧ Below B w W ∧ Fine s ∧ W.heap[w.heap.size]? = some (Obj.cells #[.int .i64 k, .int .i64 n, .int .i64 m, .string t, .slice L l.length lc] 38 (0, 0)) by rw [hW]; exact ⟨h.below ((Below.refl _ _).alloc (Nat.le_refl _) _), (Below.refl B w).alloc sz _, hf, blk_new w _⟩)
 clear h hf hW sz
 have c3 : W.cell? ⟨g, 3, none⟩ = some (.int .i64 s.pen.x) := HI.out.1.cell 3
 have c4 : W.cell? ⟨g, 4, none⟩ = some (.int .i64 s.pen.y) := HI.out.1.cell 4
 go_wp2_with fail
 go_still (by kernel_rfl)
 change Exit.then _ _ _ _ W.drew
 obtain ⟨W1, hW1⟩ : ∃ W1, W1 = W.drew := ⟨_, rfl⟩
 rw [← hW1]
 have HI1 := Lib.hid (show AtX W1 B g T c bs s ∧ Below B w W1 ∧ Fine s ∧ W1.heap[w.heap.size]? = some (Obj.cells #[.int .i64 k, .int .i64 n, .int .i64 m, .string t, .slice L l.length lc] 38 (0, 0)) by rw [hW1]; exact ⟨HI.out.1.drew, HI.out.2.1.drew, HI.out.2.2.1, HI.out.2.2.2⟩)
 clear hW1 c3 c4 HI
 have c4 : W1.cell? ⟨g, 4, none⟩ = some (.int .i64 s.pen.y) := HI1.out.1.cell 4
 have c9 : W1.cell? ⟨g, 9, none⟩ = some (.int .i64 s.top) := HI1.out.1.cell 9
 have c10 : W1.cell? ⟨g, 10, none⟩ = some (.int .i64 s.bot) := HI1.out.1.cell 10
 go_wp2_with fail
 go_cut [6] (fun v6 wc => v6 = .bool (decide (s.top ≤ s.pen.y ∧ s.pen.y ≤ s.bot)) ∧ Hid (AtX wc B g T c bs s ∧ Below B w wc ∧ Fine s ∧ wc.heap[w.heap.size]? = some (Obj.cells #[.int .i64 k, .int .i64 n, .int .i64 m, .string t, .slice L l.length lc] 38 (0, 0))))
 case first =>
  rcases (show (s.top ≤ s.pen.y ∧ s.pen.y ≤ s.bot) ∨ (s.top ≤ s.pen.y ∧ ¬ s.pen.y ≤ s.bot) ∨ ¬ s.top ≤ s.pen.y by omega) with ⟨q1, q2⟩ | ⟨q1, q2⟩ | q1
  all_goals
   go_quiet (fail)
   go_wp2_with fail
   go_meet
   case rel => exact ⟨by first | rw [decide_eq_true (show s.top ≤ s.pen.y ∧ s.pen.y ≤ s.bot from ⟨q1, q2⟩)] | rw [decide_eq_false (show ¬ (s.top ≤ s.pen.y ∧ s.pen.y ≤ s.bot) by omega)], HI1.out.1.keep (fun _ _ _ => rfl), pw_below_drewN HI1.out.2.1 nq, HI1.out.2.2.1, HI1.out.2.2.2⟩
 case rest =>
  obtain ⟨rfl, HI⟩ := hcut
  have px := HI.out.2.2.1.px
  have py := HI.out.2.2.1.py
  have w1 := HI.out.2.2.1.w1
  have h1 := HI.out.2.2.1.h1
  clear HI1 c4 c9 c10
  have hop := HO.out
  obtain ⟨hk, hn⟩ := hop
  ·subst hk
   obtain ⟨q, rfl⟩ : ∃ q : Nat, n = (q : Int) := ⟨n.toNat, by omega⟩
   have hopq : Hid (s.op attrA 22 (q : Int) m (bytesOf t) l = iter Scr.again q s) := by unfold Hid; rw [op_again, Int.toNat_natCast]
   have o0 : wc.cell? ⟨w.heap.size, 0, none⟩ = some (.int .i64 22) := blk_cell HI.out.2.2.2 0
   have o1 : wc.cell? ⟨w.heap.size, 1, none⟩ = some (.int .i64 (q : Int)) := blk_cell HI.out.2.2.2 1
   clear px py w1 h1
   go_wp2_with fail
   go_loopg [250] q (fun kq v250 w' => ∃ i : Nat, v250 = .int .i64 (i : Int) ∧ i + kq = q ∧ Hid (AtX w' B g T c bs (iter Scr.again i s) ∧ Below B w w'))
   case atStart => exact ⟨0, rfl, by omega, HI.out.1, HI.out.2.1⟩
   case round =>
    obtain ⟨i, rfl, hk, hA⟩ := hrel
    by_cases hi : i < q
    ·have d3 : (i : Int) < (q : Int) := by omega
     have e1 : IntKind.i64.wrap ((i : Int) + 1) = ((i + 1 : Nat) : Int) := by rw [wrapI _ (by omega) (by omega)]; omega
     have c11 : wr.cell? ⟨g, 11, none⟩ = some (.int .u8 (iter Scr.again i s).last) := hA.out.1.cell 11
     have hst : Hid (iter Scr.again (i + 1) s = (iter Scr.again i s).again) := iter_last Scr.again i s
     by_cases hz : (iter Scr.again i s).last = 0
     ·rw [hz] at c11
      have hsk : Hid (iter Scr.again (i + 1) s = iter Scr.again i s) := by unfold Hid; rw [hst.out]; exact again_stay hz
      clear hz hst
      go_wp2_with fail
      go_roundg (q - (i + 1))
      case measure => omega
      case rel => exact ⟨i + 1, rfl, by omega, by rw [hsk.out]; exact hA.out.1, hA.out.2⟩
     ·have hpu : Hid (iter Scr.again (i + 1) s = (iter Scr.again i s).put (iter Scr.again i s).last) := by unfold Hid; rw [hst.out]; exact again_puts hz
      have HC := Lib.hid (put_calls hA.out.1 (Fine.agains i HI.out.2.2.1) (iter Scr.again i s).last)
      clear hst
      generalize (iter Scr.again i s).last = la at c11 hz hpu HC
      go_wp2_with fail
      refine HC.out.mono ?_
      rintro e w4 ⟨rfl, ha4, hb4, _⟩
      have hend := Lib.hid (And.intro ha4 (hA.out.2.trans hb4))
      clear ha4 hb4
      go_wp2_with fail
      go_roundg (q - (i + 1))
      case measure => omega
      case rel => exact ⟨i + 1, rfl, by omega, by rw [hpu.out]; exact hend.out.1, hend.out.2⟩
    ·have d3 : decide ((i : Int) < (q : Int)) = false := decide_eq_false (by omega)
     obtain rfl : i = q := by omega
     go_wp2_with fail
     go_end0
     exact ⟨rfl, ⟨_, by rw [hopq.out]; exact hA.out.1⟩, hA.out.2⟩
/-- Operations that other is asked for. -/
def OpOth (k n m : Int) (t : ByteArray) (l : List Int) : Prop :=
 (k = 42 ∧ 1 ≤ n ∧ n < m ∧ m ≤ 99) ∨ k = 50 ∨ k = 51 ∨ (k = 52 ∧ l.length ≤ 1000 ∧ ∀ x ∈ l, (0 ≤ x ∧ x ≤ 29) ∧ (x ≤ 9 ∨ 22 ≤ x)) ∨ (k = 60 ∧ t.size ≤ 1000) ∨ (k = 61 ∧ (n = 13 ∨ n = 8 ∨ n = 9 ∨ n = 10))
theorem op_other (s : Scr) (A : Int → Int → Int) (k n m : Int) (t l : List Int) (hk : k = 42 ∨ k = 50 ∨ k = 51 ∨ k = 52 ∨ k = 60 ∨ k = 61) : s.op A k n m t l = s.other A k n m t l := by
 rcases hk with rfl | rfl | rfl | rfl | rfl | rfl <;> simp [Scr.op]
theorem other_calls {w : World} {B g T c : Nat} {bs : List Nat} {s : Scr} (h : AtX w B g T c bs s) (hf : Fine s) (k n m : Int) (t : ByteArray) (L : Option Addr) (lc : Nat) (l : List Int) (hop : OpOth k n m t l) (hL : ∀ w' : World, Below B w w' → Kd.C (Kd.int .i64) w' L l.length l) :
  Calls Tryz.prog 162 #[.pointer (some ⟨g, 0, none⟩), opV k n m t L lc l] w fun e w' => e = .returned (.tuple #[]) ∧ (∃ bs', AtX w' B g T c bs' (s.other attrA k n m (bytesOf t) l)) ∧ Below B w w' := by
 rcases hop with ⟨rfl, h1, h2, h3⟩ | rfl | rfl | ⟨rfl, h1, h2⟩ | ⟨rfl, h1⟩ | ⟨rfl, h1⟩
 ·by_cases hm : m ≤ (s.h : Int)
  ·rw [show s.other attrA 42 n m (bytesOf t) l = s.marg n m by simp [Scr.other, hm, h2]]
   exact marg_calls h hf t L lc l n m h1 h2 h3 hm
  ·rw [show s.other attrA 42 n m (bytesOf t) l = s by simp [Scr.other, hm]]
   exact nomarg_calls h hf t L lc l n m h3 (by omega)
 ·exact save_calls h hf t L lc l n m
 ·exact restore_calls h hf t L lc l n m
 ·exact style_calls h hf t L lc l n m h1 h2 hL
 ·exact text_calls h hf t L lc l n m h1
 ·exact octl_calls h hf t L lc l n m h1
theorem doJ_calls {w : World} {B g T c : Nat} {bs : List Nat} {s : Scr} (h : AtX w B g T c bs s) (hf : Fine s) (k n m : Int) (t : ByteArray) (L : Option Addr) (lc : Nat) (l : List Int) (hop : OpOth k n m t l) (hL : ∀ w' : World, Below B w w' → Kd.C (Kd.int .i64) w' L l.length l) :
  Calls Tryz.prog 138 #[.pointer (some ⟨g, 0, none⟩), opV k n m t L lc l] w fun e w' => e = .returned (.tuple #[]) ∧ (∃ bs', AtX w' B g T c bs' (s.op attrA k n m (bytesOf t) l)) ∧ Below B w w' := by
 have sz := h.size
 have HP := Lib.hid (show w.heap.size ∉ bs ∧ w.heap.size ≠ g from ⟨h.fresh, Nat.ne_of_gt (blk_lt h.blk)⟩)
 have HL := Lib.hid hL
 have HO := Lib.hid hop
 clear hop
 go_enter Tryz.func138, Tryz.ntmps138
 go_upto_region 1 with fail
 obtain ⟨W, hW⟩ : ∃ W, W = w.alloc (Obj.cells #[.int .i64 k, .int .i64 n, .int .i64 m, .string t, .slice L l.length lc] 38) := ⟨_, rfl⟩
 rw [← hW]
 have HI := Lib.hid (show AtX W B g T c bs s ∧ Below B w W ∧ Fine s ∧ W.heap[w.heap.size]? = some (Obj.cells #[.int .i64 k, .int .i64 n, .int .i64 m, .string t, .slice L l.length lc] 38 (0, 0)) by rw [hW]; exact ⟨h.below ((Below.refl _ _).alloc (Nat.le_refl _) _), (Below.refl B w).alloc sz _, hf, blk_new w _⟩)
 clear h hf hW sz hL
 have c3 : W.cell? ⟨g, 3, none⟩ = some (.int .i64 s.pen.x) := HI.out.1.cell 3
 have c4 : W.cell? ⟨g, 4, none⟩ = some (.int .i64 s.pen.y) := HI.out.1.cell 4
 go_wp2_with fail
 go_still (by kernel_rfl)
 change Exit.then _ _ _ _ W.drew
 obtain ⟨W1, hW1⟩ : ∃ W1, W1 = W.drew := ⟨_, rfl⟩
 rw [← hW1]
 have HI1 := Lib.hid (show AtX W1 B g T c bs s ∧ Below B w W1 ∧ Fine s ∧ W1.heap[w.heap.size]? = some (Obj.cells #[.int .i64 k, .int .i64 n, .int .i64 m, .string t, .slice L l.length lc] 38 (0, 0)) by rw [hW1]; exact ⟨HI.out.1.drew, HI.out.2.1.drew, HI.out.2.2.1, HI.out.2.2.2⟩)
 clear hW1 c3 c4 HI
 have c4 : W1.cell? ⟨g, 4, none⟩ = some (.int .i64 s.pen.y) := HI1.out.1.cell 4
 have c9 : W1.cell? ⟨g, 9, none⟩ = some (.int .i64 s.top) := HI1.out.1.cell 9
 have c10 : W1.cell? ⟨g, 10, none⟩ = some (.int .i64 s.bot) := HI1.out.1.cell 10
 go_wp2_with fail
 go_cut [6] (fun v6 wc => v6 = .bool (decide (s.top ≤ s.pen.y ∧ s.pen.y ≤ s.bot)) ∧ Hid (AtX wc B g T c bs s ∧ Below B w wc ∧ Fine s ∧ wc.heap[w.heap.size]? = some (Obj.cells #[.int .i64 k, .int .i64 n, .int .i64 m, .string t, .slice L l.length lc] 38 (0, 0))))
 case first =>
  rcases (show (s.top ≤ s.pen.y ∧ s.pen.y ≤ s.bot) ∨ (s.top ≤ s.pen.y ∧ ¬ s.pen.y ≤ s.bot) ∨ ¬ s.top ≤ s.pen.y by omega) with ⟨q1, q2⟩ | ⟨q1, q2⟩ | q1
  all_goals
   go_quiet (fail)
   go_wp2_with fail
   go_meet
   case rel => exact ⟨by first | rw [decide_eq_true (show s.top ≤ s.pen.y ∧ s.pen.y ≤ s.bot from ⟨q1, q2⟩)] | rw [decide_eq_false (show ¬ (s.top ≤ s.pen.y ∧ s.pen.y ≤ s.bot) by omega)], HI1.out.1.keep (fun _ _ _ => rfl), pw_below_drewN HI1.out.2.1 nq, HI1.out.2.2.1, HI1.out.2.2.2⟩
 case rest =>
  obtain ⟨rfl, HI⟩ := hcut
  have px := HI.out.2.2.1.px
  have py := HI.out.2.2.1.py
  have w1 := HI.out.2.2.1.w1
  have h1 := HI.out.2.2.1.h1
  clear HI1 c4 c9 c10
  have hop := HO.out
  rcases (show k = 42 ∨ k = 50 ∨ k = 51 ∨ k = 52 ∨ k = 60 ∨ k = 61 by unfold OpOth at hop; omega) with hk | hk | hk | hk | hk | hk
  ·subst hk
   have o0 : wc.cell? ⟨w.heap.size, 0, none⟩ = some (.int .i64 42) := blk_cell HI.out.2.2.2 0
   have o1 : wc.cell? ⟨w.heap.size, 1, none⟩ = some (.int .i64 n) := blk_cell HI.out.2.2.2 1
   have o2 : wc.cell? ⟨w.heap.size, 2, none⟩ = some (.int .i64 m) := blk_cell HI.out.2.2.2 2
   have o3 : wc.cell? ⟨w.heap.size, 3, none⟩ = some (.string t) := blk_cell HI.out.2.2.2 3
   have o4 : wc.cell? ⟨w.heap.size, 4, none⟩ = some (.slice L l.length lc) := blk_cell HI.out.2.2.2 4
   have HC := Lib.hid (other_calls HI.out.1 HI.out.2.2.1 42 n m t L lc l hop (fun w' hb => HL.out w' (HI.out.2.1.trans hb)))
   clear px py w1 h1 hop
   go_wp2_with fail
   refine HC.out.mono ?_
   rintro e w4 ⟨rfl, ha4, hb4⟩
   have hend := Lib.hid (And.intro ha4 (HI.out.2.1.trans hb4))
   clear ha4 hb4
   go_wp2_with fail
   go_end0
   exact ⟨rfl, by rw [op_other s attrA 42 n m (bytesOf t) l (by decide)]; exact hend.out.1, hend.out.2⟩
  ·subst hk
   have o0 : wc.cell? ⟨w.heap.size, 0, none⟩ = some (.int .i64 50) := blk_cell HI.out.2.2.2 0
   have o1 : wc.cell? ⟨w.heap.size, 1, none⟩ = some (.int .i64 n) := blk_cell HI.out.2.2.2 1
   have o2 : wc.cell? ⟨w.heap.size, 2, none⟩ = some (.int .i64 m) := blk_cell HI.out.2.2.2 2
   have o3 : wc.cell? ⟨w.heap.size, 3, none⟩ = some (.string t) := blk_cell HI.out.2.2.2 3
   have o4 : wc.cell? ⟨w.heap.size, 4, none⟩ = some (.slice L l.length lc) := blk_cell HI.out.2.2.2 4
   have HC := Lib.hid (other_calls HI.out.1 HI.out.2.2.1 50 n m t L lc l hop (fun w' hb => HL.out w' (HI.out.2.1.trans hb)))
   clear px py w1 h1 hop
   go_wp2_with fail
   refine HC.out.mono ?_
   rintro e w4 ⟨rfl, ha4, hb4⟩
   have hend := Lib.hid (And.intro ha4 (HI.out.2.1.trans hb4))
   clear ha4 hb4
   go_wp2_with fail
   go_end0
   exact ⟨rfl, by rw [op_other s attrA 50 n m (bytesOf t) l (by decide)]; exact hend.out.1, hend.out.2⟩
  ·subst hk
   have o0 : wc.cell? ⟨w.heap.size, 0, none⟩ = some (.int .i64 51) := blk_cell HI.out.2.2.2 0
   have o1 : wc.cell? ⟨w.heap.size, 1, none⟩ = some (.int .i64 n) := blk_cell HI.out.2.2.2 1
   have o2 : wc.cell? ⟨w.heap.size, 2, none⟩ = some (.int .i64 m) := blk_cell HI.out.2.2.2 2
   have o3 : wc.cell? ⟨w.heap.size, 3, none⟩ = some (.string t) := blk_cell HI.out.2.2.2 3
   have o4 : wc.cell? ⟨w.heap.size, 4, none⟩ = some (.slice L l.length lc) := blk_cell HI.out.2.2.2 4
   have HC := Lib.hid (other_calls HI.out.1 HI.out.2.2.1 51 n m t L lc l hop (fun w' hb => HL.out w' (HI.out.2.1.trans hb)))
   clear px py w1 h1 hop
   go_wp2_with fail
   refine HC.out.mono ?_
   rintro e w4 ⟨rfl, ha4, hb4⟩
   have hend := Lib.hid (And.intro ha4 (HI.out.2.1.trans hb4))
   clear ha4 hb4
   go_wp2_with fail
   go_end0
   exact ⟨rfl, by rw [op_other s attrA 51 n m (bytesOf t) l (by decide)]; exact hend.out.1, hend.out.2⟩
  ·subst hk
   have o0 : wc.cell? ⟨w.heap.size, 0, none⟩ = some (.int .i64 52) := blk_cell HI.out.2.2.2 0
   have o1 : wc.cell? ⟨w.heap.size, 1, none⟩ = some (.int .i64 n) := blk_cell HI.out.2.2.2 1
   have o2 : wc.cell? ⟨w.heap.size, 2, none⟩ = some (.int .i64 m) := blk_cell HI.out.2.2.2 2
   have o3 : wc.cell? ⟨w.heap.size, 3, none⟩ = some (.string t) := blk_cell HI.out.2.2.2 3
   have o4 : wc.cell? ⟨w.heap.size, 4, none⟩ = some (.slice L l.length lc) := blk_cell HI.out.2.2.2 4
   have HC := Lib.hid (other_calls HI.out.1 HI.out.2.2.1 52 n m t L lc l hop (fun w' hb => HL.out w' (HI.out.2.1.trans hb)))
   clear px py w1 h1 hop
   go_wp2_with fail
   refine HC.out.mono ?_
   rintro e w4 ⟨rfl, ha4, hb4⟩
   have hend := Lib.hid (And.intro ha4 (HI.out.2.1.trans hb4))
   clear ha4 hb4
   go_wp2_with fail
   go_end0
   exact ⟨rfl, by rw [op_other s attrA 52 n m (bytesOf t) l (by decide)]; exact hend.out.1, hend.out.2⟩
  ·subst hk
   have o0 : wc.cell? ⟨w.heap.size, 0, none⟩ = some (.int .i64 60) := blk_cell HI.out.2.2.2 0
   have o1 : wc.cell? ⟨w.heap.size, 1, none⟩ = some (.int .i64 n) := blk_cell HI.out.2.2.2 1
   have o2 : wc.cell? ⟨w.heap.size, 2, none⟩ = some (.int .i64 m) := blk_cell HI.out.2.2.2 2
   have o3 : wc.cell? ⟨w.heap.size, 3, none⟩ = some (.string t) := blk_cell HI.out.2.2.2 3
   have o4 : wc.cell? ⟨w.heap.size, 4, none⟩ = some (.slice L l.length lc) := blk_cell HI.out.2.2.2 4
   have HC := Lib.hid (other_calls HI.out.1 HI.out.2.2.1 60 n m t L lc l hop (fun w' hb => HL.out w' (HI.out.2.1.trans hb)))
   clear px py w1 h1 hop
   go_wp2_with fail
   refine HC.out.mono ?_
   rintro e w4 ⟨rfl, ha4, hb4⟩
   have hend := Lib.hid (And.intro ha4 (HI.out.2.1.trans hb4))
   clear ha4 hb4
   go_wp2_with fail
   go_end0
   exact ⟨rfl, by rw [op_other s attrA 60 n m (bytesOf t) l (by decide)]; exact hend.out.1, hend.out.2⟩
  ·subst hk
   have o0 : wc.cell? ⟨w.heap.size, 0, none⟩ = some (.int .i64 61) := blk_cell HI.out.2.2.2 0
   have o1 : wc.cell? ⟨w.heap.size, 1, none⟩ = some (.int .i64 n) := blk_cell HI.out.2.2.2 1
   have o2 : wc.cell? ⟨w.heap.size, 2, none⟩ = some (.int .i64 m) := blk_cell HI.out.2.2.2 2
   have o3 : wc.cell? ⟨w.heap.size, 3, none⟩ = some (.string t) := blk_cell HI.out.2.2.2 3
   have o4 : wc.cell? ⟨w.heap.size, 4, none⟩ = some (.slice L l.length lc) := blk_cell HI.out.2.2.2 4
   have HC := Lib.hid (other_calls HI.out.1 HI.out.2.2.1 61 n m t L lc l hop (fun w' hb => HL.out w' (HI.out.2.1.trans hb)))
   clear px py w1 h1 hop
   go_wp2_with fail
   refine HC.out.mono ?_
   rintro e w4 ⟨rfl, ha4, hb4⟩
   have hend := Lib.hid (And.intro ha4 (HI.out.2.1.trans hb4))
   clear ha4 hb4
   go_wp2_with fail
   go_end0
   exact ⟨rfl, by rw [op_other s attrA 61 n m (bytesOf t) l (by decide)]; exact hend.out.1, hend.out.2⟩
/-- Operations that do is asked for. -/
def OpGo (k n m : Int) (t : ByteArray) (l : List Int) : Prop :=
 ((0 ≤ k ∧ k ≤ 22 ∧ k ≠ 7 ∧ k ≠ 8) ∧ (if k = 10 ∨ k = 11 then 0 ≤ n ∧ n ≤ 2 else 1 ≤ n ∧ n ≤ 99)) ∨ ((k = 40 ∨ k = 41) ∧ (1 ≤ n ∧ n ≤ 99) ∧ 1 ≤ m ∧ m ≤ 99) ∨ OpOth k n m t l
theorem do_calls {w : World} {B g T c : Nat} {bs : List Nat} {s : Scr} (h : AtX w B g T c bs s) (hf : Fine s) (k n m : Int) (t : ByteArray) (L : Option Addr) (lc : Nat) (l : List Int) (hop : OpGo k n m t l) (hL : ∀ w' : World, Below B w w' → Kd.C (Kd.int .i64) w' L l.length l) :
  Calls Tryz.prog 138 #[.pointer (some ⟨g, 0, none⟩), opV k n m t L lc l] w fun e w' => e = .returned (.tuple #[]) ∧ (∃ bs', AtX w' B g T c bs' (s.op attrA k n m (bytesOf t) l)) ∧ Below B w w' := by
 rcases hop with ⟨hk, hn⟩ | ⟨hk, hn, hm⟩ | hop
 ·by_cases c : k = 10 ∨ k = 11
  ·rw [if_pos c] at hn
   rcases c with c | c
   ·exact doD_calls h hf k n m t L lc l (Or.inr ⟨c, hn⟩)
   ·exact doE_calls h hf k n m t L lc l ⟨c, hn⟩
  ·rw [if_neg c] at hn
   rcases (show (k = 0 ∨ k = 1 ∨ k = 19 ∨ k = 2 ∨ k = 21 ∨ k = 3) ∨ (k = 4 ∨ k = 5 ∨ k = 6 ∨ k = 20 ∨ k = 18) ∨ k = 9 ∨ (k = 12 ∨ k = 13) ∨ (k = 14 ∨ k = 15) ∨ (k = 16 ∨ k = 17) ∨ k = 22 by omega) with c | c | c | c | c | c | c
   ·exact doA_calls h hf k n m t L lc l (by omega)
   ·exact doB_calls h hf k n m t L lc l (by omega)
   ·exact doD_calls h hf k n m t L lc l (Or.inl ⟨c, hn⟩)
   ·exact doF_calls h hf k n m t L lc l (by omega)
   ·exact doG_calls h hf k n m t L lc l (by omega)
   ·exact doH_calls h hf k n m t L lc l (by omega)
   ·exact doI_calls h hf k n m t L lc l ⟨c, hn⟩
 ·exact doC_calls h hf k n m t L lc l (by omega)
 ·exact doJ_calls h hf k n m t L lc l hop hL
end Go.Proofs.YteebhoehflgfoaaGreatDoor.Y
end
section
namespace Go.Proofs.YteebhoehflgfoaaGreatDoor.Y
open Go.RowKit Go.Proofs.YteebhoehflgfoaaGreatDoorW.PrintWords Go.Proofs.YteebhoehflgfoaaGreatDoorW.PrintLast Go.Proofs.YteebhoehflgfoaaGreatDoorW.PrintMore
set_option linter.unusedSimpArgs false
set_option linter.unusedVariables false
set_option maxRecDepth 100000
set_option maxHeartbeats 8000000
def po (o : S38) : PO := ⟨o.f0, o.f1, o.f2, bytesOf o.f3, o.f4⟩
/-- An operation that a screen does. -/
def Does (o : S38) : Prop := OpGo o.f0 o.f1 o.f2 o.f3 o.f4 ∧ POk (po o)
theorem does_fine (A : Int → Int → Int) (l : List S38) {s : Scr} (h : Fine s) (hl : ∀ o ∈ l, Does o) : Fine (s.play A (l.map po)) :=
 play_fine A (l.map po) h (fun o ho => by
  obtain ⟨p, hp, rfl⟩ := List.mem_map.1 ho
  exact (hl p hp).2)
theorem play_calls {w w0 : World} {B g T c : Nat} {bs : List Nat} {s : Scr} (h : AtX w B g T c bs s) (hf : Fine s) (A0 : Option Addr) (c0 : Nat) (l : List S38) (hr0 : Kd.C k38 w0 A0 l.length l) (hB0 : w0.heap.size ≤ B) (hw0 : Below w0.heap.size w0 w) (hl : ∀ o ∈ l, Does o) (hn : l.length ≤ 1000000) :
  Calls Tryz.prog 66 #[.pointer (some ⟨g, 0, none⟩), .slice A0 l.length c0] w fun e w' => e = .returned (.tuple #[]) ∧ (∃ bs', AtX w' B g T c bs' (s.play attrA (l.map po))) ∧ Below B w w' := by
 have HI := Lib.hid (And.intro hf (And.intro hr0 (And.intro hB0 (And.intro hw0 hl))))
 have H0 := Lib.hid (show (∃ bs', AtX w B g T c bs' (s.play attrA (([] : List S38).map po))) ∧ Below B w w from ⟨⟨bs, h⟩, Below.refl _ _⟩)
 have hu42 := Tryz.underlying38
 clear h hf hr0 hB0 hw0 hl
 go_enter Tryz.func66, Tryz.ntmps66
 go_wp2_with fail
 go_loopg [8] l.length (fun kq v8 w' => ∃ i : Nat, v8 = .int .i64 (i : Int) ∧ i + kq = l.length ∧ Hid ((∃ bs', AtX w' B g T c bs' (s.play attrA ((l.take i).map po))) ∧ Below B w w'))
 case atStart => exact ⟨0, rfl, by omega, H0.out⟩
 case round =>
  clear H0
  obtain ⟨i, rfl, hk, hA⟩ := hrel
  by_cases hi : i < l.length
  ·have d3 : (i : Int) < (l.length : Int) := by omega
   have p0 : 0 ≤ (i : Int) := by omega
   have e1 : IntKind.i64.wrap ((i : Int) + 1) = ((i + 1 : Nat) : Int) := by rw [wrapI _ (by omega) (by omega)]; omega
   obtain ⟨ad, A4, c4, e, x0, x1, x2, x3, x4, l4, g4⟩ := at_T38 HI.out.2.1 (i : Int) p0 d3
   cases e
   have hrd : rd_T38 l (i : Int) = l[i] := by simp [rd_T38, hi]
   have hdo := HI.out.2.2.2.2 _ (List.getElem_mem hi)
   have hst : (s.play attrA ((l.take i).map po)).op attrA l[i].f0 l[i].f1 l[i].f2 (bytesOf l[i].f3) l[i].f4 = s.play attrA ((l.take (i + 1)).map po) := by
    rw [List.take_succ_eq_append_getElem hi, List.map_append, play_append]
    rfl
   have hfi := does_fine attrA (l.take i) HI.out.1 (fun o ho => HI.out.2.2.2.2 o (List.mem_of_mem_take ho))
   rw [hrd] at x0 x1 x2 x3 x4 l4 g4
   generalize l[i] = o at hdo hst x0 x1 x2 x3 x4 l4 g4
   have HB : Below w0.heap.size w0 wr := HI.out.2.2.2.1.trans (hA.out.2.mono HI.out.2.2.1)
   replace x0 := (HB.cell (World.block_lt_of_cell? w0 _ x0)).trans x0
   replace x1 := (HB.cell (World.block_lt_of_cell? w0 _ x1)).trans x1
   replace x2 := (HB.cell (World.block_lt_of_cell? w0 _ x2)).trans x2
   replace x3 := (HB.cell (World.block_lt_of_cell? w0 _ x3)).trans x3
   replace x4 := (HB.cell (World.block_lt_of_cell? w0 _ x4)).trans x4
   simp only [Int.toNat_natCast] at x0 x1 x2 x3 x4
   have HX := Lib.hid (And.intro hdo (And.intro hst (And.intro hfi (And.intro g4 HB))))
   clear hdo hst hfi g4 l4 hrd HB
   replace p0 := eq_true p0
   go_upto_region 3 with fail
   obtain ⟨W, hW⟩ : ∃ W, W = wr.alloc (Obj.cells #[.int .i64 o.f0, .int .i64 o.f1, .int .i64 o.f2, .string o.f3, .slice A4 o.f4.length c4] 38) := ⟨_, rfl⟩
   rw [← hW]
   obtain ⟨bs1, ha1⟩ := hA.out.1
   have ho : W.heap[wr.heap.size]? = some (Obj.cells #[.int .i64 o.f0, .int .i64 o.f1, .int .i64 o.f2, .string o.f3, .slice A4 o.f4.length c4] 38 (0, 0)) := by rw [hW]; exact blk_new wr _
   have o0 : W.cell? ⟨wr.heap.size, 0, none⟩ = some (.int .i64 o.f0) := blk_cell ho 0
   have o1 : W.cell? ⟨wr.heap.size, 1, none⟩ = some (.int .i64 o.f1) := blk_cell ho 1
   have o2 : W.cell? ⟨wr.heap.size, 2, none⟩ = some (.int .i64 o.f2) := blk_cell ho 2
   have o3 : W.cell? ⟨wr.heap.size, 3, none⟩ = some (.string o.f3) := blk_cell ho 3
   have o4 : W.cell? ⟨wr.heap.size, 4, none⟩ = some (.slice A4 o.f4.length c4) := blk_cell ho 4
   have hb1 : Below B wr W := by rw [hW]; exact (Below.refl B wr).alloc ha1.size _
   have hA1 : AtX W B g T c bs1 (s.play attrA ((l.take i).map po)) := by rw [hW]; exact ha1.below ((Below.refl _ _).alloc (Nat.le_refl _) _)
   have hC := do_calls hA1 HX.out.2.2.1 o.f0 o.f1 o.f2 o.f3 A4 c4 o.f4 HX.out.1.1 (fun w' hb => Kd.C_below HX.out.2.2.2.1 (HX.out.2.2.2.2.trans ((hb1.trans hb).mono HI.out.2.2.1)))
   rw [HX.out.2.1] at hC
   have HC := Lib.hid hC
   have HB1 := Lib.hid (hA.out.2.trans hb1)
   clear hC hb1 hA1 ha1 ho hW x0 x1 x2 x3 x4
   go_wp2_with fail
   refine HC.out.mono ?_
   rintro e w4 ⟨rfl, ha4, hb4⟩
   have hend := Lib.hid (And.intro ha4 (HB1.out.trans hb4))
   clear ha4 hb4
   go_wp2_with fail
   go_roundg (l.length - (i + 1))
   case measure => omega
   case rel => exact ⟨i + 1, rfl, by omega, hend.out⟩
  ·have d3 : decide ((i : Int) < (l.length : Int)) = false := decide_eq_false (by omega)
   have hfull : l.take i = l := List.take_of_length_le (by omega)
   go_wp2_with fail
   go_end0
   exact ⟨rfl, by rw [← hfull]; exact hA.out.1, hA.out.2⟩
end Go.Proofs.YteebhoehflgfoaaGreatDoor.Y
end
section
namespace Go.Proofs.YteebhoehflgfoaaGreatDoor.Y
open Go.RowKit Go.Proofs.YteebhoehflgfoaaGreatDoorW.PrintWords Go.Proofs.YteebhoehflgfoaaGreatDoorW.PrintLast Go.Proofs.YteebhoehflgfoaaGreatDoorW.PrintMore
set_option linter.unusedSimpArgs false
set_option linter.unusedVariables false
theorem right_does {o : Op} (h : Right o) : Does o := by
 unfold Does OpGo OpOth POk NumsOk po
 rcases h with ⟨h1, h2, h3, h4⟩ | ⟨h1, h2, h3⟩ | ⟨h1, h2, h3⟩ | ⟨h1, h2, h3, h4⟩ | ⟨h1, h2, h3, h4, h5⟩ | ⟨h1, h2, h3, h4, h5⟩ | ⟨h1, h2, h3, h4⟩
 ·unfold NumK at h1
  refine ⟨Or.inl ⟨h1, h4⟩, ?_⟩
  simp only
  split at h4 <;> omega
 ·exact ⟨Or.inr (Or.inl ⟨h1, by omega, by omega⟩), by simp only; omega⟩
 ·exact ⟨Or.inr (Or.inr (Or.inl ⟨h1, by omega⟩)), by simp only; omega⟩
 ·exact ⟨Or.inr (Or.inr (by omega)), by simp only; omega⟩
 ·refine ⟨Or.inr (Or.inr (Or.inr (Or.inr (Or.inr (Or.inl ⟨h1, ?_, ?_⟩))))), by simp only; omega⟩
  ·have := h5.2.2
   omega
  ·intro x hx
   have := h5.1 x hx
   unfold AttrOk at this
   omega
 ·exact ⟨Or.inr (Or.inr (Or.inr (Or.inr (Or.inr (Or.inr (Or.inl ⟨h1, by have := h5.2.2; omega⟩)))))), by simp only; omega⟩
 ·exact ⟨Or.inr (Or.inr (Or.inr (Or.inr (Or.inr (Or.inr (Or.inr ⟨h1, by omega⟩)))))), by simp only; omega⟩
end Go.Proofs.YteebhoehflgfoaaGreatDoor.Y
end
section
namespace Go.Proofs.YteebhoehflgfoaaGreatDoor.Y
open Go.RowKit Go.Proofs.YteebhoehflgfoaaGreatDoorW.PrintWords Go.Proofs.YteebhoehflgfoaaGreatDoorW.PrintLast Go.Proofs.YteebhoehflgfoaaGreatDoorW.PrintMore
attribute [local go_sem] max2_int min2_int max_two min_two max_three min_three max_four min_four
set_option linter.unusedVariables false
set_option linter.unusedSimpArgs false
set_option maxHeartbeats 8000000 in
set_option maxRecDepth 100000 in
theorem spec_IsDrawNumber.calls (a0 : Int) (r : Bool) (w : World) (h : spec_IsDrawNumber.f a0 = some r) :
  Calls Tryz.prog 57 #[.int .i64 a0] w fun e w' => e = .returned (.bool r) ∧ Drawn0 w w' := by
 have H : (if a0 ≥ 0 then (if a0 ≤ 22 then (if a0 = 7 then (some false) else (some (a0 != 8))) else (some false)) else (some false)) = some r := h
 clear h
 by_cases c2 : a0 ≥ 0
 ·rw [if_pos c2] at H
  have c2b0 : decide (0 ≤ a0) = true := decide_eq_true c2
  clear c2
  by_cases c3 : a0 ≤ 22
  ·rw [if_pos c3] at H
   have c3b0 : decide (a0 ≤ 22) = true := decide_eq_true c3
   clear c3
   by_cases c4 : a0 = 7
   ·rw [if_pos c4] at H
    have c4b0 : (a0 == 7) = true := beq_iff_eq.mpr c4
    have c4b1 : (a0 != 7) = false := bne_eq_false_iff_eq.mpr c4
    clear c4
    obtain rfl := Option.some.inj H
    go_enter Tryz.func57, Tryz.ntmps57
    go_wp2
    go_ret
    exact ⟨by first | rfl | (simp; done) | (simp [*]; done), by repeat (first | exact Drawn0.refl _ | apply Drawn0.step)⟩
   ·rw [if_neg c4] at H
    have c4b0 : (a0 == 7) = false := beq_eq_false_iff_ne.mpr c4
    have c4b1 : (a0 != 7) = true := bne_iff_ne.mpr c4
    obtain rfl := Option.some.inj H
    go_enter Tryz.func57, Tryz.ntmps57
    go_wp2
    go_ret
    exact ⟨by first | rfl | (simp; done) | (simp [*]; done), by repeat (first | exact Drawn0.refl _ | apply Drawn0.step)⟩
  ·rw [if_neg c3] at H
   have c3b0 : decide (a0 ≤ 22) = false := decide_eq_false c3
   clear c3
   obtain rfl := Option.some.inj H
   go_enter Tryz.func57, Tryz.ntmps57
   go_wp2
   go_ret
   exact ⟨by first | rfl | (simp; done) | (simp [*]; done), by repeat (first | exact Drawn0.refl _ | apply Drawn0.step)⟩
 ·rw [if_neg c2] at H
  have c2b0 : decide (0 ≤ a0) = false := decide_eq_false c2
  clear c2
  obtain rfl := Option.some.inj H
  go_enter Tryz.func57, Tryz.ntmps57
  go_wp2
  go_ret
  exact ⟨by first | rfl | (simp; done) | (simp [*]; done), by repeat (first | exact Drawn0.refl _ | apply Drawn0.step)⟩
set_option maxHeartbeats 8000000 in
set_option maxRecDepth 100000 in
theorem spec_drawAttributes.calls (k : Nat) (A0 : Option Addr) (c0 : Nat) (l0 : List Int) (r : Bool) (w : World) (hr0 : Kd.C (Kd.int .i64) w A0 l0.length l0) (hc0 : l0.length ≤ c0) (h : spec_drawAttributes.f k l0 = some r) :
  Calls Tryz.prog 67 #[.slice A0 l0.length c0] w fun e w' => e = .returned (.bool r) ∧ Drawn0 w w' := by
 have HR0 := Aside0.mk hr0
 have HC0 := Aside0.mk hc0
 clear hr0 hc0
 have H : (spec_drawAttributes.l0 k l0 l0 (l0.length : Int) 0) = some r := h
 clear h
 have H' := Aside0.mk H
 clear H
 go_enter Tryz.func67, Tryz.ntmps67
 go_wp2
 go_loopg [7] k (fun kq v7 w' => ∃ (x7_1 : Int), v7 = .int .i64 x7_1 ∧ Aside0 (spec_drawAttributes.l0 kq l0 l0 (l0.length : Int) x7_1 = some r) ∧ Aside0 (kq ≤ k) ∧ Drawn0 w w')
 case atStart => exact ⟨(0), (by first | rfl | (simp; done) | (simp [*]; done)), H', ⟨Nat.le_refl _⟩, by repeat (first | exact Drawn0.refl _ | apply Drawn0.step)⟩
 case round =>
  clear H'
  obtain ⟨x7_1, rfl, HA, HK1, ⟨m1, rfl⟩⟩ := hrel
  cases gk with
  | zero => exact absurd HA.out (by simp [spec_drawAttributes.l0])
  | succ k1 =>
   have H := HA.out
   clear HA
   simp only [spec_drawAttributes.l0] at H
   by_cases c2 : x7_1 < (l0.length : Int)
   ·rw [if_pos c2] at H
    have c2b0 : decide (x7_1 < (l0.length : Int)) = true := decide_eq_true c2
    clear c2
    by_cases c3 : 0 ≤ x7_1
    ·rw [if_pos c3] at H
     have c3b0 : decide (0 ≤ x7_1) = true := decide_eq_true c3
     clear c3
     by_cases c4 : x7_1 < (l0.length : Int)
     ·rw [if_pos c4] at H
      have c4b0 : decide (x7_1 < (l0.length : Int)) = true := decide_eq_true c4
      clear c4
      by_cases c5 : (rd l0 x7_1) < 0
      ·rw [if_pos c5] at H
       have c5b0 : decide ((rd l0 x7_1) < 0) = true := decide_eq_true c5
       clear c5
       obtain rfl := Option.some.inj H
       have p105 : 0 ≤ (x7_1 : Int) := of_decide_eq_true (by first | (with_reducible assumption) | assumption)
       have q105 : x7_1 < (l0.length : Int) := of_decide_eq_true (by first | (with_reducible assumption) | assumption)
       obtain ⟨ad105, e105, hx105_0⟩ := Kd.at_int HR0.out x7_1 p105 q105
       cases e105
       replace p105 := eq_true p105
       replace q105 := eq_true q105
       go_wp2
       go_ret
       exact ⟨by first | rfl | (simp; done) | (simp [*]; done), by repeat (first | exact Drawn0.refl _ | apply Drawn0.step)⟩
      ·rw [if_neg c5] at H
       have c5b0 : decide ((rd l0 x7_1) < 0) = false := decide_eq_false c5
       clear c5
       by_cases c6 : (rd l0 x7_1) > 29
       ·rw [if_pos c6] at H
        have c6b0 : decide (29 < (rd l0 x7_1)) = true := decide_eq_true c6
        clear c6
        obtain rfl := Option.some.inj H
        have p105 : 0 ≤ (x7_1 : Int) := of_decide_eq_true (by first | (with_reducible assumption) | assumption)
        have q105 : x7_1 < (l0.length : Int) := of_decide_eq_true (by first | (with_reducible assumption) | assumption)
        obtain ⟨ad105, e105, hx105_0⟩ := Kd.at_int HR0.out x7_1 p105 q105
        cases e105
        replace p105 := eq_true p105
        replace q105 := eq_true q105
        go_wp2
        go_ret
        exact ⟨by first | rfl | (simp; done) | (simp [*]; done), by repeat (first | exact Drawn0.refl _ | apply Drawn0.step)⟩
       ·rw [if_neg c6] at H
        have c6b0 : decide (29 < (rd l0 x7_1)) = false := decide_eq_false c6
        clear c6
        by_cases c7 : (rd l0 x7_1) > 9
        ·rw [if_pos c7] at H
         have c7b0 : decide (9 < (rd l0 x7_1)) = true := decide_eq_true c7
         clear c7
         by_cases c8 : (rd l0 x7_1) < 22
         ·rw [if_pos c8] at H
          have c8b0 : decide ((rd l0 x7_1) < 22) = true := decide_eq_true c8
          clear c8
          obtain rfl := Option.some.inj H
          have p105 : 0 ≤ (x7_1 : Int) := of_decide_eq_true (by first | (with_reducible assumption) | assumption)
          have q105 : x7_1 < (l0.length : Int) := of_decide_eq_true (by first | (with_reducible assumption) | assumption)
          obtain ⟨ad105, e105, hx105_0⟩ := Kd.at_int HR0.out x7_1 p105 q105
          cases e105
          replace p105 := eq_true p105
          replace q105 := eq_true q105
          go_wp2
          go_ret
          exact ⟨by first | rfl | (simp; done) | (simp [*]; done), by repeat (first | exact Drawn0.refl _ | apply Drawn0.step)⟩
         ·rw [if_neg c8] at H
          have c8b0 : decide ((rd l0 x7_1) < 22) = false := decide_eq_false c8
          clear c8
          by_cases c9 : (rd l0 x7_1) = 26
          ·rw [if_pos c9] at H
           have c9b0 : ((rd l0 x7_1) == 26) = true := beq_iff_eq.mpr c9
           have c9b1 : ((rd l0 x7_1) != 26) = false := bne_eq_false_iff_eq.mpr c9
           clear c9
           obtain rfl := Option.some.inj H
           have p105 : 0 ≤ (x7_1 : Int) := of_decide_eq_true (by first | (with_reducible assumption) | assumption)
           have q105 : x7_1 < (l0.length : Int) := of_decide_eq_true (by first | (with_reducible assumption) | assumption)
           obtain ⟨ad105, e105, hx105_0⟩ := Kd.at_int HR0.out x7_1 p105 q105
           cases e105
           replace p105 := eq_true p105
           replace q105 := eq_true q105
           go_wp2
           go_ret
           exact ⟨by first | rfl | (simp; done) | (simp [*]; done), by repeat (first | exact Drawn0.refl _ | apply Drawn0.step)⟩
          ·rw [if_neg c9] at H
           have c9b0 : ((rd l0 x7_1) == 26) = false := beq_eq_false_iff_ne.mpr c9
           have c9b1 : ((rd l0 x7_1) != 26) = true := bne_iff_ne.mpr c9
           have H' := Aside0.mk H
           clear H
           have p105 : 0 ≤ (x7_1 : Int) := of_decide_eq_true (by first | (with_reducible assumption) | assumption)
           have q105 : x7_1 < (l0.length : Int) := of_decide_eq_true (by first | (with_reducible assumption) | assumption)
           obtain ⟨ad105, e105, hx105_0⟩ := Kd.at_int HR0.out x7_1 p105 q105
           cases e105
           replace p105 := eq_true p105
           replace q105 := eq_true q105
           go_wp2
           go_roundg k1
           case measure => have := HK1.out; omega
           case rel => exact ⟨(wrap64 (x7_1 + 1)), (by first | rfl | (simp; done) | (simp [*]; done)), H', ⟨by have := HK1.out; omega⟩, by repeat (first | exact Drawn0.refl _ | apply Drawn0.step)⟩
        ·rw [if_neg c7] at H
         have c7b0 : decide (9 < (rd l0 x7_1)) = false := decide_eq_false c7
         clear c7
         by_cases c10 : (rd l0 x7_1) = 26
         ·rw [if_pos c10] at H
          have c10b0 : ((rd l0 x7_1) == 26) = true := beq_iff_eq.mpr c10
          have c10b1 : ((rd l0 x7_1) != 26) = false := bne_eq_false_iff_eq.mpr c10
          clear c10
          obtain rfl := Option.some.inj H
          have p105 : 0 ≤ (x7_1 : Int) := of_decide_eq_true (by first | (with_reducible assumption) | assumption)
          have q105 : x7_1 < (l0.length : Int) := of_decide_eq_true (by first | (with_reducible assumption) | assumption)
          obtain ⟨ad105, e105, hx105_0⟩ := Kd.at_int HR0.out x7_1 p105 q105
          cases e105
          replace p105 := eq_true p105
          replace q105 := eq_true q105
          go_wp2
          go_ret
          exact ⟨by first | rfl | (simp; done) | (simp [*]; done), by repeat (first | exact Drawn0.refl _ | apply Drawn0.step)⟩
         ·rw [if_neg c10] at H
          have c10b0 : ((rd l0 x7_1) == 26) = false := beq_eq_false_iff_ne.mpr c10
          have c10b1 : ((rd l0 x7_1) != 26) = true := bne_iff_ne.mpr c10
          have H' := Aside0.mk H
          clear H
          have p105 : 0 ≤ (x7_1 : Int) := of_decide_eq_true (by first | (with_reducible assumption) | assumption)
          have q105 : x7_1 < (l0.length : Int) := of_decide_eq_true (by first | (with_reducible assumption) | assumption)
          obtain ⟨ad105, e105, hx105_0⟩ := Kd.at_int HR0.out x7_1 p105 q105
          cases e105
          replace p105 := eq_true p105
          replace q105 := eq_true q105
          go_wp2
          go_roundg k1
          case measure => have := HK1.out; omega
          case rel => exact ⟨(wrap64 (x7_1 + 1)), (by first | rfl | (simp; done) | (simp [*]; done)), H', ⟨by have := HK1.out; omega⟩, by repeat (first | exact Drawn0.refl _ | apply Drawn0.step)⟩
     ·rw [if_neg c4] at H
      exact absurd H (by simp)
    ·rw [if_neg c3] at H
     exact absurd H (by simp)
   ·rw [if_neg c2] at H
    have c2b0 : decide (x7_1 < (l0.length : Int)) = false := decide_eq_false c2
    clear c2
    by_cases c11 : (l0.length : Int) ≥ 1
    ·rw [if_pos c11] at H
     have c11b0 : decide (1 ≤ (l0.length : Int)) = true := decide_eq_true c11
     have c11b1 : decide (1 ≤ l0.length) = true := decide_eq_true (by omega)
     clear c11
     obtain rfl := Option.some.inj H
     go_wp2
     go_ret
     exact ⟨by first | rfl | (simp; done) | (simp [*]; done), by repeat (first | exact Drawn0.refl _ | apply Drawn0.step)⟩
    ·rw [if_neg c11] at H
     have c11b0 : decide (1 ≤ (l0.length : Int)) = false := decide_eq_false c11
     have c11b1 : decide (1 ≤ l0.length) = false := decide_eq_false (by omega)
     clear c11
     obtain rfl := Option.some.inj H
     go_wp2
     go_ret
     exact ⟨by first | rfl | (simp; done) | (simp [*]; done), by repeat (first | exact Drawn0.refl _ | apply Drawn0.step)⟩
set_option maxHeartbeats 8000000 in
set_option maxRecDepth 100000 in
theorem spec_DrawPlain.calls (k : Nat) (a0 : ByteArray) (a1 : Int) (r : Bool) (w : World) (h : spec_DrawPlain.f k a0 a1 = some r) :
  Calls Tryz.prog 68 #[.string a0, .int .i64 a1] w fun e w' => e = .returned (.bool r) ∧ Drawn0 w w' := by
 have H : (spec_DrawPlain.l0 k a0 a1 (a0.size : Int) 0) = some r := h
 clear h
 have H' := Aside0.mk H
 clear H
 go_enter Tryz.func68, Tryz.ntmps68
 go_wp2
 go_loopg [8] k (fun kq v8 w' => ∃ (x8_1 : Int), v8 = .int .i64 x8_1 ∧ Aside0 (spec_DrawPlain.l0 kq a0 a1 (a0.size : Int) x8_1 = some r) ∧ Aside0 (kq ≤ k) ∧ Drawn0 w w')
 case atStart => exact ⟨(0), (by first | rfl | (simp; done) | (simp [*]; done)), H', ⟨Nat.le_refl _⟩, by repeat (first | exact Drawn0.refl _ | apply Drawn0.step)⟩
 case round =>
  clear H'
  try clear p2
  obtain ⟨x8_1, rfl, HA, HK1, ⟨m1, rfl⟩⟩ := hrel
  cases gk with
  | zero => exact absurd HA.out (by simp [spec_DrawPlain.l0])
  | succ k1 =>
   have H := HA.out
   clear HA
   simp only [spec_DrawPlain.l0] at H
   by_cases c3 : x8_1 < (a0.size : Int)
   ·rw [if_pos c3] at H
    have c3b0 : decide (x8_1 < (a0.size : Int)) = true := decide_eq_true c3
    clear c3
    by_cases c4 : 0 ≤ x8_1
    ·rw [if_pos c4] at H
     have c4b0 : decide (0 ≤ x8_1) = true := decide_eq_true c4
     clear c4
     by_cases c5 : x8_1 < (a0.size : Int)
     ·rw [if_pos c5] at H
      have c5b0 : decide (x8_1 < (a0.size : Int)) = true := decide_eq_true c5
      clear c5
      by_cases c7 : (bt a0 x8_1) < 32
      ·rw [if_pos c7] at H
       have c7b0 : decide ((bt a0 x8_1) < 32) = true := decide_eq_true c7
       clear c7
       obtain rfl := Option.some.inj H
       have p6 : 0 ≤ (x8_1 : Int) := of_decide_eq_true (by first | (with_reducible assumption) | assumption)
       have q6 : x8_1 < (a0.size : Int) := of_decide_eq_true (by first | (with_reducible assumption) | assumption)
       have hx6 := bt_at a0 x8_1
       replace p6 := eq_true p6
       replace q6 := eq_true q6
       go_wp2
       go_ret
       exact ⟨by first | rfl | (simp; done) | (simp [*]; done), by repeat (first | exact Drawn0.refl _ | apply Drawn0.step)⟩
      ·rw [if_neg c7] at H
       have c7b0 : decide ((bt a0 x8_1) < 32) = false := decide_eq_false c7
       clear c7
       by_cases c9 : (bt a0 x8_1) > 126
       ·rw [if_pos c9] at H
        have c9b0 : decide (126 < (bt a0 x8_1)) = true := decide_eq_true c9
        clear c9
        obtain rfl := Option.some.inj H
        have p6 : 0 ≤ (x8_1 : Int) := of_decide_eq_true (by first | (with_reducible assumption) | assumption)
        have q6 : x8_1 < (a0.size : Int) := of_decide_eq_true (by first | (with_reducible assumption) | assumption)
        have hx6 := bt_at a0 x8_1
        replace p6 := eq_true p6
        replace q6 := eq_true q6
        have p8 : 0 ≤ (x8_1 : Int) := of_decide_eq_true (by first | (with_reducible assumption) | assumption)
        have q8 : x8_1 < (a0.size : Int) := of_decide_eq_true (by first | (with_reducible assumption) | assumption)
        have hx8 := bt_at a0 x8_1
        replace p8 := eq_true p8
        replace q8 := eq_true q8
        go_wp2
        go_ret
        exact ⟨by first | rfl | (simp; done) | (simp [*]; done), by repeat (first | exact Drawn0.refl _ | apply Drawn0.step)⟩
       ·rw [if_neg c9] at H
        have c9b0 : decide (126 < (bt a0 x8_1)) = false := decide_eq_false c9
        clear c9
        have H' := Aside0.mk H
        clear H
        have p6 : 0 ≤ (x8_1 : Int) := of_decide_eq_true (by first | (with_reducible assumption) | assumption)
        have q6 : x8_1 < (a0.size : Int) := of_decide_eq_true (by first | (with_reducible assumption) | assumption)
        have hx6 := bt_at a0 x8_1
        replace p6 := eq_true p6
        replace q6 := eq_true q6
        have p8 : 0 ≤ (x8_1 : Int) := of_decide_eq_true (by first | (with_reducible assumption) | assumption)
        have q8 : x8_1 < (a0.size : Int) := of_decide_eq_true (by first | (with_reducible assumption) | assumption)
        have hx8 := bt_at a0 x8_1
        replace p8 := eq_true p8
        replace q8 := eq_true q8
        go_wp2
        go_roundg k1
        case measure => have := HK1.out; omega
        case rel => exact ⟨(wrap64 (x8_1 + 1)), (by first | rfl | (simp; done) | (simp [*]; done)), H', ⟨by have := HK1.out; omega⟩, by repeat (first | exact Drawn0.refl _ | apply Drawn0.step)⟩
     ·rw [if_neg c5] at H
      exact absurd H (by simp)
    ·rw [if_neg c4] at H
     exact absurd H (by simp)
   ·rw [if_neg c3] at H
    have c3b0 : decide (x8_1 < (a0.size : Int)) = false := decide_eq_false c3
    clear c3
    by_cases c10 : (a0.size : Int) ≥ 1
    ·rw [if_pos c10] at H
     have c10b0 : decide (1 ≤ (a0.size : Int)) = true := decide_eq_true c10
     have c10b1 : decide (1 ≤ a0.size) = true := decide_eq_true (by omega)
     clear c10
     obtain rfl := Option.some.inj H
     go_wp2
     go_ret
     exact ⟨by first | rfl | (simp; done) | (simp [*]; done), by repeat (first | exact Drawn0.refl _ | apply Drawn0.step)⟩
    ·rw [if_neg c10] at H
     have c10b0 : decide (1 ≤ (a0.size : Int)) = false := decide_eq_false c10
     have c10b1 : decide (1 ≤ a0.size) = false := decide_eq_false (by omega)
     clear c10
     obtain rfl := Option.some.inj H
     go_wp2
     go_ret
     exact ⟨by first | rfl | (simp; done) | (simp [*]; done), by repeat (first | exact Drawn0.refl _ | apply Drawn0.step)⟩
end Go.Proofs.YteebhoehflgfoaaGreatDoor.Y
end
