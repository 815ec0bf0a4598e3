/- Texts of this claim, joined: XScrDoE XScrDoF XScrDoG XScrDoH. Of each, what the claim uses. -/
import Derived.Test.YteebhoehflgfoaaGreatDoorKbb
import Derived.Deep.DeepCutAuto
import Derived.Deep.QuietTactic
import Derived.BigQuiet
section
namespace Go.Proofs.YteebhoehflgfoaaGreatDoor.Y
open Go.RowKit Go.Proofs.YteebhoehflgfoaaGreatDoorW.PrintWords Go.Proofs.YteebhoehflgfoaaGreatDoorW.PrintLast Go.Proofs.YteebhoehflgfoaaGreatDoorW.PrintMore
set_option linter.unusedSimpArgs false
set_option linter.unusedVariables false
set_option maxRecDepth 100000
set_option maxHeartbeats 80000000
def bm (m : Nat) : Array Bool := ((List.range 36).map fun i => m.testBit i).toArray
theorem doE_calls {w : World} {B g T c : Nat} {bs : List Nat} {s : Scr} (h : AtX w B g T c bs s) (hf : Fine s) (k n m : Int) (t : ByteArray) (L : Option Addr) (lc : Nat) (l : List Int) (hop : (k = 11 ∧ 0 ≤ n ∧ n ≤ 2)) :
  Calls Tryz.prog 138 #[.pointer (some ⟨g, 0, none⟩), opV k n m t L lc l] w fun e w' => e = .returned (.tuple #[]) ∧ (∃ bs', AtX w' B g T c bs' (s.op attrA k n m (bytesOf t) l)) ∧ Below B w w' := by
 have sz := h.size
 have HP := Lib.hid (show w.heap.size ∉ bs ∧ w.heap.size ≠ g from ⟨h.fresh, Nat.ne_of_gt (blk_lt h.blk)⟩)
 have HO := Lib.hid hop
 clear hop
 go_enter Tryz.func138, Tryz.ntmps138
 go_upto_region 1 with fail
 obtain ⟨W, hW⟩ : ∃ W, W = w.alloc (Obj.cells #[.int .i64 k, .int .i64 n, .int .i64 m, .string t, .slice L l.length lc] 38) := ⟨_, rfl⟩
 rw [← hW]
 have HI := Lib.hid (show AtX W B g T c bs s ∧ Below B w W ∧ Fine s ∧ W.heap[w.heap.size]? = some (Obj.cells #[.int .i64 k, .int .i64 n, .int .i64 m, .string t, .slice L l.length lc] 38 (0, 0)) by rw [hW]; exact ⟨h.below ((Below.refl _ _).alloc (Nat.le_refl _) _), (Below.refl B w).alloc sz _, hf, blk_new w _⟩)
 clear h hf hW sz
 have c3 : W.cell? ⟨g, 3, none⟩ = some (.int .i64 s.pen.x) := HI.out.1.cell 3
 have c4 : W.cell? ⟨g, 4, none⟩ = some (.int .i64 s.pen.y) := HI.out.1.cell 4
 go_wp2_with fail
 go_still (by kernel_rfl)
 change Exit.then _ _ _ _ W.drew
 obtain ⟨W1, hW1⟩ : ∃ W1, W1 = W.drew := ⟨_, rfl⟩
 rw [← hW1]
 have HI1 := Lib.hid (show AtX W1 B g T c bs s ∧ Below B w W1 ∧ Fine s ∧ W1.heap[w.heap.size]? = some (Obj.cells #[.int .i64 k, .int .i64 n, .int .i64 m, .string t, .slice L l.length lc] 38 (0, 0)) by rw [hW1]; exact ⟨HI.out.1.drew, HI.out.2.1.drew, HI.out.2.2.1, HI.out.2.2.2⟩)
 clear hW1 c3 c4 HI
 have c4 : W1.cell? ⟨g, 4, none⟩ = some (.int .i64 s.pen.y) := HI1.out.1.cell 4
 have c9 : W1.cell? ⟨g, 9, none⟩ = some (.int .i64 s.top) := HI1.out.1.cell 9
 have c10 : W1.cell? ⟨g, 10, none⟩ = some (.int .i64 s.bot) := HI1.out.1.cell 10
 go_wp2_with fail
 go_cut [6] (fun v6 wc => v6 = .bool (decide (s.top ≤ s.pen.y ∧ s.pen.y ≤ s.bot)) ∧ Hid (AtX wc B g T c bs s ∧ Below B w wc ∧ Fine s ∧ wc.heap[w.heap.size]? = some (Obj.cells #[.int .i64 k, .int .i64 n, .int .i64 m, .string t, .slice L l.length lc] 38 (0, 0))))
 case first =>
  rcases (show (s.top ≤ s.pen.y ∧ s.pen.y ≤ s.bot) ∨ (s.top ≤ s.pen.y ∧ ¬ s.pen.y ≤ s.bot) ∨ ¬ s.top ≤ s.pen.y by omega) with ⟨q1, q2⟩ | ⟨q1, q2⟩ | q1
  all_goals
   go_quiet (fail)
   go_wp2_with fail
   go_meet
   case rel => exact ⟨by first | rw [decide_eq_true (show s.top ≤ s.pen.y ∧ s.pen.y ≤ s.bot from ⟨q1, q2⟩)] | rw [decide_eq_false (show ¬ (s.top ≤ s.pen.y ∧ s.pen.y ≤ s.bot) by omega)], HI1.out.1.keep (fun _ _ _ => rfl), pw_below_drewN HI1.out.2.1 nq, HI1.out.2.2.1, HI1.out.2.2.2⟩
 case rest =>
  obtain ⟨rfl, HI⟩ := hcut
  have px := HI.out.2.2.1.px
  have py := HI.out.2.2.1.py
  have w1 := HI.out.2.2.1.w1
  have h1 := HI.out.2.2.1.h1
  clear HI1 c4 c9 c10
  have hop := HO.out
  obtain ⟨rfl, hn⟩ := hop
  obtain ⟨q, rfl⟩ : ∃ q : Nat, n = (q : Int) := ⟨n.toNat, by omega⟩
  have e1 : IntKind.i64.wrap ((s.pen.x : Int) + 1) = (s.pen.x : Int) + 1 := wrapI _ (by omega) (by omega)
  obtain ⟨av, bv, hz1, hz2, hw, ha, hb⟩ : ∃ av bv : Nat, ([.int .i64 s.pen.x, .int .i64 0, .int .i64 0] : List Value)[q]? = some (.int .i64 (av : Int)) ∧ ([.int .i64 s.w, .int .i64 ((s.pen.x : Int) + 1), .int .i64 s.w] : List Value)[q]? = some (.int .i64 (bv : Int)) ∧
    s.op attrA 11 (q : Int) m (bytesOf t) l = s.wipe s.pen.y av bv ∧ av ≤ 100000 ∧ bv ≤ 100000 := by
   rcases (show q = 0 ∨ q = 1 ∨ q = 2 by omega) with rfl | rfl | rfl
   ·exact ⟨s.pen.x, s.w, rfl, rfl, by simp [Scr.op], by omega, by omega⟩
   ·exact ⟨0, s.pen.x + 1, rfl, by simp, by simp [Scr.op], by omega, by omega⟩
   ·exact ⟨0, s.w, rfl, rfl, by simp [Scr.op], by omega, by omega⟩
  have c0 : wc.cell? ⟨g, 0, none⟩ = some (.int .i64 s.w) := HI.out.1.cell 0
  have c3 : wc.cell? ⟨g, 3, none⟩ = some (.int .i64 s.pen.x) := HI.out.1.cell 3
  have c4 : wc.cell? ⟨g, 4, none⟩ = some (.int .i64 s.pen.y) := HI.out.1.cell 4
  have o0 : wc.cell? ⟨w.heap.size, 0, none⟩ = some (.int .i64 11) := blk_cell HI.out.2.2.2 0
  have o1 : wc.cell? ⟨w.heap.size, 1, none⟩ = some (.int .i64 (q : Int)) := blk_cell HI.out.2.2.2 1
  have q0 : (0 : Int) ≤ (q : Int) := by omega
  have q3 : (q : Int) < 3 := by omega
  have hc : ∀ w', Below wc.heap.size wc w' → Calls Tryz.prog 157 #[.pointer (some ⟨g, 0, none⟩), .int .i64 (s.pen.y : Int), .int .i64 (av : Int), .int .i64 (bv : Int)] w' fun e w4 => e = .returned (.tuple #[]) ∧ Hid (AtX w4 B g T c bs (s.wipe s.pen.y av bv) ∧ Below B w w4) := fun w' hb1 => by
   refine (wipe_calls (HI.out.1.below hb1) HI.out.2.2.1 s.pen.y av bv py ha hb).mono ?_
   rintro e w4 ⟨rfl, ha4, hb4, hk4⟩
   exact ⟨rfl, ha4, HI.out.2.1.trans ((hb1.mono (Nat.le_of_lt (Nat.lt_of_le_of_lt HI.out.1.bg (blk_lt HI.out.1.blk)))).trans hb4)⟩
  have HC := Lib.hid hc
  have HQ := Lib.hid hw
  clear px py w1 h1 hc hn hw ha hb HO
  go_wp2_with fail
  refine start_ (n := 36) (S := fun w' => w'.cell? ⟨w.heap.size, 1, none⟩ = some (.int .i64 (q : Int)) ∧ w'.cell? ⟨g, 0, none⟩ = some (.int .i64 s.w) ∧ w'.cell? ⟨g, 3, none⟩ = some (.int .i64 s.pen.x) ∧ w'.cell? ⟨g, 4, none⟩ = some (.int .i64 s.pen.y) ∧ Below wc.heap.size wc w') (ds := [35]) #[false, false, false, false, false, false, false, false, false, false, false, false, false, false, false, false, false, false, false, false, false, false, false, false, false, false, false, false, false, false, false, false, false, false, false, false] (by kernel_rfl) rfl rfl ⟨o1, c0, c3, c4, (below_drew (Below.refl _ _))⟩ (fun hHeld => ?_)
  refine pure_ (i := 0) (N := some 157) (v := ?_) (a' := ?_) (bm 1) rfl rfl (by kernel_rfl) (fun _ _ _ h => h) (Or.inl ⟨by rfl, ?_⟩) ?_ ?_
  rotate_left
  ·intro w'
   go_simp
   with_reducible rfl
  rotate_left
  ·simp only [Act.put, List.setIfInBounds_toArray, List.set_cons_zero, List.set_cons_succ, i64_w, i32_w]
   rfl
  refine pure_ (i := 1) (N := some 158) (v := ?_) (a' := ?_) (bm 3) rfl rfl (by kernel_rfl) (fun _ _ _ h => h) (Or.inl ⟨by rfl, ?_⟩) ?_ ?_
  rotate_left
  ·intro w'
   go_simp
   with_reducible rfl
  rotate_left
  ·simp only [Act.put, List.setIfInBounds_toArray, List.set_cons_zero, List.set_cons_succ, i64_w, i32_w]
   rfl
  refine pure_ (i := 2) (N := some 159) (v := ?_) (a' := ?_) (bm 7) rfl rfl (by kernel_rfl) (fun _ _ _ h => h) (Or.inl ⟨by rfl, ?_⟩) ?_ ?_
  rotate_left
  ·intro w'
   go_simp
   with_reducible rfl
  rotate_left
  ·simp only [Act.put, List.setIfInBounds_toArray, List.set_cons_zero, List.set_cons_succ, i64_w, i32_w]
   rfl
  refine pure_ (i := 3) (N := some 160) (v := ?_) (a' := ?_) (bm 15) rfl rfl (by kernel_rfl) (fun _ _ _ h => h) (Or.inl ⟨by rfl, ?_⟩) ?_ ?_
  rotate_left
  ·intro w'
   go_simp
   with_reducible rfl
  rotate_left
  ·simp only [Act.put, List.setIfInBounds_toArray, List.set_cons_zero, List.set_cons_succ, i64_w, i32_w]
   rfl
  refine pure_ (i := 4) (N := some 161) (v := ?_) (a' := ?_) (bm 31) rfl rfl (by kernel_rfl) (fun _ _ _ h => h) (Or.inl ⟨by rfl, ?_⟩) ?_ ?_
  rotate_left
  ·intro w'
   go_simp
   with_reducible rfl
  rotate_left
  ·simp only [Act.put, List.setIfInBounds_toArray, List.set_cons_zero, List.set_cons_succ, i64_w, i32_w]
   rfl
  refine pure_ (i := 6) (N := some 163) (v := ?_) (a' := ?_) (bm 95) rfl rfl (by kernel_rfl) (fun _ _ _ h => h) (Or.inl ⟨by rfl, ?_⟩) ?_ ?_
  rotate_left
  ·intro w'
   go_simp
   with_reducible rfl
  rotate_left
  ·simp only [Act.put, List.setIfInBounds_toArray, List.set_cons_zero, List.set_cons_succ, i64_w, i32_w]
   rfl
  refine pure_ (i := 7) (N := some 164) (v := ?_) (a' := ?_) (bm 223) rfl rfl (by kernel_rfl) (fun _ _ _ h => h) (Or.inl ⟨by rfl, ?_⟩) ?_ ?_
  rotate_left
  ·intro w'
   go_simp
   with_reducible rfl
  rotate_left
  ·simp only [Act.put, List.setIfInBounds_toArray, List.set_cons_zero, List.set_cons_succ, i64_w, i32_w]
   rfl
  refine pure_ (i := 8) (N := some 165) (v := ?_) (a' := ?_) (bm 479) rfl rfl (by kernel_rfl) (fun _ _ _ h => h) (Or.inl ⟨by rfl, ?_⟩) ?_ ?_
  rotate_left
  ·intro w'
   go_simp
   with_reducible rfl
  rotate_left
  ·simp only [Act.put, List.setIfInBounds_toArray, List.set_cons_zero, List.set_cons_succ, i64_w, i32_w]
   rfl
  refine pure_ (i := 9) (N := some 166) (v := ?_) (a' := ?_) (bm 991) rfl rfl (by kernel_rfl) (fun _ _ _ h => h) (Or.inl ⟨by rfl, ?_⟩) ?_ ?_
  rotate_left
  ·intro w'
   go_simp
   with_reducible rfl
  rotate_left
  ·simp only [Act.put, List.setIfInBounds_toArray, List.set_cons_zero, List.set_cons_succ, i64_w, i32_w]
   rfl
  refine pure_ (i := 12) (N := some 169) (v := ?_) (a' := ?_) (bm 5087) rfl rfl (by kernel_rfl) (fun _ _ _ h => h) (Or.inl ⟨by rfl, ?_⟩) ?_ ?_
  rotate_left
  ·intro w'
   go_simp
   with_reducible rfl
  rotate_left
  ·simp only [Act.put, List.setIfInBounds_toArray, List.set_cons_zero, List.set_cons_succ, i64_w, i32_w]
   rfl
  refine pure_ (i := 16) (N := some 173) (v := ?_) (a' := ?_) (bm 70623) rfl rfl (by kernel_rfl) (fun _ _ _ h => h) (Or.inl ⟨by rfl, ?_⟩) ?_ ?_
  rotate_left
  ·intro w'
   go_simp
   with_reducible rfl
  rotate_left
  ·simp only [Act.put, List.setIfInBounds_toArray, List.set_cons_zero, List.set_cons_succ, i64_w, i32_w]
   rfl
  refine pure_ (i := 17) (N := some 174) (v := ?_) (a' := ?_) (bm 201695) rfl rfl (by kernel_rfl) (fun _ _ _ h => h) (Or.inl ⟨by rfl, ?_⟩) ?_ ?_
  rotate_left
  ·intro w'
   go_simp
   with_reducible rfl
  rotate_left
  ·simp only [Act.put, List.setIfInBounds_toArray, List.set_cons_zero, List.set_cons_succ, i64_w, i32_w]
   rfl
  refine pure_ (i := 18) (N := some 175) (v := ?_) (a' := ?_) (bm 463839) rfl rfl (by kernel_rfl) (fun _ _ _ h => h) (Or.inl ⟨by rfl, ?_⟩) ?_ ?_
  rotate_left
  ·intro w'
   go_simp
   with_reducible rfl
  rotate_left
  ·simp only [Act.put, List.setIfInBounds_toArray, List.set_cons_zero, List.set_cons_succ, i64_w, i32_w]
   rfl
  refine pure_ (i := 20) (N := some 177) (v := ?_) (a' := ?_) (bm 1512415) rfl rfl (by kernel_rfl) (fun _ _ _ h => h) (Or.inl ⟨by rfl, ?_⟩) ?_ ?_
  rotate_left
  ·intro w'
   go_simp
   with_reducible rfl
  rotate_left
  ·simp only [Act.put, List.setIfInBounds_toArray, List.set_cons_zero, List.set_cons_succ, i64_w, i32_w]
   rfl
  refine pure_ (i := 21) (N := some 178) (v := ?_) (a' := ?_) (bm 3609567) rfl rfl (by kernel_rfl) (fun _ _ _ h => h) (Or.inl ⟨by rfl, ?_⟩) ?_ ?_
  rotate_left
  ·intro w'
   go_simp
   with_reducible rfl
  rotate_left
  ·simp only [Act.put, List.setIfInBounds_toArray, List.set_cons_zero, List.set_cons_succ, i64_w, i32_w]
   rfl
  refine pure_ (i := 22) (N := some 179) (v := ?_) (a' := ?_) (bm 7803871) rfl rfl (by kernel_rfl) (fun _ _ _ h => h) (Or.inl ⟨by rfl, ?_⟩) ?_ ?_
  rotate_left
  ·intro w'
   go_simp
   with_reducible rfl
  rotate_left
  ·simp only [Act.put, List.setIfInBounds_toArray, List.set_cons_zero, List.set_cons_succ, i64_w, i32_w]
   rfl
  refine pure_ (i := 23) (N := some 180) (v := ?_) (a' := ?_) (bm 16192479) rfl rfl (by kernel_rfl) (fun _ _ _ h => h) (Or.inl ⟨by rfl, ?_⟩) ?_ ?_
  rotate_left
  ·intro w'
   go_simp
   with_reducible rfl
  rotate_left
  ·simp only [Act.put, List.setIfInBounds_toArray, List.set_cons_zero, List.set_cons_succ, i64_w, i32_w]
   rfl
  refine pure_ (i := 26) (N := some 183) (v := ?_) (a' := ?_) (bm 83301343) rfl rfl (by kernel_rfl) (fun _ _ _ h => h) (Or.inl ⟨by rfl, ?_⟩) ?_ ?_
  rotate_left
  ·intro w'
   go_simp
   with_reducible rfl
  rotate_left
  ·simp only [Act.put, List.setIfInBounds_toArray, List.set_cons_zero, List.set_cons_succ, i64_w, i32_w]
   rfl
  refine pure_ (i := 27) (N := some 184) (v := ?_) (a' := ?_) (bm 217519071) rfl rfl (by kernel_rfl) (fun _ _ _ h => h) (Or.inl ⟨by rfl, ?_⟩) ?_ ?_
  rotate_left
  ·intro w'
   go_simp
   with_reducible rfl
  rotate_left
  ·simp only [Act.put, List.setIfInBounds_toArray, List.set_cons_zero, List.set_cons_succ, i64_w, i32_w]
   rfl
  refine pure_ (i := 28) (N := some 185) (v := ?_) (a' := ?_) (bm 485954527) rfl rfl (by kernel_rfl) (fun _ _ _ h => h) (Or.inl ⟨by rfl, ?_⟩) ?_ ?_
  rotate_left
  ·intro w'
   go_simp
   with_reducible rfl
  rotate_left
  ·simp only [Act.put, List.setIfInBounds_toArray, List.set_cons_zero, List.set_cons_succ, i64_w, i32_w]
   rfl
  refine pure_ (i := 31) (N := some 188) (v := ?_) (a' := ?_) (bm 2633438175) rfl rfl (by kernel_rfl) (fun _ _ _ h => h) (Or.inl ⟨by rfl, ?_⟩) ?_ ?_
  rotate_left
  ·intro w'
   go_simp
   with_reducible rfl
  rotate_left
  ·simp only [Act.put, List.setIfInBounds_toArray, List.set_cons_zero, List.set_cons_succ, i64_w, i32_w]
   rfl
  refine take_ (i := 5) (N := some 162) (v := ?_) (a' := ?_) (bm 2633438207) rfl rfl (by kernel_rfl) (fun _ _ _ h => h) (Or.inl ⟨by rfl, ?_⟩) hHeld ?_ ?_
  rotate_left
  ·rintro w' ⟨s0, s1, s2, s3, s4⟩
   go_simp
   with_reducible rfl
  rotate_left
  ·simp only [Act.put, List.setIfInBounds_toArray, List.set_cons_zero, List.set_cons_succ, i64_w, i32_w]
   rfl
  refine take_ (i := 10) (N := some 167) (v := ?_) (a' := ?_) (bm 2633439231) rfl rfl (by kernel_rfl) (fun _ _ _ h => h) (Or.inl ⟨by rfl, ?_⟩) hHeld ?_ ?_
  rotate_left
  ·rintro w' ⟨s0, s1, s2, s3, s4⟩
   go_simp
   with_reducible rfl
  rotate_left
  ·simp only [Act.put, List.setIfInBounds_toArray, List.set_cons_zero, List.set_cons_succ, i64_w, i32_w]
   rfl
  refine take_ (i := 13) (N := some 170) (v := ?_) (a' := ?_) (bm 2633447423) rfl rfl (by kernel_rfl) (fun _ _ _ h => h) (Or.inl ⟨by rfl, ?_⟩) hHeld ?_ ?_
  rotate_left
  ·rintro w' ⟨s0, s1, s2, s3, s4⟩
   go_simp
   with_reducible rfl
  rotate_left
  ·simp only [Act.put, List.setIfInBounds_toArray, List.set_cons_zero, List.set_cons_succ, i64_w, i32_w]
   rfl
  refine take_ (i := 19) (N := some 176) (v := ?_) (a' := ?_) (bm 2633971711) rfl rfl (by kernel_rfl) (fun _ _ _ h => h) (Or.inl ⟨by rfl, ?_⟩) hHeld ?_ ?_
  rotate_left
  ·rintro w' ⟨s0, s1, s2, s3, s4⟩
   go_simp
   with_reducible rfl
  rotate_left
  ·simp only [Act.put, List.setIfInBounds_toArray, List.set_cons_zero, List.set_cons_succ, i64_w, i32_w]
   rfl
  refine take_ (i := 24) (N := some 181) (v := ?_) (a' := ?_) (bm 2650748927) rfl rfl (by kernel_rfl) (fun _ _ _ h => h) (Or.inl ⟨by rfl, ?_⟩) hHeld ?_ ?_
  rotate_left
  ·rintro w' ⟨s0, s1, s2, s3, s4⟩
   go_simp
   with_reducible rfl
  rotate_left
  ·simp only [Act.put, List.setIfInBounds_toArray, List.set_cons_zero, List.set_cons_succ, i64_w, i32_w]
   rfl
  refine pure_ (i := 25) (N := some 182) (v := ?_) (a' := ?_) (bm 2684303359) rfl rfl (by kernel_rfl) (fun _ _ _ h => h) (Or.inl ⟨by rfl, ?_⟩) ?_ ?_
  rotate_left
  ·intro w'
   go_simp
   with_reducible rfl
  rotate_left
  ·simp only [Act.put, List.setIfInBounds_toArray, List.set_cons_zero, List.set_cons_succ, i64_w, i32_w]
   rfl
  refine take_ (i := 29) (N := some 186) (v := ?_) (a' := ?_) (bm 3221174271) rfl rfl (by kernel_rfl) (fun _ _ _ h => h) (Or.inl ⟨by rfl, ?_⟩) hHeld ?_ ?_
  rotate_left
  ·rintro w' ⟨s0, s1, s2, s3, s4⟩
   go_simp
   with_reducible rfl
  rotate_left
  ·simp only [Act.put, List.setIfInBounds_toArray, List.set_cons_zero, List.set_cons_succ, i64_w, i32_w]
   rfl
  refine take_ (i := 32) (N := some 189) (v := ?_) (a' := ?_) (bm 7516141567) rfl rfl (by kernel_rfl) (fun _ _ _ h => h) (Or.inl ⟨by rfl, ?_⟩) hHeld ?_ ?_
  rotate_left
  ·rintro w' ⟨s0, s1, s2, s3, s4⟩
   go_simp
   with_reducible rfl
  rotate_left
  ·simp only [Act.put, List.setIfInBounds_toArray, List.set_cons_zero, List.set_cons_succ, i64_w, i32_w]
   rfl
  refine join_ (σ := Nat × Nat) 1 (bm 34359738367) (fun s_ => [(168, .slice (some ⟨s_.1, 0, none⟩) 3 3), (171, .pointer (some ⟨s_.1, q, none⟩)), (172, .int .i64 (av : Int)), (187, .slice (some ⟨s_.2, 0, none⟩) 3 3), (190, .pointer (some ⟨s_.2, q, none⟩)), (191, .int .i64 (bv : Int))]) (fun s_ w' => w'.cell? ⟨w.heap.size, 1, none⟩ = some (.int .i64 (q : Int)) ∧ w'.cell? ⟨g, 0, none⟩ = some (.int .i64 s.w) ∧ w'.cell? ⟨g, 3, none⟩ = some (.int .i64 s.pen.x) ∧ w'.cell? ⟨g, 4, none⟩ = some (.int .i64 s.pen.y) ∧ Below wc.heap.size wc w') ?_ ?_
  rotate_left
  ·intro hCont
   refine two_ (i := 11) (j := 30) (Ni := some 168) (Nj := some 187) (bm 7516143615) (bm 8589883391) rfl rfl rfl rfl (by kernel_rfl) (by decide) (by decide) (fun K hK => ?_) (fun K hK => ?_)
   ·skip
    refine value_ (w1 := ?_) (v := ?_) (by rfl) rfl ?_ ?_
    rotate_left 2
    ·go_simp
     constructor
     ·rfl
     ·rfl
    refine hK.out _ _ ⟨(held_new hHeld.1 _), (held_new hHeld.2.1 _), (held_new hHeld.2.2.1 _), (held_new hHeld.2.2.2.1 _), (below_alloc hHeld.2.2.2.2 _)⟩ (fun hHeld => ?_)
    clear hK K
    refine norm_ (a' := ?_) ?_ ?_
    rotate_left
    ·show Act.put _ (some 168) _ = _
     simp only [Act.put, List.setIfInBounds_toArray, List.set_cons_zero, List.set_cons_succ, i64_w, i32_w]
     rfl
    refine pure_ (i := 14) (N := some 171) (v := ?_) (a' := ?_) (bm 7516159999) rfl rfl (by kernel_rfl) (fun _ _ _ h => h) (Or.inl ⟨by rfl, ?_⟩) ?_ ?_
    rotate_left
    ·intro w'
     go_simp
     with_reducible rfl
    rotate_left
    ·simp only [Act.put, List.setIfInBounds_toArray, List.set_cons_zero, List.set_cons_succ, i64_w, i32_w]
     rfl
    refine two_ (i := 15) (j := 30) (Ni := some 172) (Nj := some 187) (bm 7516192767) (bm 8589901823) rfl rfl rfl rfl (by kernel_rfl) (by decide) (by decide) (fun K hK => ?_) (fun K hK => ?_)
    ·skip
     refine value_ (w1 := ?_) (v := ?_) (by rfl) rfl ?_ ?_
     rotate_left 2
     ·go_simp
      constructor
      ·rfl
      ·rfl
     refine hK.out _ _ ⟨hHeld.1, hHeld.2.1, hHeld.2.2.1, hHeld.2.2.2.1, hHeld.2.2.2.2⟩ (fun hHeld => ?_)
     clear hK K
     refine norm_ (a' := ?_) ?_ ?_
     rotate_left
     ·show Act.put _ (some 172) _ = _
      simp only [Act.put, List.setIfInBounds_toArray, List.set_cons_zero, List.set_cons_succ, i64_w, i32_w]
      rfl
     refine one_ (i := 30) (N := some 187) (bm 8589934591) rfl rfl (by kernel_rfl) (by decide) (fun K hK => ?_)
     refine value_ (w1 := ?_) (v := ?_) (by rfl) rfl ?_ ?_
     rotate_left 2
     ·go_simp
      constructor
      ·rfl
      ·rfl
     refine hK.out _ _ ⟨(held_new hHeld.1 _), (held_new hHeld.2.1 _), (held_new hHeld.2.2.1 _), (held_new hHeld.2.2.2.1 _), (below_alloc hHeld.2.2.2.2 _)⟩ (fun hHeld => ?_)
     clear hK K
     refine norm_ (a' := ?_) ?_ ?_
     rotate_left
     ·show Act.put _ (some 187) _ = _
      simp only [Act.put, List.setIfInBounds_toArray, List.set_cons_zero, List.set_cons_succ, i64_w, i32_w]
      rfl
     refine pure_ (i := 33) (N := some 190) (v := ?_) (a' := ?_) (bm 17179869183) rfl rfl (by kernel_rfl) (fun _ _ _ h => h) (Or.inl ⟨by rfl, ?_⟩) ?_ ?_
     rotate_left
     ·intro w'
      go_simp
      with_reducible rfl
     rotate_left
     ·simp only [Act.put, List.setIfInBounds_toArray, List.set_cons_zero, List.set_cons_succ, i64_w, i32_w]
      rfl
     refine one_ (i := 34) (N := some 191) (bm 34359738367) rfl rfl (by kernel_rfl) (by decide) (fun K hK => ?_)
     refine value_ (w1 := ?_) (v := ?_) (by rfl) rfl ?_ ?_
     rotate_left 2
     ·go_simp
      constructor
      ·rfl
      ·rfl
     refine hK.out _ _ ⟨hHeld.1, hHeld.2.1, hHeld.2.2.1, hHeld.2.2.2.1, hHeld.2.2.2.2⟩ (fun hHeld => ?_)
     clear hK K
     refine norm_ (a' := ?_) ?_ ?_
     rotate_left
     ·show Act.put _ (some 191) _ = _
      simp only [Act.put, List.setIfInBounds_toArray, List.set_cons_zero, List.set_cons_succ, i64_w, i32_w]
      rfl
     exact norm_ (by simp only [putAll, Act.put, List.setIfInBounds_toArray, List.set_cons_zero, List.set_cons_succ]) (hCont (wc.heap.size, wc.heap.size + 1) _ hHeld)
    ·skip
     refine value_ (w1 := ?_) (v := ?_) (by rfl) rfl ?_ ?_
     rotate_left 2
     ·go_simp
      constructor
      ·rfl
      ·rfl
     refine hK.out _ _ ⟨(held_new hHeld.1 _), (held_new hHeld.2.1 _), (held_new hHeld.2.2.1 _), (held_new hHeld.2.2.2.1 _), (below_alloc hHeld.2.2.2.2 _)⟩ (fun hHeld => ?_)
     clear hK K
     refine norm_ (a' := ?_) ?_ ?_
     rotate_left
     ·show Act.put _ (some 187) _ = _
      simp only [Act.put, List.setIfInBounds_toArray, List.set_cons_zero, List.set_cons_succ, i64_w, i32_w]
      rfl
     refine pure_ (i := 33) (N := some 190) (v := ?_) (a' := ?_) (bm 17179836415) rfl rfl (by kernel_rfl) (fun _ _ _ h => h) (Or.inl ⟨by rfl, ?_⟩) ?_ ?_
     rotate_left
     ·intro w'
      go_simp
      with_reducible rfl
     rotate_left
     ·simp only [Act.put, List.setIfInBounds_toArray, List.set_cons_zero, List.set_cons_succ, i64_w, i32_w]
      rfl
     refine two_ (i := 15) (j := 34) (Ni := some 172) (Nj := some 191) (bm 17179869183) (bm 34359705599) rfl rfl rfl rfl (by kernel_rfl) (by decide) (by decide) (fun K hK => ?_) (fun K hK => ?_)
     ·skip
      refine value_ (w1 := ?_) (v := ?_) (by rfl) rfl ?_ ?_
      rotate_left 2
      ·go_simp
       constructor
       ·rfl
       ·rfl
      refine hK.out _ _ ⟨hHeld.1, hHeld.2.1, hHeld.2.2.1, hHeld.2.2.2.1, hHeld.2.2.2.2⟩ (fun hHeld => ?_)
      clear hK K
      refine norm_ (a' := ?_) ?_ ?_
      rotate_left
      ·show Act.put _ (some 172) _ = _
       simp only [Act.put, List.setIfInBounds_toArray, List.set_cons_zero, List.set_cons_succ, i64_w, i32_w]
       rfl
      refine one_ (i := 34) (N := some 191) (bm 34359738367) rfl rfl (by kernel_rfl) (by decide) (fun K hK => ?_)
      refine value_ (w1 := ?_) (v := ?_) (by rfl) rfl ?_ ?_
      rotate_left 2
      ·go_simp
       constructor
       ·rfl
       ·rfl
      refine hK.out _ _ ⟨hHeld.1, hHeld.2.1, hHeld.2.2.1, hHeld.2.2.2.1, hHeld.2.2.2.2⟩ (fun hHeld => ?_)
      clear hK K
      refine norm_ (a' := ?_) ?_ ?_
      rotate_left
      ·show Act.put _ (some 191) _ = _
       simp only [Act.put, List.setIfInBounds_toArray, List.set_cons_zero, List.set_cons_succ, i64_w, i32_w]
       rfl
      exact norm_ (by simp only [putAll, Act.put, List.setIfInBounds_toArray, List.set_cons_zero, List.set_cons_succ]) (hCont (wc.heap.size, wc.heap.size + 1) _ hHeld)
     ·skip
      refine value_ (w1 := ?_) (v := ?_) (by rfl) rfl ?_ ?_
      rotate_left 2
      ·go_simp
       constructor
       ·rfl
       ·rfl
      refine hK.out _ _ ⟨hHeld.1, hHeld.2.1, hHeld.2.2.1, hHeld.2.2.2.1, hHeld.2.2.2.2⟩ (fun hHeld => ?_)
      clear hK K
      refine norm_ (a' := ?_) ?_ ?_
      rotate_left
      ·show Act.put _ (some 191) _ = _
       simp only [Act.put, List.setIfInBounds_toArray, List.set_cons_zero, List.set_cons_succ, i64_w, i32_w]
       rfl
      refine one_ (i := 15) (N := some 172) (bm 34359738367) rfl rfl (by kernel_rfl) (by decide) (fun K hK => ?_)
      refine value_ (w1 := ?_) (v := ?_) (by rfl) rfl ?_ ?_
      rotate_left 2
      ·go_simp
       constructor
       ·rfl
       ·rfl
      refine hK.out _ _ ⟨hHeld.1, hHeld.2.1, hHeld.2.2.1, hHeld.2.2.2.1, hHeld.2.2.2.2⟩ (fun hHeld => ?_)
      clear hK K
      refine norm_ (a' := ?_) ?_ ?_
      rotate_left
      ·show Act.put _ (some 172) _ = _
       simp only [Act.put, List.setIfInBounds_toArray, List.set_cons_zero, List.set_cons_succ, i64_w, i32_w]
       rfl
      exact norm_ (by simp only [putAll, Act.put, List.setIfInBounds_toArray, List.set_cons_zero, List.set_cons_succ]) (hCont (wc.heap.size, wc.heap.size + 1) _ hHeld)
   ·skip
    refine value_ (w1 := ?_) (v := ?_) (by rfl) rfl ?_ ?_
    rotate_left 2
    ·go_simp
     constructor
     ·rfl
     ·rfl
    refine hK.out _ _ ⟨(held_new hHeld.1 _), (held_new hHeld.2.1 _), (held_new hHeld.2.2.1 _), (held_new hHeld.2.2.2.1 _), (below_alloc hHeld.2.2.2.2 _)⟩ (fun hHeld => ?_)
    clear hK K
    refine norm_ (a' := ?_) ?_ ?_
    rotate_left
    ·show Act.put _ (some 187) _ = _
     simp only [Act.put, List.setIfInBounds_toArray, List.set_cons_zero, List.set_cons_succ, i64_w, i32_w]
     rfl
    refine pure_ (i := 33) (N := some 190) (v := ?_) (a' := ?_) (bm 17179817983) rfl rfl (by kernel_rfl) (fun _ _ _ h => h) (Or.inl ⟨by rfl, ?_⟩) ?_ ?_
    rotate_left
    ·intro w'
     go_simp
     with_reducible rfl
    rotate_left
    ·simp only [Act.put, List.setIfInBounds_toArray, List.set_cons_zero, List.set_cons_succ, i64_w, i32_w]
     rfl
    refine two_ (i := 11) (j := 34) (Ni := some 168) (Nj := some 191) (bm 17179820031) (bm 34359687167) rfl rfl rfl rfl (by kernel_rfl) (by decide) (by decide) (fun K hK => ?_) (fun K hK => ?_)
    ·skip
     refine value_ (w1 := ?_) (v := ?_) (by rfl) rfl ?_ ?_
     rotate_left 2
     ·go_simp
      constructor
      ·rfl
      ·rfl
     refine hK.out _ _ ⟨(held_new hHeld.1 _), (held_new hHeld.2.1 _), (held_new hHeld.2.2.1 _), (held_new hHeld.2.2.2.1 _), (below_alloc hHeld.2.2.2.2 _)⟩ (fun hHeld => ?_)
     clear hK K
     refine norm_ (a' := ?_) ?_ ?_
     rotate_left
     ·show Act.put _ (some 168) _ = _
      simp only [Act.put, List.setIfInBounds_toArray, List.set_cons_zero, List.set_cons_succ, i64_w, i32_w]
      rfl
     refine pure_ (i := 14) (N := some 171) (v := ?_) (a' := ?_) (bm 17179836415) rfl rfl (by kernel_rfl) (fun _ _ _ h => h) (Or.inl ⟨by rfl, ?_⟩) ?_ ?_
     rotate_left
     ·intro w'
      go_simp
      with_reducible rfl
     rotate_left
     ·simp only [Act.put, List.setIfInBounds_toArray, List.set_cons_zero, List.set_cons_succ, i64_w, i32_w]
      rfl
     refine two_ (i := 15) (j := 34) (Ni := some 172) (Nj := some 191) (bm 17179869183) (bm 34359705599) rfl rfl rfl rfl (by kernel_rfl) (by decide) (by decide) (fun K hK => ?_) (fun K hK => ?_)
     ·skip
      refine value_ (w1 := ?_) (v := ?_) (by rfl) rfl ?_ ?_
      rotate_left 2
      ·go_simp
       constructor
       ·rfl
       ·rfl
      refine hK.out _ _ ⟨hHeld.1, hHeld.2.1, hHeld.2.2.1, hHeld.2.2.2.1, hHeld.2.2.2.2⟩ (fun hHeld => ?_)
      clear hK K
      refine norm_ (a' := ?_) ?_ ?_
      rotate_left
      ·show Act.put _ (some 172) _ = _
       simp only [Act.put, List.setIfInBounds_toArray, List.set_cons_zero, List.set_cons_succ, i64_w, i32_w]
       rfl
      refine one_ (i := 34) (N := some 191) (bm 34359738367) rfl rfl (by kernel_rfl) (by decide) (fun K hK => ?_)
      refine value_ (w1 := ?_) (v := ?_) (by rfl) rfl ?_ ?_
      rotate_left 2
      ·go_simp
       constructor
       ·rfl
       ·rfl
      refine hK.out _ _ ⟨hHeld.1, hHeld.2.1, hHeld.2.2.1, hHeld.2.2.2.1, hHeld.2.2.2.2⟩ (fun hHeld => ?_)
      clear hK K
      refine norm_ (a' := ?_) ?_ ?_
      rotate_left
      ·show Act.put _ (some 191) _ = _
       simp only [Act.put, List.setIfInBounds_toArray, List.set_cons_zero, List.set_cons_succ, i64_w, i32_w]
       rfl
      exact norm_ (by simp only [putAll, Act.put, List.setIfInBounds_toArray, List.set_cons_zero, List.set_cons_succ]) (hCont (wc.heap.size + 1, wc.heap.size) _ hHeld)
     ·skip
      refine value_ (w1 := ?_) (v := ?_) (by rfl) rfl ?_ ?_
      rotate_left 2
      ·go_simp
       constructor
       ·rfl
       ·rfl
      refine hK.out _ _ ⟨hHeld.1, hHeld.2.1, hHeld.2.2.1, hHeld.2.2.2.1, hHeld.2.2.2.2⟩ (fun hHeld => ?_)
      clear hK K
      refine norm_ (a' := ?_) ?_ ?_
      rotate_left
      ·show Act.put _ (some 191) _ = _
       simp only [Act.put, List.setIfInBounds_toArray, List.set_cons_zero, List.set_cons_succ, i64_w, i32_w]
       rfl
      refine one_ (i := 15) (N := some 172) (bm 34359738367) rfl rfl (by kernel_rfl) (by decide) (fun K hK => ?_)
      refine value_ (w1 := ?_) (v := ?_) (by rfl) rfl ?_ ?_
      rotate_left 2
      ·go_simp
       constructor
       ·rfl
       ·rfl
      refine hK.out _ _ ⟨hHeld.1, hHeld.2.1, hHeld.2.2.1, hHeld.2.2.2.1, hHeld.2.2.2.2⟩ (fun hHeld => ?_)
      clear hK K
      refine norm_ (a' := ?_) ?_ ?_
      rotate_left
      ·show Act.put _ (some 172) _ = _
       simp only [Act.put, List.setIfInBounds_toArray, List.set_cons_zero, List.set_cons_succ, i64_w, i32_w]
       rfl
      exact norm_ (by simp only [putAll, Act.put, List.setIfInBounds_toArray, List.set_cons_zero, List.set_cons_succ]) (hCont (wc.heap.size + 1, wc.heap.size) _ hHeld)
    ·skip
     refine value_ (w1 := ?_) (v := ?_) (by rfl) rfl ?_ ?_
     rotate_left 2
     ·go_simp
      constructor
      ·rfl
      ·rfl
     refine hK.out _ _ ⟨hHeld.1, hHeld.2.1, hHeld.2.2.1, hHeld.2.2.2.1, hHeld.2.2.2.2⟩ (fun hHeld => ?_)
     clear hK K
     refine norm_ (a' := ?_) ?_ ?_
     rotate_left
     ·show Act.put _ (some 191) _ = _
      simp only [Act.put, List.setIfInBounds_toArray, List.set_cons_zero, List.set_cons_succ, i64_w, i32_w]
      rfl
     refine one_ (i := 11) (N := some 168) (bm 34359689215) rfl rfl (by kernel_rfl) (by decide) (fun K hK => ?_)
     refine value_ (w1 := ?_) (v := ?_) (by rfl) rfl ?_ ?_
     rotate_left 2
     ·go_simp
      constructor
      ·rfl
      ·rfl
     refine hK.out _ _ ⟨(held_new hHeld.1 _), (held_new hHeld.2.1 _), (held_new hHeld.2.2.1 _), (held_new hHeld.2.2.2.1 _), (below_alloc hHeld.2.2.2.2 _)⟩ (fun hHeld => ?_)
     clear hK K
     refine norm_ (a' := ?_) ?_ ?_
     rotate_left
     ·show Act.put _ (some 168) _ = _
      simp only [Act.put, List.setIfInBounds_toArray, List.set_cons_zero, List.set_cons_succ, i64_w, i32_w]
      rfl
     refine pure_ (i := 14) (N := some 171) (v := ?_) (a' := ?_) (bm 34359705599) rfl rfl (by kernel_rfl) (fun _ _ _ h => h) (Or.inl ⟨by rfl, ?_⟩) ?_ ?_
     rotate_left
     ·intro w'
      go_simp
      with_reducible rfl
     rotate_left
     ·simp only [Act.put, List.setIfInBounds_toArray, List.set_cons_zero, List.set_cons_succ, i64_w, i32_w]
      rfl
     refine one_ (i := 15) (N := some 172) (bm 34359738367) rfl rfl (by kernel_rfl) (by decide) (fun K hK => ?_)
     refine value_ (w1 := ?_) (v := ?_) (by rfl) rfl ?_ ?_
     rotate_left 2
     ·go_simp
      constructor
      ·rfl
      ·rfl
     refine hK.out _ _ ⟨hHeld.1, hHeld.2.1, hHeld.2.2.1, hHeld.2.2.2.1, hHeld.2.2.2.2⟩ (fun hHeld => ?_)
     clear hK K
     refine norm_ (a' := ?_) ?_ ?_
     rotate_left
     ·show Act.put _ (some 172) _ = _
      simp only [Act.put, List.setIfInBounds_toArray, List.set_cons_zero, List.set_cons_succ, i64_w, i32_w]
      rfl
     exact norm_ (by simp only [putAll, Act.put, List.setIfInBounds_toArray, List.set_cons_zero, List.set_cons_succ]) (hCont (wc.heap.size + 1, wc.heap.size) _ hHeld)
  rintro s_ w' hHeld
  refine norm_ (a' := ?_) ?_ ?_
  rotate_left
  ·simp only [putAll, Act.put, List.setIfInBounds_toArray, List.set_cons_zero, List.set_cons_succ]
   rfl
  refine last_ (i := 35) (N := some 192) (bm 68719476735) rfl rfl (by kernel_rfl) (by decide) (fun K hK => ?_)
  refine goes_ Tryz.func157 (by kernel_rfl) rfl #[.pointer (some ⟨g, 0, none⟩), .int .i64 (s.pen.y : Int), .int .i64 (av : Int), .int .i64 (bv : Int)] (by rfl) rfl rfl (by simp only [List.map_toArray, List.map_cons, List.map_nil]; rfl) ?_
  with_reducible refine (HC.out _ hHeld.2.2.2.2).mono ?_
  rintro e w4 ⟨rfl, hend⟩
  refine ⟨_, rfl, ?_⟩
  refine hK.out _ _ ?_
  clear hK K
  refine norm_ (a' := ?_) ?_ ?_
  rotate_left
  ·show Act.put _ (some 192) _ = _
   simp only [Act.put, List.setIfInBounds_toArray, List.set_cons_zero, List.set_cons_succ, i64_w, i32_w]
   rfl
  refine done_ (by kernel_rfl) ?_
  go_wp2_with fail
  go_end0
  exact ⟨rfl, ⟨_, by rw [HQ.out]; exact hend.out.1⟩, hend.out.2⟩
theorem doF_calls {w : World} {B g T c : Nat} {bs : List Nat} {s : Scr} (h : AtX w B g T c bs s) (hf : Fine s) (k n m : Int) (t : ByteArray) (L : Option Addr) (lc : Nat) (l : List Int) (hop : (k = 12 ∧ 1 ≤ n ∧ n ≤ 99) ∨ (k = 13 ∧ 1 ≤ n ∧ n ≤ 99)) :
  Calls Tryz.prog 138 #[.pointer (some ⟨g, 0, none⟩), opV k n m t L lc l] w fun e w' => e = .returned (.tuple #[]) ∧ (∃ bs', AtX w' B g T c bs' (s.op attrA k n m (bytesOf t) l)) ∧ Below B w w' := by
 have sz := h.size
 have HP := Lib.hid (show w.heap.size ∉ bs ∧ w.heap.size ≠ g from ⟨h.fresh, Nat.ne_of_gt (blk_lt h.blk)⟩)
 have HO := Lib.hid hop
 clear hop
 go_enter Tryz.func138, Tryz.ntmps138
 go_upto_region 1 with fail
 obtain ⟨W, hW⟩ : ∃ W, W = w.alloc (Obj.cells #[.int .i64 k, .int .i64 n, .int .i64 m, .string t, .slice L l.length lc] 38) := ⟨_, rfl⟩
 rw [← hW]
 have HI := Lib.hid (show AtX W B g T c bs s ∧ Below B w W ∧ Fine s ∧ W.heap[w.heap.size]? = some (Obj.cells #[.int .i64 k, .int .i64 n, .int .i64 m, .string t, .slice L l.length lc] 38 (0, 0)) by rw [hW]; exact ⟨h.below ((Below.refl _ _).alloc (Nat.le_refl _) _), (Below.refl B w).alloc sz _, hf, blk_new w _⟩)
 clear h hf hW sz
 have c3 : W.cell? ⟨g, 3, none⟩ = some (.int .i64 s.pen.x) := HI.out.1.cell 3
 have c4 : W.cell? ⟨g, 4, none⟩ = some (.int .i64 s.pen.y) := HI.out.1.cell 4
 go_wp2_with fail
 go_still (by kernel_rfl)
 change Exit.then _ _ _ _ W.drew
 obtain ⟨W1, hW1⟩ : ∃ W1, W1 = W.drew := ⟨_, rfl⟩
 rw [← hW1]
 have HI1 := Lib.hid (show AtX W1 B g T c bs s ∧ Below B w W1 ∧ Fine s ∧ W1.heap[w.heap.size]? = some (Obj.cells #[.int .i64 k, .int .i64 n, .int .i64 m, .string t, .slice L l.length lc] 38 (0, 0)) by rw [hW1]; exact ⟨HI.out.1.drew, HI.out.2.1.drew, HI.out.2.2.1, HI.out.2.2.2⟩)
 clear hW1 c3 c4 HI
 have c4 : W1.cell? ⟨g, 4, none⟩ = some (.int .i64 s.pen.y) := HI1.out.1.cell 4
 have c9 : W1.cell? ⟨g, 9, none⟩ = some (.int .i64 s.top) := HI1.out.1.cell 9
 have c10 : W1.cell? ⟨g, 10, none⟩ = some (.int .i64 s.bot) := HI1.out.1.cell 10
 go_wp2_with fail
 go_cut [6] (fun v6 wc => v6 = .bool (decide (s.top ≤ s.pen.y ∧ s.pen.y ≤ s.bot)) ∧ Hid (AtX wc B g T c bs s ∧ Below B w wc ∧ Fine s ∧ wc.heap[w.heap.size]? = some (Obj.cells #[.int .i64 k, .int .i64 n, .int .i64 m, .string t, .slice L l.length lc] 38 (0, 0))))
 case first =>
  rcases (show (s.top ≤ s.pen.y ∧ s.pen.y ≤ s.bot) ∨ (s.top ≤ s.pen.y ∧ ¬ s.pen.y ≤ s.bot) ∨ ¬ s.top ≤ s.pen.y by omega) with ⟨q1, q2⟩ | ⟨q1, q2⟩ | q1
  all_goals
   go_quiet (fail)
   go_wp2_with fail
   go_meet
   case rel => exact ⟨by first | rw [decide_eq_true (show s.top ≤ s.pen.y ∧ s.pen.y ≤ s.bot from ⟨q1, q2⟩)] | rw [decide_eq_false (show ¬ (s.top ≤ s.pen.y ∧ s.pen.y ≤ s.bot) by omega)], HI1.out.1.keep (fun _ _ _ => rfl), pw_below_drewN HI1.out.2.1 nq, HI1.out.2.2.1, HI1.out.2.2.2⟩
 case rest =>
  obtain ⟨rfl, HI⟩ := hcut
  have px := HI.out.2.2.1.px
  have py := HI.out.2.2.1.py
  have w1 := HI.out.2.2.1.w1
  have h1 := HI.out.2.2.1.h1
  clear HI1 c4 c9 c10
  have hop := HO.out
  rcases hop with ⟨hk, hn⟩ | ⟨hk, hn⟩
  ·subst hk
   obtain ⟨q, rfl⟩ : ∃ q : Nat, n = (q : Int) := ⟨n.toNat, by omega⟩
   have hopq : Hid (s.op attrA 12 (q : Int) m (bytesOf t) l = s.roll s.top q) := by unfold Hid; simp [Scr.op]
   have c9 : wc.cell? ⟨g, 9, none⟩ = some (.int .i64 s.top) := HI.out.1.cell 9
   have o0 : wc.cell? ⟨w.heap.size, 0, none⟩ = some (.int .i64 12) := blk_cell HI.out.2.2.2 0
   have o1 : wc.cell? ⟨w.heap.size, 1, none⟩ = some (.int .i64 (q : Int)) := blk_cell HI.out.2.2.2 1
   have HC := Lib.hid (roll_up_calls (w := wc.drew) HI.out.1.drew HI.out.2.2.1 s.top q HI.out.2.2.1.tb (by omega) (by omega))
   clear px py w1 h1 hn
   go_wp2_with fail
   go_still_tail 7, (by kernel_rfl)
   change wpList _ _ _ _ _ wc.drew
   go_wp2_with fail
   refine HC.out.mono ?_
   rintro e w4 ⟨rfl, ha4, hb4⟩
   have hend := Lib.hid (And.intro ha4 (HI.out.2.1.trans ((Below.refl B wc).drew.trans hb4)))
   clear ha4 hb4
   go_wp2_with fail
   go_end0
   exact ⟨rfl, by rw [hopq.out]; exact hend.out.1, hend.out.2⟩
  ·subst hk
   obtain ⟨q, rfl⟩ : ∃ q : Nat, n = (q : Int) := ⟨n.toNat, by omega⟩
   have e1 : IntKind.i64.wrap (-(q : Int)) = -(q : Int) := wrapI _ (by omega) (by omega)
   have hopq : Hid (s.op attrA 13 (q : Int) m (bytesOf t) l = s.roll s.top (-(q : Int))) := by unfold Hid; simp [Scr.op]
   have c9 : wc.cell? ⟨g, 9, none⟩ = some (.int .i64 s.top) := HI.out.1.cell 9
   have o0 : wc.cell? ⟨w.heap.size, 0, none⟩ = some (.int .i64 13) := blk_cell HI.out.2.2.2 0
   have o1 : wc.cell? ⟨w.heap.size, 1, none⟩ = some (.int .i64 (q : Int)) := blk_cell HI.out.2.2.2 1
   have HC := Lib.hid (roll_down_calls (w := wc.drew) HI.out.1.drew HI.out.2.2.1 s.top q HI.out.2.2.1.tb (by omega) (by omega))
   clear px py w1 h1 hn
   go_wp2_with fail
   go_still_tail 8, (by kernel_rfl)
   change wpList _ _ _ _ _ wc.drew
   go_wp2_with fail
   refine HC.out.mono ?_
   rintro e w4 ⟨rfl, ha4, hb4⟩
   have hend := Lib.hid (And.intro ha4 (HI.out.2.1.trans ((Below.refl B wc).drew.trans hb4)))
   clear ha4 hb4
   go_wp2_with fail
   go_end0
   exact ⟨rfl, by rw [hopq.out]; exact hend.out.1, hend.out.2⟩
theorem doG_calls {w : World} {B g T c : Nat} {bs : List Nat} {s : Scr} (h : AtX w B g T c bs s) (hf : Fine s) (k n m : Int) (t : ByteArray) (L : Option Addr) (lc : Nat) (l : List Int) (hop : (k = 14 ∧ 1 ≤ n ∧ n ≤ 99) ∨ (k = 15 ∧ 1 ≤ n ∧ n ≤ 99)) :
  Calls Tryz.prog 138 #[.pointer (some ⟨g, 0, none⟩), opV k n m t L lc l] w fun e w' => e = .returned (.tuple #[]) ∧ (∃ bs', AtX w' B g T c bs' (s.op attrA k n m (bytesOf t) l)) ∧ Below B w w' := by
 have sz := h.size
 have HP := Lib.hid (show w.heap.size ∉ bs ∧ w.heap.size ≠ g from ⟨h.fresh, Nat.ne_of_gt (blk_lt h.blk)⟩)
 have HO := Lib.hid hop
 clear hop
 go_enter Tryz.func138, Tryz.ntmps138
 go_upto_region 1 with fail
 obtain ⟨W, hW⟩ : ∃ W, W = w.alloc (Obj.cells #[.int .i64 k, .int .i64 n, .int .i64 m, .string t, .slice L l.length lc] 38) := ⟨_, rfl⟩
 rw [← hW]
 have HI := Lib.hid (show AtX W B g T c bs s ∧ Below B w W ∧ Fine s ∧ W.heap[w.heap.size]? = some (Obj.cells #[.int .i64 k, .int .i64 n, .int .i64 m, .string t, .slice L l.length lc] 38 (0, 0)) by rw [hW]; exact ⟨h.below ((Below.refl _ _).alloc (Nat.le_refl _) _), (Below.refl B w).alloc sz _, hf, blk_new w _⟩)
 clear h hf hW sz
 have c3 : W.cell? ⟨g, 3, none⟩ = some (.int .i64 s.pen.x) := HI.out.1.cell 3
 have c4 : W.cell? ⟨g, 4, none⟩ = some (.int .i64 s.pen.y) := HI.out.1.cell 4
 go_wp2_with fail
 go_still (by kernel_rfl)
 change Exit.then _ _ _ _ W.drew
 obtain ⟨W1, hW1⟩ : ∃ W1, W1 = W.drew := ⟨_, rfl⟩
 rw [← hW1]
 have HI1 := Lib.hid (show AtX W1 B g T c bs s ∧ Below B w W1 ∧ Fine s ∧ W1.heap[w.heap.size]? = some (Obj.cells #[.int .i64 k, .int .i64 n, .int .i64 m, .string t, .slice L l.length lc] 38 (0, 0)) by rw [hW1]; exact ⟨HI.out.1.drew, HI.out.2.1.drew, HI.out.2.2.1, HI.out.2.2.2⟩)
 clear hW1 c3 c4 HI
 have c4 : W1.cell? ⟨g, 4, none⟩ = some (.int .i64 s.pen.y) := HI1.out.1.cell 4
 have c9 : W1.cell? ⟨g, 9, none⟩ = some (.int .i64 s.top) := HI1.out.1.cell 9
 have c10 : W1.cell? ⟨g, 10, none⟩ = some (.int .i64 s.bot) := HI1.out.1.cell 10
 go_wp2_with fail
 go_cut [6] (fun v6 wc => v6 = .bool (decide (s.top ≤ s.pen.y ∧ s.pen.y ≤ s.bot)) ∧ Hid (AtX wc B g T c bs s ∧ Below B w wc ∧ Fine s ∧ wc.heap[w.heap.size]? = some (Obj.cells #[.int .i64 k, .int .i64 n, .int .i64 m, .string t, .slice L l.length lc] 38 (0, 0))))
 case first =>
  rcases (show (s.top ≤ s.pen.y ∧ s.pen.y ≤ s.bot) ∨ (s.top ≤ s.pen.y ∧ ¬ s.pen.y ≤ s.bot) ∨ ¬ s.top ≤ s.pen.y by omega) with ⟨q1, q2⟩ | ⟨q1, q2⟩ | q1
  all_goals
   go_quiet (fail)
   go_wp2_with fail
   go_meet
   case rel => exact ⟨by first | rw [decide_eq_true (show s.top ≤ s.pen.y ∧ s.pen.y ≤ s.bot from ⟨q1, q2⟩)] | rw [decide_eq_false (show ¬ (s.top ≤ s.pen.y ∧ s.pen.y ≤ s.bot) by omega)], HI1.out.1.keep (fun _ _ _ => rfl), pw_below_drewN HI1.out.2.1 nq, HI1.out.2.2.1, HI1.out.2.2.2⟩
 case rest =>
  obtain ⟨rfl, HI⟩ := hcut
  have px := HI.out.2.2.1.px
  have py := HI.out.2.2.1.py
  have w1 := HI.out.2.2.1.w1
  have h1 := HI.out.2.2.1.h1
  clear HI1 c4 c9 c10
  have hop := HO.out
  rcases hop with ⟨hk, hn⟩ | ⟨hk, hn⟩
  ·subst hk
   obtain ⟨q, rfl⟩ : ∃ q : Nat, n = (q : Int) := ⟨n.toNat, by omega⟩
   have e1 : IntKind.i64.wrap (-(q : Int)) = -(q : Int) := wrapI _ (by omega) (by omega)
   have hopq : Hid (s.op attrA 14 (q : Int) m (bytesOf t) l = if s.top ≤ s.pen.y ∧ s.pen.y ≤ s.bot then s.roll s.pen.y (-(q : Int)) else s) := by unfold Hid; simp [Scr.op]
   have c4 : wc.cell? ⟨g, 4, none⟩ = some (.int .i64 s.pen.y) := HI.out.1.cell 4
   have o0 : wc.cell? ⟨w.heap.size, 0, none⟩ = some (.int .i64 14) := blk_cell HI.out.2.2.2 0
   have o1 : wc.cell? ⟨w.heap.size, 1, none⟩ = some (.int .i64 (q : Int)) := blk_cell HI.out.2.2.2 1
   by_cases hin : s.top ≤ s.pen.y ∧ s.pen.y ≤ s.bot
   ·have hd : decide (s.top ≤ s.pen.y ∧ s.pen.y ≤ s.bot) = true := decide_eq_true hin
    have HC := Lib.hid (roll_down_calls HI.out.1 HI.out.2.2.1 s.pen.y q hin.2 (by omega) (by omega))
    have hopq2 : Hid (s.op attrA 14 (q : Int) m (bytesOf t) l = s.roll s.pen.y (-(q : Int))) := by unfold Hid; rw [hopq.out, if_pos hin]
    rw [hd]
    clear px py w1 h1 hn hin hd
    go_wp2_with fail
    refine HC.out.mono ?_
    rintro e w4 ⟨rfl, ha4, hb4⟩
    have hend := Lib.hid (And.intro ha4 (HI.out.2.1.trans hb4))
    clear ha4 hb4
    go_wp2_with fail
    go_end0
    exact ⟨rfl, by rw [hopq2.out]; exact hend.out.1, hend.out.2⟩
   ·have hd : decide (s.top ≤ s.pen.y ∧ s.pen.y ≤ s.bot) = false := decide_eq_false hin
    have hopq2 : Hid (s.op attrA 14 (q : Int) m (bytesOf t) l = s) := by unfold Hid; rw [hopq.out, if_neg hin]
    rw [hd]
    clear px py w1 h1 hn hin hd
    go_wp2_with fail
    go_end0
    exact ⟨rfl, ⟨_, by rw [hopq2.out]; exact HI.out.1⟩, HI.out.2.1⟩
  ·subst hk
   obtain ⟨q, rfl⟩ : ∃ q : Nat, n = (q : Int) := ⟨n.toNat, by omega⟩
   have e1 : IntKind.i64.wrap (-(q : Int)) = -(q : Int) := wrapI _ (by omega) (by omega)
   have hopq : Hid (s.op attrA 15 (q : Int) m (bytesOf t) l = if s.top ≤ s.pen.y ∧ s.pen.y ≤ s.bot then s.roll s.pen.y q else s) := by unfold Hid; simp [Scr.op]
   have c4 : wc.cell? ⟨g, 4, none⟩ = some (.int .i64 s.pen.y) := HI.out.1.cell 4
   have o0 : wc.cell? ⟨w.heap.size, 0, none⟩ = some (.int .i64 15) := blk_cell HI.out.2.2.2 0
   have o1 : wc.cell? ⟨w.heap.size, 1, none⟩ = some (.int .i64 (q : Int)) := blk_cell HI.out.2.2.2 1
   by_cases hin : s.top ≤ s.pen.y ∧ s.pen.y ≤ s.bot
   ·have hd : decide (s.top ≤ s.pen.y ∧ s.pen.y ≤ s.bot) = true := decide_eq_true hin
    have HC := Lib.hid (roll_up_calls HI.out.1 HI.out.2.2.1 s.pen.y q hin.2 (by omega) (by omega))
    have hopq2 : Hid (s.op attrA 15 (q : Int) m (bytesOf t) l = s.roll s.pen.y q) := by unfold Hid; rw [hopq.out, if_pos hin]
    rw [hd]
    clear px py w1 h1 hn hin hd
    go_wp2_with fail
    refine HC.out.mono ?_
    rintro e w4 ⟨rfl, ha4, hb4⟩
    have hend := Lib.hid (And.intro ha4 (HI.out.2.1.trans hb4))
    clear ha4 hb4
    go_wp2_with fail
    go_end0
    exact ⟨rfl, by rw [hopq2.out]; exact hend.out.1, hend.out.2⟩
   ·have hd : decide (s.top ≤ s.pen.y ∧ s.pen.y ≤ s.bot) = false := decide_eq_false hin
    have hopq2 : Hid (s.op attrA 15 (q : Int) m (bytesOf t) l = s) := by unfold Hid; rw [hopq.out, if_neg hin]
    rw [hd]
    clear px py w1 h1 hn hin hd
    go_wp2_with fail
    go_end0
    exact ⟨rfl, ⟨_, by rw [hopq2.out]; exact HI.out.1⟩, HI.out.2.1⟩
theorem doH_calls {w : World} {B g T c : Nat} {bs : List Nat} {s : Scr} (h : AtX w B g T c bs s) (hf : Fine s) (k n m : Int) (t : ByteArray) (L : Option Addr) (lc : Nat) (l : List Int) (hop : (k = 16 ∧ 1 ≤ n ∧ n ≤ 99) ∨ (k = 17 ∧ 1 ≤ n ∧ n ≤ 99)) :
  Calls Tryz.prog 138 #[.pointer (some ⟨g, 0, none⟩), opV k n m t L lc l] w fun e w' => e = .returned (.tuple #[]) ∧ (∃ bs', AtX w' B g T c bs' (s.op attrA k n m (bytesOf t) l)) ∧ Below B w w' := by
 have sz := h.size
 have HP := Lib.hid (show w.heap.size ∉ bs ∧ w.heap.size ≠ g from ⟨h.fresh, Nat.ne_of_gt (blk_lt h.blk)⟩)
 have HO := Lib.hid hop
 clear hop
 go_enter Tryz.func138, Tryz.ntmps138
 go_upto_region 1 with fail
 obtain ⟨W, hW⟩ : ∃ W, W = w.alloc (Obj.cells #[.int .i64 k, .int .i64 n, .int .i64 m, .string t, .slice L l.length lc] 38) := ⟨_, rfl⟩
 rw [← hW]
 have HI := Lib.hid (show AtX W B g T c bs s ∧ Below B w W ∧ Fine s ∧ W.heap[w.heap.size]? = some (Obj.cells #[.int .i64 k, .int .i64 n, .int .i64 m, .string t, .slice L l.length lc] 38 (0, 0)) by rw [hW]; exact ⟨h.below ((Below.refl _ _).alloc (Nat.le_refl _) _), (Below.refl B w).alloc sz _, hf, blk_new w _⟩)
 clear h hf hW sz
 have c3 : W.cell? ⟨g, 3, none⟩ = some (.int .i64 s.pen.x) := HI.out.1.cell 3
 have c4 : W.cell? ⟨g, 4, none⟩ = some (.int .i64 s.pen.y) := HI.out.1.cell 4
 go_wp2_with fail
 go_still (by kernel_rfl)
 change Exit.then _ _ _ _ W.drew
 obtain ⟨W1, hW1⟩ : ∃ W1, W1 = W.drew := ⟨_, rfl⟩
 rw [← hW1]
 have HI1 := Lib.hid (show AtX W1 B g T c bs s ∧ Below B w W1 ∧ Fine s ∧ W1.heap[w.heap.size]? = some (Obj.cells #[.int .i64 k, .int .i64 n, .int .i64 m, .string t, .slice L l.length lc] 38 (0, 0)) by rw [hW1]; exact ⟨HI.out.1.drew, HI.out.2.1.drew, HI.out.2.2.1, HI.out.2.2.2⟩)
 clear hW1 c3 c4 HI
 have c4 : W1.cell? ⟨g, 4, none⟩ = some (.int .i64 s.pen.y) := HI1.out.1.cell 4
 have c9 : W1.cell? ⟨g, 9, none⟩ = some (.int .i64 s.top) := HI1.out.1.cell 9
 have c10 : W1.cell? ⟨g, 10, none⟩ = some (.int .i64 s.bot) := HI1.out.1.cell 10
 go_wp2_with fail
 go_cut [6] (fun v6 wc => v6 = .bool (decide (s.top ≤ s.pen.y ∧ s.pen.y ≤ s.bot)) ∧ Hid (AtX wc B g T c bs s ∧ Below B w wc ∧ Fine s ∧ wc.heap[w.heap.size]? = some (Obj.cells #[.int .i64 k, .int .i64 n, .int .i64 m, .string t, .slice L l.length lc] 38 (0, 0))))
 case first =>
  rcases (show (s.top ≤ s.pen.y ∧ s.pen.y ≤ s.bot) ∨ (s.top ≤ s.pen.y ∧ ¬ s.pen.y ≤ s.bot) ∨ ¬ s.top ≤ s.pen.y by omega) with ⟨q1, q2⟩ | ⟨q1, q2⟩ | q1
  all_goals
   go_quiet (fail)
   go_wp2_with fail
   go_meet
   case rel => exact ⟨by first | rw [decide_eq_true (show s.top ≤ s.pen.y ∧ s.pen.y ≤ s.bot from ⟨q1, q2⟩)] | rw [decide_eq_false (show ¬ (s.top ≤ s.pen.y ∧ s.pen.y ≤ s.bot) by omega)], HI1.out.1.keep (fun _ _ _ => rfl), pw_below_drewN HI1.out.2.1 nq, HI1.out.2.2.1, HI1.out.2.2.2⟩
 case rest =>
  obtain ⟨rfl, HI⟩ := hcut
  have px := HI.out.2.2.1.px
  have py := HI.out.2.2.1.py
  have w1 := HI.out.2.2.1.w1
  have h1 := HI.out.2.2.1.h1
  clear HI1 c4 c9 c10
  have hop := HO.out
  rcases hop with ⟨hk, hn⟩ | ⟨hk, hn⟩
  ·subst hk
   obtain ⟨q, rfl⟩ : ∃ q : Nat, n = (q : Int) := ⟨n.toNat, by omega⟩
   have hopq : Hid (s.op attrA 16 (q : Int) m (bytesOf t) l = s.shift q) := by unfold Hid; simp [Scr.op]
   have o0 : wc.cell? ⟨w.heap.size, 0, none⟩ = some (.int .i64 16) := blk_cell HI.out.2.2.2 0
   have o1 : wc.cell? ⟨w.heap.size, 1, none⟩ = some (.int .i64 (q : Int)) := blk_cell HI.out.2.2.2 1
   have HC := Lib.hid (shift_pos_calls HI.out.1 HI.out.2.2.1 q (by omega) (by omega))
   clear px py w1 h1 hn
   go_wp2_with fail
   refine HC.out.mono ?_
   rintro e w4 ⟨rfl, ha4, hb4⟩
   have hend := Lib.hid (And.intro ha4 (HI.out.2.1.trans hb4))
   clear ha4 hb4
   go_wp2_with fail
   go_end0
   exact ⟨rfl, ⟨_, by rw [hopq.out]; exact hend.out.1⟩, hend.out.2⟩
  ·subst hk
   obtain ⟨q, rfl⟩ : ∃ q : Nat, n = (q : Int) := ⟨n.toNat, by omega⟩
   have e1 : IntKind.i64.wrap (-(q : Int)) = -(q : Int) := wrapI _ (by omega) (by omega)
   have hopq : Hid (s.op attrA 17 (q : Int) m (bytesOf t) l = s.shift (-(q : Int))) := by unfold Hid; simp [Scr.op]
   have o0 : wc.cell? ⟨w.heap.size, 0, none⟩ = some (.int .i64 17) := blk_cell HI.out.2.2.2 0
   have o1 : wc.cell? ⟨w.heap.size, 1, none⟩ = some (.int .i64 (q : Int)) := blk_cell HI.out.2.2.2 1
   have HC := Lib.hid (shift_neg_calls HI.out.1 HI.out.2.2.1 q (by omega) (by omega))
   clear px py w1 h1 hn
   go_wp2_with fail
   refine HC.out.mono ?_
   rintro e w4 ⟨rfl, ha4, hb4⟩
   have hend := Lib.hid (And.intro ha4 (HI.out.2.1.trans hb4))
   clear ha4 hb4
   go_wp2_with fail
   go_end0
   exact ⟨rfl, ⟨_, by rw [hopq.out]; exact hend.out.1⟩, hend.out.2⟩
end Go.Proofs.YteebhoehflgfoaaGreatDoor.Y
end
