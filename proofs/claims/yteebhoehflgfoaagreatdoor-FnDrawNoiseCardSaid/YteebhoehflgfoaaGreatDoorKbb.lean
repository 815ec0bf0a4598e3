/- Texts of this claim, joined: XScrOther XScrDoA XScrDoB XScrDoC XScrDoD. Of each, what the claim uses. -/
import Derived.Test.YteebhoehflgfoaaGreatDoorKba
import Derived.RegionTactic
import Derived.Deep.DeepCutAuto
import Derived.Deep.QuietTactic
import Derived.BigQuiet
section
namespace Go.Proofs.YteebhoehflgfoaaGreatDoor.Y
open Go.RowKit Go.Proofs.YteebhoehflgfoaaGreatDoorW.PrintWords Go.Proofs.YteebhoehflgfoaaGreatDoorW.PrintLast Go.Proofs.YteebhoehflgfoaaGreatDoorW.PrintMore
set_option linter.unusedSimpArgs false
set_option linter.unusedVariables false
set_option maxRecDepth 100000
set_option maxHeartbeats 8000000
/-- What a number of a style does to attributes. -/
def attrA (a n : Int) : Int := (spec_DrawAttr.f a n).getD 0
theorem attrA_f (a n : Int) (h0 : 0 ≤ n) (h1 : n ≤ 29) (h2 : n ≤ 9 ∨ 22 ≤ n) : spec_DrawAttr.f a n = some (attrA a n) := by
 unfold attrA spec_DrawAttr.f
 by_cases c0 : n = 0
 ·rw [if_pos c0]; rfl
 rw [if_neg c0]
 by_cases c1 : n ≤ 9
 ·rw [if_pos c1, if_pos h0]; rfl
 rw [if_neg c1]
 by_cases c2 : n = 22
 ·rw [if_pos c2]; rfl
 rw [if_neg c2]
 by_cases c3 : n = 25
 ·rw [if_pos c3]; rfl
 rw [if_neg c3]
 have hw : wrap64 (n - 20) = n - 20 := by unfold wrap64; omega
 rw [if_pos (by rw [hw]; omega)]
 rfl
/-- An operation's values. -/
abbrev opV (k n m : Int) (t : ByteArray) (L : Option Addr) (c : Nat) (l : List Int) : Value := .agg #[.int .i64 k, .int .i64 n, .int .i64 m, .string t, .slice L l.length c]
theorem Fine.margs {s : Scr} (h : Fine s) (n m : Int) (h1 : 1 ≤ n) (h2 : n < m) (h3 : m ≤ (s.h : Int)) : Fine { s with top := (n - 1).toNat, bot := (m - 1).toNat } :=
 ⟨h.w0, h.w1, h.h0, h.h1, h.rl, h.rw, h.px, h.py, h.sx, h.sy, by simp only; omega, by simp only; omega⟩
theorem save_calls {w : World} {B g T c : Nat} {bs : List Nat} {s : Scr} (h : AtX w B g T c bs s) (hf : Fine s) (t : ByteArray) (L : Option Addr) (lc : Nat) (l : List Int) (n m : Int) :
  Calls Tryz.prog 162 #[.pointer (some ⟨g, 0, none⟩), opV 50 n m t L lc l] w fun e w' => e = .returned (.tuple #[]) ∧ (∃ bs', AtX w' B g T c bs' { s with sav := s.pen }) ∧ Below B w w' := by
 have sz := h.size
 go_enter Tryz.func162, Tryz.ntmps162
 go_upto_region 1 with fail
 obtain ⟨W, hW⟩ : ∃ W, W = w.alloc (.cells #[.int .i64 50, .int .i64 n, .int .i64 m, .string t, .slice L l.length lc] 38) := ⟨_, rfl⟩
 rw [← hW]
 have ho : W.heap[w.heap.size]? = some (Obj.cells #[.int .i64 50, .int .i64 n, .int .i64 m, .string t, .slice L l.length lc] 38 (0, 0)) := by rw [hW]; exact blk_new w _
 have o0 : W.cell? ⟨w.heap.size, 0, none⟩ = some (.int .i64 50) := blk_cell ho 0
 have o1 : W.cell? ⟨w.heap.size, 1, none⟩ = some (.int .i64 n) := blk_cell ho 1
 have o2 : W.cell? ⟨w.heap.size, 2, none⟩ = some (.int .i64 m) := blk_cell ho 2
 have o3 : W.cell? ⟨w.heap.size, 3, none⟩ = some (.string t) := blk_cell ho 3
 have o4 : W.cell? ⟨w.heap.size, 4, none⟩ = some (.slice L l.length lc) := blk_cell ho 4
 have hA : AtX W B g T c bs s ∧ Below B w W := by rw [hW]; exact ⟨h.below ((Below.refl _ _).alloc (Nat.le_refl _) _), (Below.refl B w).alloc sz _⟩
 have c3 : W.cell? ⟨g, 3, none⟩ = some (.int .i64 s.pen.x) := hA.1.cell 3
 have c4 : W.cell? ⟨g, 4, none⟩ = some (.int .i64 s.pen.y) := hA.1.cell 4
 have c5 : W.cell? ⟨g, 5, none⟩ = some (.int .i64 s.pen.a) := hA.1.cell 5
 have c6 : W.cell? ⟨g, 6, none⟩ = some (.int .i64 s.sav.x) := hA.1.cell 6
 have c7 : W.cell? ⟨g, 7, none⟩ = some (.int .i64 s.sav.y) := hA.1.cell 7
 have c8 : W.cell? ⟨g, 8, none⟩ = some (.int .i64 s.sav.a) := hA.1.cell 8
 have f6 := hA.1.frozen 6
 have f7 := hA.1.frozen 7
 have f8 := hA.1.frozen 8
 have HI := Lib.hid (And.intro hA.1 (And.intro hA.2 (And.intro hf ho)))
 clear h hf hA ho hW sz
 go_wp2_with fail
 go_end0
 refine ⟨rfl, ⟨bs, ?_⟩, HI.out.2.1.trans ((((Below.refl B W).setCell (p := ⟨g, 6, none⟩) HI.out.1.bg _).setCell (p := ⟨g, 7, none⟩) HI.out.1.bg _).setCell (p := ⟨g, 8, none⟩) HI.out.1.bg _)⟩
 exact (((HI.out.1).setG 6 _ (s' := { s with sav := { x := s.pen.x, y := s.sav.y, a := s.sav.a } }) rfl rfl rfl rfl).setG 7 _ (s' := { s with sav := { x := s.pen.x, y := s.pen.y, a := s.sav.a } }) rfl rfl rfl rfl).setG 8 _ (s' := { s with sav := { x := s.pen.x, y := s.pen.y, a := s.pen.a } }) rfl rfl rfl rfl
theorem restore_calls {w : World} {B g T c : Nat} {bs : List Nat} {s : Scr} (h : AtX w B g T c bs s) (hf : Fine s) (t : ByteArray) (L : Option Addr) (lc : Nat) (l : List Int) (n m : Int) :
  Calls Tryz.prog 162 #[.pointer (some ⟨g, 0, none⟩), opV 51 n m t L lc l] w fun e w' => e = .returned (.tuple #[]) ∧ (∃ bs', AtX w' B g T c bs' { s with pen := s.sav }) ∧ Below B w w' := by
 have sz := h.size
 go_enter Tryz.func162, Tryz.ntmps162
 go_upto_region 1 with fail
 obtain ⟨W, hW⟩ : ∃ W, W = w.alloc (.cells #[.int .i64 51, .int .i64 n, .int .i64 m, .string t, .slice L l.length lc] 38) := ⟨_, rfl⟩
 rw [← hW]
 have ho : W.heap[w.heap.size]? = some (Obj.cells #[.int .i64 51, .int .i64 n, .int .i64 m, .string t, .slice L l.length lc] 38 (0, 0)) := by rw [hW]; exact blk_new w _
 have o0 : W.cell? ⟨w.heap.size, 0, none⟩ = some (.int .i64 51) := blk_cell ho 0
 have o1 : W.cell? ⟨w.heap.size, 1, none⟩ = some (.int .i64 n) := blk_cell ho 1
 have o2 : W.cell? ⟨w.heap.size, 2, none⟩ = some (.int .i64 m) := blk_cell ho 2
 have o3 : W.cell? ⟨w.heap.size, 3, none⟩ = some (.string t) := blk_cell ho 3
 have o4 : W.cell? ⟨w.heap.size, 4, none⟩ = some (.slice L l.length lc) := blk_cell ho 4
 have hA : AtX W B g T c bs s ∧ Below B w W := by rw [hW]; exact ⟨h.below ((Below.refl _ _).alloc (Nat.le_refl _) _), (Below.refl B w).alloc sz _⟩
 have c3 : W.cell? ⟨g, 3, none⟩ = some (.int .i64 s.pen.x) := hA.1.cell 3
 have c4 : W.cell? ⟨g, 4, none⟩ = some (.int .i64 s.pen.y) := hA.1.cell 4
 have c5 : W.cell? ⟨g, 5, none⟩ = some (.int .i64 s.pen.a) := hA.1.cell 5
 have c6 : W.cell? ⟨g, 6, none⟩ = some (.int .i64 s.sav.x) := hA.1.cell 6
 have c7 : W.cell? ⟨g, 7, none⟩ = some (.int .i64 s.sav.y) := hA.1.cell 7
 have c8 : W.cell? ⟨g, 8, none⟩ = some (.int .i64 s.sav.a) := hA.1.cell 8
 have f3 := hA.1.frozen 3
 have f4 := hA.1.frozen 4
 have f5 := hA.1.frozen 5
 have HI := Lib.hid (And.intro hA.1 (And.intro hA.2 (And.intro hf ho)))
 clear h hf hA ho hW sz
 go_wp2_with fail
 go_end0
 refine ⟨rfl, ⟨bs, ?_⟩, HI.out.2.1.trans ((((Below.refl B W).setCell (p := ⟨g, 3, none⟩) HI.out.1.bg _).setCell (p := ⟨g, 4, none⟩) HI.out.1.bg _).setCell (p := ⟨g, 5, none⟩) HI.out.1.bg _)⟩
 exact (((HI.out.1).setG 3 _ (s' := { s with pen := { x := s.sav.x, y := s.pen.y, a := s.pen.a } }) rfl rfl rfl rfl).setG 4 _ (s' := { s with pen := { x := s.sav.x, y := s.sav.y, a := s.pen.a } }) rfl rfl rfl rfl).setG 5 _ (s' := { s with pen := { x := s.sav.x, y := s.sav.y, a := s.sav.a } }) rfl rfl rfl rfl
theorem nomarg_calls {w : World} {B g T c : Nat} {bs : List Nat} {s : Scr} (h : AtX w B g T c bs s) (hf : Fine s) (t : ByteArray) (L : Option Addr) (lc : Nat) (l : List Int) (n m : Int) (h3 : m ≤ 99) (hm : (s.h : Int) < m) :
  Calls Tryz.prog 162 #[.pointer (some ⟨g, 0, none⟩), opV 42 n m t L lc l] w fun e w' => e = .returned (.tuple #[]) ∧ (∃ bs', AtX w' B g T c bs' s) ∧ Below B w w' := by
 have sz := h.size
 go_enter Tryz.func162, Tryz.ntmps162
 go_upto_region 1 with fail
 obtain ⟨W, hW⟩ : ∃ W, W = w.alloc (.cells #[.int .i64 42, .int .i64 n, .int .i64 m, .string t, .slice L l.length lc] 38) := ⟨_, rfl⟩
 rw [← hW]
 have ho : W.heap[w.heap.size]? = some (Obj.cells #[.int .i64 42, .int .i64 n, .int .i64 m, .string t, .slice L l.length lc] 38 (0, 0)) := by rw [hW]; exact blk_new w _
 have o0 : W.cell? ⟨w.heap.size, 0, none⟩ = some (.int .i64 42) := blk_cell ho 0
 have o1 : W.cell? ⟨w.heap.size, 1, none⟩ = some (.int .i64 n) := blk_cell ho 1
 have o2 : W.cell? ⟨w.heap.size, 2, none⟩ = some (.int .i64 m) := blk_cell ho 2
 have o3 : W.cell? ⟨w.heap.size, 3, none⟩ = some (.string t) := blk_cell ho 3
 have o4 : W.cell? ⟨w.heap.size, 4, none⟩ = some (.slice L l.length lc) := blk_cell ho 4
 have hA : AtX W B g T c bs s ∧ Below B w W := by rw [hW]; exact ⟨h.below ((Below.refl _ _).alloc (Nat.le_refl _) _), (Below.refl B w).alloc sz _⟩
 have c1 : W.cell? ⟨g, 1, none⟩ = some (.int .i64 s.h) := hA.1.cell 1
 have HI := Lib.hid (And.intro hA.1 (And.intro hA.2 (And.intro hf ho)))
 have d1 : decide (m ≤ (s.h : Int)) = false := decide_eq_false (by omega)
 clear h hf hA ho hW sz
 go_wp2_with fail
 go_still (by kernel_rfl)
 change Exit.then _ _ _ _ W.drew
 obtain ⟨W1, hW1⟩ : ∃ W1, W1 = W.drew := ⟨_, rfl⟩
 rw [← hW1]
 have HI1 := Lib.hid (show AtX W1 B g T c bs s ∧ Below B w W1 ∧ W1.heap[w.heap.size]? = some (Obj.cells #[.int .i64 42, .int .i64 n, .int .i64 m, .string t, .slice L l.length lc] 38 (0, 0)) by rw [hW1]; exact ⟨HI.out.1.drew, HI.out.2.1.drew, HI.out.2.2.2⟩)
 go_wp2_with fail
 go_end0
 exact ⟨rfl, ⟨_, HI1.out.1⟩, HI1.out.2.1⟩
theorem marg_calls {w : World} {B g T c : Nat} {bs : List Nat} {s : Scr} (h : AtX w B g T c bs s) (hf : Fine s) (t : ByteArray) (L : Option Addr) (lc : Nat) (l : List Int) (n m : Int) (h1 : 1 ≤ n) (h2 : n < m) (h3 : m ≤ 99) (hm : m ≤ (s.h : Int)) :
  Calls Tryz.prog 162 #[.pointer (some ⟨g, 0, none⟩), opV 42 n m t L lc l] w fun e w' => e = .returned (.tuple #[]) ∧ (∃ bs', AtX w' B g T c bs' (s.marg n m)) ∧ Below B w w' := by
 have e1 : IntKind.i64.wrap (n - 1) = n - 1 := wrapI _ (by omega) (by omega)
 have e2 : IntKind.i64.wrap (m - 1) = m - 1 := wrapI _ (by omega) (by omega)
 have sz := h.size
 go_enter Tryz.func162, Tryz.ntmps162
 go_upto_region 1 with fail
 obtain ⟨W, hW⟩ : ∃ W, W = w.alloc (.cells #[.int .i64 42, .int .i64 n, .int .i64 m, .string t, .slice L l.length lc] 38) := ⟨_, rfl⟩
 rw [← hW]
 have ho : W.heap[w.heap.size]? = some (Obj.cells #[.int .i64 42, .int .i64 n, .int .i64 m, .string t, .slice L l.length lc] 38 (0, 0)) := by rw [hW]; exact blk_new w _
 have o0 : W.cell? ⟨w.heap.size, 0, none⟩ = some (.int .i64 42) := blk_cell ho 0
 have o1 : W.cell? ⟨w.heap.size, 1, none⟩ = some (.int .i64 n) := blk_cell ho 1
 have o2 : W.cell? ⟨w.heap.size, 2, none⟩ = some (.int .i64 m) := blk_cell ho 2
 have o3 : W.cell? ⟨w.heap.size, 3, none⟩ = some (.string t) := blk_cell ho 3
 have o4 : W.cell? ⟨w.heap.size, 4, none⟩ = some (.slice L l.length lc) := blk_cell ho 4
 have hA : AtX W B g T c bs s ∧ Below B w W := by rw [hW]; exact ⟨h.below ((Below.refl _ _).alloc (Nat.le_refl _) _), (Below.refl B w).alloc sz _⟩
 have c1 : W.cell? ⟨g, 1, none⟩ = some (.int .i64 s.h) := hA.1.cell 1
 have c9 : W.cell? ⟨g, 9, none⟩ = some (.int .i64 s.top) := hA.1.cell 9
 have c10 : W.cell? ⟨g, 10, none⟩ = some (.int .i64 s.bot) := hA.1.cell 10
 have f9 := hA.1.frozen 9
 have f10 := hA.1.frozen 10
 have HI := Lib.hid (And.intro hA.1 (And.intro hA.2 (And.intro hf ho)))
 clear h hf hA ho hW sz
 go_wp2_with fail
 go_still (by kernel_rfl)
 change Exit.then _ _ _ _ W.drew
 obtain ⟨W1, hW1⟩ : ∃ W1, W1 = W.drew := ⟨_, rfl⟩
 rw [← hW1]
 have HI1 := Lib.hid (show AtX W1 B g T c bs s ∧ Below B w W1 ∧ W1.heap[w.heap.size]? = some (Obj.cells #[.int .i64 42, .int .i64 n, .int .i64 m, .string t, .slice L l.length lc] 38 (0, 0)) by rw [hW1]; exact ⟨HI.out.1.drew, HI.out.2.1.drew, HI.out.2.2.2⟩)
 have o1' : W1.cell? ⟨w.heap.size, 1, none⟩ = some (.int .i64 n) := blk_cell HI1.out.2.2 1
 have o2' : W1.cell? ⟨w.heap.size, 2, none⟩ = some (.int .i64 m) := blk_cell HI1.out.2.2 2
 have c9' : W1.cell? ⟨g, 9, none⟩ = some (.int .i64 s.top) := HI1.out.1.cell 9
 have c10' : W1.cell? ⟨g, 10, none⟩ = some (.int .i64 s.bot) := HI1.out.1.cell 10
 have f9' := HI1.out.1.frozen 9
 have f10' := HI1.out.1.frozen 10
 clear c1 c9 c10 f9 f10 o0 o1 o2 o3 o4 hW1
 go_wp2_with fail
 go_region
 have hp : Hid (AtX ((W1.setCell ⟨g, 9, none⟩ (.int .i64 (n - 1))).setCell ⟨g, 10, none⟩ (.int .i64 (m - 1))).drew B g T c bs { s with top := (n - 1).toNat, bot := (m - 1).toNat } ∧
   Below B w ((W1.setCell ⟨g, 9, none⟩ (.int .i64 (n - 1))).setCell ⟨g, 10, none⟩ (.int .i64 (m - 1))).drew) := by
  have q1 : n - 1 = (((n - 1).toNat : Nat) : Int) := by omega
  have q2 : m - 1 = (((m - 1).toNat : Nat) : Int) := by omega
  rw [q1, q2]
  exact ⟨((HI1.out.1.setG 9 _ (s' := { s with top := (n - 1).toNat }) rfl rfl rfl rfl).setG 10 _ (s' := { s with top := (n - 1).toNat, bot := (m - 1).toNat }) rfl rfl rfl rfl).drew, HI1.out.2.1.trans (((Below.refl B W1).setCell (p := ⟨g, 9, none⟩) HI1.out.1.bg _).setCell (p := ⟨g, 10, none⟩) HI1.out.1.bg _).drew⟩
 generalize ((W1.setCell ⟨g, 9, none⟩ (.int .i64 (n - 1))).setCell ⟨g, 10, none⟩ (.int .i64 (m - 1))).drew = W2 at hp ⊢
 clear o1' o2' c9' c10' f9' f10'
 go_wp2_with fail
 refine (move_calls hp.out.1 (HI.out.2.2.1.margs n m h1 h2 hm) 0 0 (by omega) (by omega)).mono ?_
 rintro e w4 ⟨rfl, ha4, hb4⟩
 have hend := Lib.hid (And.intro ha4 (hp.out.2.trans hb4))
 clear ha4 hb4
 go_wp2_with fail
 go_end0
 exact ⟨rfl, ⟨_, hend.out.1⟩, hend.out.2⟩
theorem octl_calls {w : World} {B g T c : Nat} {bs : List Nat} {s : Scr} (h : AtX w B g T c bs s) (hf : Fine s) (t : ByteArray) (L : Option Addr) (lc : Nat) (l : List Int) (n m : Int) (hn : n = 13 ∨ n = 8 ∨ n = 9 ∨ n = 10) :
  Calls Tryz.prog 162 #[.pointer (some ⟨g, 0, none⟩), opV 61 n m t L lc l] w fun e w' => e = .returned (.tuple #[]) ∧ (∃ bs', AtX w' B g T c bs' (s.ctl n)) ∧ Below B w w' := by
 have sz := h.size
 go_enter Tryz.func162, Tryz.ntmps162
 go_upto_region 1 with fail
 obtain ⟨W, hW⟩ : ∃ W, W = w.alloc (.cells #[.int .i64 61, .int .i64 n, .int .i64 m, .string t, .slice L l.length lc] 38) := ⟨_, rfl⟩
 rw [← hW]
 have ho : W.heap[w.heap.size]? = some (Obj.cells #[.int .i64 61, .int .i64 n, .int .i64 m, .string t, .slice L l.length lc] 38 (0, 0)) := by rw [hW]; exact blk_new w _
 have o0 : W.cell? ⟨w.heap.size, 0, none⟩ = some (.int .i64 61) := blk_cell ho 0
 have o1 : W.cell? ⟨w.heap.size, 1, none⟩ = some (.int .i64 n) := blk_cell ho 1
 have o2 : W.cell? ⟨w.heap.size, 2, none⟩ = some (.int .i64 m) := blk_cell ho 2
 have o3 : W.cell? ⟨w.heap.size, 3, none⟩ = some (.string t) := blk_cell ho 3
 have o4 : W.cell? ⟨w.heap.size, 4, none⟩ = some (.slice L l.length lc) := blk_cell ho 4
 have hA : AtX W B g T c bs s ∧ Below B w W := by rw [hW]; exact ⟨h.below ((Below.refl _ _).alloc (Nat.le_refl _) _), (Below.refl B w).alloc sz _⟩
 have HI := Lib.hid (And.intro hA.1 (And.intro hA.2 (And.intro hf ho)))
 have HC := Lib.hid (ctl_calls hA.1 hf n hn)
 clear h hf hA ho hW sz hn
 go_wp2_with fail
 refine HC.out.mono ?_
 rintro e w4 ⟨rfl, ha4, hb4⟩
 have hend := Lib.hid (And.intro ha4 (HI.out.2.1.trans hb4))
 clear ha4 hb4
 go_wp2_with fail
 go_end0
 exact ⟨rfl, hend.out⟩
theorem text_calls {w : World} {B g T c : Nat} {bs : List Nat} {s : Scr} (h : AtX w B g T c bs s) (hf : Fine s) (t : ByteArray) (L : Option Addr) (lc : Nat) (l : List Int) (n m : Int) (ht : t.size ≤ 1000) :
  Calls Tryz.prog 162 #[.pointer (some ⟨g, 0, none⟩), opV 60 n m t L lc l] w fun e w' => e = .returned (.tuple #[]) ∧ (∃ bs', AtX w' B g T c bs' (s.chars (bytesOf t))) ∧ Below B w w' := by
 have sz := h.size
 go_enter Tryz.func162, Tryz.ntmps162
 go_upto_region 1 with fail
 obtain ⟨W, hW⟩ : ∃ W, W = w.alloc (.cells #[.int .i64 60, .int .i64 n, .int .i64 m, .string t, .slice L l.length lc] 38) := ⟨_, rfl⟩
 rw [← hW]
 have ho : W.heap[w.heap.size]? = some (Obj.cells #[.int .i64 60, .int .i64 n, .int .i64 m, .string t, .slice L l.length lc] 38 (0, 0)) := by rw [hW]; exact blk_new w _
 have o0 : W.cell? ⟨w.heap.size, 0, none⟩ = some (.int .i64 60) := blk_cell ho 0
 have o1 : W.cell? ⟨w.heap.size, 1, none⟩ = some (.int .i64 n) := blk_cell ho 1
 have o2 : W.cell? ⟨w.heap.size, 2, none⟩ = some (.int .i64 m) := blk_cell ho 2
 have o3 : W.cell? ⟨w.heap.size, 3, none⟩ = some (.string t) := blk_cell ho 3
 have o4 : W.cell? ⟨w.heap.size, 4, none⟩ = some (.slice L l.length lc) := blk_cell ho 4
 have hA : AtX W B g T c bs s ∧ Below B w W := by rw [hW]; exact ⟨h.below ((Below.refl _ _).alloc (Nat.le_refl _) _), (Below.refl B w).alloc sz _⟩
 have HI := Lib.hid (And.intro hA.1 (And.intro hA.2 (And.intro hf ho)))
 have pg : w.heap.size ≠ g := Nat.ne_of_gt (blk_lt h.blk)
 have pb : w.heap.size ∉ bs := h.fresh
 have e0 : ∀ i : Nat, i < t.size → IntKind.i64.wrap ((i : Int) + 1) = ((i + 1 : Nat) : Int) := fun i hi => by rw [wrapI _ (by omega) (by omega)]; omega
 clear h hA ho hW sz
 go_wp2_with fail
 go_loopg [83] t.size (fun kq v83 w' => ∃ i : Nat, v83 = .int .i64 (i : Int) ∧ i + kq = t.size ∧ Hid (AtX w' B g T c bs (s.chars ((bytesOf t).take i)) ∧ Below B w w' ∧ (∀ k, k ≠ g → k ∉ bs → w'.heap[k]? = W.heap[k]?)))
 case atStart => exact ⟨0, rfl, by omega, HI.out.1, HI.out.2.1, fun _ _ _ => rfl⟩
 case round =>
  obtain ⟨i, rfl, hk, hA⟩ := hrel
  have o3' : wr.cell? ⟨w.heap.size, 3, none⟩ = some (.string t) := (World.cell?_of_block (hA.out.2.2 _ pg pb)).trans o3
  by_cases hi : i < t.size
  ·have d3 : (i : Int) < (t.size : Int) := by omega
   have e1 := e0 i hi
   have i0 : (0 : Int) ≤ (i : Int) := by omega
   have hch : (bytesOf t)[i]? = some (((t[i]'hi).toNat : Nat) : Int) := by
    have hl : i < (bytesOf t).length := by rw [bytesOf_length]; exact hi
    rw [List.getElem?_eq_getElem hl]
    simp only [bytesOf, List.getElem_map]
    rfl
   have hput := put_calls hA.out.1 (Fine.chars _ HI.out.2.2.1) (((t[i]'hi).toNat : Nat) : Int)
   have hst : (s.chars ((bytesOf t).take i)).put (((t[i]'hi).toNat : Nat) : Int) = s.chars ((bytesOf t).take (i + 1)) := by
    rw [List.take_add_one, hch]
    simp [Scr.chars, List.foldl_append]
   rw [hst] at hput
   have HP := Lib.hid hput
   clear hput hst hch
   go_wp2_with fail
   refine HP.out.mono ?_
   rintro e w4 ⟨rfl, ha4, hb4, hk4⟩
   have hend := Lib.hid (And.intro ha4 (And.intro (hA.out.2.1.trans hb4) (fun k h1 h2 => (hk4 k h1 h2).trans (hA.out.2.2 k h1 h2))))
   clear ha4 hb4 hk4
   go_wp2_with fail
   go_roundg (t.size - (i + 1))
   case measure => omega
   case rel => exact ⟨i + 1, rfl, by omega, hend.out⟩
  ·have d3 : decide ((i : Int) < (t.size : Int)) = false := decide_eq_false (by omega)
   have hfull : (bytesOf t).take i = bytesOf t := List.take_of_length_le (by rw [bytesOf_length]; omega)
   go_wp2_with fail
   go_end0
   exact ⟨rfl, ⟨_, by rw [← hfull]; exact hA.out.1⟩, hA.out.2.1⟩
theorem style_calls {w : World} {B g T c : Nat} {bs : List Nat} {s : Scr} (h : AtX w B g T c bs s) (hf : Fine s) (t : ByteArray) (L : Option Addr) (lc : Nat) (l : List Int) (n m : Int) (hl : l.length ≤ 1000) (hok : ∀ x ∈ l, (0 ≤ x ∧ x ≤ 29) ∧ (x ≤ 9 ∨ 22 ≤ x)) (hL : ∀ w' : World, Below B w w' → Kd.C (Kd.int .i64) w' L l.length l) :
  Calls Tryz.prog 162 #[.pointer (some ⟨g, 0, none⟩), opV 52 n m t L lc l] w fun e w' => e = .returned (.tuple #[]) ∧ (∃ bs', AtX w' B g T c bs' (s.attrs attrA l)) ∧ Below B w w' := by
 have sz := h.size
 go_enter Tryz.func162, Tryz.ntmps162
 go_upto_region 1 with fail
 obtain ⟨W, hW⟩ : ∃ W, W = w.alloc (.cells #[.int .i64 52, .int .i64 n, .int .i64 m, .string t, .slice L l.length lc] 38) := ⟨_, rfl⟩
 rw [← hW]
 have ho : W.heap[w.heap.size]? = some (Obj.cells #[.int .i64 52, .int .i64 n, .int .i64 m, .string t, .slice L l.length lc] 38 (0, 0)) := by rw [hW]; exact blk_new w _
 have o0 : W.cell? ⟨w.heap.size, 0, none⟩ = some (.int .i64 52) := blk_cell ho 0
 have o1 : W.cell? ⟨w.heap.size, 1, none⟩ = some (.int .i64 n) := blk_cell ho 1
 have o2 : W.cell? ⟨w.heap.size, 2, none⟩ = some (.int .i64 m) := blk_cell ho 2
 have o3 : W.cell? ⟨w.heap.size, 3, none⟩ = some (.string t) := blk_cell ho 3
 have o4 : W.cell? ⟨w.heap.size, 4, none⟩ = some (.slice L l.length lc) := blk_cell ho 4
 have hA : AtX W B g T c bs s ∧ Below B w W := by rw [hW]; exact ⟨h.below ((Below.refl _ _).alloc (Nat.le_refl _) _), (Below.refl B w).alloc sz _⟩
 have HI := Lib.hid (And.intro hA.1 (And.intro hA.2 (And.intro hf ho)))
 have pg : w.heap.size ≠ g := Nat.ne_of_gt (blk_lt h.blk)
 have e0 : ∀ i : Nat, i < l.length → IntKind.i64.wrap ((i : Int) + 1) = ((i + 1 : Nat) : Int) := fun i hi => by rw [wrapI _ (by omega) (by omega)]; omega
 have HL := Lib.hid hL
 clear h hA ho hW sz hL
 go_wp2_with fail
 go_loopg [62] l.length (fun kq v62 w' => ∃ i : Nat, v62 = .int .i64 (i : Int) ∧ i + kq = l.length ∧ Hid (AtX w' B g T c bs (s.attrs attrA (l.take i)) ∧ Below B w w'))
 case atStart => exact ⟨0, rfl, by omega, HI.out.1, HI.out.2.1⟩
 case round =>
  obtain ⟨i, rfl, hk, hA⟩ := hrel
  by_cases hi : i < l.length
  ·have d3 : (i : Int) < (l.length : Int) := by omega
   have e1 := e0 i hi
   have i0 : (0 : Int) ≤ (i : Int) := by omega
   obtain ⟨ad, hLa, hcell⟩ := Kd.at_int (HL.out _ hA.out.2) (i : Int) i0 d3
   subst hLa
   have hrd : rd l (i : Int) = l[i] := by simp [rd, hi]
   rw [hrd, Int.toNat_natCast] at hcell
   have c5 : wr.cell? ⟨g, 5, none⟩ = some (.int .i64 (s.attrs attrA (l.take i)).pen.a) := hA.out.1.cell 5
   have f5 := hA.out.1.frozen 5
   obtain ⟨q1, q2⟩ := hok _ (List.getElem_mem hi)
   have hat := attrA_f (s.attrs attrA (l.take i)).pen.a l[i] q1.1 q1.2 q2
   have hst : attrA (s.attrs attrA (l.take i)).pen.a l[i] = (s.attrs attrA (l.take (i + 1))).pen.a := by
    simp only [Scr.attrs]
    rw [List.take_succ_eq_append_getElem hi, List.foldl_append]
    rfl
   have HP := Lib.hid (And.intro hat hst)
   clear hat hst hrd q1 q2
   generalize l[i] = x at hcell HP
   go_wp2_with fail
   with_reducible refine (spec_DrawAttr.calls _ _ _ _ HP.out.1).mono ?_
   rintro e w4 ⟨rfl, ⟨nd, rfl⟩⟩
   have c5' : (wr.drewN nd).cell? ⟨g, 5, none⟩ = some (.int .i64 (s.attrs attrA (l.take i)).pen.a) := c5
   have f5' : (wr.drewN nd).frozen? ⟨g, 5, none⟩ = false := f5
   go_wp2_with fail
   go_roundg (l.length - (i + 1))
   case measure => omega
   case rel =>
    have hset := (hA.out.1.keep (w' := wr.drewN nd) (fun _ _ _ => rfl)).setG 5 (.int .i64 (attrA (s.attrs attrA (l.take i)).pen.a x)) (s' := s.attrs attrA (l.take (i + 1))) (by rw [HP.out.2]; rfl) rfl rfl rfl
    exact ⟨i + 1, rfl, by omega, hset, (pw_below_drewN hA.out.2 nd).setCell (p := ⟨g, 5, none⟩) hA.out.1.bg _⟩
  ·have d3 : decide ((i : Int) < (l.length : Int)) = false := decide_eq_false (by omega)
   have hfull : l.take i = l := List.take_of_length_le (by omega)
   go_wp2_with fail
   go_end0
   exact ⟨rfl, ⟨_, by rw [← hfull]; exact hA.out.1⟩, hA.out.2⟩
end Go.Proofs.YteebhoehflgfoaaGreatDoor.Y
end
section
namespace Go.Proofs.YteebhoehflgfoaaGreatDoor.Y
open Go.RowKit Go.Proofs.YteebhoehflgfoaaGreatDoorW.PrintWords Go.Proofs.YteebhoehflgfoaaGreatDoorW.PrintLast Go.Proofs.YteebhoehflgfoaaGreatDoorW.PrintMore
set_option linter.unusedSimpArgs false
set_option linter.unusedVariables false
set_option maxRecDepth 100000
set_option maxHeartbeats 80000000
theorem doA_calls {w : World} {B g T c : Nat} {bs : List Nat} {s : Scr} (h : AtX w B g T c bs s) (hf : Fine s) (k n m : Int) (t : ByteArray) (L : Option Addr) (lc : Nat) (l : List Int) (hop : (k = 0 ∧ 1 ≤ n ∧ n ≤ 99) ∨ (k = 1 ∧ 1 ≤ n ∧ n ≤ 99) ∨ (k = 19 ∧ 1 ≤ n ∧ n ≤ 99) ∨ (k = 2 ∧ 1 ≤ n ∧ n ≤ 99) ∨ (k = 21 ∧ 1 ≤ n ∧ n ≤ 99) ∨ (k = 3 ∧ 1 ≤ n ∧ n ≤ 99)) :
  Calls Tryz.prog 138 #[.pointer (some ⟨g, 0, none⟩), opV k n m t L lc l] w fun e w' => e = .returned (.tuple #[]) ∧ (∃ bs', AtX w' B g T c bs' (s.op attrA k n m (bytesOf t) l)) ∧ Below B w w' := by
 have sz := h.size
 have HP := Lib.hid (show w.heap.size ∉ bs ∧ w.heap.size ≠ g from ⟨h.fresh, Nat.ne_of_gt (blk_lt h.blk)⟩)
 have HO := Lib.hid hop
 clear hop
 go_enter Tryz.func138, Tryz.ntmps138
 go_upto_region 1 with fail
 obtain ⟨W, hW⟩ : ∃ W, W = w.alloc (Obj.cells #[.int .i64 k, .int .i64 n, .int .i64 m, .string t, .slice L l.length lc] 38) := ⟨_, rfl⟩
 rw [← hW]
 have HI := Lib.hid (show AtX W B g T c bs s ∧ Below B w W ∧ Fine s ∧ W.heap[w.heap.size]? = some (Obj.cells #[.int .i64 k, .int .i64 n, .int .i64 m, .string t, .slice L l.length lc] 38 (0, 0)) by rw [hW]; exact ⟨h.below ((Below.refl _ _).alloc (Nat.le_refl _) _), (Below.refl B w).alloc sz _, hf, blk_new w _⟩)
 clear h hf hW sz
 have c3 : W.cell? ⟨g, 3, none⟩ = some (.int .i64 s.pen.x) := HI.out.1.cell 3
 have c4 : W.cell? ⟨g, 4, none⟩ = some (.int .i64 s.pen.y) := HI.out.1.cell 4
 go_wp2_with fail
 go_still (by kernel_rfl)
 change Exit.then _ _ _ _ W.drew
 obtain ⟨W1, hW1⟩ : ∃ W1, W1 = W.drew := ⟨_, rfl⟩
 rw [← hW1]
 have HI1 := Lib.hid (show AtX W1 B g T c bs s ∧ Below B w W1 ∧ Fine s ∧ W1.heap[w.heap.size]? = some (Obj.cells #[.int .i64 k, .int .i64 n, .int .i64 m, .string t, .slice L l.length lc] 38 (0, 0)) by rw [hW1]; exact ⟨HI.out.1.drew, HI.out.2.1.drew, HI.out.2.2.1, HI.out.2.2.2⟩)
 clear hW1 c3 c4 HI
 have c4 : W1.cell? ⟨g, 4, none⟩ = some (.int .i64 s.pen.y) := HI1.out.1.cell 4
 have c9 : W1.cell? ⟨g, 9, none⟩ = some (.int .i64 s.top) := HI1.out.1.cell 9
 have c10 : W1.cell? ⟨g, 10, none⟩ = some (.int .i64 s.bot) := HI1.out.1.cell 10
 go_wp2_with fail
 go_cut [6] (fun v6 wc => v6 = .bool (decide (s.top ≤ s.pen.y ∧ s.pen.y ≤ s.bot)) ∧ Hid (AtX wc B g T c bs s ∧ Below B w wc ∧ Fine s ∧ wc.heap[w.heap.size]? = some (Obj.cells #[.int .i64 k, .int .i64 n, .int .i64 m, .string t, .slice L l.length lc] 38 (0, 0))))
 case first =>
  rcases (show (s.top ≤ s.pen.y ∧ s.pen.y ≤ s.bot) ∨ (s.top ≤ s.pen.y ∧ ¬ s.pen.y ≤ s.bot) ∨ ¬ s.top ≤ s.pen.y by omega) with ⟨q1, q2⟩ | ⟨q1, q2⟩ | q1
  all_goals
   go_quiet (fail)
   go_wp2_with fail
   go_meet
   case rel => exact ⟨by first | rw [decide_eq_true (show s.top ≤ s.pen.y ∧ s.pen.y ≤ s.bot from ⟨q1, q2⟩)] | rw [decide_eq_false (show ¬ (s.top ≤ s.pen.y ∧ s.pen.y ≤ s.bot) by omega)], HI1.out.1.keep (fun _ _ _ => rfl), pw_below_drewN HI1.out.2.1 nq, HI1.out.2.2.1, HI1.out.2.2.2⟩
 case rest =>
  obtain ⟨rfl, HI⟩ := hcut
  have px := HI.out.2.2.1.px
  have py := HI.out.2.2.1.py
  have w1 := HI.out.2.2.1.w1
  have h1 := HI.out.2.2.1.h1
  clear HI1 c4 c9 c10
  have hop := HO.out
  rcases hop with ⟨hk, hn⟩ | ⟨hk, hn⟩ | ⟨hk, hn⟩ | ⟨hk, hn⟩ | ⟨hk, hn⟩ | ⟨hk, hn⟩
  ·subst hk
   have e1 : IntKind.i64.wrap ((s.pen.y : Int) - n) = (s.pen.y : Int) - n := wrapI _ (by omega) (by omega)
   have hopq : Hid (s.op attrA 0 n m (bytesOf t) l = s.move (s.pen.x : Int) ((s.pen.y : Int) - n)) := by unfold Hid; simp [Scr.op]
   have o0 : wc.cell? ⟨w.heap.size, 0, none⟩ = some (.int .i64 0) := blk_cell HI.out.2.2.2 0
   have o1 : wc.cell? ⟨w.heap.size, 1, none⟩ = some (.int .i64 n) := blk_cell HI.out.2.2.2 1
   clear px py w1 h1 hn
   go_wp2_with fail
   refine (move_calls HI.out.1 HI.out.2.2.1 (s.pen.x : Int) ((s.pen.y : Int) - n) (by have := HI.out.2.2.1.px; have := HI.out.2.2.1.w1; have := HO.out; omega) (by have := HI.out.2.2.1.py; have := HI.out.2.2.1.h1; have := HO.out; omega)).mono ?_
   rintro e w4 ⟨rfl, ha4, hb4⟩
   have hend := Lib.hid (And.intro ha4 (HI.out.2.1.trans hb4))
   clear ha4 hb4
   go_wp2_with fail
   go_end0
   exact ⟨rfl, ⟨_, by rw [hopq.out]; exact hend.out.1⟩, hend.out.2⟩
  ·subst hk
   have e1 : IntKind.i64.wrap ((s.pen.y : Int) + n) = (s.pen.y : Int) + n := wrapI _ (by omega) (by omega)
   have hopq : Hid (s.op attrA 1 n m (bytesOf t) l = s.move (s.pen.x : Int) ((s.pen.y : Int) + n)) := by unfold Hid; simp [Scr.op]
   have o0 : wc.cell? ⟨w.heap.size, 0, none⟩ = some (.int .i64 1) := blk_cell HI.out.2.2.2 0
   have o1 : wc.cell? ⟨w.heap.size, 1, none⟩ = some (.int .i64 n) := blk_cell HI.out.2.2.2 1
   clear px py w1 h1 hn
   go_wp2_with fail
   refine (move_calls HI.out.1 HI.out.2.2.1 (s.pen.x : Int) ((s.pen.y : Int) + n) (by have := HI.out.2.2.1.px; have := HI.out.2.2.1.w1; have := HO.out; omega) (by have := HI.out.2.2.1.py; have := HI.out.2.2.1.h1; have := HO.out; omega)).mono ?_
   rintro e w4 ⟨rfl, ha4, hb4⟩
   have hend := Lib.hid (And.intro ha4 (HI.out.2.1.trans hb4))
   clear ha4 hb4
   go_wp2_with fail
   go_end0
   exact ⟨rfl, ⟨_, by rw [hopq.out]; exact hend.out.1⟩, hend.out.2⟩
  ·subst hk
   have e1 : IntKind.i64.wrap ((s.pen.y : Int) + n) = (s.pen.y : Int) + n := wrapI _ (by omega) (by omega)
   have hopq : Hid (s.op attrA 19 n m (bytesOf t) l = s.move (s.pen.x : Int) ((s.pen.y : Int) + n)) := by unfold Hid; simp [Scr.op]
   have o0 : wc.cell? ⟨w.heap.size, 0, none⟩ = some (.int .i64 19) := blk_cell HI.out.2.2.2 0
   have o1 : wc.cell? ⟨w.heap.size, 1, none⟩ = some (.int .i64 n) := blk_cell HI.out.2.2.2 1
   clear px py w1 h1 hn
   go_wp2_with fail
   refine (move_calls HI.out.1 HI.out.2.2.1 (s.pen.x : Int) ((s.pen.y : Int) + n) (by have := HI.out.2.2.1.px; have := HI.out.2.2.1.w1; have := HO.out; omega) (by have := HI.out.2.2.1.py; have := HI.out.2.2.1.h1; have := HO.out; omega)).mono ?_
   rintro e w4 ⟨rfl, ha4, hb4⟩
   have hend := Lib.hid (And.intro ha4 (HI.out.2.1.trans hb4))
   clear ha4 hb4
   go_wp2_with fail
   go_end0
   exact ⟨rfl, ⟨_, by rw [hopq.out]; exact hend.out.1⟩, hend.out.2⟩
  ·subst hk
   have e1 : IntKind.i64.wrap ((s.pen.x : Int) + n) = (s.pen.x : Int) + n := wrapI _ (by omega) (by omega)
   have hopq : Hid (s.op attrA 2 n m (bytesOf t) l = s.move ((s.pen.x : Int) + n) (s.pen.y : Int)) := by unfold Hid; simp [Scr.op]
   have o0 : wc.cell? ⟨w.heap.size, 0, none⟩ = some (.int .i64 2) := blk_cell HI.out.2.2.2 0
   have o1 : wc.cell? ⟨w.heap.size, 1, none⟩ = some (.int .i64 n) := blk_cell HI.out.2.2.2 1
   clear px py w1 h1 hn
   go_wp2_with fail
   refine (move_calls HI.out.1 HI.out.2.2.1 ((s.pen.x : Int) + n) (s.pen.y : Int) (by have := HI.out.2.2.1.px; have := HI.out.2.2.1.w1; have := HO.out; omega) (by have := HI.out.2.2.1.py; have := HI.out.2.2.1.h1; have := HO.out; omega)).mono ?_
   rintro e w4 ⟨rfl, ha4, hb4⟩
   have hend := Lib.hid (And.intro ha4 (HI.out.2.1.trans hb4))
   clear ha4 hb4
   go_wp2_with fail
   go_end0
   exact ⟨rfl, ⟨_, by rw [hopq.out]; exact hend.out.1⟩, hend.out.2⟩
  ·subst hk
   have e1 : IntKind.i64.wrap ((s.pen.x : Int) + n) = (s.pen.x : Int) + n := wrapI _ (by omega) (by omega)
   have hopq : Hid (s.op attrA 21 n m (bytesOf t) l = s.move ((s.pen.x : Int) + n) (s.pen.y : Int)) := by unfold Hid; simp [Scr.op]
   have o0 : wc.cell? ⟨w.heap.size, 0, none⟩ = some (.int .i64 21) := blk_cell HI.out.2.2.2 0
   have o1 : wc.cell? ⟨w.heap.size, 1, none⟩ = some (.int .i64 n) := blk_cell HI.out.2.2.2 1
   clear px py w1 h1 hn
   go_wp2_with fail
   refine (move_calls HI.out.1 HI.out.2.2.1 ((s.pen.x : Int) + n) (s.pen.y : Int) (by have := HI.out.2.2.1.px; have := HI.out.2.2.1.w1; have := HO.out; omega) (by have := HI.out.2.2.1.py; have := HI.out.2.2.1.h1; have := HO.out; omega)).mono ?_
   rintro e w4 ⟨rfl, ha4, hb4⟩
   have hend := Lib.hid (And.intro ha4 (HI.out.2.1.trans hb4))
   clear ha4 hb4
   go_wp2_with fail
   go_end0
   exact ⟨rfl, ⟨_, by rw [hopq.out]; exact hend.out.1⟩, hend.out.2⟩
  ·subst hk
   have e1 : IntKind.i64.wrap ((s.pen.x : Int) - n) = (s.pen.x : Int) - n := wrapI _ (by omega) (by omega)
   have hopq : Hid (s.op attrA 3 n m (bytesOf t) l = s.move ((s.pen.x : Int) - n) (s.pen.y : Int)) := by unfold Hid; simp [Scr.op]
   have o0 : wc.cell? ⟨w.heap.size, 0, none⟩ = some (.int .i64 3) := blk_cell HI.out.2.2.2 0
   have o1 : wc.cell? ⟨w.heap.size, 1, none⟩ = some (.int .i64 n) := blk_cell HI.out.2.2.2 1
   clear px py w1 h1 hn
   go_wp2_with fail
   refine (move_calls HI.out.1 HI.out.2.2.1 ((s.pen.x : Int) - n) (s.pen.y : Int) (by have := HI.out.2.2.1.px; have := HI.out.2.2.1.w1; have := HO.out; omega) (by have := HI.out.2.2.1.py; have := HI.out.2.2.1.h1; have := HO.out; omega)).mono ?_
   rintro e w4 ⟨rfl, ha4, hb4⟩
   have hend := Lib.hid (And.intro ha4 (HI.out.2.1.trans hb4))
   clear ha4 hb4
   go_wp2_with fail
   go_end0
   exact ⟨rfl, ⟨_, by rw [hopq.out]; exact hend.out.1⟩, hend.out.2⟩
theorem doB_calls {w : World} {B g T c : Nat} {bs : List Nat} {s : Scr} (h : AtX w B g T c bs s) (hf : Fine s) (k n m : Int) (t : ByteArray) (L : Option Addr) (lc : Nat) (l : List Int) (hop : (k = 4 ∧ 1 ≤ n ∧ n ≤ 99) ∨ (k = 5 ∧ 1 ≤ n ∧ n ≤ 99) ∨ (k = 6 ∧ 1 ≤ n ∧ n ≤ 99) ∨ (k = 20 ∧ 1 ≤ n ∧ n ≤ 99) ∨ (k = 18 ∧ 1 ≤ n ∧ n ≤ 99)) :
  Calls Tryz.prog 138 #[.pointer (some ⟨g, 0, none⟩), opV k n m t L lc l] w fun e w' => e = .returned (.tuple #[]) ∧ (∃ bs', AtX w' B g T c bs' (s.op attrA k n m (bytesOf t) l)) ∧ Below B w w' := by
 have sz := h.size
 have HP := Lib.hid (show w.heap.size ∉ bs ∧ w.heap.size ≠ g from ⟨h.fresh, Nat.ne_of_gt (blk_lt h.blk)⟩)
 have HO := Lib.hid hop
 clear hop
 go_enter Tryz.func138, Tryz.ntmps138
 go_upto_region 1 with fail
 obtain ⟨W, hW⟩ : ∃ W, W = w.alloc (Obj.cells #[.int .i64 k, .int .i64 n, .int .i64 m, .string t, .slice L l.length lc] 38) := ⟨_, rfl⟩
 rw [← hW]
 have HI := Lib.hid (show AtX W B g T c bs s ∧ Below B w W ∧ Fine s ∧ W.heap[w.heap.size]? = some (Obj.cells #[.int .i64 k, .int .i64 n, .int .i64 m, .string t, .slice L l.length lc] 38 (0, 0)) by rw [hW]; exact ⟨h.below ((Below.refl _ _).alloc (Nat.le_refl _) _), (Below.refl B w).alloc sz _, hf, blk_new w _⟩)
 clear h hf hW sz
 have c3 : W.cell? ⟨g, 3, none⟩ = some (.int .i64 s.pen.x) := HI.out.1.cell 3
 have c4 : W.cell? ⟨g, 4, none⟩ = some (.int .i64 s.pen.y) := HI.out.1.cell 4
 go_wp2_with fail
 go_still (by kernel_rfl)
 change Exit.then _ _ _ _ W.drew
 obtain ⟨W1, hW1⟩ : ∃ W1, W1 = W.drew := ⟨_, rfl⟩
 rw [← hW1]
 have HI1 := Lib.hid (show AtX W1 B g T c bs s ∧ Below B w W1 ∧ Fine s ∧ W1.heap[w.heap.size]? = some (Obj.cells #[.int .i64 k, .int .i64 n, .int .i64 m, .string t, .slice L l.length lc] 38 (0, 0)) by rw [hW1]; exact ⟨HI.out.1.drew, HI.out.2.1.drew, HI.out.2.2.1, HI.out.2.2.2⟩)
 clear hW1 c3 c4 HI
 have c4 : W1.cell? ⟨g, 4, none⟩ = some (.int .i64 s.pen.y) := HI1.out.1.cell 4
 have c9 : W1.cell? ⟨g, 9, none⟩ = some (.int .i64 s.top) := HI1.out.1.cell 9
 have c10 : W1.cell? ⟨g, 10, none⟩ = some (.int .i64 s.bot) := HI1.out.1.cell 10
 go_wp2_with fail
 go_cut [6] (fun v6 wc => v6 = .bool (decide (s.top ≤ s.pen.y ∧ s.pen.y ≤ s.bot)) ∧ Hid (AtX wc B g T c bs s ∧ Below B w wc ∧ Fine s ∧ wc.heap[w.heap.size]? = some (Obj.cells #[.int .i64 k, .int .i64 n, .int .i64 m, .string t, .slice L l.length lc] 38 (0, 0))))
 case first =>
  rcases (show (s.top ≤ s.pen.y ∧ s.pen.y ≤ s.bot) ∨ (s.top ≤ s.pen.y ∧ ¬ s.pen.y ≤ s.bot) ∨ ¬ s.top ≤ s.pen.y by omega) with ⟨q1, q2⟩ | ⟨q1, q2⟩ | q1
  all_goals
   go_quiet (fail)
   go_wp2_with fail
   go_meet
   case rel => exact ⟨by first | rw [decide_eq_true (show s.top ≤ s.pen.y ∧ s.pen.y ≤ s.bot from ⟨q1, q2⟩)] | rw [decide_eq_false (show ¬ (s.top ≤ s.pen.y ∧ s.pen.y ≤ s.bot) by omega)], HI1.out.1.keep (fun _ _ _ => rfl), pw_below_drewN HI1.out.2.1 nq, HI1.out.2.2.1, HI1.out.2.2.2⟩
 case rest =>
  obtain ⟨rfl, HI⟩ := hcut
  have px := HI.out.2.2.1.px
  have py := HI.out.2.2.1.py
  have w1 := HI.out.2.2.1.w1
  have h1 := HI.out.2.2.1.h1
  clear HI1 c4 c9 c10
  have hop := HO.out
  rcases hop with ⟨hk, hn⟩ | ⟨hk, hn⟩ | ⟨hk, hn⟩ | ⟨hk, hn⟩ | ⟨hk, hn⟩
  ·subst hk
   have e1 : IntKind.i64.wrap ((s.pen.y : Int) + n) = (s.pen.y : Int) + n := wrapI _ (by omega) (by omega)
   have hopq : Hid (s.op attrA 4 n m (bytesOf t) l = s.move 0 ((s.pen.y : Int) + n)) := by unfold Hid; simp [Scr.op]
   have o0 : wc.cell? ⟨w.heap.size, 0, none⟩ = some (.int .i64 4) := blk_cell HI.out.2.2.2 0
   have o1 : wc.cell? ⟨w.heap.size, 1, none⟩ = some (.int .i64 n) := blk_cell HI.out.2.2.2 1
   clear px py w1 h1 hn
   go_wp2_with fail
   refine (move_calls HI.out.1 HI.out.2.2.1 0 ((s.pen.y : Int) + n) (by have := HI.out.2.2.1.px; have := HI.out.2.2.1.w1; have := HO.out; omega) (by have := HI.out.2.2.1.py; have := HI.out.2.2.1.h1; have := HO.out; omega)).mono ?_
   rintro e w4 ⟨rfl, ha4, hb4⟩
   have hend := Lib.hid (And.intro ha4 (HI.out.2.1.trans hb4))
   clear ha4 hb4
   go_wp2_with fail
   go_end0
   exact ⟨rfl, ⟨_, by rw [hopq.out]; exact hend.out.1⟩, hend.out.2⟩
  ·subst hk
   have e1 : IntKind.i64.wrap ((s.pen.y : Int) - n) = (s.pen.y : Int) - n := wrapI _ (by omega) (by omega)
   have hopq : Hid (s.op attrA 5 n m (bytesOf t) l = s.move 0 ((s.pen.y : Int) - n)) := by unfold Hid; simp [Scr.op]
   have o0 : wc.cell? ⟨w.heap.size, 0, none⟩ = some (.int .i64 5) := blk_cell HI.out.2.2.2 0
   have o1 : wc.cell? ⟨w.heap.size, 1, none⟩ = some (.int .i64 n) := blk_cell HI.out.2.2.2 1
   clear px py w1 h1 hn
   go_wp2_with fail
   refine (move_calls HI.out.1 HI.out.2.2.1 0 ((s.pen.y : Int) - n) (by have := HI.out.2.2.1.px; have := HI.out.2.2.1.w1; have := HO.out; omega) (by have := HI.out.2.2.1.py; have := HI.out.2.2.1.h1; have := HO.out; omega)).mono ?_
   rintro e w4 ⟨rfl, ha4, hb4⟩
   have hend := Lib.hid (And.intro ha4 (HI.out.2.1.trans hb4))
   clear ha4 hb4
   go_wp2_with fail
   go_end0
   exact ⟨rfl, ⟨_, by rw [hopq.out]; exact hend.out.1⟩, hend.out.2⟩
  ·subst hk
   have e1 : IntKind.i64.wrap (n - 1) = n - 1 := wrapI _ (by omega) (by omega)
   have hopq : Hid (s.op attrA 6 n m (bytesOf t) l = s.move (n - 1) (s.pen.y : Int)) := by unfold Hid; simp [Scr.op]
   have o0 : wc.cell? ⟨w.heap.size, 0, none⟩ = some (.int .i64 6) := blk_cell HI.out.2.2.2 0
   have o1 : wc.cell? ⟨w.heap.size, 1, none⟩ = some (.int .i64 n) := blk_cell HI.out.2.2.2 1
   clear px py w1 h1 hn
   go_wp2_with fail
   refine (move_calls HI.out.1 HI.out.2.2.1 (n - 1) (s.pen.y : Int) (by have := HI.out.2.2.1.px; have := HI.out.2.2.1.w1; have := HO.out; omega) (by have := HI.out.2.2.1.py; have := HI.out.2.2.1.h1; have := HO.out; omega)).mono ?_
   rintro e w4 ⟨rfl, ha4, hb4⟩
   have hend := Lib.hid (And.intro ha4 (HI.out.2.1.trans hb4))
   clear ha4 hb4
   go_wp2_with fail
   go_end0
   exact ⟨rfl, ⟨_, by rw [hopq.out]; exact hend.out.1⟩, hend.out.2⟩
  ·subst hk
   have e1 : IntKind.i64.wrap (n - 1) = n - 1 := wrapI _ (by omega) (by omega)
   have hopq : Hid (s.op attrA 20 n m (bytesOf t) l = s.move (n - 1) (s.pen.y : Int)) := by unfold Hid; simp [Scr.op]
   have o0 : wc.cell? ⟨w.heap.size, 0, none⟩ = some (.int .i64 20) := blk_cell HI.out.2.2.2 0
   have o1 : wc.cell? ⟨w.heap.size, 1, none⟩ = some (.int .i64 n) := blk_cell HI.out.2.2.2 1
   clear px py w1 h1 hn
   go_wp2_with fail
   refine (move_calls HI.out.1 HI.out.2.2.1 (n - 1) (s.pen.y : Int) (by have := HI.out.2.2.1.px; have := HI.out.2.2.1.w1; have := HO.out; omega) (by have := HI.out.2.2.1.py; have := HI.out.2.2.1.h1; have := HO.out; omega)).mono ?_
   rintro e w4 ⟨rfl, ha4, hb4⟩
   have hend := Lib.hid (And.intro ha4 (HI.out.2.1.trans hb4))
   clear ha4 hb4
   go_wp2_with fail
   go_end0
   exact ⟨rfl, ⟨_, by rw [hopq.out]; exact hend.out.1⟩, hend.out.2⟩
  ·subst hk
   have e1 : IntKind.i64.wrap (n - 1) = n - 1 := wrapI _ (by omega) (by omega)
   have hopq : Hid (s.op attrA 18 n m (bytesOf t) l = s.move (s.pen.x : Int) (n - 1)) := by unfold Hid; simp [Scr.op]
   have o0 : wc.cell? ⟨w.heap.size, 0, none⟩ = some (.int .i64 18) := blk_cell HI.out.2.2.2 0
   have o1 : wc.cell? ⟨w.heap.size, 1, none⟩ = some (.int .i64 n) := blk_cell HI.out.2.2.2 1
   clear px py w1 h1 hn
   go_wp2_with fail
   refine (move_calls HI.out.1 HI.out.2.2.1 (s.pen.x : Int) (n - 1) (by have := HI.out.2.2.1.px; have := HI.out.2.2.1.w1; have := HO.out; omega) (by have := HI.out.2.2.1.py; have := HI.out.2.2.1.h1; have := HO.out; omega)).mono ?_
   rintro e w4 ⟨rfl, ha4, hb4⟩
   have hend := Lib.hid (And.intro ha4 (HI.out.2.1.trans hb4))
   clear ha4 hb4
   go_wp2_with fail
   go_end0
   exact ⟨rfl, ⟨_, by rw [hopq.out]; exact hend.out.1⟩, hend.out.2⟩
theorem doC_calls {w : World} {B g T c : Nat} {bs : List Nat} {s : Scr} (h : AtX w B g T c bs s) (hf : Fine s) (k n m : Int) (t : ByteArray) (L : Option Addr) (lc : Nat) (l : List Int) (hop : (k = 40 ∧ 1 ≤ n ∧ n ≤ 99 ∧ 1 ≤ m ∧ m ≤ 99) ∨ (k = 41 ∧ 1 ≤ n ∧ n ≤ 99 ∧ 1 ≤ m ∧ m ≤ 99)) :
  Calls Tryz.prog 138 #[.pointer (some ⟨g, 0, none⟩), opV k n m t L lc l] w fun e w' => e = .returned (.tuple #[]) ∧ (∃ bs', AtX w' B g T c bs' (s.op attrA k n m (bytesOf t) l)) ∧ Below B w w' := by
 have sz := h.size
 have HP := Lib.hid (show w.heap.size ∉ bs ∧ w.heap.size ≠ g from ⟨h.fresh, Nat.ne_of_gt (blk_lt h.blk)⟩)
 have HO := Lib.hid hop
 clear hop
 go_enter Tryz.func138, Tryz.ntmps138
 go_upto_region 1 with fail
 obtain ⟨W, hW⟩ : ∃ W, W = w.alloc (Obj.cells #[.int .i64 k, .int .i64 n, .int .i64 m, .string t, .slice L l.length lc] 38) := ⟨_, rfl⟩
 rw [← hW]
 have HI := Lib.hid (show AtX W B g T c bs s ∧ Below B w W ∧ Fine s ∧ W.heap[w.heap.size]? = some (Obj.cells #[.int .i64 k, .int .i64 n, .int .i64 m, .string t, .slice L l.length lc] 38 (0, 0)) by rw [hW]; exact ⟨h.below ((Below.refl _ _).alloc (Nat.le_refl _) _), (Below.refl B w).alloc sz _, hf, blk_new w _⟩)
 clear h hf hW sz
 have c3 : W.cell? ⟨g, 3, none⟩ = some (.int .i64 s.pen.x) := HI.out.1.cell 3
 have c4 : W.cell? ⟨g, 4, none⟩ = some (.int .i64 s.pen.y) := HI.out.1.cell 4
 go_wp2_with fail
 go_still (by kernel_rfl)
 change Exit.then _ _ _ _ W.drew
 obtain ⟨W1, hW1⟩ : ∃ W1, W1 = W.drew := ⟨_, rfl⟩
 rw [← hW1]
 have HI1 := Lib.hid (show AtX W1 B g T c bs s ∧ Below B w W1 ∧ Fine s ∧ W1.heap[w.heap.size]? = some (Obj.cells #[.int .i64 k, .int .i64 n, .int .i64 m, .string t, .slice L l.length lc] 38 (0, 0)) by rw [hW1]; exact ⟨HI.out.1.drew, HI.out.2.1.drew, HI.out.2.2.1, HI.out.2.2.2⟩)
 clear hW1 c3 c4 HI
 have c4 : W1.cell? ⟨g, 4, none⟩ = some (.int .i64 s.pen.y) := HI1.out.1.cell 4
 have c9 : W1.cell? ⟨g, 9, none⟩ = some (.int .i64 s.top) := HI1.out.1.cell 9
 have c10 : W1.cell? ⟨g, 10, none⟩ = some (.int .i64 s.bot) := HI1.out.1.cell 10
 go_wp2_with fail
 go_cut [6] (fun v6 wc => v6 = .bool (decide (s.top ≤ s.pen.y ∧ s.pen.y ≤ s.bot)) ∧ Hid (AtX wc B g T c bs s ∧ Below B w wc ∧ Fine s ∧ wc.heap[w.heap.size]? = some (Obj.cells #[.int .i64 k, .int .i64 n, .int .i64 m, .string t, .slice L l.length lc] 38 (0, 0))))
 case first =>
  rcases (show (s.top ≤ s.pen.y ∧ s.pen.y ≤ s.bot) ∨ (s.top ≤ s.pen.y ∧ ¬ s.pen.y ≤ s.bot) ∨ ¬ s.top ≤ s.pen.y by omega) with ⟨q1, q2⟩ | ⟨q1, q2⟩ | q1
  all_goals
   go_quiet (fail)
   go_wp2_with fail
   go_meet
   case rel => exact ⟨by first | rw [decide_eq_true (show s.top ≤ s.pen.y ∧ s.pen.y ≤ s.bot from ⟨q1, q2⟩)] | rw [decide_eq_false (show ¬ (s.top ≤ s.pen.y ∧ s.pen.y ≤ s.bot) by omega)], HI1.out.1.keep (fun _ _ _ => rfl), pw_below_drewN HI1.out.2.1 nq, HI1.out.2.2.1, HI1.out.2.2.2⟩
 case rest =>
  obtain ⟨rfl, HI⟩ := hcut
  have px := HI.out.2.2.1.px
  have py := HI.out.2.2.1.py
  have w1 := HI.out.2.2.1.w1
  have h1 := HI.out.2.2.1.h1
  clear HI1 c4 c9 c10
  have hop := HO.out
  rcases hop with ⟨hk, hn⟩ | ⟨hk, hn⟩
  ·subst hk
   have e1 : IntKind.i64.wrap (n - 1) = n - 1 := wrapI _ (by omega) (by omega)
   have e2 : IntKind.i64.wrap (m - 1) = m - 1 := wrapI _ (by omega) (by omega)
   have hopq : Hid (s.op attrA 40 n m (bytesOf t) l = s.move (n - 1) (m - 1)) := by unfold Hid; simp [Scr.op]
   have o0 : wc.cell? ⟨w.heap.size, 0, none⟩ = some (.int .i64 40) := blk_cell HI.out.2.2.2 0
   have o1 : wc.cell? ⟨w.heap.size, 1, none⟩ = some (.int .i64 n) := blk_cell HI.out.2.2.2 1
   have o2 : wc.cell? ⟨w.heap.size, 2, none⟩ = some (.int .i64 m) := blk_cell HI.out.2.2.2 2
   clear px py w1 h1 hn
   go_wp2_with fail
   refine (move_calls HI.out.1 HI.out.2.2.1 (n - 1) (m - 1) (by have := HI.out.2.2.1.px; have := HI.out.2.2.1.w1; have := HO.out; omega) (by have := HI.out.2.2.1.py; have := HI.out.2.2.1.h1; have := HO.out; omega)).mono ?_
   rintro e w4 ⟨rfl, ha4, hb4⟩
   have hend := Lib.hid (And.intro ha4 (HI.out.2.1.trans hb4))
   clear ha4 hb4
   go_wp2_with fail
   go_end0
   exact ⟨rfl, ⟨_, by rw [hopq.out]; exact hend.out.1⟩, hend.out.2⟩
  ·subst hk
   have e1 : IntKind.i64.wrap (n - 1) = n - 1 := wrapI _ (by omega) (by omega)
   have e2 : IntKind.i64.wrap (m - 1) = m - 1 := wrapI _ (by omega) (by omega)
   have hopq : Hid (s.op attrA 41 n m (bytesOf t) l = s.move (n - 1) (m - 1)) := by unfold Hid; simp [Scr.op]
   have o0 : wc.cell? ⟨w.heap.size, 0, none⟩ = some (.int .i64 41) := blk_cell HI.out.2.2.2 0
   have o1 : wc.cell? ⟨w.heap.size, 1, none⟩ = some (.int .i64 n) := blk_cell HI.out.2.2.2 1
   have o2 : wc.cell? ⟨w.heap.size, 2, none⟩ = some (.int .i64 m) := blk_cell HI.out.2.2.2 2
   clear px py w1 h1 hn
   go_wp2_with fail
   refine (move_calls HI.out.1 HI.out.2.2.1 (n - 1) (m - 1) (by have := HI.out.2.2.1.px; have := HI.out.2.2.1.w1; have := HO.out; omega) (by have := HI.out.2.2.1.py; have := HI.out.2.2.1.h1; have := HO.out; omega)).mono ?_
   rintro e w4 ⟨rfl, ha4, hb4⟩
   have hend := Lib.hid (And.intro ha4 (HI.out.2.1.trans hb4))
   clear ha4 hb4
   go_wp2_with fail
   go_end0
   exact ⟨rfl, ⟨_, by rw [hopq.out]; exact hend.out.1⟩, hend.out.2⟩
theorem doD_calls {w : World} {B g T c : Nat} {bs : List Nat} {s : Scr} (h : AtX w B g T c bs s) (hf : Fine s) (k n m : Int) (t : ByteArray) (L : Option Addr) (lc : Nat) (l : List Int) (hop : (k = 9 ∧ 1 ≤ n ∧ n ≤ 99) ∨ (k = 10 ∧ 0 ≤ n ∧ n ≤ 2)) :
  Calls Tryz.prog 138 #[.pointer (some ⟨g, 0, none⟩), opV k n m t L lc l] w fun e w' => e = .returned (.tuple #[]) ∧ (∃ bs', AtX w' B g T c bs' (s.op attrA k n m (bytesOf t) l)) ∧ Below B w w' := by
 have sz := h.size
 have HP := Lib.hid (show w.heap.size ∉ bs ∧ w.heap.size ≠ g from ⟨h.fresh, Nat.ne_of_gt (blk_lt h.blk)⟩)
 have HO := Lib.hid hop
 clear hop
 go_enter Tryz.func138, Tryz.ntmps138
 go_upto_region 1 with fail
 obtain ⟨W, hW⟩ : ∃ W, W = w.alloc (Obj.cells #[.int .i64 k, .int .i64 n, .int .i64 m, .string t, .slice L l.length lc] 38) := ⟨_, rfl⟩
 rw [← hW]
 have HI := Lib.hid (show AtX W B g T c bs s ∧ Below B w W ∧ Fine s ∧ W.heap[w.heap.size]? = some (Obj.cells #[.int .i64 k, .int .i64 n, .int .i64 m, .string t, .slice L l.length lc] 38 (0, 0)) by rw [hW]; exact ⟨h.below ((Below.refl _ _).alloc (Nat.le_refl _) _), (Below.refl B w).alloc sz _, hf, blk_new w _⟩)
 clear h hf hW sz
 have c3 : W.cell? ⟨g, 3, none⟩ = some (.int .i64 s.pen.x) := HI.out.1.cell 3
 have c4 : W.cell? ⟨g, 4, none⟩ = some (.int .i64 s.pen.y) := HI.out.1.cell 4
 go_wp2_with fail
 go_still (by kernel_rfl)
 change Exit.then _ _ _ _ W.drew
 obtain ⟨W1, hW1⟩ : ∃ W1, W1 = W.drew := ⟨_, rfl⟩
 rw [← hW1]
 have HI1 := Lib.hid (show AtX W1 B g T c bs s ∧ Below B w W1 ∧ Fine s ∧ W1.heap[w.heap.size]? = some (Obj.cells #[.int .i64 k, .int .i64 n, .int .i64 m, .string t, .slice L l.length lc] 38 (0, 0)) by rw [hW1]; exact ⟨HI.out.1.drew, HI.out.2.1.drew, HI.out.2.2.1, HI.out.2.2.2⟩)
 clear hW1 c3 c4 HI
 have c4 : W1.cell? ⟨g, 4, none⟩ = some (.int .i64 s.pen.y) := HI1.out.1.cell 4
 have c9 : W1.cell? ⟨g, 9, none⟩ = some (.int .i64 s.top) := HI1.out.1.cell 9
 have c10 : W1.cell? ⟨g, 10, none⟩ = some (.int .i64 s.bot) := HI1.out.1.cell 10
 go_wp2_with fail
 go_cut [6] (fun v6 wc => v6 = .bool (decide (s.top ≤ s.pen.y ∧ s.pen.y ≤ s.bot)) ∧ Hid (AtX wc B g T c bs s ∧ Below B w wc ∧ Fine s ∧ wc.heap[w.heap.size]? = some (Obj.cells #[.int .i64 k, .int .i64 n, .int .i64 m, .string t, .slice L l.length lc] 38 (0, 0))))
 case first =>
  rcases (show (s.top ≤ s.pen.y ∧ s.pen.y ≤ s.bot) ∨ (s.top ≤ s.pen.y ∧ ¬ s.pen.y ≤ s.bot) ∨ ¬ s.top ≤ s.pen.y by omega) with ⟨q1, q2⟩ | ⟨q1, q2⟩ | q1
  all_goals
   go_quiet (fail)
   go_wp2_with fail
   go_meet
   case rel => exact ⟨by first | rw [decide_eq_true (show s.top ≤ s.pen.y ∧ s.pen.y ≤ s.bot from ⟨q1, q2⟩)] | rw [decide_eq_false (show ¬ (s.top ≤ s.pen.y ∧ s.pen.y ≤ s.bot) by omega)], HI1.out.1.keep (fun _ _ _ => rfl), pw_below_drewN HI1.out.2.1 nq, HI1.out.2.2.1, HI1.out.2.2.2⟩
 case rest =>
  obtain ⟨rfl, HI⟩ := hcut
  have px := HI.out.2.2.1.px
  have py := HI.out.2.2.1.py
  have w1 := HI.out.2.2.1.w1
  have h1 := HI.out.2.2.1.h1
  clear HI1 c4 c9 c10
  have hop := HO.out
  rcases hop with ⟨hk, hn⟩ | ⟨hk, hn⟩
  ·subst hk
   obtain ⟨q, rfl⟩ : ∃ q : Nat, n = (q : Int) := ⟨n.toNat, by omega⟩
   have e1 : IntKind.i64.wrap ((s.pen.x : Int) + (q : Int)) = (s.pen.x : Int) + (q : Int) := wrapI _ (by omega) (by omega)
   have hopq : Hid (s.op attrA 9 (q : Int) m (bytesOf t) l = s.wipe s.pen.y s.pen.x (s.pen.x + q)) := by unfold Hid; simp [Scr.op]
   have c3 : wc.cell? ⟨g, 3, none⟩ = some (.int .i64 s.pen.x) := HI.out.1.cell 3
   have c4 : wc.cell? ⟨g, 4, none⟩ = some (.int .i64 s.pen.y) := HI.out.1.cell 4
   have o0 : wc.cell? ⟨w.heap.size, 0, none⟩ = some (.int .i64 9) := blk_cell HI.out.2.2.2 0
   have o1 : wc.cell? ⟨w.heap.size, 1, none⟩ = some (.int .i64 (q : Int)) := blk_cell HI.out.2.2.2 1
   have hc := wipe_calls (w := wc.drew) HI.out.1.drew HI.out.2.2.1 s.pen.y s.pen.x (s.pen.x + q) py (by omega) (by omega)
   push_cast at hc
   have HC := Lib.hid hc
   clear hc
   clear px py w1 h1 hn
   go_wp2_with fail
   go_still_tail 19, (by kernel_rfl)
   change wpList _ _ _ _ _ wc.drew
   go_wp2_with fail
   refine HC.out.mono ?_
   rintro e w4 ⟨rfl, ha4, hb4, _⟩
   have hend := Lib.hid (And.intro ha4 (HI.out.2.1.trans ((Below.refl B wc).drew.trans hb4)))
   clear ha4 hb4
   go_wp2_with fail
   go_end0
   exact ⟨rfl, ⟨_, by rw [hopq.out]; exact hend.out.1⟩, hend.out.2⟩
  ·subst hk
   have hopq : Hid (s.op attrA 10 n m (bytesOf t) l = s.erase n) := by unfold Hid; simp [Scr.op]
   have o0 : wc.cell? ⟨w.heap.size, 0, none⟩ = some (.int .i64 10) := blk_cell HI.out.2.2.2 0
   have o1 : wc.cell? ⟨w.heap.size, 1, none⟩ = some (.int .i64 n) := blk_cell HI.out.2.2.2 1
   have HC := Lib.hid (erase_calls HI.out.1 HI.out.2.2.1 n (by omega))
   clear px py w1 h1 hn
   go_wp2_with fail
   refine HC.out.mono ?_
   rintro e w4 ⟨rfl, ha4, hb4⟩
   have hend := Lib.hid (And.intro ha4 (HI.out.2.1.trans hb4))
   clear ha4 hb4
   go_wp2_with fail
   go_end0
   exact ⟨rfl, ⟨_, by rw [hopq.out]; exact hend.out.1⟩, hend.out.2⟩
end Go.Proofs.YteebhoehflgfoaaGreatDoor.Y
end
