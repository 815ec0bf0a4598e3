/- Texts of this claim, joined: XScrAt XScrMove XScrWipe XScrCopy XScrRoll. Of each, what the claim uses. -/
import Derived.Test.YteebhoehflgfoaaGreatDoorKay
import Derived.Lib.Hide
import Derived.Deep.RegionHeld3
import Derived.StillTailTactics
import Derived.Deep.LoopGhost
import Derived.Laws.MakeOwn
import Derived.Laws.CopyOwn
section
namespace Go.Proofs.YteebhoehflgfoaaGreatDoor.Y
open Go.RowKit Go.Proofs.YteebhoehflgfoaaGreatDoorW.PrintWords Go.Proofs.YteebhoehflgfoaaGreatDoorW.PrintLast Go.Proofs.YteebhoehflgfoaaGreatDoorW.PrintMore
set_option linter.unusedSimpArgs false
set_option linter.unusedVariables false
def scells (s : Scr) (T c : Nat) : Array Value := #[.int .i64 s.w, .int .i64 s.h, .slice (some ⟨T, 0, none⟩) s.h c, .int .i64 s.pen.x, .int .i64 s.pen.y, .int .i64 s.pen.a, .int .i64 s.sav.x, .int .i64 s.sav.y, .int .i64 s.sav.a, .int .i64 s.top, .int .i64 s.bot, .int .u8 s.last]
def gcells : List Gl → List Value
 | [] => []
 | g :: r => .int .u8 g.1 :: .int .i64 g.2 :: gcells r
def rowV (n b : Nat) : Value := .slice (some ⟨b, 0, none⟩) n n
structure AtX (w : World) (B g T c : Nat) (bs : List Nat) (s : Scr) : Prop where
 blk : w.heap[g]? = some (Obj.cells (scells s T c) 86 (0, 0))
 tab : ∃ rest : List Value, w.heap[T]? = some (Obj.cells (bs.map (rowV s.w) ++ rest).toArray 87 (0, 0))
 rl : bs.length = s.rows.length
 row : ∀ (i b : Nat) (r : List Gl), bs[i]? = some b → s.rows[i]? = some r → w.heap[b]? = some (Obj.cells (gcells r).toArray 89 (0, 0))
 nd : bs.Nodup
 bg : B ≤ g
 bT : B ≤ T
 bb : ∀ b ∈ bs, B ≤ b
 hc : s.h ≤ c
theorem gcells_len : ∀ r : List Gl, (gcells r).length = 2 * r.length
 | [] => rfl
 | g :: r => by
  simp only [gcells, List.length_cons, gcells_len r]
  omega
theorem gcells_at : ∀ (r : List Gl) (i : Nat) (g : Gl), r[i]? = some g → (gcells r)[i * 2]? = some (.int .u8 g.1) ∧ (gcells r)[i * 2 + 1]? = some (.int .i64 g.2)
 | [], i, g, h => by simp at h
 | x :: r, 0, g, h => by
  simp only [List.getElem?_cons_zero, Option.some.injEq] at h
  subst h
  exact ⟨rfl, rfl⟩
 | x :: r, i + 1, g, h => by
  simp only [List.getElem?_cons_succ] at h
  obtain ⟨h1, h2⟩ := gcells_at r i g h
  rw [show (i + 1) * 2 = i * 2 + 1 + 1 by omega]
  exact ⟨h1, h2⟩
theorem gcells_set : ∀ (r : List Gl) (i : Nat) (c a : Int), ((gcells r).set (i * 2) (.int .u8 c)).set (i * 2 + 1) (.int .i64 a) = gcells (r.set i (c, a))
 | [], i, c, a => by simp [gcells]
 | x :: r, 0, c, a => rfl
 | x :: r, i + 1, c, a => by
  rw [show (i + 1) * 2 = i * 2 + 1 + 1 by omega]
  simp only [gcells, List.set_cons_succ]
  rw [gcells_set r i c a]
theorem gcells_append : ∀ a b : List Gl, gcells (a ++ b) = gcells a ++ gcells b
 | [], _ => rfl
 | x :: a, b => by simp [gcells, gcells_append a b]
theorem gcells_take : ∀ (r : List Gl) (n : Nat), gcells (r.take n) = (gcells r).take (n * 2)
 | _, 0 => by simp [gcells]
 | [], n + 1 => by simp [gcells]
 | x :: r, n + 1 => by
  rw [show (n + 1) * 2 = n * 2 + 1 + 1 by omega]
  simp only [List.take_succ_cons, gcells]
  rw [gcells_take r n]
theorem gcells_drop : ∀ (r : List Gl) (n : Nat), gcells (r.drop n) = (gcells r).drop (n * 2)
 | _, 0 => by simp
 | [], n + 1 => by simp [gcells]
 | x :: r, n + 1 => by
  rw [show (n + 1) * 2 = n * 2 + 1 + 1 by omega]
  simp only [List.drop_succ_cons, gcells]
  rw [gcells_drop r n]
theorem gcells_one : ∀ (r : List Gl), ∀ v ∈ gcells r, v.oneCell' = true
 | [], v, h => by simp [gcells] at h
 | x :: r, v, h => by
  simp only [gcells, List.mem_cons] at h
  rcases h with rfl | rfl | h
  ·rfl
  ·rfl
  ·exact gcells_one r v h
namespace AtX
variable {w w' : World} {B g T c : Nat} {bs : List Nat} {s : Scr}
theorem cell (h : AtX w B g T c bs s) (i : Nat) : w.cell? ⟨g, i, none⟩ = (scells s T c)[i]? := blk_cell h.blk i
theorem frozen (h : AtX w B g T c bs s) (i : Nat) : w.frozen? ⟨g, i, none⟩ = false := blk_frozen h.blk i
theorem gT (h : AtX w B g T c bs s) : g ≠ T := by
 obtain ⟨rest, ht⟩ := h.tab
 exact blk_ne h.blk ht (by decide)
theorem get (h : AtX w B g T c bs s) {i : Nat} (hi : i < s.rows.length) : ∃ b, bs[i]? = some b ∧ B ≤ b ∧ w.heap[b]? = some (Obj.cells (gcells s.rows[i]).toArray 89 (0, 0)) ∧ w.cell? ⟨T, i, none⟩ = some (rowV s.w b) := by
 have h2 : i < bs.length := by rw [h.rl]; exact hi
 refine ⟨bs[i], List.getElem?_eq_getElem h2, h.bb _ (List.getElem_mem h2), h.row i _ _ (List.getElem?_eq_getElem h2) (List.getElem?_eq_getElem hi), ?_⟩
 obtain ⟨rest, ht⟩ := h.tab
 rw [blk_cell ht i]
 simp [List.getElem?_append_left, h2]
theorem gb (h : AtX w B g T c bs s) {i b : Nat} (hb : bs[i]? = some b) : g ≠ b ∧ T ≠ b := by
 obtain ⟨hi, _⟩ := List.getElem?_eq_some_iff.1 hb
 have hr := h.row i b _ hb (List.getElem?_eq_getElem (by rw [← h.rl]; exact hi))
 obtain ⟨rest, ht⟩ := h.tab
 exact ⟨blk_ne h.blk hr (by decide), blk_ne ht hr (by decide)⟩
theorem glyph (h : AtX w B g T c bs s) {i b x : Nat} {r : List Gl} {gl : Gl} (hb : bs[i]? = some b) (hr : s.rows[i]? = some r) (hg : r[x]? = some gl) :
  w.cell? ⟨b, x * 2, none⟩ = some (.int .u8 gl.1) ∧ w.cell? ⟨b, x * 2 + 1, none⟩ = some (.int .i64 gl.2) ∧ (∀ j, w.frozen? ⟨b, j, none⟩ = false) := by
 have hrow := h.row i b r hb hr
 obtain ⟨h1, h2⟩ := gcells_at r x gl hg
 refine ⟨?_, ?_, fun j => blk_frozen hrow j⟩
 ·rw [blk_cell hrow]
  simpa using h1
 ·rw [blk_cell hrow]
  simpa using h2
/-- Blocks of the screen stay: so does the screen. -/
theorem keep (h : AtX w B g T c bs s) (hk : ∀ k, B ≤ k → k < w.heap.size → w'.heap[k]? = w.heap[k]?) : AtX w' B g T c bs s := by
 obtain ⟨rest, ht⟩ := h.tab
 exact ⟨(hk g h.bg (blk_lt h.blk)).trans h.blk, ⟨rest, (hk T h.bT (blk_lt ht)).trans ht⟩, h.rl, fun i b r hb hr => by
  have := h.row i b r hb hr
  exact (hk b (h.bb b (List.mem_of_getElem? hb)) (blk_lt this)).trans this, h.nd, h.bg, h.bT, h.bb, h.hc⟩
theorem below (h : AtX w B g T c bs s) (hb : Below w.heap.size w w') : AtX w' B g T c bs s := h.keep (fun k _ hk => hb.block k hk)
theorem drew (h : AtX w B g T c bs s) : AtX w.drew B g T c bs s := ⟨h.blk, h.tab, h.rl, h.row, h.nd, h.bg, h.bT, h.bb, h.hc⟩
theorem size (h : AtX w B g T c bs s) : B ≤ w.heap.size := Nat.le_trans h.bg (Nat.le_of_lt (blk_lt h.blk))
/-- A store into the screen's block. -/
theorem setG (h : AtX w B g T c bs s) (i : Nat) (v : Value) {s' : Scr} (e : (scells s T c).setIfInBounds i v = scells s' T c) (hr : s'.rows = s.rows) (hw : s'.w = s.w) (hh : s'.h = s.h) : AtX (w.setCell ⟨g, i, none⟩ v) B g T c bs s' := by
 obtain ⟨rest, ht⟩ := h.tab
 refine ⟨blk_put h.blk i v e, ⟨rest, ?_⟩, by rw [hr]; exact h.rl, fun j b r hb hr2 => ?_, h.nd, h.bg, h.bT, h.bb, by rw [hh]; exact h.hc⟩
 ·rw [hw]
  exact blk_far ht (p := ⟨g, i, none⟩) h.gT.symm v
 ·rw [hr] at hr2
  exact blk_far (h.row j b r hb hr2) (p := ⟨g, i, none⟩) (h.gb hb).1.symm v
/-- A row is another one. -/
theorem reRow (h : AtX w B g T c bs s) {y b : Nat} (hb : bs[y]? = some b) (r' : List Gl) (hn : w'.heap[b]? = some (Obj.cells (gcells r').toArray 89 (0, 0))) (hk : ∀ k, k ≠ b → k < w.heap.size → w'.heap[k]? = w.heap[k]?) :
  AtX w' B g T c bs { s with rows := s.rows.set y r' } := by
 obtain ⟨rest, ht⟩ := h.tab
 have hne := h.gb hb
 refine ⟨(hk g hne.1 (blk_lt h.blk)).trans h.blk, ⟨rest, (hk T hne.2 (blk_lt ht)).trans ht⟩, by rw [List.length_set]; exact h.rl, fun j b2 r hb2 hr => ?_, h.nd, h.bg, h.bT, h.bb, h.hc⟩
 rw [List.getElem?_set] at hr
 by_cases hj : y = j
 ·subst hj
  rw [if_pos rfl] at hr
  obtain rfl : b = b2 := Option.some.inj (hb.symm.trans hb2)
  split at hr
  ·obtain rfl := Option.some.inj hr
   exact hn
  ·cases hr
 ·rw [if_neg hj] at hr
  have hb3 : b2 ≠ b := fun e => by
   subst e
   obtain ⟨l1, e1⟩ := List.getElem?_eq_some_iff.1 hb
   obtain ⟨l2, e2⟩ := List.getElem?_eq_some_iff.1 hb2
   exact hj ((List.getElem_inj h.nd).1 (e1.trans e2.symm))
  have := h.row j b2 r hb2 hr
  exact (hk b2 hb3 (blk_lt this)).trans this
theorem modify_set {α : Type} (l : List α) (i : Nat) (f : α → α) (hi : i < l.length) : l.modify i f = l.set i (f l[i]) := by
 apply List.ext_getElem
 ·simp
 ·intro j h1 h2
  rw [List.getElem_modify, List.getElem_set]
  split
  ·rename_i e
   subst e
   rfl
  ·rfl
/-- A glyph is stored. -/
theorem setGl (h : AtX w B g T c bs s) {y b x : Nat} (hb : bs[y]? = some b) (ch at_ : Int) :
  AtX ((w.setCell ⟨b, x * 2, none⟩ (.int .u8 ch)).setCell ⟨b, x * 2 + 1, none⟩ (.int .i64 at_)) B g T c bs { s with rows := s.rows.modify y (fun r => r.set x (ch, at_)) } := by
 obtain ⟨hy0, _⟩ := List.getElem?_eq_some_iff.1 hb
 have hy : y < s.rows.length := by rw [← h.rl]; exact hy0
 have hr := h.row y b _ hb (List.getElem?_eq_getElem hy)
 rw [modify_set _ _ _ hy]
 refine h.reRow hb _ ?_ (fun k hk hlt => ?_)
 ·have h1 := blk_set hr (x * 2) (.int .u8 ch)
  have h2 := blk_set h1 (x * 2 + 1) (.int .i64 at_)
  rw [h2]
  congr 2
  rw [← gcells_set]
  simp
 ·rw [Below.heap_setCell _ _ _ _ hk, Below.heap_setCell _ _ _ _ hk]
/-- The table is another one. -/
theorem reTab (h : AtX w B g T c bs s) {bs' : List Nat} {rows' : List (List Gl)} {rest : List Value} (ht : w'.heap[T]? = some (Obj.cells (bs'.map (rowV s.w) ++ rest).toArray 87 (0, 0))) (hk : ∀ k, k ≠ T → k < w.heap.size → w'.heap[k]? = w.heap[k]?)
  (hl : bs'.length = rows'.length) (hrow : ∀ (i b : Nat) (r : List Gl), bs'[i]? = some b → rows'[i]? = some r → w'.heap[b]? = some (Obj.cells (gcells r).toArray 89 (0, 0))) (hnd : bs'.Nodup) (hbb : ∀ b ∈ bs', B ≤ b) :
  AtX w' B g T c bs' { s with rows := rows' } :=
 ⟨(hk g h.gT (blk_lt h.blk)).trans h.blk, ⟨rest, ht⟩, hl, hrow, hnd, h.bg, h.bT, hbb, h.hc⟩
theorem fresh (h : AtX w B g T c bs s) : w.heap.size ∉ bs := fun hm => by
 obtain ⟨i, hi, e⟩ := List.mem_iff_getElem.1 hm
 have := blk_lt (h.row i _ _ (List.getElem?_eq_getElem hi) (List.getElem?_eq_getElem (by rw [← h.rl]; exact hi)))
 omega
/-- Rolled up, the table's last row new. -/
theorem rollUp (h : AtX w B g T c bs s) {a : Nat} {rest : List Value} (ha : a ≤ s.bot) (hb : s.bot < s.rows.length) (ht : w'.heap[T]? = some (Obj.cells ((upL bs a s.bot w.heap.size).map (rowV s.w) ++ rest).toArray 87 (0, 0)))
  (hn : w'.heap[w.heap.size]? = some (Obj.cells (gcells (zrow s.w)).toArray 89 (0, 0))) (hk : ∀ k, k ≠ T → k < w.heap.size → w'.heap[k]? = w.heap[k]?) : AtX w' B g T c (upL bs a s.bot w.heap.size) (s.up a) := by
 have hb2 : s.bot < bs.length := by rw [h.rl]; exact hb
 refine h.reTab ht hk (by rw [len_upL _ _ _ _ ha hb2, len_upL _ _ _ _ ha hb]; exact h.rl) (fun i b r hb3 hr => ?_) (nodup_up _ _ _ _ ha h.nd h.fresh) (fun b hm => ?_)
 ·rw [get_up _ _ _ _ ha hb2] at hb3
  rw [get_up _ _ _ _ ha hb] at hr
  have old : ∀ j, bs[j]? = some b → s.rows[j]? = some r → w'.heap[b]? = some (Obj.cells (gcells r).toArray 89 (0, 0)) := fun j h1 h2 => by
   have := h.row j b r h1 h2
   exact (hk b (h.gb h1).2.symm (blk_lt this)).trans this
  by_cases c1 : i < a
  ·rw [if_pos c1] at hb3 hr
   exact old _ hb3 hr
  rw [if_neg c1] at hb3 hr
  by_cases c2 : i < s.bot
  ·rw [if_pos c2] at hb3 hr
   exact old _ hb3 hr
  rw [if_neg c2] at hb3 hr
  by_cases c3 : i = s.bot
  ·rw [if_pos c3] at hb3 hr
   obtain rfl := Option.some.inj hb3
   obtain rfl := Option.some.inj hr
   exact hn
  rw [if_neg c3] at hb3 hr
  exact old _ hb3 hr
 ·rcases mem_upL hm with hm | rfl
  ·exact h.bb b hm
  ·exact h.size
/-- Rolled down, the table's first row new. -/
theorem rollDown (h : AtX w B g T c bs s) {a : Nat} {rest : List Value} (ha : a ≤ s.bot) (hb : s.bot < s.rows.length) (ht : w'.heap[T]? = some (Obj.cells ((downL bs a s.bot w.heap.size).map (rowV s.w) ++ rest).toArray 87 (0, 0)))
  (hn : w'.heap[w.heap.size]? = some (Obj.cells (gcells (zrow s.w)).toArray 89 (0, 0))) (hk : ∀ k, k ≠ T → k < w.heap.size → w'.heap[k]? = w.heap[k]?) : AtX w' B g T c (downL bs a s.bot w.heap.size) (s.down a) := by
 have hb2 : s.bot < bs.length := by rw [h.rl]; exact hb
 refine h.reTab ht hk (by rw [len_downL _ _ _ _ ha hb2, len_downL _ _ _ _ ha hb]; exact h.rl) (fun i b r hb3 hr => ?_) (nodup_down _ _ _ _ ha h.nd h.fresh) (fun b hm => ?_)
 ·rw [get_down _ _ _ _ ha hb2] at hb3
  rw [get_down _ _ _ _ ha hb] at hr
  have old : ∀ j, bs[j]? = some b → s.rows[j]? = some r → w'.heap[b]? = some (Obj.cells (gcells r).toArray 89 (0, 0)) := fun j h1 h2 => by
   have := h.row j b r h1 h2
   exact (hk b (h.gb h1).2.symm (blk_lt this)).trans this
  by_cases c1 : i < a
  ·rw [if_pos c1] at hb3 hr
   exact old _ hb3 hr
  rw [if_neg c1] at hb3 hr
  by_cases c3 : i = a
  ·rw [if_pos c3] at hb3 hr
   obtain rfl := Option.some.inj hb3
   obtain rfl := Option.some.inj hr
   exact hn
  rw [if_neg c3] at hb3 hr
  by_cases c2 : i ≤ s.bot
  ·rw [if_pos c2] at hb3 hr
   exact old _ hb3 hr
  rw [if_neg c2] at hb3 hr
  exact old _ hb3 hr
 ·rcases mem_downL hm with hm | rfl
  ·exact h.bb b hm
  ·exact h.size
end AtX
end Go.Proofs.YteebhoehflgfoaaGreatDoor.Y
end
section
namespace Go.Proofs.YteebhoehflgfoaaGreatDoor.Y
open Go.RowKit Go.Proofs.YteebhoehflgfoaaGreatDoorW.PrintWords Go.Proofs.YteebhoehflgfoaaGreatDoorW.PrintLast Go.Proofs.YteebhoehflgfoaaGreatDoorW.PrintMore
attribute [local go_sem] max2_int min2_int max_two min_two
set_option linter.unusedSimpArgs false
set_option linter.unusedVariables false
set_option maxRecDepth 100000
set_option maxHeartbeats 4000000
theorem clampN_int (v : Int) (n : Nat) (hn : 0 < n) : ((clampN v n : Nat) : Int) = min (max v 0) ((n : Int) - 1) := by unfold clampN; omega
theorem wrapI (n : Int) (h0 : -9223372036854775808 ≤ n) (h1 : n ≤ 9223372036854775807) : IntKind.i64.wrap n = n := by rw [IntKind.wrap_i64]; omega
theorem move_end {w : World} {B g T c : Nat} {bs : List Nat} {s : Scr} (h : AtX w B g T c bs s) (x y v1 v2 : Int) (h1 : v1 = ((clampN x s.w : Nat) : Int)) (h2 : v2 = ((clampN y s.h : Nat) : Int)) :
  AtX ((w.setCell ⟨g, 3, none⟩ (.int .i64 v1)).setCell ⟨g, 4, none⟩ (.int .i64 v2)) B g T c bs (s.move x y) ∧ Below B w ((w.setCell ⟨g, 3, none⟩ (.int .i64 v1)).setCell ⟨g, 4, none⟩ (.int .i64 v2)) := by
 subst h1 h2
 exact ⟨(h.setG 3 _ (s' := { s with pen := { s.pen with x := clampN x s.w } }) rfl rfl rfl rfl).setG 4 _ (s' := s.move x y) rfl rfl rfl rfl, ((Below.refl B w).setCell (p := ⟨g, 3, none⟩) h.bg _).setCell (p := ⟨g, 4, none⟩) h.bg _⟩
/-- move. -/
theorem move_calls {w : World} {B g T c : Nat} {bs : List Nat} {s : Scr} (h : AtX w B g T c bs s) (hf : Fine s) (x y : Int) (hx : -100000 ≤ x ∧ x ≤ 100000) (hy : -100000 ≤ y ∧ y ≤ 100000) :
  Calls Tryz.prog 156 #[.pointer (some ⟨g, 0, none⟩), .int .i64 x, .int .i64 y] w fun e w' => e = .returned (.tuple #[]) ∧ AtX w' B g T c bs (s.move x y) ∧ Below B w w' := by
 have c0 : w.cell? ⟨g, 0, none⟩ = some (.int .i64 s.w) := h.cell 0
 have c1 : w.cell? ⟨g, 1, none⟩ = some (.int .i64 s.h) := h.cell 1
 have c3 : w.cell? ⟨g, 3, none⟩ = some (.int .i64 s.pen.x) := h.cell 3
 have c4 : w.cell? ⟨g, 4, none⟩ = some (.int .i64 s.pen.y) := h.cell 4
 have f3 := h.frozen 3
 have f4 := h.frozen 4
 have b0 := hf.w0
 have b1 := hf.w1
 have b2 := hf.h0
 have b3 := hf.h1
 have e0 : IntKind.i64.wrap ((s.w : Int) - 1) = (s.w : Int) - 1 := wrapI _ (by omega) (by omega)
 have e1 : IntKind.i64.wrap ((s.h : Int) - 1) = (s.h : Int) - 1 := wrapI _ (by omega) (by omega)
 have e2 := clampN_int x s.w b0
 have e3 := clampN_int y s.h b2
 have HI := Lib.hid h
 clear h hf b1 b3 hx hy
 go_enter Tryz.func156, Tryz.ntmps156
 go_wp2_with fail
 all_goals
  go_end0
  exact ⟨rfl, move_end HI.out x y _ _ (by omega) (by omega)⟩
theorem put_end {w w1 : World} {B g T c : Nat} {bs : List Nat} {s : Scr} (h : AtX w1 B g T c bs s) (hB : Below B w w1) (hk : ∀ k, k ≠ g → k ∉ bs → w1.heap[k]? = w.heap[k]?) (n : Nat) (v : Int) (e : v = (n : Int)) : AtX (w1.setCell ⟨g, 3, none⟩ (.int .i64 v)).drew B g T c bs (s.atX n) ∧ Below B w (w1.setCell ⟨g, 3, none⟩ (.int .i64 v)).drew ∧ (∀ k, k ≠ g → k ∉ bs → (w1.setCell ⟨g, 3, none⟩ (.int .i64 v)).drew.heap[k]? = w.heap[k]?) := by
 subst e
 exact ⟨(h.setG 3 _ (s' := s.atX n) rfl rfl rfl rfl).drew, (hB.setCell (p := ⟨g, 3, none⟩) h.bg _).drew, fun k h1 h2 => (Below.heap_setCell w1 ⟨g, 3, none⟩ _ k h1).trans (hk k h1 h2)⟩
/-- put. -/
theorem put_calls {w : World} {B g T c : Nat} {bs : List Nat} {s : Scr} (h : AtX w B g T c bs s) (hf : Fine s) (ch : Int) :
  Calls Tryz.prog 161 #[.pointer (some ⟨g, 0, none⟩), .int .u8 ch] w fun e w' => e = .returned (.tuple #[]) ∧ AtX w' B g T c bs (s.put ch) ∧ Below B w w' ∧ (∀ k, k ≠ g → k ∉ bs → w'.heap[k]? = w.heap[k]?) := by
 obtain ⟨b, hb, hB, hrow, hT⟩ := h.get (i := s.pen.y) (by rw [hf.rl]; exact hf.py)
 have hrl : s.rows[s.pen.y]? = some (s.rows[s.pen.y]'(by rw [hf.rl]; exact hf.py)) := List.getElem?_eq_getElem _
 have hlen := hf.rw _ (List.getElem_mem (show s.pen.y < s.rows.length by rw [hf.rl]; exact hf.py))
 generalize s.rows[s.pen.y]'(by rw [hf.rl]; exact hf.py) = r at hrow hrl hlen
 have hx : s.pen.x < r.length := by rw [hlen]; exact hf.px
 obtain ⟨g0, g1, fb⟩ := h.glyph hb hrl (List.getElem?_eq_getElem hx)
 generalize r[s.pen.x] = gl at g0 g1
 have c0 : w.cell? ⟨g, 0, none⟩ = some (.int .i64 s.w) := h.cell 0
 have c2 : w.cell? ⟨g, 2, none⟩ = some (.slice (some ⟨T, 0, none⟩) s.h c) := h.cell 2
 have c3 : w.cell? ⟨g, 3, none⟩ = some (.int .i64 s.pen.x) := h.cell 3
 have c4 : w.cell? ⟨g, 4, none⟩ = some (.int .i64 s.pen.y) := h.cell 4
 have c5 : w.cell? ⟨g, 5, none⟩ = some (.int .i64 s.pen.a) := h.cell 5
 have c11 : w.cell? ⟨g, 11, none⟩ = some (.int .u8 s.last) := h.cell 11
 have f3 := h.frozen 3
 have f11 := h.frozen 11
 have fb0 := fb (s.pen.x * 2)
 have fb1 := fb (s.pen.x * 2 + 1)
 have n1 := (h.gb hb).1
 have n2 := (h.gb hb).2
 have n3 := h.gT
 have d1 : (s.pen.y : Int) < (s.h : Int) := by have := hf.py; omega
 have d2 : (s.pen.x : Int) < (s.w : Int) := by have := hf.px; omega
 have b0 := hf.w0
 have b1 := hf.w1
 have e0 : IntKind.i64.wrap ((s.w : Int) - 1) = (s.w : Int) - 1 := wrapI _ (by omega) (by omega)
 have e1 : IntKind.i64.wrap ((s.pen.x : Int) + 1) = (s.pen.x : Int) + 1 := wrapI _ (by omega) (by omega)
 have HI := Lib.hid (And.intro h hb)
 unfold rowV at hT
 clear h hf b1 hrow hrl hb hx hlen fb
 go_enter Tryz.func161, Tryz.ntmps161
 go_wp2_with fail
 go_still_tail 24, (by kernel_rfl)
 change wpList _ _ _ _ _ w.drew
 go_wp2_with fail
 have h1 : Hid (AtX (((w.setCell ⟨b, s.pen.x * 2, none⟩ (.int .u8 ch)).setCell ⟨b, s.pen.x * 2 + 1, none⟩ (.int .i64 s.pen.a)).setCell ⟨g, 11, none⟩ (.int .u8 ch)).drew B g T c bs { s with rows := s.rows.modify s.pen.y (fun r => r.set s.pen.x (ch, s.pen.a)), last := ch } ∧
   Below B w (((w.setCell ⟨b, s.pen.x * 2, none⟩ (.int .u8 ch)).setCell ⟨b, s.pen.x * 2 + 1, none⟩ (.int .i64 s.pen.a)).setCell ⟨g, 11, none⟩ (.int .u8 ch)).drew ∧
   (∀ k, k ≠ g → k ∉ bs → (((w.setCell ⟨b, s.pen.x * 2, none⟩ (.int .u8 ch)).setCell ⟨b, s.pen.x * 2 + 1, none⟩ (.int .i64 s.pen.a)).setCell ⟨g, 11, none⟩ (.int .u8 ch)).drew.heap[k]? = w.heap[k]?)) :=
  ⟨((HI.out.1.setGl (x := s.pen.x) HI.out.2 ch s.pen.a).setG 11 (.int .u8 ch) (s' := { s with rows := s.rows.modify s.pen.y (fun r => r.set s.pen.x (ch, s.pen.a)), last := ch }) rfl rfl rfl rfl).drew, ((((Below.refl B w).setCell (p := ⟨b, s.pen.x * 2, none⟩) hB _).setCell (p := ⟨b, s.pen.x * 2 + 1, none⟩) hB _).setCell (p := ⟨g, 11, none⟩) HI.out.1.bg _).drew, fun k h1 h2 => by
   have h3 : k ≠ b := fun e => h2 (by rw [e]; exact List.mem_of_getElem? HI.out.2)
   exact (Below.heap_setCell _ ⟨g, 11, none⟩ _ k h1).trans ((Below.heap_setCell _ ⟨b, s.pen.x * 2 + 1, none⟩ _ k h3).trans (Below.heap_setCell _ ⟨b, s.pen.x * 2, none⟩ _ k h3))⟩
 generalize (((w.setCell ⟨b, s.pen.x * 2, none⟩ (.int .u8 ch)).setCell ⟨b, s.pen.x * 2 + 1, none⟩ (.int .i64 s.pen.a)).setCell ⟨g, 11, none⟩ (.int .u8 ch)).drew = w1 at h1 ⊢
 clear hT g0 g1 c0 c2 c3 c4 c5 c11 f3 f11 fb0 fb1
 have c0 : w1.cell? ⟨g, 0, none⟩ = some (.int .i64 s.w) := h1.out.1.cell 0
 have c3 : w1.cell? ⟨g, 3, none⟩ = some (.int .i64 s.pen.x) := h1.out.1.cell 3
 have f3 := h1.out.1.frozen 3
 rcases Int.lt_or_le ((s.w : Int) - 1) ((s.pen.x : Int) + 1) with hc | hc
 all_goals
  go_still_tail 16, (by kernel_rfl)
  change wpList _ _ _ _ _ w1.drew
  go_wp2_with fail
  go_end0
  refine ⟨rfl, put_end h1.out.1 h1.out.2.1 h1.out.2.2 (min (s.pen.x + 1) (s.w - 1)) _ ?_⟩
  omega
theorem wipeRow_at (r : List Gl) (a b j : Nat) : (wipeRow r a b)[j]? = r[j]?.map fun g => if a ≤ j ∧ j < b then (0, 0) else g := by simp [wipeRow]
theorem wipe_none (r : List Gl) (a b : Nat) (h : b ≤ a) : wipeRow r a b = r := by
 apply List.ext_getElem?
 intro j
 rw [wipeRow_at]
 cases r[j]? with
 | none => rfl
 | some g => simp only [Option.map_some]; rw [if_neg (by omega)]
theorem wipe_more (r : List Gl) (a i : Nat) (h : a ≤ i) : (wipeRow r a i).set i (0, 0) = wipeRow r a (i + 1) := by
 apply List.ext_getElem?
 intro j
 rw [List.getElem?_set, wipeRow_at, wipeRow_at, len_wipe]
 by_cases hj : i = j
 ·subst hj
  rw [if_pos rfl]
  by_cases hl : i < r.length
  ·rw [if_pos hl, List.getElem?_eq_getElem hl, Option.map_some, if_pos (by omega)]
  ·rw [if_neg hl, List.getElem?_eq_none (by omega)]
   rfl
 ·rw [if_neg hj]
  cases r[j]? with
  | none => rfl
  | some g =>
   simp only [Option.map_some]
   by_cases hc : a ≤ j ∧ j < i
   ·rw [if_pos hc, if_pos (by omega)]
   ·rw [if_neg hc, if_neg (by omega)]
theorem wipe_far (r : List Gl) (a b b' : Nat) (h : ∀ j, j < r.length → (a ≤ j ∧ j < b ↔ a ≤ j ∧ j < b')) : wipeRow r a b = wipeRow r a b' := by
 apply List.ext_getElem?
 intro j
 rw [wipeRow_at, wipeRow_at]
 by_cases hl : j < r.length
 ·rw [List.getElem?_eq_getElem hl, Option.map_some, Option.map_some]
  have := h j hl
  by_cases hc : a ≤ j ∧ j < b
  ·rw [if_pos hc, if_pos (this.1 hc)]
  ·rw [if_neg hc, if_neg (fun h2 => hc (this.2 h2))]
 ·rw [List.getElem?_eq_none (by omega)]
  rfl
theorem modify_modify_ {α : Type} (l : List α) (i : Nat) (f g : α → α) : (l.modify i f).modify i g = l.modify i (fun x => g (f x)) := by
 apply List.ext_getElem
 ·simp
 ·intro j h1 h2
  simp only [List.getElem_modify]
  split <;> rfl
theorem modify_congr {α : Type} (l : List α) (i : Nat) (f g : α → α) (h : ∀ x ∈ l, f x = g x) : l.modify i f = l.modify i g := by
 apply List.ext_getElem
 ·simp
 ·intro j h1 h2
  simp only [List.getElem_modify]
  have hj : j < l.length := by simpa using h1
  split
  ·exact h _ (List.getElem_mem hj)
  ·rfl
theorem modify_same {α : Type} (l : List α) (i : Nat) (f : α → α) (h : ∀ x ∈ l, f x = x) : l.modify i f = l := by
 apply List.ext_getElem
 ·simp
 ·intro j h1 h2
  simp only [List.getElem_modify]
  split
  ·exact h _ (List.getElem_mem h2)
  ·rfl
theorem swipe_none (s : Scr) (y a b : Nat) (h : b ≤ a) : s.wipe y a b = s := by
 unfold Scr.wipe
 rw [modify_same _ _ _ (fun r _ => wipe_none r a b h)]
theorem swipe_more (s : Scr) (y a i : Nat) (h : a ≤ i) : ({ s.wipe y a i with rows := (s.wipe y a i).rows.modify y (fun r => r.set i (0, 0)) } : Scr) = s.wipe y a (i + 1) := by
 unfold Scr.wipe
 simp only [Scr.mk.injEq, true_and, and_true]
 rw [modify_modify_]
 exact modify_congr _ _ _ _ (fun r _ => wipe_more r a i h)
theorem swipe_far (s : Scr) (hf : Fine s) (y a b b' : Nat) (h : ∀ j, j < s.w → (a ≤ j ∧ j < b ↔ a ≤ j ∧ j < b')) : s.wipe y a b = s.wipe y a b' := by
 unfold Scr.wipe
 rw [modify_congr _ _ _ _ (fun r hr => wipe_far r a b b' (fun j hj => h j (by rw [hf.rw r hr] at hj; exact hj)))]
theorem wipe_calls {w : World} {B g T c : Nat} {bs : List Nat} {s : Scr} (h : AtX w B g T c bs s) (hf : Fine s) (y a b : Nat) (hy : y < s.h) (ha : a ≤ 100000) (hb : b ≤ 100000) :
  Calls Tryz.prog 157 #[.pointer (some ⟨g, 0, none⟩), .int .i64 y, .int .i64 a, .int .i64 b] w fun e w' => e = .returned (.tuple #[]) ∧ AtX w' B g T c bs (s.wipe y a b) ∧ Below B w w' ∧ (∀ k, k ∉ bs → w'.heap[k]? = w.heap[k]?) := by
 obtain ⟨M, hM⟩ : ∃ M, M = min b s.w := ⟨_, rfl⟩
 have HI := Lib.hid (And.intro h (And.intro hf (And.intro hy (And.intro ha hb))))
 have b1 := hf.w1
 have hbw : (s.w : Int) < (b : Int) ∨ (b : Int) ≤ (s.w : Int) := by omega
 have d1 : (y : Int) < (s.h : Int) := by omega
 have d2 : (0 : Int) ≤ (y : Int) := by omega
 clear h hf hy ha hb
 go_enter Tryz.func157, Tryz.ntmps157
 go_wp2_with fail
 go_loopg [8] (M - a) (fun kq v8 w' => ∃ i : Nat, v8 = .int .i64 (i : Int) ∧ a ≤ i ∧ (i ≤ M ∨ i = a) ∧ kq = M - i ∧ Hid (AtX w' B g T c bs (s.wipe y a i) ∧ Below B w w' ∧ (∀ k, k ∉ bs → w'.heap[k]? = w.heap[k]?)))
 case atStart => exact ⟨a, rfl, Nat.le_refl _, Or.inr rfl, rfl, by rw [swipe_none _ _ _ _ (Nat.le_refl _)]; exact ⟨HI.out.1, Below.refl _ _, fun _ _ => rfl⟩⟩
 case round =>
  obtain ⟨i, rfl, hai, him, hk, hA⟩ := hrel
  have c0 : wr.cell? ⟨g, 0, none⟩ = some (.int .i64 s.w) := hA.out.1.cell 0
  have c2 : wr.cell? ⟨g, 2, none⟩ = some (.slice (some ⟨T, 0, none⟩) s.h c) := hA.out.1.cell 2
  have i0 : (0 : Int) ≤ (i : Int) := by omega
  by_cases hi : i < M
  ·have hfw := HI.out.2.1.wipe y a i
   obtain ⟨bb, hbb, hB, hrow, hT⟩ := hA.out.1.get (i := y) (by rw [hfw.rl]; exact HI.out.2.2.1)
   have hrl : (s.wipe y a i).rows[y]? = some ((s.wipe y a i).rows[y]'(by rw [hfw.rl]; exact HI.out.2.2.1)) := List.getElem?_eq_getElem _
   have hlen := hfw.rw _ (List.getElem_mem (show y < (s.wipe y a i).rows.length by rw [hfw.rl]; exact HI.out.2.2.1))
   generalize (s.wipe y a i).rows[y]'(by rw [hfw.rl]; exact HI.out.2.2.1) = r at hrow hrl hlen
   have hiw : i < s.w := by omega
   have hx : i < r.length := by rw [hlen]; exact hiw
   obtain ⟨g0, g1, fb⟩ := hA.out.1.glyph hbb hrl (List.getElem?_eq_getElem hx)
   generalize r[i] = gl at g0 g1
   have fb0 := fb (i * 2)
   have fb1 := fb (i * 2 + 1)
   have n1 := (hA.out.1.gb hbb).1
   have n2 := (hA.out.1.gb hbb).2
   have d3 : (i : Int) < (s.w : Int) := by omega
   have d4 : (i : Int) < (b : Int) := by omega
   have e1 : IntKind.i64.wrap ((i : Int) + 1) = ((i + 1 : Nat) : Int) := by rw [wrapI _ (by omega) (by omega)]; omega
   have hT' : wr.cell? ⟨T, y, none⟩ = some (.slice (some ⟨bb, 0, none⟩) s.w s.w) := hT
   have H2 := Lib.hid (And.intro hbb hB)
   clear hrow hrl hlen hfw hT hbb hB fb
   rcases hbw with hc | hc
   all_goals
    go_wp2_with fail
    go_roundg (M - (i + 1))
    case measure => omega
    case rel =>
     refine ⟨i + 1, rfl, by omega, by omega, rfl, ?_⟩
     rw [← swipe_more s y a i hai]
     exact ⟨hA.out.1.setGl (x := i) H2.out.1 0 0, (hA.out.2.1.setCell (p := ⟨bb, i * 2, none⟩) H2.out.2 _).setCell (p := ⟨bb, i * 2 + 1, none⟩) H2.out.2 _, fun k hk => by
      have h3 : k ≠ bb := fun e => hk (by rw [e]; exact List.mem_of_getElem? H2.out.1)
      exact (Below.heap_setCell _ ⟨bb, i * 2 + 1, none⟩ _ k h3).trans ((Below.heap_setCell _ ⟨bb, i * 2, none⟩ _ k h3).trans (hA.out.2.2 k hk))⟩
  ·have hend : s.wipe y a b = s.wipe y a i := swipe_far s HI.out.2.1 y a b i (fun j hj => by omega)
   rcases hbw with hc | hc
   ·have d5 : decide ((i : Int) < (s.w : Int)) = false := decide_eq_false (by omega)
    go_wp2_with fail
    go_end0
    exact ⟨rfl, by rw [hend]; exact hA.out⟩
   ·have d5 : decide ((i : Int) < (b : Int)) = false := decide_eq_false (by omega)
    go_wp2_with fail
    go_end0
    exact ⟨rfl, by rw [hend]; exact hA.out⟩
end Go.Proofs.YteebhoehflgfoaaGreatDoor.Y
end
section
namespace Go.Proofs.YteebhoehflgfoaaGreatDoor.Y
open Go.RowKit Go.Proofs.YteebhoehflgfoaaGreatDoorW.PrintWords Go.Proofs.YteebhoehflgfoaaGreatDoorW.PrintLast Go.Proofs.YteebhoehflgfoaaGreatDoorW.PrintMore
set_option linter.unusedSimpArgs false
set_option linter.unusedVariables false
theorem splice_cons {α : Type} (L : List α) (o : Nat) (v : α) (r : List α) (h : o + (r.length + 1) ≤ L.length) : splice (L.set o v) (o + 1) r = splice L o (v :: r) := by
 unfold splice
 rw [List.take_succ_eq_append_getElem (by rw [List.length_set]; omega), List.getElem_set_self, List.take_set_of_le (by omega), List.drop_set_of_lt (by omega)]
 simp only [List.append_assoc, List.cons_append, List.nil_append, List.length_cons]
 rw [show o + 1 + r.length = o + (r.length + 1) by omega]
/-- What copying leaves. -/
structure Cop (w w2 : World) (T t : Nat) (L : List Value) : Prop where
 at_ : w2.heap[T]? = some (Obj.cells L.toArray t (0, 0))
 keep : ∀ k, k ≠ T → w2.heap[k]? = w.heap[k]?
 size : w2.heap.size = w.heap.size
 below : ∀ B, B ≤ T → Below B w w2
theorem cop_set {t : Nat} (b : Nat) : ∀ (cs : List Value) (o : Nat) (w : World) (cur : List Value), w.heap[b]? = some (Obj.cells cur.toArray t (0, 0)) → o + cs.length ≤ cur.length → Cop w (w.setCells b o cs) b t (splice cur o cs)
 | [], o, w, cur, h, _ => ⟨by simpa [splice, World.setCells] using h, fun _ _ => rfl, rfl, fun B _ => Below.refl B w⟩
 | v :: r, o, w, cur, h, hl => by
  rw [List.length_cons] at hl
  have h1 := blk_set h o v
  rw [List.setIfInBounds_toArray] at h1
  have ih := cop_set b r (o + 1) (w.setCell ⟨b, o, none⟩ v) (cur.set o v) h1 (by rw [List.length_set]; omega)
  rw [splice_cons cur o v r hl] at ih
  refine ⟨ih.at_, fun k hk => (ih.keep k hk).trans (Below.heap_setCell w ⟨b, o, none⟩ v k hk), ih.size.trans ?_, fun B hB => ((Below.refl B w).setCell (p := ⟨b, o, none⟩) hB v).trans (ih.below B hB)⟩
  simp [World.setCell]
theorem run_copyN {P : Program} (w : World) (dT sT ty elem : TypeId) (sz b o dLen dCap : Nat) (a : Addr) (sLen sCap : Nat) (cs cur : List Value) (t : Nat)
  (hu : P.underlying dT = some (.slice elem)) (hs : (P.info? elem).map (·.size) = some sz) (hn : cs.length = Nat.min sLen dLen * sz)
  (hsrc : ∀ j v, cs[j]? = some v → w.cell? (a.add j) = some v) (hg : w.heap[b]? = some (Obj.cells cur.toArray t (0, 0))) (hfit : o + cs.length ≤ cur.length) (h1 : ∀ v ∈ cs, v.oneCell' = true) :
  (Builtin.copy_ #[dT, sT] ty #[.slice (some ⟨b, o, none⟩) dLen dCap, .slice (some a) sLen sCap]).run P w = .ok (goInt (Nat.min sLen dLen)) (w.setCells b o cs) := by
 have hl := run_loadCells_list (P := P) w a cs hsrc
 have hst := run_storeCells_cells (P := P) b o cs 0 w (fun j hj => by
  rw [Nat.add_zero, blk_cell hg]
  simp only [List.getElem?_toArray, List.getElem?_eq_getElem (show o + j < cur.length by omega)]
  rfl) (fun j hj => blk_frozen hg _) h1
 cases hq : P.info? elem with
 | none => simp [hq] at hs
 | some i =>
  have hi : i.size = sz := by simpa [hq] using hs
  simp [Builtin.copy_, run_underlying hu, Builtin.lenOf, Builtin.firstCells, sizeOf, typeInfo, hq, hi, ← hn, hl, hst]
theorem run_copy0 {P : Program} (w : World) (dT sT ty elem : TypeId) (sz : Nat) (d a : Option Addr) (dLen dCap sLen sCap : Nat) (hu : P.underlying dT = some (.slice elem)) (hs : (P.info? elem).map (·.size) = some sz) (hn : Nat.min sLen dLen = 0) :
  (Builtin.copy_ #[dT, sT] ty #[.slice d dLen dCap, .slice a sLen sCap]).run P w = .ok (goInt 0) w := by
 cases hq : P.info? elem with
 | none => simp [hq] at hs
 | some i =>
  have hl : ∀ (x : Addr), (loadCells x 0).run P w = .ok #[] w := fun x => by simpa using run_loadCells_list (P := P) w x [] (by simp)
  cases d <;> cases a <;> simp [Builtin.copy_, run_underlying hu, Builtin.lenOf, Builtin.firstCells, sizeOf, typeInfo, hq, hn, storeCells, hl]
/-- copy, as a law for the walk. -/
theorem wpList_copyN {P : Program} {w : World} {ops : Array Oper} {rest : List Oper} {o : Oper} {a : Act} {Q : Exit → Act → World → Prop} (hgd : o.guard = none) (d s : Operand) (dT sT : TypeId)
  (ho : o.op = .call { callee := .builtin .copy, args := #[d, s], argTypes := #[dT, sT] }) (elem : TypeId) (sz : Nat) (hz : 0 < sz) (hu : P.underlying dT = some (.slice elem)) (hsz : (P.info? elem).map (·.size) = some sz)
  (dp sp : Option Addr) (dLen dCap sLen sCap : Nat) (hd : a.eval d = .slice dp dLen dCap) (hs : a.eval s = .slice sp sLen sCap)
  (g off : Nat) (cur : List Value) (t : TypeId) (hg : w.heap[g]? = some (Obj.cells cur.toArray t (0, 0))) (cs : List Value) (hn : cs.length = Nat.min sLen dLen * sz)
  (hpos : 0 < cs.length → dp = some ⟨g, off, none⟩ ∧ ∃ ad, sp = some ad ∧ ∀ j v, cs[j]? = some v → w.cell? (ad.add j) = some v)
  (hfit : off + cs.length ≤ cur.length) (h1 : ∀ v ∈ cs, v.oneCell' = true)
  (h : ∀ w2, Cop w w2 g t (splice cur off cs) → wpList P ops Q rest (a.put o.dst (goInt (Nat.min sLen dLen))) w2) :
  wpList P ops Q (o :: rest) a w := by
 refine wpList_plain hgd fun K hK => ?_
 by_cases h0 : Nat.min sLen dLen = 0
 ·have hl : cs.length = 0 := by rw [hn, h0, Nat.zero_mul]
  obtain rfl : cs = [] := List.eq_nil_of_length_eq_zero hl
  have hrun := run_copy0 (P := P) w dT sT o.type elem sz dp sp dLen dCap sLen sCap hu hsz h0
  unfold Oper.wp
  simp [execOp, ho, resolve, invoke, builtin, hd, hs, hrun, Result.andThen]
  refine hK _ _ ?_
  have := h w ⟨by simpa [splice] using hg, fun _ _ => rfl, rfl, fun B _ => Below.refl B w⟩
  rwa [h0] at this
 ·obtain ⟨rfl, ad, rfl, hsrc⟩ := hpos (by rw [hn]; exact Nat.mul_pos (Nat.pos_of_ne_zero h0) hz)
  have hrun := run_copyN (P := P) w dT sT o.type elem sz g off dLen dCap ad sLen sCap cs cur t hu hsz hn hsrc hg hfit h1
  unfold Oper.wp
  simp [execOp, ho, resolve, invoke, builtin, hd, hs, hrun, Result.andThen]
  exact hK _ _ (h _ (cop_set g cs off w cur hg hfit))
theorem infoGl : (Tryz.prog.info? 89).map (fun i => (i.zero, i.size, i.bytes)) = some (some (.agg #[.int .u8 0, .int .i64 0]), 2, 16) := by kernel_rfl
set_option maxRecDepth 100000
theorem made_gl : ∀ n : Nat, (List.range (n * 2)).map (fun i => (#[Value.int .u8 0, Value.int .i64 0] : Array Value)[i % 2]!) = gcells (zrow n)
 | 0 => rfl
 | n + 1 => by
  have e : (n + 1) * 2 = n * 2 + 1 + 1 := by omega
  rw [e, List.range_succ, List.range_succ, List.map_append, List.map_append, made_gl n]
  have z : zrow (n + 1) = zrow n ++ [(0, 0)] := by simp [zrow, List.replicate_succ']
  rw [z, gcells_append]
  simp [gcells, show n * 2 % 2 = 0 by omega, show (n * 2 + 1) % 2 = 1 by omega]
theorem made_list (z : Array Value) (N : Nat) : madeCells z N = ((List.range N).map (fun i => z[i % z.size]!)).toArray := by
 apply Array.ext
 ·simp [madeCells]
 ·intro i h1 h2
  simp [madeCells]
theorem make_row (n : Nat) (hn : n ≤ 1000) (w : World) : (Instr.makeSlice 87 (.int .i64 (n : Int)) (.int .i64 (n : Int))).run Tryz.prog w = .ok (.slice (some ⟨w.heap.size, 0, none⟩) n n) (w.alloc (.cells (gcells (zrow n)).toArray 89)) := by
 obtain ⟨i0, hi, hzz⟩ := Option.map_eq_some_iff.1 infoGl
 simp only [Prod.mk.injEq] at hzz
 obtain ⟨hz0, hz1, hz2⟩ := hzz
 have := run_make (P := Tryz.prog) w 87 89 i0 (.agg #[.int .u8 0, .int .i64 0]) (by kernel_rfl) hi hz0 .i64 .i64 (n : Int) (n : Int) (by omega) (by omega) (by rw [hz2]; omega) (by omega)
 rw [hz1] at this
 simp only [Int.toNat_natCast] at this
 rw [this, ← made_gl n, made_list]
 rfl
/-- A cut of the table; of a row. -/
theorem cut_of (t e sz : Nat) (ht : Tryz.prog.underlying t = some (.slice e)) (hsz : (Tryz.prog.info? e).map (·.size) = some sz) (T n c lo hi : Nat) (h1 : lo ≤ hi) (h2 : hi ≤ c) :
  ∃ A' : Option Addr, (∀ W : World, (Instr.slice t (.slice (some ⟨T, 0, none⟩) n c) (some (.int .i64 (lo : Int))) (some (.int .i64 (hi : Int))) none).run Tryz.prog W = .ok (.slice A' (hi - lo) (c - lo)) W) ∧ (lo < hi → A' = some ⟨T, lo * sz, none⟩) := by
 obtain ⟨i, hi0, hi2⟩ := Option.map_eq_some_iff.1 hsz
 refine ⟨if c = lo then some ⟨T, 0, none⟩ else (some (⟨T, 0, none⟩ : Addr)).map (·.add (lo * sz)), fun W => ?_, fun h => ?_⟩
 ·have hel : Tryz.prog.elem t = e := by simp [Program.elem, ht]
  have hu : Tryz.prog.underlying t = some (.slice (Tryz.prog.elem t)) := by rw [hel]; exact ht
  rw [run_slice_lh W t (some ⟨T, 0, none⟩) n c hu .i64 .i64 lo hi (by omega) (by omega) (by omega), hel]
  simp [sizeOf, typeInfo, hi0, hi2, sliced, Result.andThen]
 ·rw [if_neg (by omega)]
  unfold Addr.add
  simp only [Option.map_some]
  split <;> simp_all
theorem held_new {W : World} {a : Addr} {u : Value} (h : W.cell? a = some u) (o : Obj) : (W.alloc o).cell? a = some u := (World.cell?_alloc_some W a o (by rw [h]; rfl)).trans h
end Go.Proofs.YteebhoehflgfoaaGreatDoor.Y
end
section
namespace Go.Proofs.YteebhoehflgfoaaGreatDoor.Y
open Go.RowKit Go.Proofs.YteebhoehflgfoaaGreatDoorW.PrintWords Go.Proofs.YteebhoehflgfoaaGreatDoorW.PrintLast Go.Proofs.YteebhoehflgfoaaGreatDoorW.PrintMore
attribute [local go_sem] max2_int min2_int max_two min_two
set_option linter.unusedSimpArgs false
set_option linter.unusedVariables false
set_option maxRecDepth 100000
set_option maxHeartbeats 8000000
theorem rows_one (n : Nat) (l : List Nat) : ∀ v ∈ l.map (rowV n), v.oneCell' = true := fun v hv => by
 obtain ⟨b, _, rfl⟩ := List.mem_map.1 hv
 rfl
/-- Behind the copy: the screen's own block, the table, a new row stored. -/
theorem roll_up_end {w w2 : World} {B g T c : Nat} {bs : List Nat} {s : Scr} (h : AtX w B g T c bs s) (hf : Fine s) {a : Nat} (ha : a ≤ s.bot) {rest : List Value}
  (hc : Cop w w2 T 87 (splice (bs.map (rowV s.w) ++ rest) a (((bs.drop (a + 1)).take (s.bot - a)).map (rowV s.w)))) :
  AtX ((w2.alloc (.cells (gcells (zrow s.w)).toArray 89)).setCell ⟨T, s.bot, none⟩ (rowV s.w w2.heap.size)) B g T c (upL bs a s.bot w.heap.size) (s.up a) ∧
   Below B w ((w2.alloc (.cells (gcells (zrow s.w)).toArray 89)).setCell ⟨T, s.bot, none⟩ (rowV s.w w2.heap.size)) := by
 have hb : s.bot < s.rows.length := by rw [hf.rl]; exact hf.bh
 have hb2 : s.bot < bs.length := by rw [h.rl]; exact hb
 have hT := blk_lt hc.at_
 have hs := hc.size
 refine ⟨h.rollUp (rest := rest) ha hb ?_ ?_ (fun k hk hlt => ?_), ?_⟩
 ·have h1 := blk_set (blk_alloc hc.at_ (.cells (gcells (zrow s.w)).toArray 89)) s.bot (rowV s.w w2.heap.size)
  rw [h1, List.setIfInBounds_toArray, hs, splice_up (rowV s.w) bs rest a s.bot w.heap.size ha hb2]
 ·rw [← hs]
  exact blk_far (blk_new w2 _) (p := ⟨T, s.bot, none⟩) (by simp only; omega) _
 ·rw [Below.heap_setCell _ ⟨T, s.bot, none⟩ _ k hk, Below.heap_alloc w2 _ k (by omega)]
  exact hc.keep k hk
 ·exact ((hc.below B h.bT).alloc (by have := h.size; omega) _).setCell (p := ⟨T, s.bot, none⟩) h.bT _
theorem roll_down_end {w w2 : World} {B g T c : Nat} {bs : List Nat} {s : Scr} (h : AtX w B g T c bs s) (hf : Fine s) {a : Nat} (ha : a ≤ s.bot) {rest : List Value}
  (hc : Cop w w2 T 87 (splice (bs.map (rowV s.w) ++ rest) (a + 1) (((bs.drop a).take (s.bot - a)).map (rowV s.w)))) :
  AtX ((w2.alloc (.cells (gcells (zrow s.w)).toArray 89)).setCell ⟨T, a, none⟩ (rowV s.w w2.heap.size)) B g T c (downL bs a s.bot w.heap.size) (s.down a) ∧
   Below B w ((w2.alloc (.cells (gcells (zrow s.w)).toArray 89)).setCell ⟨T, a, none⟩ (rowV s.w w2.heap.size)) := by
 have hb : s.bot < s.rows.length := by rw [hf.rl]; exact hf.bh
 have hb2 : s.bot < bs.length := by rw [h.rl]; exact hb
 have hT := blk_lt hc.at_
 have hs := hc.size
 refine ⟨h.rollDown (rest := rest) ha hb ?_ ?_ (fun k hk hlt => ?_), ?_⟩
 ·have h1 := blk_set (blk_alloc hc.at_ (.cells (gcells (zrow s.w)).toArray 89)) a (rowV s.w w2.heap.size)
  rw [h1, List.setIfInBounds_toArray, hs, splice_down (rowV s.w) bs rest a s.bot w.heap.size ha hb2]
 ·rw [← hs]
  exact blk_far (blk_new w2 _) (p := ⟨T, a, none⟩) (by simp only; omega) _
 ·rw [Below.heap_setCell _ ⟨T, a, none⟩ _ k hk, Below.heap_alloc w2 _ k (by omega)]
  exact hc.keep k hk
 ·exact ((hc.below B h.bT).alloc (by have := h.size; omega) _).setCell (p := ⟨T, a, none⟩) h.bT _
/-- What is copied, cell by cell. -/
theorem tab_src {w : World} {T n : Nat} {bs : List Nat} {rest : List Value} (ht : w.heap[T]? = some (Obj.cells (bs.map (rowV n) ++ rest).toArray 87 (0, 0))) (lo m : Nat) (hl : lo + m ≤ bs.length) (j : Nat) (v : Value)
  (h : (((bs.drop lo).take m).map (rowV n))[j]? = some v) : w.cell? ((⟨T, lo, none⟩ : Addr).add j) = some v := by
 rw [Addr.add_mid, blk_cell ht]
 obtain ⟨hj, _⟩ := List.getElem?_eq_some_iff.1 h
 have hj2 : j < m := by simp at hj; omega
 rw [List.getElem?_map, List.getElem?_take, if_pos hj2, List.getElem?_drop] at h
 simp only [List.getElem?_toArray]
 rw [List.getElem?_append_left (by simp; omega), List.getElem?_map]
 exact h
theorem roll_up_calls {w : World} {B g T c : Nat} {bs : List Nat} {s : Scr} (h : AtX w B g T c bs s) (hf : Fine s) (a m : Nat) (ha : a ≤ s.bot) (hm : 1 ≤ m) (hm2 : m ≤ 100000) :
  Calls Tryz.prog 159 #[.pointer (some ⟨g, 0, none⟩), .int .i64 a, .int .i64 m] w fun e w' => e = .returned (.tuple #[]) ∧ (∃ bs', AtX w' B g T c bs' (s.roll a m)) ∧ Below B w w' := by
 obtain ⟨K, hK⟩ : ∃ K, K = min m s.h := ⟨_, rfl⟩
 have hroll : s.roll a m = iter (fun t => t.up a) K s := by
  unfold Scr.roll
  rw [if_pos (by omega), hK, Int.toNat_natCast]
 have HI := Lib.hid (And.intro h (And.intro hf ha))
 have haB := ha
 have b3 := hf.h1
 have c1 : w.cell? ⟨g, 1, none⟩ = some (.int .i64 s.h) := h.cell 1
 have e0 : IntKind.i64.wrap (-(m : Int)) = -(m : Int) := wrapI _ (by omega) (by omega)
 have d0 : ¬ ((m : Int) < -(m : Int)) := by omega
 have d1 : (0 : Int) < (m : Int) := by omega
 have hmin : (s.h : Int) < (m : Int) ∨ (m : Int) ≤ (s.h : Int) := by omega
 rw [hroll]
 clear h hf ha hroll
 go_enter Tryz.func159, Tryz.ntmps159
 obtain ⟨Kv, hKv, hKv2⟩ : ∃ Kv : Int, Kv = K ∧ ((s.h : Int) < (m : Int) ∧ Kv = s.h ∨ (m : Int) ≤ (s.h : Int) ∧ Kv = m) := ⟨K, rfl, by omega⟩
 rcases hKv2 with ⟨hc, rfl⟩ | ⟨hc, rfl⟩
 all_goals
  go_wp2_with fail
  go_loopg [15] K (fun kq v15 w' => ∃ i : Nat, v15 = .int .i64 (i : Int) ∧ i + kq = K ∧ Hid ((∃ bs', AtX w' B g T c bs' (iter (fun t => t.up a) i s)) ∧ Below B w w'))
  case atStart => exact ⟨0, rfl, by omega, ⟨_, HI.out.1⟩, Below.refl _ _⟩
  case round =>
   obtain ⟨i, rfl, hk, hA⟩ := hrel
   by_cases hi : i < K
   ·have d3 : (i : Int) < (K : Int) := by omega
    rw [← hKv] at d3
    obtain ⟨⟨bs1, h1⟩, hB1⟩ := hA.out
    obtain ⟨f1, q1, q2, q3, q4⟩ := Fine.iterUp a i HI.out.2.1 HI.out.2.2
    have hit := iter_last (fun t => t.up a) i s
    generalize iter (fun t => t.up a) i s = s1 at h1 f1 q1 q2 q3 q4 hit
    rw [← q1] at haB
    obtain ⟨rest, ht⟩ := h1.tab
    have c0 : wr.cell? ⟨g, 0, none⟩ = some (.int .i64 s1.w) := h1.cell 0
    have c2 : wr.cell? ⟨g, 2, none⟩ = some (.slice (some ⟨T, 0, none⟩) s1.h c) := h1.cell 2
    have c10 : wr.cell? ⟨g, 10, none⟩ = some (.int .i64 s1.bot) := h1.cell 10
    have n1 := f1.bh
    have n2 := f1.h1
    have n3 := f1.rl
    have n4 := h1.rl
    have n5 := h1.hc
    have e1 : IntKind.i64.wrap ((s1.bot : Int) + 1) = (s1.bot : Int) + 1 := wrapI _ (by omega) (by omega)
    have e2 : IntKind.i64.wrap ((a : Int) + 1) = (a : Int) + 1 := wrapI _ (by omega) (by omega)
    obtain ⟨A1, hs1, hp1⟩ := cut_of 82 87 1 Tryz.underlying82 (by kernel_rfl) T s1.h c a (s1.bot + 1) (by omega) (by omega)
    obtain ⟨A2, hs2, hp2⟩ := cut_of 82 87 1 Tryz.underlying82 (by kernel_rfl) T s1.h c (a + 1) (s1.bot + 1) (by omega) (by omega)
    push_cast at hs1 hs2
    have H1 := Lib.hid (And.intro h1 (And.intro f1 (And.intro ht (And.intro hp1 (And.intro hp2 (And.intro hB1 (And.intro q1 (And.intro q2 (And.intro q3 (And.intro hit (And.intro (And.intro hk hi) (And.intro n3 (And.intro n4 (And.intro n1 haB))))))))))))))
    clear h1 f1 ht hp1 hp2 hB1 hA n1 n2 n5 q1 q2 q3 q4 hit hk n3 n4 haB hK hKv hmin hi
    go_wp2_with fail
    go_still_tail 23, (by kernel_rfl)
    change wpList _ _ _ _ _ wr.drew
    have k1 := H1.out.2.2.2.2.2.2.2.2.2.2.2.2.2.1
    have k2 := H1.out.2.2.2.2.2.2.2.2.2.2.2.1
    have k3 := H1.out.2.2.2.2.2.2.2.2.2.2.2.2.1
    have k4 := H1.out.2.2.2.2.2.2.2.2.2.2.2.2.2.2
    refine wpList_copyN rfl (.tmp 29) (.tmp 41) 82 82 rfl 87 1 (by decide) Tryz.underlying82 (by kernel_rfl) A1 A2 (s1.bot + 1 - a) (c - a) (s1.bot - a) (c - (a + 1)) rfl rfl T a (bs1.map (rowV s1.w) ++ rest) 87 H1.out.2.2.1
     (((bs1.drop (a + 1)).take (s1.bot - a)).map (rowV s1.w)) (by simp only [List.length_map, List.length_take, List.length_drop]; show _ = min _ _ * 1; omega)
     (fun hp => by
      have hp2 : a < s1.bot := by simp only [List.length_map, List.length_take, List.length_drop] at hp; omega
      refine ⟨by rw [H1.out.2.2.2.1 (by omega), Nat.mul_one], _, by rw [H1.out.2.2.2.2.1 (by omega), Nat.mul_one], fun j v hv => tab_src (w := wr.drew) (rest := rest) H1.out.2.2.1 (a + 1) (s1.bot - a) (by omega) j v hv⟩)
     (by simp only [List.length_map, List.length_take, List.length_drop, List.length_append]; omega) (rows_one _ _) ?_
    intro w2 hcop
    have H2 : Hid (Cop wr w2 T 87 (splice (bs1.map (rowV s1.w) ++ rest) a (((bs1.drop (a + 1)).take (s1.bot - a)).map (rowV s1.w)))) := ⟨hcop.at_, hcop.keep, hcop.size, fun B hB => ⟨(hcop.below B hB).os, (hcop.below B hB).tape, (hcop.below B hB).output, (hcop.below B hB).size, (hcop.below B hB).block⟩⟩
    clear hcop hs1 hs2
    have kg : ∀ i, w2.cell? ⟨g, i, none⟩ = wr.cell? ⟨g, i, none⟩ := fun i => World.cell?_of_block (H2.out.keep g H1.out.1.gT)
    have c0' := (kg 0).trans c0
    have c2' := (kg 2).trans c2
    have c10' := (kg 10).trans c10
    have mk := make_row s1.w (H1.out.2.1.w1)
    have bx : ((s1.bot : Int)) < (s1.h : Int) := by have := H1.out.2.1.bh; omega
    obtain ⟨vt, ct⟩ : ∃ v, w2.cell? ⟨T, s1.bot, none⟩ = some v := by
     have hlen : s1.bot < (splice (bs1.map (rowV s1.w) ++ rest) a (((bs1.drop (a + 1)).take (s1.bot - a)).map (rowV s1.w))).length := by
      rw [length_splice _ _ _ (by simp only [List.length_map, List.length_take, List.length_drop, List.length_append]; omega)]
      simp only [List.length_map, List.length_append]
      omega
     rw [blk_cell H2.out.at_]
     exact ⟨_, by rw [List.getElem?_toArray, List.getElem?_eq_getElem hlen]⟩
    have ft : w2.frozen? ⟨T, s1.bot, none⟩ = false := blk_frozen H2.out.at_ _
    have nT : g ≠ T := H1.out.1.gT
    have ne0 := World.new_ne w2 _ c0'
    have ne2 := World.new_ne w2 _ c2'
    have ne10 := World.new_ne w2 _ c10'
    have net := World.new_ne w2 _ ct
    have ca : (w2.alloc (.cells (gcells (zrow s1.w)).toArray 89)).cell? ⟨T, s1.bot, none⟩ = some vt := (World.cell?_alloc_some w2 _ _ (by rw [ct]; rfl)).trans ct
    have fa : (w2.alloc (.cells (gcells (zrow s1.w)).toArray 89)).frozen? ⟨T, s1.bot, none⟩ = false := blk_frozen (blk_alloc H2.out.at_ _) _
    have kk : ∀ i v, w2.cell? ⟨g, i, none⟩ = some v → ((w2.alloc (.cells (gcells (zrow s1.w)).toArray 89)).setCell ⟨T, s1.bot, none⟩ (.slice (some ⟨w2.heap.size, 0, none⟩) s1.w s1.w)).cell? ⟨g, i, none⟩ = some v := fun i v hv =>
     (World.cell?_setCell_other _ _ _ _ (by simp only [ne_eq, Addr.mk.injEq]; exact fun e => nT e.1.symm)).trans ((World.cell?_alloc_some w2 _ _ (by rw [hv]; rfl)).trans hv)
    clear kg c0 c2 c10 k1 k2 k3 k4
    go_wp2_with fail
    go_region_held3 (fun w' => w'.cell? ⟨g, 0, none⟩ = some (.int .i64 s1.w) ∧ w'.cell? ⟨g, 2, none⟩ = some (.slice (some ⟨T, 0, none⟩) s1.h c) ∧ w'.cell? ⟨g, 10, none⟩ = some (.int .i64 s1.bot)) (first | go_keep | exact ⟨kk 0 _ c0', kk 2 _ c2', kk 10 _ c10'⟩) (fail)
    go_wp2_with fail
    go_roundg (K - (i + 1))
    case measure => have := H1.out.2.2.2.2.2.2.2.2.2.2.1; omega
    case rel =>
     have hk := H1.out.2.2.2.2.2.2.2.2.2.2.1
     have hend := roll_up_end (rest := rest) H1.out.1 H1.out.2.1 H1.out.2.2.2.2.2.2.2.2.2.2.2.2.2.2 H2.out
     have hit := H1.out.2.2.2.2.2.2.2.2.2.1
     exact ⟨i + 1, by simp, by omega, ⟨upL bs1 a s1.bot wr.heap.size, by rw [hit]; exact hend.1.drew⟩, H1.out.2.2.2.2.2.1.trans hend.2.drew⟩
   ·have d3 : decide ((i : Int) < (K : Int)) = false := decide_eq_false (by omega)
    rw [← hKv] at d3
    obtain rfl : i = K := by omega
    go_wp2_with fail
    go_end0
    exact ⟨rfl, hA.out⟩
theorem roll_down_calls {w : World} {B g T c : Nat} {bs : List Nat} {s : Scr} (h : AtX w B g T c bs s) (hf : Fine s) (a m : Nat) (ha : a ≤ s.bot) (hm : 1 ≤ m) (hm2 : m ≤ 100000) :
  Calls Tryz.prog 159 #[.pointer (some ⟨g, 0, none⟩), .int .i64 a, .int .i64 (-(m : Int))] w fun e w' => e = .returned (.tuple #[]) ∧ (∃ bs', AtX w' B g T c bs' (s.roll a (-(m : Int)))) ∧ Below B w w' := by
 obtain ⟨K, hK⟩ : ∃ K, K = min m s.h := ⟨_, rfl⟩
 have hroll : s.roll a (-(m : Int)) = iter (fun t => t.down a) K s := by
  unfold Scr.roll
  rw [if_neg (by omega), hK, Int.neg_neg, Int.toNat_natCast]
 have HI := Lib.hid (And.intro h (And.intro hf ha))
 have haB := ha
 have b3 := hf.h1
 have c1 : w.cell? ⟨g, 1, none⟩ = some (.int .i64 s.h) := h.cell 1
 have e0 : IntKind.i64.wrap (m : Int) = (m : Int) := wrapI _ (by omega) (by omega)
 have d0 : -(m : Int) < (m : Int) := by omega
 have d1 : decide ((0 : Int) < -(m : Int)) = false := decide_eq_false (by omega)
 have hmin : (s.h : Int) < (m : Int) ∨ (m : Int) ≤ (s.h : Int) := by omega
 rw [hroll]
 clear h hf ha hroll
 go_enter Tryz.func159, Tryz.ntmps159
 obtain ⟨Kv, hKv, hKv2⟩ : ∃ Kv : Int, Kv = K ∧ ((s.h : Int) < (m : Int) ∧ Kv = s.h ∨ (m : Int) ≤ (s.h : Int) ∧ Kv = m) := ⟨K, rfl, by omega⟩
 rcases hKv2 with ⟨hc, rfl⟩ | ⟨hc, rfl⟩
 all_goals
  go_wp2_with fail
  go_loopg [15] K (fun kq v15 w' => ∃ i : Nat, v15 = .int .i64 (i : Int) ∧ i + kq = K ∧ Hid ((∃ bs', AtX w' B g T c bs' (iter (fun t => t.down a) i s)) ∧ Below B w w'))
  case atStart => exact ⟨0, rfl, by omega, ⟨_, HI.out.1⟩, Below.refl _ _⟩
  case round =>
   obtain ⟨i, rfl, hk, hA⟩ := hrel
   by_cases hi : i < K
   ·have d3 : (i : Int) < (K : Int) := by omega
    rw [← hKv] at d3
    obtain ⟨⟨bs1, h1⟩, hB1⟩ := hA.out
    obtain ⟨f1, q1, q2, q3, q4⟩ := Fine.iterDown a i HI.out.2.1 HI.out.2.2
    have hit := iter_last (fun t => t.down a) i s
    generalize iter (fun t => t.down a) i s = s1 at h1 f1 q1 q2 q3 q4 hit
    rw [← q1] at haB
    obtain ⟨rest, ht⟩ := h1.tab
    have c0 : wr.cell? ⟨g, 0, none⟩ = some (.int .i64 s1.w) := h1.cell 0
    have c2 : wr.cell? ⟨g, 2, none⟩ = some (.slice (some ⟨T, 0, none⟩) s1.h c) := h1.cell 2
    have c10 : wr.cell? ⟨g, 10, none⟩ = some (.int .i64 s1.bot) := h1.cell 10
    have n1 := f1.bh
    have n2 := f1.h1
    have n3 := f1.rl
    have n4 := h1.rl
    have n5 := h1.hc
    have e1 : IntKind.i64.wrap ((s1.bot : Int) + 1) = (s1.bot : Int) + 1 := wrapI _ (by omega) (by omega)
    have e2 : IntKind.i64.wrap ((a : Int) + 1) = (a : Int) + 1 := wrapI _ (by omega) (by omega)
    obtain ⟨A1, hs1, hp1⟩ := cut_of 82 87 1 Tryz.underlying82 (by kernel_rfl) T s1.h c (a + 1) (s1.bot + 1) (by omega) (by omega)
    obtain ⟨A2, hs2, hp2⟩ := cut_of 82 87 1 Tryz.underlying82 (by kernel_rfl) T s1.h c a s1.bot (by omega) (by omega)
    push_cast at hs1 hs2
    have H1 := Lib.hid (And.intro h1 (And.intro f1 (And.intro ht (And.intro hp1 (And.intro hp2 (And.intro hB1 (And.intro q1 (And.intro q2 (And.intro q3 (And.intro hit (And.intro (And.intro hk hi) (And.intro n3 (And.intro n4 (And.intro n1 haB))))))))))))))
    clear h1 f1 ht hp1 hp2 hB1 hA n1 n2 n5 q1 q2 q3 q4 hit hk n3 n4 haB hK hKv hmin hi
    go_wp2_with fail
    go_still_tail 22, (by kernel_rfl)
    change wpList _ _ _ _ _ wr.drew
    have k1 := H1.out.2.2.2.2.2.2.2.2.2.2.2.2.2.1
    have k2 := H1.out.2.2.2.2.2.2.2.2.2.2.2.1
    have k3 := H1.out.2.2.2.2.2.2.2.2.2.2.2.2.1
    have k4 := H1.out.2.2.2.2.2.2.2.2.2.2.2.2.2.2
    refine wpList_copyN rfl (.tmp 68) (.tmp 78) 82 82 rfl 87 1 (by decide) Tryz.underlying82 (by kernel_rfl) A1 A2 (s1.bot - a) (c - (a + 1)) (s1.bot - a) (c - a) rfl rfl T (a + 1) (bs1.map (rowV s1.w) ++ rest) 87 H1.out.2.2.1
     (((bs1.drop a).take (s1.bot - a)).map (rowV s1.w)) (by simp only [List.length_map, List.length_take, List.length_drop]; show _ = min _ _ * 1; omega)
     (fun hp => by
      have hp2 : a < s1.bot := by simp only [List.length_map, List.length_take, List.length_drop] at hp; omega
      refine ⟨by rw [H1.out.2.2.2.1 (by omega), Nat.mul_one], _, by rw [H1.out.2.2.2.2.1 (by omega), Nat.mul_one], fun j v hv => tab_src (w := wr.drew) (rest := rest) H1.out.2.2.1 a (s1.bot - a) (by omega) j v hv⟩)
     (by simp only [List.length_map, List.length_take, List.length_drop, List.length_append]; omega) (rows_one _ _) ?_
    intro w2 hcop
    have H2 : Hid (Cop wr w2 T 87 (splice (bs1.map (rowV s1.w) ++ rest) (a + 1) (((bs1.drop a).take (s1.bot - a)).map (rowV s1.w)))) := ⟨hcop.at_, hcop.keep, hcop.size, fun B hB => ⟨(hcop.below B hB).os, (hcop.below B hB).tape, (hcop.below B hB).output, (hcop.below B hB).size, (hcop.below B hB).block⟩⟩
    clear hcop hs1 hs2
    have kg : ∀ i, w2.cell? ⟨g, i, none⟩ = wr.cell? ⟨g, i, none⟩ := fun i => World.cell?_of_block (H2.out.keep g H1.out.1.gT)
    have c0' := (kg 0).trans c0
    have c2' := (kg 2).trans c2
    have c10' := (kg 10).trans c10
    have mk := make_row s1.w (H1.out.2.1.w1)
    have bx : (a : Int) < (s1.h : Int) := by have := H1.out.2.1.bh; omega
    obtain ⟨vt, ct⟩ : ∃ v, w2.cell? ⟨T, a, none⟩ = some v := by
     have hlen : a < (splice (bs1.map (rowV s1.w) ++ rest) (a + 1) (((bs1.drop a).take (s1.bot - a)).map (rowV s1.w))).length := by
      rw [length_splice _ _ _ (by simp only [List.length_map, List.length_take, List.length_drop, List.length_append]; omega)]
      simp only [List.length_map, List.length_append]
      omega
     rw [blk_cell H2.out.at_]
     exact ⟨_, by rw [List.getElem?_toArray, List.getElem?_eq_getElem hlen]⟩
    have ft : w2.frozen? ⟨T, a, none⟩ = false := blk_frozen H2.out.at_ _
    have nT : g ≠ T := H1.out.1.gT
    have ne0 := World.new_ne w2 _ c0'
    have ne2 := World.new_ne w2 _ c2'
    have ne10 := World.new_ne w2 _ c10'
    have net := World.new_ne w2 _ ct
    have ca : (w2.alloc (.cells (gcells (zrow s1.w)).toArray 89)).cell? ⟨T, a, none⟩ = some vt := (World.cell?_alloc_some w2 _ _ (by rw [ct]; rfl)).trans ct
    have fa : (w2.alloc (.cells (gcells (zrow s1.w)).toArray 89)).frozen? ⟨T, a, none⟩ = false := blk_frozen (blk_alloc H2.out.at_ _) _
    have kk : ∀ i v, w2.cell? ⟨g, i, none⟩ = some v → ((w2.alloc (.cells (gcells (zrow s1.w)).toArray 89)).setCell ⟨T, a, none⟩ (.slice (some ⟨w2.heap.size, 0, none⟩) s1.w s1.w)).cell? ⟨g, i, none⟩ = some v := fun i v hv =>
     (World.cell?_setCell_other _ _ _ _ (by simp only [ne_eq, Addr.mk.injEq]; exact fun e => nT e.1.symm)).trans ((World.cell?_alloc_some w2 _ _ (by rw [hv]; rfl)).trans hv)
    clear kg c0 c2 c10 k1 k2 k3 k4
    go_wp2_with fail
    go_region_held3 (fun w' => w'.cell? ⟨g, 0, none⟩ = some (.int .i64 s1.w) ∧ w'.cell? ⟨g, 2, none⟩ = some (.slice (some ⟨T, 0, none⟩) s1.h c)) (first | go_keep | exact ⟨kk 0 _ c0', kk 2 _ c2'⟩) (fail)
    go_wp2_with fail
    go_roundg (K - (i + 1))
    case measure => have := H1.out.2.2.2.2.2.2.2.2.2.2.1; omega
    case rel =>
     have hk := H1.out.2.2.2.2.2.2.2.2.2.2.1
     have hend := roll_down_end (rest := rest) H1.out.1 H1.out.2.1 H1.out.2.2.2.2.2.2.2.2.2.2.2.2.2.2 H2.out
     have hit := H1.out.2.2.2.2.2.2.2.2.2.1
     exact ⟨i + 1, by simp, by omega, ⟨downL bs1 a s1.bot wr.heap.size, by rw [hit]; exact hend.1.drew⟩, H1.out.2.2.2.2.2.1.trans hend.2.drew⟩
   ·have d3 : decide ((i : Int) < (K : Int)) = false := decide_eq_false (by omega)
    rw [← hKv] at d3
    obtain rfl : i = K := by omega
    go_wp2_with fail
    go_end0
    exact ⟨rfl, hA.out⟩
end Go.Proofs.YteebhoehflgfoaaGreatDoor.Y
end
