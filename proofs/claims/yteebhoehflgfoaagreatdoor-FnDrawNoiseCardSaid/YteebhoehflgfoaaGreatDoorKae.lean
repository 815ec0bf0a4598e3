/- Texts of this claim, joined: XHand XAct. Of each, what the claim uses. -/
import Derived.Test.YteebhoehflgfoaaGreatDoorKad
import Derived.Lib.Hide
import Derived.Deep.RegionHeld3
import Derived.Deep.DrawnRows
import Derived.Laws.BitsLemmas
import Derived.Laws.Closers25
section
namespace Go.Proofs.YteebhoehflgfoaaGreatDoor.X
open Go.RowKit Go.Proofs.YteebhoehflgfoaaGreatDoorW.PrintWords Go.Proofs.YteebhoehflgfoaaGreatDoorW.PrintLast Go.Proofs.YteebhoehflgfoaaGreatDoorW.PrintMore
set_option linter.unusedSimpArgs false
set_option linter.unusedVariables false
def zEv : Value := .agg #[.int .i64 0, .int .i64 0, .int .u8 0, .int .i64 0, .slice none 0 0, .slice none 0 0]
theorem infoEv : (Tryz.prog.info? 43).map (fun i => (i.zero, i.size, i.bytes)) = some (some zEv, 6, 80) := by kernel_rfl
theorem told_le (n : Nat) (h : n < 1000000000000) : (n + 1) * 80 ≤ 140737488355328 := by omega
section
variable {w0 w W w1 : World} {L : Loc} {r : RawSt} {evs : List Ev} {v v1 : Value}
/-- What an append to the events leaves: every block below L0. -/
theorem far_row (hS : Kd.S kEv 43 w L.L0 (fun k => L.L0 ≤ k) v (evs.map toS)) (hw : L.L0 ≤ w.heap.size) (hW : Below w.heap.size w W) (hg : W.grownBy w1 v.ownBlock) (i : Nat) (hi : i < L.L0) : w1.heap[i]? = w.heap[i]? :=
 (hg.block i (by have := hW.size; omega) (fun e => by have := Kd.S_base hS i e.symm; omega)).trans (hW.block i (by omega))
/-- Behind the append and the store of the new row. -/
theorem told_end (h : Inv w0 w L r evs) {evs' : List Ev} (hk : ∀ i, i < L.L0 → w1.heap[i]? = w.heap[i]?) (hs : w.heap.size ≤ w1.heap.size) (hB : Below L.L0 w w1) (hS1 : Kd.S kEv 43 w1 L.L0 (fun k => L.L0 ≤ k) v1 (evs'.map toS)) :
  Frm L w (w1.setCell ⟨L.out, 0, none⟩ v1) ∧ Evs (w1.setCell ⟨L.out, 0, none⟩ v1) L evs' := by
 obtain ⟨v, hv, _⟩ := h.evs
 have h1 : w1.heap[L.out]? = some (.cells #[v] 40 (0, 0)) := (hk _ h.raw.tout).trans hv
 refine ⟨⟨by simpa [World.setCell] using hs, fun i hi hne => ?_, (hB.mono h.raw.bL).setCell h.raw.bout _⟩, v1, ?_, Kd.S_far hS1 (p := ⟨L.out, 0, none⟩) (fun k hk e => ?_) v1⟩
 ·exact (Below.heap_setCell w1 ⟨L.out, 0, none⟩ v1 i hne).trans (hk i hi)
 ·have := blk_set h1 0 v1
  simpa using this
 ·have := h.raw.tout
  simp only at e
  omega
/-- The append of one event, whose rows are new. -/
theorem app_step {ops : Array Oper} {o : Oper} {a : Act} {Kc : Act → World → Prop} {Q : Exit → Act → World → Prop} (h : Inv w0 w L r evs) (hv : w.heap[L.out]? = some (.cells #[v] 40 (0, 0))) (hS : Kd.S kEv 43 w L.L0 (fun k => L.L0 ≤ k) v (evs.map toS))
  (hn : evs.length < 1000000000000) (hb : Below w.heap.size w W) (x : Ev) {pv dv : Value} (hp : Kd.R (Kd.int .i64) 2 W w.heap.size (fun _ => True) pv x.params) (hd : Kd.R (Kd.int .u8) 5 W w.heap.size (fun _ => True) dv x.data)
  (hw : Region.wanted o (yielded ops a.tmps) = true) (s y : Operand) (ho : o.op = .call { callee := .builtin .append, args := #[s, y], argTypes := #[40, 40] }) (hs : a.eval s = v) (hx : a.eval y = .slice (some ⟨W.heap.size, 0, none⟩) 1 1)
  (k : ∀ A1 c1 w1, Hid (Frm L w (w1.setCell ⟨L.out, 0, none⟩ (.slice A1 (evs.length + 1) c1)) ∧ Evs (w1.setCell ⟨L.out, 0, none⟩ (.slice A1 (evs.length + 1) c1)) L (evs ++ [x])) → w1.cell? ⟨L.box, 0, none⟩ = some (.pointer (some ⟨L.out, 0, none⟩)) → w1.cell? ⟨L.out, 0, none⟩ = some v → w1.frozen? ⟨L.out, 0, none⟩ = false → Kc (a.put o.dst (.slice A1 (evs.length + 1) c1)) w1) :
  if Region.wanted o (yielded ops a.tmps) = true then Oper.wp Tryz.prog o a (W.alloc (.cells #[.int .i64 x.kind, .int .i64 x.rune, .int .u8 x.byte, .int .i64 x.cmd, pv, dv] 43)) Kc Q else Kc (a.put o.dst undef) (W.alloc (.cells #[.int .i64 x.kind, .int .i64 x.rune, .int .u8 x.byte, .int .i64 x.cmd, pv, dv] 43)) := by
 have hsz := h.raw.size
 have hlt := Kd.S_lt hS
 refine Kd.S_append_step kEv (w0 := w) (W := W) L.L0 hw s y 40 43 zEv 80 ho Tryz.underlying40 infoEv rfl (by decide) (by omega) v (evs.map toS) (toS x) [.int .i64 x.kind, .int .i64 x.rune, .int .u8 x.byte, .int .i64 x.cmd, pv, dv] (fun k => L.L0 ≤ k) (fun k => w.heap.size ≤ k) hs hx
  (Y.k43_mkM W L.L0 _ (toS x) (Kd.R_mono (Kd.R_lower (Kd.R_bound hp) hsz) (fun _ hk => hk.2.1)) (Kd.R_mono (Kd.R_lower (Kd.R_bound hd) hsz) (fun _ hk => hk.2.1)))
  (fun k hk => ⟨Nat.le_trans hsz hk, fun e => by have := hlt k e.symm; omega⟩) (fun _ hk => Nat.le_trans (Nat.le_trans hsz hb.size) hk)
  (Kd.S_mono (Kd.S_below (Kd.S_bound hS) hb) (fun k hk => ⟨hk.1, by have := hk.2.2.1; omega⟩)) (hb.mono hsz) (Nat.le_trans hsz hb.size) (by rw [List.length_map]; exact told_le _ hn) ?_
 intro v1 w1 hS1 hB1 hg1 _
 have hk1 := far_row hS hsz hb hg1
 have hS2 : Kd.S kEv 43 w1 L.L0 (fun k => L.L0 ≤ k) v1 ((evs ++ [x]).map toS) := by simpa using hS1
 obtain ⟨A1, c1, e⟩ := Kd.S_slice hS2
 rw [show ((evs ++ [x]).map toS).length = evs.length + 1 by simp] at e
 subst e
 exact k A1 c1 w1 (Lib.hid (told_end h hk1 (Nat.le_trans hb.size hg1.size) hB1 hS2)) ((World.cell?_of_block (hk1 _ h.raw.tbox)).trans (blk_cell h.raw.hbox 0)) ((World.cell?_of_block (hk1 _ h.raw.tout)).trans (blk_cell hv 0)) (blk_frozen ((hk1 _ h.raw.tout).trans hv) 0)
/-- The events' cell, behind new blocks. -/
theorem out_at (hv : w.heap[L.out]? = some (.cells #[v] 40 (0, 0))) (hb : Below w.heap.size w W) : W.cell? ⟨L.out, 0, none⟩ = some v := blk_cell (blk_below hv hb) 0
theorem out_at_new (hv : w.heap[L.out]? = some (.cells #[v] 40 (0, 0))) (hb : Below w.heap.size w W) (o : Obj) : (W.alloc o).cell? ⟨L.out, 0, none⟩ = some v := blk_cell (blk_alloc (blk_below hv hb) o) 0
theorem held_alloc {W : World} {a : Addr} {u : Value} (h : W.cell? a = some u) (o : Obj) : (W.alloc o).cell? a = some u := (World.cell?_alloc_some W a o (by rw [h]; rfl)).trans h
theorem box_at (h : Inv w0 w L r evs) (hb : Below w.heap.size w W) : W.cell? ⟨L.box, 0, none⟩ = some (.pointer (some ⟨L.out, 0, none⟩)) := blk_cell (blk_below h.raw.hbox hb) 0
end
set_option maxRecDepth 100000 in
set_option maxHeartbeats 8000000 in
/-- Print. -/
theorem l1_calls (L : Loc) (r : RawSt) (evs : List Ev) (w0 w : World) (b : Int) (hb0 : 0 ≤ b) (hb1 : b ≤ 255) (h : Inv w0 w L r evs) (hn : evs.length < 1000000000000) :
  Calls Tryz.prog 125 #[.int .i32 b, .pointer (some ⟨L.box, 0, none⟩)] w fun e w' => e = .returned (.tuple #[]) ∧ Frm L w w' ∧ Evs w' L (evs ++ [⟨0, b, 0, 0, [], []⟩]) := by
 obtain ⟨v, hv, hS⟩ := h.evs
 have cbox : w.cell? ⟨L.box, 0, none⟩ = some (.pointer (some ⟨L.out, 0, none⟩)) := blk_cell h.raw.hbox 0
 have cout : w.cell? ⟨L.out, 0, none⟩ = some v := blk_cell hv 0
 have cal : ∀ o, (w.alloc o).cell? ⟨L.out, 0, none⟩ = some v := out_at_new hv (Below.refl _ _)
 have HN := Lib.hid hn
 have HV := Lib.hid hv
 have HS := Lib.hid hS
 clear hn hv hS
 have wb : IntKind.i64.wrap b = b := by rw [IntKind.wrap_i64]; omega
 go_enter Tryz.func125, Tryz.ntmps125
 go_wp2_with fail
 refine start_ (n := 11) (S := fun w' => w'.cell? ⟨L.box, 0, none⟩ = some (.pointer (some ⟨L.out, 0, none⟩)) ∧ w'.cell? ⟨L.out, 0, none⟩ = some v) (ds := [10]) #[false, false, false, false, false, false, false, false, false, false, false] (by kernel_rfl) rfl rfl ⟨cbox, cout⟩ (fun hHeld => ?_)
 refine pure_ (i := 4) (N := some 7) (v := ?_) (a' := ?_) #[false, false, false, false, true, false, false, false, false, false, false] rfl rfl (by kernel_rfl) (fun _ _ _ h => h) (Or.inl ⟨by rfl, ?_⟩) ?_ ?_
 rotate_left
 ·intro w'
  go_simp
  with_reducible rfl
 rotate_left
 ·simp only [Act.put, List.setIfInBounds_toArray, List.set_cons_zero, List.set_cons_succ, i64_w, i32_w]
  rfl
 refine pure_ (i := 5) (N := some 8) (v := ?_) (a' := ?_) #[false, false, false, false, true, true, false, false, false, false, false] rfl rfl (by kernel_rfl) (fun _ _ _ h => h) (Or.inl ⟨by rfl, ?_⟩) ?_ ?_
 rotate_left
 ·intro w'
  go_simp
  with_reducible rfl
 rotate_left
 ·simp only [Act.put, List.setIfInBounds_toArray, List.set_cons_zero, List.set_cons_succ, i64_w, i32_w]
  rfl
 refine pure_ (i := 6) (N := some 9) (v := ?_) (a' := ?_) #[false, false, false, false, true, true, true, false, false, false, false] rfl rfl (by kernel_rfl) (fun _ _ _ h => h) (Or.inl ⟨by rfl, ?_⟩) ?_ ?_
 rotate_left
 ·intro w'
  go_simp
  with_reducible rfl
 rotate_left
 ·simp only [Act.put, List.setIfInBounds_toArray, List.set_cons_zero, List.set_cons_succ, i64_w, i32_w]
  rfl
 refine take_ (i := 0) (N := some 3) (v := ?_) (a' := ?_) #[true, false, false, false, true, true, true, false, false, false, false] rfl rfl (by kernel_rfl) (fun _ _ _ h => h) (Or.inl ⟨by rfl, ?_⟩) hHeld ?_ ?_
 rotate_left
 ·rintro w' ⟨s0, s1⟩
  go_simp
  with_reducible rfl
 rotate_left
 ·simp only [Act.put, List.setIfInBounds_toArray, List.set_cons_zero, List.set_cons_succ, i64_w, i32_w]
  rfl
 refine take_ (i := 1) (N := some 4) (v := ?_) (a' := ?_) #[true, true, false, false, true, true, true, false, false, false, false] rfl rfl (by kernel_rfl) (fun _ _ _ h => h) (Or.inl ⟨by rfl, ?_⟩) hHeld ?_ ?_
 rotate_left
 ·rintro w' ⟨s0, s1⟩
  go_simp
  with_reducible rfl
 rotate_left
 ·simp only [Act.put, List.setIfInBounds_toArray, List.set_cons_zero, List.set_cons_succ, i64_w, i32_w]
  rfl
 refine pure_ (i := 2) (N := some 5) (v := ?_) (a' := ?_) #[true, true, true, false, true, true, true, false, false, false, false] rfl rfl (by kernel_rfl) (fun _ _ _ h => h) (Or.inl ⟨by rfl, ?_⟩) ?_ ?_
 rotate_left
 ·intro w'
  go_simp
  with_reducible rfl
 rotate_left
 ·simp only [Act.put, List.setIfInBounds_toArray, List.set_cons_zero, List.set_cons_succ, i64_w, i32_w]
  rfl
 refine take_ (i := 3) (N := some 6) (v := ?_) (a' := ?_) #[true, true, true, true, true, true, true, false, false, false, false] rfl rfl (by kernel_rfl) (fun _ _ _ h => h) (Or.inl ⟨by rfl, ?_⟩) hHeld ?_ ?_
 rotate_left
 ·rintro w' ⟨s0, s1⟩
  go_simp
  with_reducible rfl
 rotate_left
 ·simp only [Act.put, List.setIfInBounds_toArray, List.set_cons_zero, List.set_cons_succ, i64_w, i32_w]
  rfl
 refine one_ (i := 7) (N := some 10) #[true, true, true, true, true, true, true, true, false, false, false] rfl rfl (by kernel_rfl) (by decide) (fun K hK => ?_)
 refine value_ (w1 := ?_) (v := ?_) (by rfl) rfl ?_ ?_
 rotate_left 2
 ·go_simp
  constructor
  ·rfl
  ·rfl
 refine hK.out _ _ ⟨(held_alloc hHeld.1 _), (held_alloc hHeld.2 _)⟩ (fun hHeld => ?_)
 clear hK K
 refine norm_ (a' := ?_) ?_ ?_
 rotate_left
 ·show Act.put _ (some 10) _ = _
  simp only [Act.put, List.setIfInBounds_toArray, List.set_cons_zero, List.set_cons_succ, i64_w, i32_w]
  rfl
 refine one_ (i := 8) (N := some 11) #[true, true, true, true, true, true, true, true, true, false, false] rfl rfl (by kernel_rfl) (by decide) (fun K hK => ?_)
 refine app_step h HV.out HS.out HN.out (below_drew (Below.refl _ _)) ⟨0, b, 0, 0, [], []⟩ (Kd.R_nil _ _ _ _ _) (Kd.R_nil _ _ _ _ _) (by rfl) (.tmp 6) (.tmp 10) rfl rfl rfl ?_
 intro A1 c1 w1 HE k1 k2 k3
 refine hK.out _ _ ⟨k1, k2⟩ (fun hHeld => ?_)
 clear hK K
 refine norm_ (a' := ?_) ?_ ?_
 rotate_left
 ·show Act.put _ (some 11) _ = _
  simp only [Act.put, List.setIfInBounds_toArray, List.set_cons_zero, List.set_cons_succ, i64_w, i32_w]
  rfl
 refine pure_ (i := 9) (N := some 12) (v := ?_) (a' := ?_) #[true, true, true, true, true, true, true, true, true, true, false] rfl rfl (by kernel_rfl) (fun _ _ _ h => h) (Or.inl ⟨by rfl, ?_⟩) ?_ ?_
 rotate_left
 ·intro w'
  go_simp
  with_reducible rfl
 rotate_left
 ·simp only [Act.put, List.setIfInBounds_toArray, List.set_cons_zero, List.set_cons_succ, i64_w, i32_w]
  rfl
 refine last_ (i := 10) (N := none) #[true, true, true, true, true, true, true, true, true, true, true] rfl rfl (by kernel_rfl) (by decide) (fun K hK => ?_)
 refine skip_ (w1 := ?_) (by rfl) rfl ?_ ?_
 rotate_left
 ·go_simp
  rfl
 refine hK.out _ _ ?_
 clear hK K
 refine done_ (by kernel_rfl) ?_
 go_wp2_with fail
 all_goals
  go_end0
  exact ⟨rfl, HE.out⟩
set_option maxRecDepth 100000 in
set_option maxHeartbeats 8000000 in
/-- Execute. -/
theorem l2_calls (L : Loc) (r : RawSt) (evs : List Ev) (w0 w : World) (b : Int) (h : Inv w0 w L r evs) (hn : evs.length < 1000000000000) :
  Calls Tryz.prog 126 #[.int .u8 b, .pointer (some ⟨L.box, 0, none⟩)] w fun e w' => e = .returned (.tuple #[]) ∧ Frm L w w' ∧ Evs w' L (evs ++ [⟨1, 0, b, 0, [], []⟩]) := by
 obtain ⟨v, hv, hS⟩ := h.evs
 have cbox : w.cell? ⟨L.box, 0, none⟩ = some (.pointer (some ⟨L.out, 0, none⟩)) := blk_cell h.raw.hbox 0
 have cout : w.cell? ⟨L.out, 0, none⟩ = some v := blk_cell hv 0
 have cal : ∀ o, (w.alloc o).cell? ⟨L.out, 0, none⟩ = some v := out_at_new hv (Below.refl _ _)
 have HN := Lib.hid hn
 have HV := Lib.hid hv
 have HS := Lib.hid hS
 clear hn hv hS
 go_enter Tryz.func126, Tryz.ntmps126
 go_wp2_with fail
 refine start_ (n := 10) (S := fun w' => w'.cell? ⟨L.box, 0, none⟩ = some (.pointer (some ⟨L.out, 0, none⟩)) ∧ w'.cell? ⟨L.out, 0, none⟩ = some v) (ds := [9]) #[false, false, false, false, false, false, false, false, false, false] (by kernel_rfl) rfl rfl ⟨cbox, cout⟩ (fun hHeld => ?_)
 refine pure_ (i := 4) (N := some 7) (v := ?_) (a' := ?_) #[false, false, false, false, true, false, false, false, false, false] rfl rfl (by kernel_rfl) (fun _ _ _ h => h) (Or.inl ⟨by rfl, ?_⟩) ?_ ?_
 rotate_left
 ·intro w'
  go_simp
  with_reducible rfl
 rotate_left
 ·simp only [Act.put, List.setIfInBounds_toArray, List.set_cons_zero, List.set_cons_succ, i64_w, i32_w]
  rfl
 refine pure_ (i := 5) (N := some 8) (v := ?_) (a' := ?_) #[false, false, false, false, true, true, false, false, false, false] rfl rfl (by kernel_rfl) (fun _ _ _ h => h) (Or.inl ⟨by rfl, ?_⟩) ?_ ?_
 rotate_left
 ·intro w'
  go_simp
  with_reducible rfl
 rotate_left
 ·simp only [Act.put, List.setIfInBounds_toArray, List.set_cons_zero, List.set_cons_succ, i64_w, i32_w]
  rfl
 refine take_ (i := 0) (N := some 3) (v := ?_) (a' := ?_) #[true, false, false, false, true, true, false, false, false, false] rfl rfl (by kernel_rfl) (fun _ _ _ h => h) (Or.inl ⟨by rfl, ?_⟩) hHeld ?_ ?_
 rotate_left
 ·rintro w' ⟨s0, s1⟩
  go_simp
  with_reducible rfl
 rotate_left
 ·simp only [Act.put, List.setIfInBounds_toArray, List.set_cons_zero, List.set_cons_succ, i64_w, i32_w]
  rfl
 refine take_ (i := 1) (N := some 4) (v := ?_) (a' := ?_) #[true, true, false, false, true, true, false, false, false, false] rfl rfl (by kernel_rfl) (fun _ _ _ h => h) (Or.inl ⟨by rfl, ?_⟩) hHeld ?_ ?_
 rotate_left
 ·rintro w' ⟨s0, s1⟩
  go_simp
  with_reducible rfl
 rotate_left
 ·simp only [Act.put, List.setIfInBounds_toArray, List.set_cons_zero, List.set_cons_succ, i64_w, i32_w]
  rfl
 refine pure_ (i := 2) (N := some 5) (v := ?_) (a' := ?_) #[true, true, true, false, true, true, false, false, false, false] rfl rfl (by kernel_rfl) (fun _ _ _ h => h) (Or.inl ⟨by rfl, ?_⟩) ?_ ?_
 rotate_left
 ·intro w'
  go_simp
  with_reducible rfl
 rotate_left
 ·simp only [Act.put, List.setIfInBounds_toArray, List.set_cons_zero, List.set_cons_succ, i64_w, i32_w]
  rfl
 refine take_ (i := 3) (N := some 6) (v := ?_) (a' := ?_) #[true, true, true, true, true, true, false, false, false, false] rfl rfl (by kernel_rfl) (fun _ _ _ h => h) (Or.inl ⟨by rfl, ?_⟩) hHeld ?_ ?_
 rotate_left
 ·rintro w' ⟨s0, s1⟩
  go_simp
  with_reducible rfl
 rotate_left
 ·simp only [Act.put, List.setIfInBounds_toArray, List.set_cons_zero, List.set_cons_succ, i64_w, i32_w]
  rfl
 refine one_ (i := 6) (N := some 9) #[true, true, true, true, true, true, true, false, false, false] rfl rfl (by kernel_rfl) (by decide) (fun K hK => ?_)
 refine value_ (w1 := ?_) (v := ?_) (by rfl) rfl ?_ ?_
 rotate_left 2
 ·go_simp
  constructor
  ·rfl
  ·rfl
 refine hK.out _ _ ⟨(held_alloc hHeld.1 _), (held_alloc hHeld.2 _)⟩ (fun hHeld => ?_)
 clear hK K
 refine norm_ (a' := ?_) ?_ ?_
 rotate_left
 ·show Act.put _ (some 9) _ = _
  simp only [Act.put, List.setIfInBounds_toArray, List.set_cons_zero, List.set_cons_succ, i64_w, i32_w]
  rfl
 refine one_ (i := 7) (N := some 10) #[true, true, true, true, true, true, true, true, false, false] rfl rfl (by kernel_rfl) (by decide) (fun K hK => ?_)
 refine app_step h HV.out HS.out HN.out (below_drew (Below.refl _ _)) ⟨1, 0, b, 0, [], []⟩ (Kd.R_nil _ _ _ _ _) (Kd.R_nil _ _ _ _ _) (by rfl) (.tmp 6) (.tmp 9) rfl rfl rfl ?_
 intro A1 c1 w1 HE k1 k2 k3
 refine hK.out _ _ ⟨k1, k2⟩ (fun hHeld => ?_)
 clear hK K
 refine norm_ (a' := ?_) ?_ ?_
 rotate_left
 ·show Act.put _ (some 10) _ = _
  simp only [Act.put, List.setIfInBounds_toArray, List.set_cons_zero, List.set_cons_succ, i64_w, i32_w]
  rfl
 refine pure_ (i := 8) (N := some 11) (v := ?_) (a' := ?_) #[true, true, true, true, true, true, true, true, true, false] rfl rfl (by kernel_rfl) (fun _ _ _ h => h) (Or.inl ⟨by rfl, ?_⟩) ?_ ?_
 rotate_left
 ·intro w'
  go_simp
  with_reducible rfl
 rotate_left
 ·simp only [Act.put, List.setIfInBounds_toArray, List.set_cons_zero, List.set_cons_succ, i64_w, i32_w]
  rfl
 refine last_ (i := 9) (N := none) #[true, true, true, true, true, true, true, true, true, true] rfl rfl (by kernel_rfl) (by decide) (fun K hK => ?_)
 refine skip_ (w1 := ?_) (by rfl) rfl ?_ ?_
 rotate_left
 ·go_simp
  rfl
 refine hK.out _ _ ?_
 clear hK K
 refine done_ (by kernel_rfl) ?_
 go_wp2_with fail
 all_goals
  go_end0
  exact ⟨rfl, HE.out⟩
set_option maxRecDepth 100000 in
set_option maxHeartbeats 8000000 in
/-- A control sequence. -/
theorem l3_calls (L : Loc) (r : RawSt) (evs : List Ev) (w0 w : World) (c : Int) (ps : List Int) (Ap : Option Addr) (cp : Nat) (h : Inv w0 w L r evs) (hn : evs.length < 1000000000000) (hp : Kd.C (Kd.int .i64) w.drew Ap ps.length ps) (hpc : ps.length ≤ cp) (hpl : ps.length < 1000000) :
  Calls Tryz.prog 127 #[.int .i64 c, .slice Ap ps.length cp, .pointer (some ⟨L.box, 0, none⟩)] w fun e w' => e = .returned (.tuple #[]) ∧ Frm L w w' ∧ Evs w' L (evs ++ [⟨2, 0, 0, c, ps, []⟩]) := by
 obtain ⟨v, hv, hS⟩ := h.evs
 have cbox : w.cell? ⟨L.box, 0, none⟩ = some (.pointer (some ⟨L.out, 0, none⟩)) := blk_cell h.raw.hbox 0
 have cout : w.cell? ⟨L.out, 0, none⟩ = some v := blk_cell hv 0
 have cal : ∀ o, (w.alloc o).cell? ⟨L.out, 0, none⟩ = some v := out_at_new hv (Below.refl _ _)
 have HN := Lib.hid hn
 have HV := Lib.hid hv
 have HS := Lib.hid hS
 clear hn hv hS
 have HP := Lib.hid hp
 have HPC := Lib.hid hpc
 have HPL := Lib.hid hpl
 clear hp hpc hpl
 go_enter Tryz.func127, Tryz.ntmps127
 go_wp2_with fail
 refine start_ (n := 12) (S := fun w' => w'.cell? ⟨L.box, 0, none⟩ = some (.pointer (some ⟨L.out, 0, none⟩)) ∧ w'.cell? ⟨L.out, 0, none⟩ = some v) (ds := [11]) #[false, false, false, false, false, false, false, false, false, false, false, false] (by kernel_rfl) rfl rfl ⟨cbox, cout⟩ (fun hHeld => ?_)
 refine pure_ (i := 4) (N := some 9) (v := ?_) (a' := ?_) #[false, false, false, false, true, false, false, false, false, false, false, false] rfl rfl (by kernel_rfl) (fun _ _ _ h => h) (Or.inl ⟨by rfl, ?_⟩) ?_ ?_
 rotate_left
 ·intro w'
  go_simp
  with_reducible rfl
 rotate_left
 ·simp only [Act.put, List.setIfInBounds_toArray, List.set_cons_zero, List.set_cons_succ, i64_w, i32_w]
  rfl
 refine pure_ (i := 5) (N := some 10) (v := ?_) (a' := ?_) #[false, false, false, false, true, true, false, false, false, false, false, false] rfl rfl (by kernel_rfl) (fun _ _ _ h => h) (Or.inl ⟨by rfl, ?_⟩) ?_ ?_
 rotate_left
 ·intro w'
  go_simp
  with_reducible rfl
 rotate_left
 ·simp only [Act.put, List.setIfInBounds_toArray, List.set_cons_zero, List.set_cons_succ, i64_w, i32_w]
  rfl
 refine take_ (i := 0) (N := some 5) (v := ?_) (a' := ?_) #[true, false, false, false, true, true, false, false, false, false, false, false] rfl rfl (by kernel_rfl) (fun _ _ _ h => h) (Or.inl ⟨by rfl, ?_⟩) hHeld ?_ ?_
 rotate_left
 ·rintro w' ⟨s0, s1⟩
  go_simp
  with_reducible rfl
 rotate_left
 ·simp only [Act.put, List.setIfInBounds_toArray, List.set_cons_zero, List.set_cons_succ, i64_w, i32_w]
  rfl
 refine take_ (i := 1) (N := some 6) (v := ?_) (a' := ?_) #[true, true, false, false, true, true, false, false, false, false, false, false] rfl rfl (by kernel_rfl) (fun _ _ _ h => h) (Or.inl ⟨by rfl, ?_⟩) hHeld ?_ ?_
 rotate_left
 ·rintro w' ⟨s0, s1⟩
  go_simp
  with_reducible rfl
 rotate_left
 ·simp only [Act.put, List.setIfInBounds_toArray, List.set_cons_zero, List.set_cons_succ, i64_w, i32_w]
  rfl
 refine pure_ (i := 2) (N := some 7) (v := ?_) (a' := ?_) #[true, true, true, false, true, true, false, false, false, false, false, false] rfl rfl (by kernel_rfl) (fun _ _ _ h => h) (Or.inl ⟨by rfl, ?_⟩) ?_ ?_
 rotate_left
 ·intro w'
  go_simp
  with_reducible rfl
 rotate_left
 ·simp only [Act.put, List.setIfInBounds_toArray, List.set_cons_zero, List.set_cons_succ, i64_w, i32_w]
  rfl
 refine take_ (i := 3) (N := some 8) (v := ?_) (a' := ?_) #[true, true, true, true, true, true, false, false, false, false, false, false] rfl rfl (by kernel_rfl) (fun _ _ _ h => h) (Or.inl ⟨by rfl, ?_⟩) hHeld ?_ ?_
 rotate_left
 ·rintro w' ⟨s0, s1⟩
  go_simp
  with_reducible rfl
 rotate_left
 ·simp only [Act.put, List.setIfInBounds_toArray, List.set_cons_zero, List.set_cons_succ, i64_w, i32_w]
  rfl
 refine one_ (i := 6) (N := some 11) #[true, true, true, true, true, true, true, false, false, false, false, false] rfl rfl (by kernel_rfl) (by decide) (fun K hK => ?_)
 refine goes_ Tryz.func128 (by kernel_rfl) rfl #[.slice Ap ps.length cp] (by rfl) rfl rfl (by simp only [List.map_toArray, List.map_cons, List.map_nil]; rfl) ?_
 with_reducible refine (ints_calls _ _ _ _ HP.out HPC.out HPL.out).mono ?_
 rintro e wp ⟨pv, rfl, hp, hbp⟩
 refine ⟨_, rfl, ?_⟩
 have hbp' : Below w.heap.size w wp := Below.trans (below_drew (Below.refl _ _)) hbp
 obtain ⟨Ap, cp, rfl⟩ := Kd.R_slice hp
 have HBP := Lib.hid hbp'
 have HPV := Lib.hid hp
 clear hp hbp hbp'
 refine hK.out _ _ ⟨(box_at h HBP.out), (out_at HV.out HBP.out)⟩ (fun hHeld => ?_)
 clear hK K
 refine norm_ (a' := ?_) ?_ ?_
 rotate_left
 ·show Act.put _ (some 11) _ = _
  simp only [Act.put, List.setIfInBounds_toArray, List.set_cons_zero, List.set_cons_succ, i64_w, i32_w]
  rfl
 refine pure_ (i := 7) (N := some 12) (v := ?_) (a' := ?_) #[true, true, true, true, true, true, true, true, false, false, false, false] rfl rfl (by kernel_rfl) (fun _ _ _ h => h) (Or.inl ⟨by rfl, ?_⟩) ?_ ?_
 rotate_left
 ·intro w'
  go_simp
  with_reducible rfl
 rotate_left
 ·simp only [Act.put, List.setIfInBounds_toArray, List.set_cons_zero, List.set_cons_succ, i64_w, i32_w]
  rfl
 refine one_ (i := 8) (N := some 13) #[true, true, true, true, true, true, true, true, true, false, false, false] rfl rfl (by kernel_rfl) (by decide) (fun K hK => ?_)
 refine value_ (w1 := ?_) (v := ?_) (by rfl) rfl ?_ ?_
 rotate_left 2
 ·go_simp
  constructor
  ·rfl
  ·rfl
 refine hK.out _ _ ⟨(held_alloc hHeld.1 _), (held_alloc hHeld.2 _)⟩ (fun hHeld => ?_)
 clear hK K
 refine norm_ (a' := ?_) ?_ ?_
 rotate_left
 ·show Act.put _ (some 13) _ = _
  simp only [Act.put, List.setIfInBounds_toArray, List.set_cons_zero, List.set_cons_succ, i64_w, i32_w]
  rfl
 refine one_ (i := 9) (N := some 14) #[true, true, true, true, true, true, true, true, true, true, false, false] rfl rfl (by kernel_rfl) (by decide) (fun K hK => ?_)
 refine app_step h HV.out HS.out HN.out HBP.out ⟨2, 0, 0, c, ps, []⟩ HPV.out (Kd.R_nil _ _ _ _ _) (by rfl) (.tmp 8) (.tmp 13) rfl rfl rfl ?_
 intro A1 c1 w1 HE k1 k2 k3
 refine hK.out _ _ ⟨k1, k2⟩ (fun hHeld => ?_)
 clear hK K
 refine norm_ (a' := ?_) ?_ ?_
 rotate_left
 ·show Act.put _ (some 14) _ = _
  simp only [Act.put, List.setIfInBounds_toArray, List.set_cons_zero, List.set_cons_succ, i64_w, i32_w]
  rfl
 refine pure_ (i := 10) (N := some 15) (v := ?_) (a' := ?_) #[true, true, true, true, true, true, true, true, true, true, true, false] rfl rfl (by kernel_rfl) (fun _ _ _ h => h) (Or.inl ⟨by rfl, ?_⟩) ?_ ?_
 rotate_left
 ·intro w'
  go_simp
  with_reducible rfl
 rotate_left
 ·simp only [Act.put, List.setIfInBounds_toArray, List.set_cons_zero, List.set_cons_succ, i64_w, i32_w]
  rfl
 refine last_ (i := 11) (N := none) #[true, true, true, true, true, true, true, true, true, true, true, true] rfl rfl (by kernel_rfl) (by decide) (fun K hK => ?_)
 refine skip_ (w1 := ?_) (by rfl) rfl ?_ ?_
 rotate_left
 ·go_simp
  rfl
 refine hK.out _ _ ?_
 clear hK K
 refine done_ (by kernel_rfl) ?_
 go_wp2_with fail
 all_goals
  go_end0
  exact ⟨rfl, HE.out⟩
set_option maxRecDepth 100000 in
set_option maxHeartbeats 8000000 in
/-- Escape. -/
theorem l4_calls (L : Loc) (r : RawSt) (evs : List Ev) (w0 w : World) (c : Int) (h : Inv w0 w L r evs) (hn : evs.length < 1000000000000) :
  Calls Tryz.prog 129 #[.int .i64 c, .pointer (some ⟨L.box, 0, none⟩)] w fun e w' => e = .returned (.tuple #[]) ∧ Frm L w w' ∧ Evs w' L (evs ++ [⟨3, 0, 0, c, [], []⟩]) := by
 obtain ⟨v, hv, hS⟩ := h.evs
 have cbox : w.cell? ⟨L.box, 0, none⟩ = some (.pointer (some ⟨L.out, 0, none⟩)) := blk_cell h.raw.hbox 0
 have cout : w.cell? ⟨L.out, 0, none⟩ = some v := blk_cell hv 0
 have cal : ∀ o, (w.alloc o).cell? ⟨L.out, 0, none⟩ = some v := out_at_new hv (Below.refl _ _)
 have HN := Lib.hid hn
 have HV := Lib.hid hv
 have HS := Lib.hid hS
 clear hn hv hS
 go_enter Tryz.func129, Tryz.ntmps129
 go_wp2_with fail
 refine start_ (n := 10) (S := fun w' => w'.cell? ⟨L.box, 0, none⟩ = some (.pointer (some ⟨L.out, 0, none⟩)) ∧ w'.cell? ⟨L.out, 0, none⟩ = some v) (ds := [9]) #[false, false, false, false, false, false, false, false, false, false] (by kernel_rfl) rfl rfl ⟨cbox, cout⟩ (fun hHeld => ?_)
 refine pure_ (i := 4) (N := some 7) (v := ?_) (a' := ?_) #[false, false, false, false, true, false, false, false, false, false] rfl rfl (by kernel_rfl) (fun _ _ _ h => h) (Or.inl ⟨by rfl, ?_⟩) ?_ ?_
 rotate_left
 ·intro w'
  go_simp
  with_reducible rfl
 rotate_left
 ·simp only [Act.put, List.setIfInBounds_toArray, List.set_cons_zero, List.set_cons_succ, i64_w, i32_w]
  rfl
 refine pure_ (i := 5) (N := some 8) (v := ?_) (a' := ?_) #[false, false, false, false, true, true, false, false, false, false] rfl rfl (by kernel_rfl) (fun _ _ _ h => h) (Or.inl ⟨by rfl, ?_⟩) ?_ ?_
 rotate_left
 ·intro w'
  go_simp
  with_reducible rfl
 rotate_left
 ·simp only [Act.put, List.setIfInBounds_toArray, List.set_cons_zero, List.set_cons_succ, i64_w, i32_w]
  rfl
 refine take_ (i := 0) (N := some 3) (v := ?_) (a' := ?_) #[true, false, false, false, true, true, false, false, false, false] rfl rfl (by kernel_rfl) (fun _ _ _ h => h) (Or.inl ⟨by rfl, ?_⟩) hHeld ?_ ?_
 rotate_left
 ·rintro w' ⟨s0, s1⟩
  go_simp
  with_reducible rfl
 rotate_left
 ·simp only [Act.put, List.setIfInBounds_toArray, List.set_cons_zero, List.set_cons_succ, i64_w, i32_w]
  rfl
 refine take_ (i := 1) (N := some 4) (v := ?_) (a' := ?_) #[true, true, false, false, true, true, false, false, false, false] rfl rfl (by kernel_rfl) (fun _ _ _ h => h) (Or.inl ⟨by rfl, ?_⟩) hHeld ?_ ?_
 rotate_left
 ·rintro w' ⟨s0, s1⟩
  go_simp
  with_reducible rfl
 rotate_left
 ·simp only [Act.put, List.setIfInBounds_toArray, List.set_cons_zero, List.set_cons_succ, i64_w, i32_w]
  rfl
 refine pure_ (i := 2) (N := some 5) (v := ?_) (a' := ?_) #[true, true, true, false, true, true, false, false, false, false] rfl rfl (by kernel_rfl) (fun _ _ _ h => h) (Or.inl ⟨by rfl, ?_⟩) ?_ ?_
 rotate_left
 ·intro w'
  go_simp
  with_reducible rfl
 rotate_left
 ·simp only [Act.put, List.setIfInBounds_toArray, List.set_cons_zero, List.set_cons_succ, i64_w, i32_w]
  rfl
 refine take_ (i := 3) (N := some 6) (v := ?_) (a' := ?_) #[true, true, true, true, true, true, false, false, false, false] rfl rfl (by kernel_rfl) (fun _ _ _ h => h) (Or.inl ⟨by rfl, ?_⟩) hHeld ?_ ?_
 rotate_left
 ·rintro w' ⟨s0, s1⟩
  go_simp
  with_reducible rfl
 rotate_left
 ·simp only [Act.put, List.setIfInBounds_toArray, List.set_cons_zero, List.set_cons_succ, i64_w, i32_w]
  rfl
 refine one_ (i := 6) (N := some 9) #[true, true, true, true, true, true, true, false, false, false] rfl rfl (by kernel_rfl) (by decide) (fun K hK => ?_)
 refine value_ (w1 := ?_) (v := ?_) (by rfl) rfl ?_ ?_
 rotate_left 2
 ·go_simp
  constructor
  ·rfl
  ·rfl
 refine hK.out _ _ ⟨(held_alloc hHeld.1 _), (held_alloc hHeld.2 _)⟩ (fun hHeld => ?_)
 clear hK K
 refine norm_ (a' := ?_) ?_ ?_
 rotate_left
 ·show Act.put _ (some 9) _ = _
  simp only [Act.put, List.setIfInBounds_toArray, List.set_cons_zero, List.set_cons_succ, i64_w, i32_w]
  rfl
 refine one_ (i := 7) (N := some 10) #[true, true, true, true, true, true, true, true, false, false] rfl rfl (by kernel_rfl) (by decide) (fun K hK => ?_)
 refine app_step h HV.out HS.out HN.out (below_drew (Below.refl _ _)) ⟨3, 0, 0, c, [], []⟩ (Kd.R_nil _ _ _ _ _) (Kd.R_nil _ _ _ _ _) (by rfl) (.tmp 6) (.tmp 9) rfl rfl rfl ?_
 intro A1 c1 w1 HE k1 k2 k3
 refine hK.out _ _ ⟨k1, k2⟩ (fun hHeld => ?_)
 clear hK K
 refine norm_ (a' := ?_) ?_ ?_
 rotate_left
 ·show Act.put _ (some 10) _ = _
  simp only [Act.put, List.setIfInBounds_toArray, List.set_cons_zero, List.set_cons_succ, i64_w, i32_w]
  rfl
 refine pure_ (i := 8) (N := some 11) (v := ?_) (a' := ?_) #[true, true, true, true, true, true, true, true, true, false] rfl rfl (by kernel_rfl) (fun _ _ _ h => h) (Or.inl ⟨by rfl, ?_⟩) ?_ ?_
 rotate_left
 ·intro w'
  go_simp
  with_reducible rfl
 rotate_left
 ·simp only [Act.put, List.setIfInBounds_toArray, List.set_cons_zero, List.set_cons_succ, i64_w, i32_w]
  rfl
 refine last_ (i := 9) (N := none) #[true, true, true, true, true, true, true, true, true, true] rfl rfl (by kernel_rfl) (by decide) (fun K hK => ?_)
 refine skip_ (w1 := ?_) (by rfl) rfl ?_ ?_
 rotate_left
 ·go_simp
  rfl
 refine hK.out _ _ ?_
 clear hK K
 refine done_ (by kernel_rfl) ?_
 go_wp2_with fail
 all_goals
  go_end0
  exact ⟨rfl, HE.out⟩
set_option maxRecDepth 100000 in
set_option maxHeartbeats 8000000 in
/-- A device's control string. -/
theorem l5_calls (L : Loc) (r : RawSt) (evs : List Ev) (w0 w : World) (c : Int) (ps : List Int) (Ap : Option Addr) (cp : Nat) (ds : List Int) (Ad : Option Addr) (cd : Nat) (h : Inv w0 w L r evs) (hn : evs.length < 1000000000000) (hp : Kd.C (Kd.int .i64) w.drew Ap ps.length ps) (hpc : ps.length ≤ cp) (hpl : ps.length < 1000000) (hd : ∀ W, Below w.heap.size w W → Kd.C (Kd.int .u8) W Ad ds.length ds) (hdc : ds.length ≤ cd) (hdl : ds.length ≤ 140737488355328) :
  Calls Tryz.prog 130 #[.int .i64 c, .slice Ap ps.length cp, .slice Ad ds.length cd, .pointer (some ⟨L.box, 0, none⟩)] w fun e w' => e = .returned (.tuple #[]) ∧ Frm L w w' ∧ Evs w' L (evs ++ [⟨4, 0, 0, c, ps, ds⟩]) := by
 obtain ⟨v, hv, hS⟩ := h.evs
 have cbox : w.cell? ⟨L.box, 0, none⟩ = some (.pointer (some ⟨L.out, 0, none⟩)) := blk_cell h.raw.hbox 0
 have cout : w.cell? ⟨L.out, 0, none⟩ = some v := blk_cell hv 0
 have cal : ∀ o, (w.alloc o).cell? ⟨L.out, 0, none⟩ = some v := out_at_new hv (Below.refl _ _)
 have HN := Lib.hid hn
 have HV := Lib.hid hv
 have HS := Lib.hid hS
 clear hn hv hS
 have HP := Lib.hid hp
 have HPC := Lib.hid hpc
 have HPL := Lib.hid hpl
 clear hp hpc hpl
 have HD := Lib.hid hd
 have HDC := Lib.hid hdc
 have HDL := Lib.hid hdl
 clear hd hdc hdl
 go_enter Tryz.func130, Tryz.ntmps130
 go_wp2_with fail
 refine start_ (n := 14) (S := fun w' => w'.cell? ⟨L.box, 0, none⟩ = some (.pointer (some ⟨L.out, 0, none⟩)) ∧ w'.cell? ⟨L.out, 0, none⟩ = some v) (ds := [13]) #[false, false, false, false, false, false, false, false, false, false, false, false, false, false] (by kernel_rfl) rfl rfl ⟨cbox, cout⟩ (fun hHeld => ?_)
 refine pure_ (i := 4) (N := some 11) (v := ?_) (a' := ?_) #[false, false, false, false, true, false, false, false, false, false, false, false, false, false] rfl rfl (by kernel_rfl) (fun _ _ _ h => h) (Or.inl ⟨by rfl, ?_⟩) ?_ ?_
 rotate_left
 ·intro w'
  go_simp
  with_reducible rfl
 rotate_left
 ·simp only [Act.put, List.setIfInBounds_toArray, List.set_cons_zero, List.set_cons_succ, i64_w, i32_w]
  rfl
 refine pure_ (i := 5) (N := some 12) (v := ?_) (a' := ?_) #[false, false, false, false, true, true, false, false, false, false, false, false, false, false] rfl rfl (by kernel_rfl) (fun _ _ _ h => h) (Or.inl ⟨by rfl, ?_⟩) ?_ ?_
 rotate_left
 ·intro w'
  go_simp
  with_reducible rfl
 rotate_left
 ·simp only [Act.put, List.setIfInBounds_toArray, List.set_cons_zero, List.set_cons_succ, i64_w, i32_w]
  rfl
 refine pure_ (i := 7) (N := some 14) (v := ?_) (a' := ?_) #[false, false, false, false, true, true, false, true, false, false, false, false, false, false] rfl rfl (by kernel_rfl) (fun _ _ _ h => h) (Or.inl ⟨by rfl, ?_⟩) ?_ ?_
 rotate_left
 ·intro w'
  go_simp
  with_reducible rfl
 rotate_left
 ·simp only [Act.put, List.setIfInBounds_toArray, List.set_cons_zero, List.set_cons_succ, i64_w, i32_w]
  rfl
 refine take_ (i := 0) (N := some 7) (v := ?_) (a' := ?_) #[true, false, false, false, true, true, false, true, false, false, false, false, false, false] rfl rfl (by kernel_rfl) (fun _ _ _ h => h) (Or.inl ⟨by rfl, ?_⟩) hHeld ?_ ?_
 rotate_left
 ·rintro w' ⟨s0, s1⟩
  go_simp
  with_reducible rfl
 rotate_left
 ·simp only [Act.put, List.setIfInBounds_toArray, List.set_cons_zero, List.set_cons_succ, i64_w, i32_w]
  rfl
 refine take_ (i := 1) (N := some 8) (v := ?_) (a' := ?_) #[true, true, false, false, true, true, false, true, false, false, false, false, false, false] rfl rfl (by kernel_rfl) (fun _ _ _ h => h) (Or.inl ⟨by rfl, ?_⟩) hHeld ?_ ?_
 rotate_left
 ·rintro w' ⟨s0, s1⟩
  go_simp
  with_reducible rfl
 rotate_left
 ·simp only [Act.put, List.setIfInBounds_toArray, List.set_cons_zero, List.set_cons_succ, i64_w, i32_w]
  rfl
 refine pure_ (i := 2) (N := some 9) (v := ?_) (a' := ?_) #[true, true, true, false, true, true, false, true, false, false, false, false, false, false] rfl rfl (by kernel_rfl) (fun _ _ _ h => h) (Or.inl ⟨by rfl, ?_⟩) ?_ ?_
 rotate_left
 ·intro w'
  go_simp
  with_reducible rfl
 rotate_left
 ·simp only [Act.put, List.setIfInBounds_toArray, List.set_cons_zero, List.set_cons_succ, i64_w, i32_w]
  rfl
 refine take_ (i := 3) (N := some 10) (v := ?_) (a' := ?_) #[true, true, true, true, true, true, false, true, false, false, false, false, false, false] rfl rfl (by kernel_rfl) (fun _ _ _ h => h) (Or.inl ⟨by rfl, ?_⟩) hHeld ?_ ?_
 rotate_left
 ·rintro w' ⟨s0, s1⟩
  go_simp
  with_reducible rfl
 rotate_left
 ·simp only [Act.put, List.setIfInBounds_toArray, List.set_cons_zero, List.set_cons_succ, i64_w, i32_w]
  rfl
 refine one_ (i := 6) (N := some 13) #[true, true, true, true, true, true, true, true, false, false, false, false, false, false] rfl rfl (by kernel_rfl) (by decide) (fun K hK => ?_)
 refine goes_ Tryz.func128 (by kernel_rfl) rfl #[.slice Ap ps.length cp] (by rfl) rfl rfl (by simp only [List.map_toArray, List.map_cons, List.map_nil]; rfl) ?_
 with_reducible refine (ints_calls _ _ _ _ HP.out HPC.out HPL.out).mono ?_
 rintro e wp ⟨pv, rfl, hp, hbp⟩
 refine ⟨_, rfl, ?_⟩
 have hbp' : Below w.heap.size w wp := Below.trans (below_drew (Below.refl _ _)) hbp
 obtain ⟨Ap, cp, rfl⟩ := Kd.R_slice hp
 have HBP := Lib.hid hbp'
 have HPV := Lib.hid hp
 clear hp hbp hbp'
 refine hK.out _ _ ⟨(box_at h HBP.out), (out_at HV.out HBP.out)⟩ (fun hHeld => ?_)
 clear hK K
 refine norm_ (a' := ?_) ?_ ?_
 rotate_left
 ·show Act.put _ (some 13) _ = _
  simp only [Act.put, List.setIfInBounds_toArray, List.set_cons_zero, List.set_cons_succ, i64_w, i32_w]
  rfl
 refine one_ (i := 8) (N := some 15) #[true, true, true, true, true, true, true, true, true, false, false, false, false, false] rfl rfl (by kernel_rfl) (by decide) (fun K hK => ?_)
 refine goes_ Tryz.func61 (by kernel_rfl) rfl #[.slice Ad ds.length cd] (by rfl) rfl rfl (by simp only [List.map_toArray, List.map_cons, List.map_nil]; rfl) ?_
 with_reducible refine (own_calls _ _ _ _ (HD.out _ HBP.out) HDC.out HDL.out).mono ?_
 rintro e wd ⟨dv, rfl, hd, hbd⟩
 refine ⟨_, rfl, ?_⟩
 have hbd' : Below w.heap.size w wd := Below.trans HBP.out (hbd.mono HBP.out.size)
 obtain ⟨Ad, cd, rfl⟩ := Kd.R_slice hd
 have HBD := Lib.hid hbd'
 have HDV := Lib.hid (Kd.R_lower hd HBP.out.size)
 have HPV2 := Lib.hid (Kd.R_below HPV.out hbd)
 clear hd hbd hbd'
 refine hK.out _ _ ⟨(box_at h HBD.out), (out_at HV.out HBD.out)⟩ (fun hHeld => ?_)
 clear hK K
 refine norm_ (a' := ?_) ?_ ?_
 rotate_left
 ·show Act.put _ (some 15) _ = _
  simp only [Act.put, List.setIfInBounds_toArray, List.set_cons_zero, List.set_cons_succ, i64_w, i32_w]
  rfl
 refine pure_ (i := 9) (N := some 16) (v := ?_) (a' := ?_) #[true, true, true, true, true, true, true, true, true, true, false, false, false, false] rfl rfl (by kernel_rfl) (fun _ _ _ h => h) (Or.inl ⟨by rfl, ?_⟩) ?_ ?_
 rotate_left
 ·intro w'
  go_simp
  with_reducible rfl
 rotate_left
 ·simp only [Act.put, List.setIfInBounds_toArray, List.set_cons_zero, List.set_cons_succ, i64_w, i32_w]
  rfl
 refine one_ (i := 10) (N := some 17) #[true, true, true, true, true, true, true, true, true, true, true, false, false, false] rfl rfl (by kernel_rfl) (by decide) (fun K hK => ?_)
 refine value_ (w1 := ?_) (v := ?_) (by rfl) rfl ?_ ?_
 rotate_left 2
 ·go_simp
  constructor
  ·rfl
  ·rfl
 refine hK.out _ _ ⟨(held_alloc hHeld.1 _), (held_alloc hHeld.2 _)⟩ (fun hHeld => ?_)
 clear hK K
 refine norm_ (a' := ?_) ?_ ?_
 rotate_left
 ·show Act.put _ (some 17) _ = _
  simp only [Act.put, List.setIfInBounds_toArray, List.set_cons_zero, List.set_cons_succ, i64_w, i32_w]
  rfl
 refine one_ (i := 11) (N := some 18) #[true, true, true, true, true, true, true, true, true, true, true, true, false, false] rfl rfl (by kernel_rfl) (by decide) (fun K hK => ?_)
 refine app_step h HV.out HS.out HN.out HBD.out ⟨4, 0, 0, c, ps, ds⟩ HPV2.out HDV.out (by rfl) (.tmp 10) (.tmp 17) rfl rfl rfl ?_
 intro A1 c1 w1 HE k1 k2 k3
 refine hK.out _ _ ⟨k1, k2⟩ (fun hHeld => ?_)
 clear hK K
 refine norm_ (a' := ?_) ?_ ?_
 rotate_left
 ·show Act.put _ (some 18) _ = _
  simp only [Act.put, List.setIfInBounds_toArray, List.set_cons_zero, List.set_cons_succ, i64_w, i32_w]
  rfl
 refine pure_ (i := 12) (N := some 19) (v := ?_) (a' := ?_) #[true, true, true, true, true, true, true, true, true, true, true, true, true, false] rfl rfl (by kernel_rfl) (fun _ _ _ h => h) (Or.inl ⟨by rfl, ?_⟩) ?_ ?_
 rotate_left
 ·intro w'
  go_simp
  with_reducible rfl
 rotate_left
 ·simp only [Act.put, List.setIfInBounds_toArray, List.set_cons_zero, List.set_cons_succ, i64_w, i32_w]
  rfl
 refine last_ (i := 13) (N := none) #[true, true, true, true, true, true, true, true, true, true, true, true, true, true] rfl rfl (by kernel_rfl) (by decide) (fun K hK => ?_)
 refine skip_ (w1 := ?_) (by rfl) rfl ?_ ?_
 rotate_left
 ·go_simp
  rfl
 refine hK.out _ _ ?_
 clear hK K
 refine done_ (by kernel_rfl) ?_
 go_wp2_with fail
 all_goals
  go_end0
  exact ⟨rfl, HE.out⟩
set_option maxRecDepth 100000 in
set_option maxHeartbeats 8000000 in
/-- A system command. -/
theorem l6_calls (L : Loc) (r : RawSt) (evs : List Ev) (w0 w : World) (c : Int) (ds : List Int) (Ad : Option Addr) (cd : Nat) (h : Inv w0 w L r evs) (hn : evs.length < 1000000000000) (hd : ∀ W, Below w.heap.size w W → Kd.C (Kd.int .u8) W Ad ds.length ds) (hdc : ds.length ≤ cd) (hdl : ds.length ≤ 140737488355328) :
  Calls Tryz.prog 131 #[.int .i64 c, .slice Ad ds.length cd, .pointer (some ⟨L.box, 0, none⟩)] w fun e w' => e = .returned (.tuple #[]) ∧ Frm L w w' ∧ Evs w' L (evs ++ [⟨5, 0, 0, c, [], ds⟩]) := by
 obtain ⟨v, hv, hS⟩ := h.evs
 have cbox : w.cell? ⟨L.box, 0, none⟩ = some (.pointer (some ⟨L.out, 0, none⟩)) := blk_cell h.raw.hbox 0
 have cout : w.cell? ⟨L.out, 0, none⟩ = some v := blk_cell hv 0
 have cal : ∀ o, (w.alloc o).cell? ⟨L.out, 0, none⟩ = some v := out_at_new hv (Below.refl _ _)
 have HN := Lib.hid hn
 have HV := Lib.hid hv
 have HS := Lib.hid hS
 clear hn hv hS
 have HD := Lib.hid hd
 have HDC := Lib.hid hdc
 have HDL := Lib.hid hdl
 clear hd hdc hdl
 go_enter Tryz.func131, Tryz.ntmps131
 go_wp2_with fail
 refine start_ (n := 12) (S := fun w' => w'.cell? ⟨L.box, 0, none⟩ = some (.pointer (some ⟨L.out, 0, none⟩)) ∧ w'.cell? ⟨L.out, 0, none⟩ = some v) (ds := [11]) #[false, false, false, false, false, false, false, false, false, false, false, false] (by kernel_rfl) rfl rfl ⟨cbox, cout⟩ (fun hHeld => ?_)
 refine pure_ (i := 4) (N := some 9) (v := ?_) (a' := ?_) #[false, false, false, false, true, false, false, false, false, false, false, false] rfl rfl (by kernel_rfl) (fun _ _ _ h => h) (Or.inl ⟨by rfl, ?_⟩) ?_ ?_
 rotate_left
 ·intro w'
  go_simp
  with_reducible rfl
 rotate_left
 ·simp only [Act.put, List.setIfInBounds_toArray, List.set_cons_zero, List.set_cons_succ, i64_w, i32_w]
  rfl
 refine pure_ (i := 5) (N := some 10) (v := ?_) (a' := ?_) #[false, false, false, false, true, true, false, false, false, false, false, false] rfl rfl (by kernel_rfl) (fun _ _ _ h => h) (Or.inl ⟨by rfl, ?_⟩) ?_ ?_
 rotate_left
 ·intro w'
  go_simp
  with_reducible rfl
 rotate_left
 ·simp only [Act.put, List.setIfInBounds_toArray, List.set_cons_zero, List.set_cons_succ, i64_w, i32_w]
  rfl
 refine take_ (i := 0) (N := some 5) (v := ?_) (a' := ?_) #[true, false, false, false, true, true, false, false, false, false, false, false] rfl rfl (by kernel_rfl) (fun _ _ _ h => h) (Or.inl ⟨by rfl, ?_⟩) hHeld ?_ ?_
 rotate_left
 ·rintro w' ⟨s0, s1⟩
  go_simp
  with_reducible rfl
 rotate_left
 ·simp only [Act.put, List.setIfInBounds_toArray, List.set_cons_zero, List.set_cons_succ, i64_w, i32_w]
  rfl
 refine take_ (i := 1) (N := some 6) (v := ?_) (a' := ?_) #[true, true, false, false, true, true, false, false, false, false, false, false] rfl rfl (by kernel_rfl) (fun _ _ _ h => h) (Or.inl ⟨by rfl, ?_⟩) hHeld ?_ ?_
 rotate_left
 ·rintro w' ⟨s0, s1⟩
  go_simp
  with_reducible rfl
 rotate_left
 ·simp only [Act.put, List.setIfInBounds_toArray, List.set_cons_zero, List.set_cons_succ, i64_w, i32_w]
  rfl
 refine pure_ (i := 2) (N := some 7) (v := ?_) (a' := ?_) #[true, true, true, false, true, true, false, false, false, false, false, false] rfl rfl (by kernel_rfl) (fun _ _ _ h => h) (Or.inl ⟨by rfl, ?_⟩) ?_ ?_
 rotate_left
 ·intro w'
  go_simp
  with_reducible rfl
 rotate_left
 ·simp only [Act.put, List.setIfInBounds_toArray, List.set_cons_zero, List.set_cons_succ, i64_w, i32_w]
  rfl
 refine take_ (i := 3) (N := some 8) (v := ?_) (a' := ?_) #[true, true, true, true, true, true, false, false, false, false, false, false] rfl rfl (by kernel_rfl) (fun _ _ _ h => h) (Or.inl ⟨by rfl, ?_⟩) hHeld ?_ ?_
 rotate_left
 ·rintro w' ⟨s0, s1⟩
  go_simp
  with_reducible rfl
 rotate_left
 ·simp only [Act.put, List.setIfInBounds_toArray, List.set_cons_zero, List.set_cons_succ, i64_w, i32_w]
  rfl
 refine one_ (i := 6) (N := some 11) #[true, true, true, true, true, true, true, false, false, false, false, false] rfl rfl (by kernel_rfl) (by decide) (fun K hK => ?_)
 refine goes_ Tryz.func61 (by kernel_rfl) rfl #[.slice Ad ds.length cd] (by rfl) rfl rfl (by simp only [List.map_toArray, List.map_cons, List.map_nil]; rfl) ?_
 with_reducible refine (own_calls _ _ _ _ (HD.out _ (below_drew (Below.refl _ _))) HDC.out HDL.out).mono ?_
 rintro e wd ⟨dv, rfl, hd, hbd⟩
 refine ⟨_, rfl, ?_⟩
 have hbd' : Below w.heap.size w wd := Below.trans (below_drew (Below.refl _ _)) hbd
 obtain ⟨Ad, cd, rfl⟩ := Kd.R_slice hd
 have HBD := Lib.hid hbd'
 have HDV := Lib.hid (Kd.R_lower hd (Nat.le_refl _))
 clear hd hbd hbd'
 refine hK.out _ _ ⟨(box_at h HBD.out), (out_at HV.out HBD.out)⟩ (fun hHeld => ?_)
 clear hK K
 refine norm_ (a' := ?_) ?_ ?_
 rotate_left
 ·show Act.put _ (some 11) _ = _
  simp only [Act.put, List.setIfInBounds_toArray, List.set_cons_zero, List.set_cons_succ, i64_w, i32_w]
  rfl
 refine pure_ (i := 7) (N := some 12) (v := ?_) (a' := ?_) #[true, true, true, true, true, true, true, true, false, false, false, false] rfl rfl (by kernel_rfl) (fun _ _ _ h => h) (Or.inl ⟨by rfl, ?_⟩) ?_ ?_
 rotate_left
 ·intro w'
  go_simp
  with_reducible rfl
 rotate_left
 ·simp only [Act.put, List.setIfInBounds_toArray, List.set_cons_zero, List.set_cons_succ, i64_w, i32_w]
  rfl
 refine one_ (i := 8) (N := some 13) #[true, true, true, true, true, true, true, true, true, false, false, false] rfl rfl (by kernel_rfl) (by decide) (fun K hK => ?_)
 refine value_ (w1 := ?_) (v := ?_) (by rfl) rfl ?_ ?_
 rotate_left 2
 ·go_simp
  constructor
  ·rfl
  ·rfl
 refine hK.out _ _ ⟨(held_alloc hHeld.1 _), (held_alloc hHeld.2 _)⟩ (fun hHeld => ?_)
 clear hK K
 refine norm_ (a' := ?_) ?_ ?_
 rotate_left
 ·show Act.put _ (some 13) _ = _
  simp only [Act.put, List.setIfInBounds_toArray, List.set_cons_zero, List.set_cons_succ, i64_w, i32_w]
  rfl
 refine one_ (i := 9) (N := some 14) #[true, true, true, true, true, true, true, true, true, true, false, false] rfl rfl (by kernel_rfl) (by decide) (fun K hK => ?_)
 refine app_step h HV.out HS.out HN.out HBD.out ⟨5, 0, 0, c, [], ds⟩ (Kd.R_nil _ _ _ _ _) HDV.out (by rfl) (.tmp 8) (.tmp 13) rfl rfl rfl ?_
 intro A1 c1 w1 HE k1 k2 k3
 refine hK.out _ _ ⟨k1, k2⟩ (fun hHeld => ?_)
 clear hK K
 refine norm_ (a' := ?_) ?_ ?_
 rotate_left
 ·show Act.put _ (some 14) _ = _
  simp only [Act.put, List.setIfInBounds_toArray, List.set_cons_zero, List.set_cons_succ, i64_w, i32_w]
  rfl
 refine pure_ (i := 10) (N := some 15) (v := ?_) (a' := ?_) #[true, true, true, true, true, true, true, true, true, true, true, false] rfl rfl (by kernel_rfl) (fun _ _ _ h => h) (Or.inl ⟨by rfl, ?_⟩) ?_ ?_
 rotate_left
 ·intro w'
  go_simp
  with_reducible rfl
 rotate_left
 ·simp only [Act.put, List.setIfInBounds_toArray, List.set_cons_zero, List.set_cons_succ, i64_w, i32_w]
  rfl
 refine last_ (i := 11) (N := none) #[true, true, true, true, true, true, true, true, true, true, true, true] rfl rfl (by kernel_rfl) (by decide) (fun K hK => ?_)
 refine skip_ (w1 := ?_) (by rfl) rfl ?_ ?_
 rotate_left
 ·go_simp
  rfl
 refine hK.out _ _ ?_
 clear hK K
 refine done_ (by kernel_rfl) ?_
 go_wp2_with fail
 all_goals
  go_end0
  exact ⟨rfl, HE.out⟩
set_option maxRecDepth 100000 in
set_option maxHeartbeats 8000000 in
/-- An application's command. -/
theorem l8_calls (L : Loc) (r : RawSt) (evs : List Ev) (w0 w : World) (ds : List Int) (Ad : Option Addr) (cd : Nat) (h : Inv w0 w L r evs) (hn : evs.length < 1000000000000) (hd : ∀ W, Below w.heap.size w W → Kd.C (Kd.int .u8) W Ad ds.length ds) (hdc : ds.length ≤ cd) (hdl : ds.length ≤ 140737488355328) :
  Calls Tryz.prog 133 #[.slice Ad ds.length cd, .pointer (some ⟨L.box, 0, none⟩)] w fun e w' => e = .returned (.tuple #[]) ∧ Frm L w w' ∧ Evs w' L (evs ++ [⟨7, 0, 0, 0, [], ds⟩]) := by
 obtain ⟨v, hv, hS⟩ := h.evs
 have cbox : w.cell? ⟨L.box, 0, none⟩ = some (.pointer (some ⟨L.out, 0, none⟩)) := blk_cell h.raw.hbox 0
 have cout : w.cell? ⟨L.out, 0, none⟩ = some v := blk_cell hv 0
 have cal : ∀ o, (w.alloc o).cell? ⟨L.out, 0, none⟩ = some v := out_at_new hv (Below.refl _ _)
 have HN := Lib.hid hn
 have HV := Lib.hid hv
 have HS := Lib.hid hS
 clear hn hv hS
 have HD := Lib.hid hd
 have HDC := Lib.hid hdc
 have HDL := Lib.hid hdl
 clear hd hdc hdl
 go_enter Tryz.func133, Tryz.ntmps133
 go_wp2_with fail
 refine start_ (n := 11) (S := fun w' => w'.cell? ⟨L.box, 0, none⟩ = some (.pointer (some ⟨L.out, 0, none⟩)) ∧ w'.cell? ⟨L.out, 0, none⟩ = some v) (ds := [10]) #[false, false, false, false, false, false, false, false, false, false, false] (by kernel_rfl) rfl rfl ⟨cbox, cout⟩ (fun hHeld => ?_)
 refine pure_ (i := 4) (N := some 7) (v := ?_) (a' := ?_) #[false, false, false, false, true, false, false, false, false, false, false] rfl rfl (by kernel_rfl) (fun _ _ _ h => h) (Or.inl ⟨by rfl, ?_⟩) ?_ ?_
 rotate_left
 ·intro w'
  go_simp
  with_reducible rfl
 rotate_left
 ·simp only [Act.put, List.setIfInBounds_toArray, List.set_cons_zero, List.set_cons_succ, i64_w, i32_w]
  rfl
 refine take_ (i := 0) (N := some 3) (v := ?_) (a' := ?_) #[true, false, false, false, true, false, false, false, false, false, false] rfl rfl (by kernel_rfl) (fun _ _ _ h => h) (Or.inl ⟨by rfl, ?_⟩) hHeld ?_ ?_
 rotate_left
 ·rintro w' ⟨s0, s1⟩
  go_simp
  with_reducible rfl
 rotate_left
 ·simp only [Act.put, List.setIfInBounds_toArray, List.set_cons_zero, List.set_cons_succ, i64_w, i32_w]
  rfl
 refine take_ (i := 1) (N := some 4) (v := ?_) (a' := ?_) #[true, true, false, false, true, false, false, false, false, false, false] rfl rfl (by kernel_rfl) (fun _ _ _ h => h) (Or.inl ⟨by rfl, ?_⟩) hHeld ?_ ?_
 rotate_left
 ·rintro w' ⟨s0, s1⟩
  go_simp
  with_reducible rfl
 rotate_left
 ·simp only [Act.put, List.setIfInBounds_toArray, List.set_cons_zero, List.set_cons_succ, i64_w, i32_w]
  rfl
 refine pure_ (i := 2) (N := some 5) (v := ?_) (a' := ?_) #[true, true, true, false, true, false, false, false, false, false, false] rfl rfl (by kernel_rfl) (fun _ _ _ h => h) (Or.inl ⟨by rfl, ?_⟩) ?_ ?_
 rotate_left
 ·intro w'
  go_simp
  with_reducible rfl
 rotate_left
 ·simp only [Act.put, List.setIfInBounds_toArray, List.set_cons_zero, List.set_cons_succ, i64_w, i32_w]
  rfl
 refine take_ (i := 3) (N := some 6) (v := ?_) (a' := ?_) #[true, true, true, true, true, false, false, false, false, false, false] rfl rfl (by kernel_rfl) (fun _ _ _ h => h) (Or.inl ⟨by rfl, ?_⟩) hHeld ?_ ?_
 rotate_left
 ·rintro w' ⟨s0, s1⟩
  go_simp
  with_reducible rfl
 rotate_left
 ·simp only [Act.put, List.setIfInBounds_toArray, List.set_cons_zero, List.set_cons_succ, i64_w, i32_w]
  rfl
 refine one_ (i := 5) (N := some 8) #[true, true, true, true, true, true, false, false, false, false, false] rfl rfl (by kernel_rfl) (by decide) (fun K hK => ?_)
 refine goes_ Tryz.func61 (by kernel_rfl) rfl #[.slice Ad ds.length cd] (by rfl) rfl rfl (by simp only [List.map_toArray, List.map_cons, List.map_nil]; rfl) ?_
 with_reducible refine (own_calls _ _ _ _ (HD.out _ (below_drew (Below.refl _ _))) HDC.out HDL.out).mono ?_
 rintro e wd ⟨dv, rfl, hd, hbd⟩
 refine ⟨_, rfl, ?_⟩
 have hbd' : Below w.heap.size w wd := Below.trans (below_drew (Below.refl _ _)) hbd
 obtain ⟨Ad, cd, rfl⟩ := Kd.R_slice hd
 have HBD := Lib.hid hbd'
 have HDV := Lib.hid (Kd.R_lower hd (Nat.le_refl _))
 clear hd hbd hbd'
 refine hK.out _ _ ⟨(box_at h HBD.out), (out_at HV.out HBD.out)⟩ (fun hHeld => ?_)
 clear hK K
 refine norm_ (a' := ?_) ?_ ?_
 rotate_left
 ·show Act.put _ (some 8) _ = _
  simp only [Act.put, List.setIfInBounds_toArray, List.set_cons_zero, List.set_cons_succ, i64_w, i32_w]
  rfl
 refine pure_ (i := 6) (N := some 9) (v := ?_) (a' := ?_) #[true, true, true, true, true, true, true, false, false, false, false] rfl rfl (by kernel_rfl) (fun _ _ _ h => h) (Or.inl ⟨by rfl, ?_⟩) ?_ ?_
 rotate_left
 ·intro w'
  go_simp
  with_reducible rfl
 rotate_left
 ·simp only [Act.put, List.setIfInBounds_toArray, List.set_cons_zero, List.set_cons_succ, i64_w, i32_w]
  rfl
 refine one_ (i := 7) (N := some 10) #[true, true, true, true, true, true, true, true, false, false, false] rfl rfl (by kernel_rfl) (by decide) (fun K hK => ?_)
 refine value_ (w1 := ?_) (v := ?_) (by rfl) rfl ?_ ?_
 rotate_left 2
 ·go_simp
  constructor
  ·rfl
  ·rfl
 refine hK.out _ _ ⟨(held_alloc hHeld.1 _), (held_alloc hHeld.2 _)⟩ (fun hHeld => ?_)
 clear hK K
 refine norm_ (a' := ?_) ?_ ?_
 rotate_left
 ·show Act.put _ (some 10) _ = _
  simp only [Act.put, List.setIfInBounds_toArray, List.set_cons_zero, List.set_cons_succ, i64_w, i32_w]
  rfl
 refine one_ (i := 8) (N := some 11) #[true, true, true, true, true, true, true, true, true, false, false] rfl rfl (by kernel_rfl) (by decide) (fun K hK => ?_)
 refine app_step h HV.out HS.out HN.out HBD.out ⟨7, 0, 0, 0, [], ds⟩ (Kd.R_nil _ _ _ _ _) HDV.out (by rfl) (.tmp 6) (.tmp 10) rfl rfl rfl ?_
 intro A1 c1 w1 HE k1 k2 k3
 refine hK.out _ _ ⟨k1, k2⟩ (fun hHeld => ?_)
 clear hK K
 refine norm_ (a' := ?_) ?_ ?_
 rotate_left
 ·show Act.put _ (some 11) _ = _
  simp only [Act.put, List.setIfInBounds_toArray, List.set_cons_zero, List.set_cons_succ, i64_w, i32_w]
  rfl
 refine pure_ (i := 9) (N := some 12) (v := ?_) (a' := ?_) #[true, true, true, true, true, true, true, true, true, true, false] rfl rfl (by kernel_rfl) (fun _ _ _ h => h) (Or.inl ⟨by rfl, ?_⟩) ?_ ?_
 rotate_left
 ·intro w'
  go_simp
  with_reducible rfl
 rotate_left
 ·simp only [Act.put, List.setIfInBounds_toArray, List.set_cons_zero, List.set_cons_succ, i64_w, i32_w]
  rfl
 refine last_ (i := 10) (N := none) #[true, true, true, true, true, true, true, true, true, true, true] rfl rfl (by kernel_rfl) (by decide) (fun K hK => ?_)
 refine skip_ (w1 := ?_) (by rfl) rfl ?_ ?_
 rotate_left
 ·go_simp
  rfl
 refine hK.out _ _ ?_
 clear hK K
 refine done_ (by kernel_rfl) ?_
 go_wp2_with fail
 all_goals
  go_end0
  exact ⟨rfl, HE.out⟩
end Go.Proofs.YteebhoehflgfoaaGreatDoor.X
end
section
namespace Go.Proofs.YteebhoehflgfoaaGreatDoor.X
open Go.RowKit Go.Proofs.YteebhoehflgfoaaGreatDoorW.PrintWords Go.Proofs.YteebhoehflgfoaaGreatDoorW.PrintLast Go.Proofs.YteebhoehflgfoaaGreatDoorW.PrintMore
theorem wraps64 (n : Int) (h0 : 0 ≤ n) (h1 : n < 2 ^ 62) : IntKind.i64.wrap n = n := by rw [IntKind.wrap_i64]; omega
theorem or_comm64 (x y : Int) : bits .or .i64 x y = bits .or .i64 y x := by
 show IntKind.i64.wrap ((BitVec.ofInt 64 x ||| BitVec.ofInt 64 y).toNat : Int) = IntKind.i64.wrap ((BitVec.ofInt 64 y ||| BitVec.ofInt 64 x).toNat : Int)
 rw [BitVec.or_comm]
/-- A byte joined below: x is a multiple of 256. -/
theorem or_low (x b : Int) (h0 : 0 ≤ x) (h1 : x < 2 ^ 40) (h2 : x % 256 = 0) (b0 : 0 ≤ b) (b1 : b < 256) : bits .or .i64 x b = x + b :=
 bits_join .i64 62 (by decide) wraps64 8 x b h0 h2 (by omega) b0 b1 (by omega)
/-- An intermediate joined above. -/
theorem or_high (x b : Int) (h0 : 0 ≤ x) (h1 : x < 65536) (b0 : 0 ≤ b) (b1 : b < 256) : bits .or .i64 x (b * 65536) = x + b * 65536 := by
 rw [or_comm64, bits_join .i64 62 (by decide) wraps64 16 (b * 65536) x (by omega) (by omega) (by omega) h0 (by omega) (by omega)]
 omega
theorem or_zero (b : Int) (b0 : 0 ≤ b) (b1 : b < 256) : bits .or .i64 0 (b * 256) = b * 256 := by
 rw [or_comm64, bits_join .i64 62 (by decide) wraps64 8 (b * 256) 0 (by omega) (by omega) (by omega) (by omega) (by omega) (by omega)]
 omega
section
variable {w0 w : World} {L : Loc} {r : RawSt} {evs : List Ev}
theorem Raw.c0 (h : Raw w L r) : w.cell? ⟨L.P, 0, none⟩ = some (.func (.func 125) #[] #[.pointer (some ⟨L.box, 0, none⟩)]) := h.cell 0
theorem Raw.c1 (h : Raw w L r) : w.cell? ⟨L.P, 1, none⟩ = some (.func (.func 126) #[] #[.pointer (some ⟨L.box, 0, none⟩)]) := h.cell 1
theorem Raw.c2 (h : Raw w L r) : w.cell? ⟨L.P, 2, none⟩ = some (.func (.func 127) #[] #[.pointer (some ⟨L.box, 0, none⟩)]) := h.cell 2
theorem Raw.c3 (h : Raw w L r) : w.cell? ⟨L.P, 3, none⟩ = some (.func (.func 129) #[] #[.pointer (some ⟨L.box, 0, none⟩)]) := h.cell 3
theorem Raw.c4 (h : Raw w L r) : w.cell? ⟨L.P, 4, none⟩ = some (.func (.func 130) #[] #[.pointer (some ⟨L.box, 0, none⟩)]) := h.cell 4
theorem Raw.c5 (h : Raw w L r) : w.cell? ⟨L.P, 5, none⟩ = some (.func (.func 131) #[] #[.pointer (some ⟨L.box, 0, none⟩)]) := h.cell 5
theorem Raw.c7 (h : Raw w L r) : w.cell? ⟨L.P, 7, none⟩ = some (.func (.func 133) #[] #[.pointer (some ⟨L.box, 0, none⟩)]) := h.cell 7
theorem Raw.c9 (h : Raw w L r) : w.cell? ⟨L.P, 9, none⟩ = some (.slice (some ⟨L.pp, 0, none⟩) 32 32) := h.cell 9
theorem Raw.c10 (h : Raw w L r) : w.cell? ⟨L.P, 10, none⟩ = some (.slice (some ⟨L.pd, 0, none⟩) 4096 4096) := h.cell 10
theorem Raw.c11 (h : Raw w L r) : w.cell? ⟨L.P, 11, none⟩ = some (.int .i64 r.dlen) := h.cell 11
theorem Raw.c12 (h : Raw w L r) : w.cell? ⟨L.P, 12, none⟩ = some (.int .i64 r.plen) := h.cell 12
theorem Raw.c13 (h : Raw w L r) : w.cell? ⟨L.P, 13, none⟩ = some (.int .i64 r.cmd) := h.cell 13
theorem Raw.c14 (h : Raw w L r) : w.cell? ⟨L.P, 14, none⟩ = some (.int .u8 r.st) := h.cell 14
theorem Inv.drew (h : Inv w0 w L r evs) : Inv w0 w.drew L r evs := h.grow (below_drew (Below.refl _ _))
/-- clear -/
theorem clear_calls (h : Inv w0 w L r evs) :
  Calls Tryz.prog 176 #[.pointer (some ⟨L.P, 0, none⟩)] w fun e w' => e = .returned (.tuple #[]) ∧ Inv w0 w' L { r with cmd := 0, plen := 0, pc := r.pc.set 0 Miss } evs := by
 (have := Raw.c9 h.raw; have := Raw.c10 h.raw; have := Raw.c11 h.raw; have := Raw.c12 h.raw; have := Raw.c13 h.raw; have := Raw.frozen h.raw 11; have := Raw.frozen h.raw 12; have := Raw.frozen h.raw 13; have := Raw.frozen h.raw 14; have := Raw.P_ne_pp h.raw; have := Raw.P_ne_pd h.raw; have := Raw.pp_ne_pd h.raw; have := Ne.symm (Raw.P_ne_pp h.raw); have := Ne.symm (Raw.P_ne_pd h.raw); have := Ne.symm (Raw.pp_ne_pd h.raw))
 have p0 := h.raw.pcell 0 (by omega)
 have pf := h.raw.pfrozen 0
 have h3 := Lib.hid (((h.setPP 0 Miss).setPlen 0).setCmd 0)
 go_enter Tryz.func176, Tryz.ntmps176
 go_wp2_with fail
 go_end0
 exact ⟨rfl, h3.out⟩
end
end Go.Proofs.YteebhoehflgfoaaGreatDoor.X
end
