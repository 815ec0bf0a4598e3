/- Texts of this claim, joined: XIsOp XScrNew. Of each, what the claim uses. -/
import Derived.Test.YteebhoehflgfoaaGreatDoorKat
import Derived.Lib.Hide
import Derived.Deep.DeepCutAuto
import Derived.Deep.LoopGhost
import Derived.Test.YteebhoehflgfoaaGreatDoorKbd
import Derived.Test.YteebhoehflgfoaaGreatDoorKaz
import Derived.Test.YteebhoehflgfoaaGreatDoorKay
import Derived.Deep.DrawnRows
section
namespace Go.Proofs.YteebhoehflgfoaaGreatDoor.Y
open Go.RowKit Go.Proofs.YteebhoehflgfoaaGreatDoorW.PrintWords Go.Proofs.YteebhoehflgfoaaGreatDoorW.PrintLast Go.Proofs.YteebhoehflgfoaaGreatDoorW.PrintMore
set_option linter.unusedSimpArgs false
set_option linter.unusedVariables false
set_option maxRecDepth 100000
set_option maxHeartbeats 80000000
theorem bTF (b : Bool) : b = true ∨ b = false := by cases b <;> simp
theorem ch3 (a b : Bool) : a = false ∨ (a = true ∧ b = false) ∨ (a = true ∧ b = true) := by cases a <;> cases b <;> simp
theorem ch4 (a b c : Bool) : a = false ∨ (a = true ∧ b = false) ∨ (a = true ∧ b = true ∧ c = false) ∨ (a = true ∧ b = true ∧ c = true) := by cases a <;> cases b <;> cases c <;> simp
theorem ch5 (a b c d : Bool) : a = false ∨ (a = true ∧ b = false) ∨ (a = true ∧ b = true ∧ c = false) ∨ (a = true ∧ b = true ∧ c = true ∧ d = false) ∨ (a = true ∧ b = true ∧ c = true ∧ d = true) := by cases a <;> cases b <;> cases c <;> cases d <;> simp
theorem isOp_calls (o : Op) (A4 : Option Addr) (c4 : Nat) (w : World) (hs : o.f3.size ≤ 2147483647) (hl : o.f4.length ≤ 2147483647) (hc : o.f4.length ≤ c4) (hr : Kd.C (Kd.int .i64) w A4 o.f4.length o.f4) :
  Calls Tryz.prog 18 #[.agg #[.int .i64 o.f0, .int .i64 o.f1, .int .i64 o.f2, .string o.f3, .slice A4 o.f4.length c4]] w fun e w' => ∃ b, e = .returned (.bool b) ∧ (b = true → Right o) ∧ Below w.heap.size w w' := by
 obtain ⟨p, hp, hp1⟩ := isNum_f o.f0
 obtain ⟨pa, ha, ha1⟩ := attrs_f o.f4 hl 3000000000 (by omega)
 obtain ⟨pt, ht, ht1⟩ := plain_f o.f3 hs 3000000000 (by omega)
 have HI := Lib.hid (And.intro hr (And.intro hc (And.intro hp (And.intro ha ht))))
 have HR := Lib.hid (And.intro hp1 (And.intro ha1 ht1))
 clear hr hc hp ha ht hp1 ha1 ht1 hs hl
 obtain ⟨o0, o1, o2, o3, o4⟩ := o
 simp only at HI HR ⊢
 go_enter Tryz.func18, Tryz.ntmps18
 go_upto_region 1 with fail
 obtain ⟨W, hW⟩ : ∃ W, W = w.alloc (Obj.cells #[.int .i64 o0, .int .i64 o1, .int .i64 o2, .string o3, .slice A4 o4.length c4] 38) := ⟨_, rfl⟩
 rw [← hW]
 have hn : W.heap[w.heap.size]? = some (Obj.cells #[.int .i64 o0, .int .i64 o1, .int .i64 o2, .string o3, .slice A4 o4.length c4] 38 (0, 0)) := by rw [hW]; exact blk_new w _
 have HB := Lib.hid (show Below w.heap.size w W by rw [hW]; exact (Below.refl _ _).alloc (Nat.le_refl _) _)
 have HN := Lib.hid hn
 have x0 : W.cell? ⟨w.heap.size, 0, none⟩ = some (.int .i64 o0) := blk_cell hn 0
 have x1 : W.cell? ⟨w.heap.size, 1, none⟩ = some (.int .i64 o1) := blk_cell hn 1
 have x2 : W.cell? ⟨w.heap.size, 2, none⟩ = some (.int .i64 o2) := blk_cell hn 2
 have x3 : W.cell? ⟨w.heap.size, 3, none⟩ = some (.string o3) := blk_cell hn 3
 have x4 : W.cell? ⟨w.heap.size, 4, none⟩ = some (.slice A4 o4.length c4) := blk_cell hn 4
 clear hW hn
 go_cut [3] (fun v3 wc => ∃ b3, v3 = .bool b3 ∧ Hid (b3 = true → o3.toList = [] ∧ o4 = []) ∧ wc = W)
 case first =>
  rcases bTF (o3.toList == ([] : List UInt8)) with k | k
  ·go_wp2_with fail
   go_meet
   case rel => exact ⟨_, rfl, fun h => ⟨beq_iff_eq.1 k, List.eq_nil_of_length_eq_zero (by have := beq_iff_eq.1 h; omega)⟩, rfl⟩
  ·go_wp2_with fail
   go_meet
   case rel => exact ⟨_, rfl, fun h => (by cases h), rfl⟩
 case rest =>
  obtain ⟨b3, rfl, H3, hcw⟩ := hcut
  obtain rfl := hcw.symm
  go_upto_region 3 with fail
  go_cut [22] (fun v22 wc => ∃ b22, v22 = .bool b22 ∧ Hid (b22 = true ↔ o0 = 10 ∨ o0 = 11) ∧ wc = W)
  case first =>
   rcases bTF (o0 == 10) with k | k
   ·go_wp2_with fail
    go_meet
    case rel => exact ⟨_, rfl, by unfold Hid; simpa using Or.inl (beq_iff_eq.1 k), rfl⟩
   ·go_wp2_with fail
    go_meet
    case rel => exact ⟨_, rfl, by have := beq_eq_false_iff_ne.1 k; unfold Hid; simp [this], rfl⟩
  case rest =>
   obtain ⟨b22, rfl, H22, hcw⟩ := hcut
   obtain rfl := hcw.symm
   go_upto_if 22 with (fail)
   go_cut [4, 5] (fun v4 v5 wc => ∃ y z, v4 = .int .i64 y ∧ v5 = .int .i64 z ∧ Hid (((o0 = 10 ∨ o0 = 11) ∧ y = 0 ∧ z = 2) ∨ (¬ (o0 = 10 ∨ o0 = 11) ∧ y = 1 ∧ z = 99)) ∧ wc = W)
   case first =>
    cases b22 with
    | true =>
     go_wp2_with fail
     go_meet
     case rel => exact ⟨_, _, rfl, rfl, Or.inl ⟨H22.out.1 (by trivial), rfl, rfl⟩, rfl⟩
    | false =>
     go_wp2_with fail
     go_meet
     case rel => exact ⟨_, _, rfl, rfl, Or.inr ⟨fun h => (by cases H22.out.2 h), rfl, rfl⟩, rfl⟩
   case rest =>
    obtain ⟨y, z, rfl, rfl, HY, hcw⟩ := hcut
    obtain rfl := hcw.symm
    clear H22
    go_wp2_with fail
    with_reducible refine (spec_IsDrawNumber.calls o0 p _ HI.out.2.2.1).mono ?_
    rintro e w2 ⟨rfl, ⟨nd, rfl⟩⟩
    have hb2 : Below W.heap.size W (W.drewN nd) := pw_below_drewN (Below.refl _ _) nd
    have hn : (W.drewN nd).heap[w.heap.size]? = some (Obj.cells #[.int .i64 o0, .int .i64 o1, .int .i64 o2, .string o3, .slice A4 o4.length c4] 38 (0, 0)) := (hb2.block _ (blk_lt HN.out)).trans HN.out
    have HB2 := Lib.hid (below_step HB.out hb2)
    generalize W.drewN nd = V at hn HB2 ⊢
    clear x0 x1 x2 x3 x4 hb2
    have x0 : V.cell? ⟨w.heap.size, 0, none⟩ = some (.int .i64 o0) := blk_cell hn 0
    have x1 : V.cell? ⟨w.heap.size, 1, none⟩ = some (.int .i64 o1) := blk_cell hn 1
    have x2 : V.cell? ⟨w.heap.size, 2, none⟩ = some (.int .i64 o2) := blk_cell hn 2
    have x3 : V.cell? ⟨w.heap.size, 3, none⟩ = some (.string o3) := blk_cell hn 3
    have x4 : V.cell? ⟨w.heap.size, 4, none⟩ = some (.slice A4 o4.length c4) := blk_cell hn 4
    clear hn
    have hex := HR.out.1
    cases p with
    | true =>
     have hk := hex.1 rfl
     have HK := Lib.hid hk
     clear hk hex
     rcases ch4 (b3) (o2 == 0) (decide (y ≤ o1)) with k0 | ⟨k0, k1⟩ | ⟨k0, k1, k2⟩ | ⟨k0, k1, k2⟩
     all_goals
      (try subst b3)
      go_wp2_with fail
      go_ret
      exact ⟨_, rfl, fun h => (by first | (cases h; done) | (simp only [decide_eq_true_eq, beq_iff_eq] at k1 k2 h; exact Or.inl ⟨HK.out, H3.out (by trivial), (by (try dsimp only); omega), (by have := HY.out; (try dsimp only); split <;> omega)⟩)), HB2.out⟩
    | false =>
     have HK := Lib.hid (show ¬ NumK o0 from fun h => (by cases hex.2 h))
     clear hex
     by_cases hk : o0 = 40 ∨ o0 = 41 ∨ o0 = 42 ∨ o0 = 50 ∨ o0 = 51 ∨ o0 = 52 ∨ o0 = 60 ∨ o0 = 61
     ·rcases hk with rfl | rfl | rfl | rfl | rfl | rfl | rfl | rfl
      ·skip
       rcases ch5 (b3) (decide (1 ≤ o1)) (decide (o1 ≤ 99)) (decide (1 ≤ o2)) with k0 | ⟨k0, k1⟩ | ⟨k0, k1, k2⟩ | ⟨k0, k1, k2, k3⟩ | ⟨k0, k1, k2, k3⟩
       all_goals
        (try subst b3)
        go_wp2_with fail
        go_ret
        exact ⟨_, rfl, fun h => (by first | (cases h; done) | (simp only [decide_eq_true_eq, beq_iff_eq] at k1 k2 k3 h; exact Or.inr (Or.inl ⟨Or.inl rfl, H3.out (by trivial), by (try dsimp only); omega⟩))), HB2.out⟩
      ·skip
       rcases ch5 (b3) (decide (1 ≤ o1)) (decide (o1 ≤ 99)) (decide (1 ≤ o2)) with k0 | ⟨k0, k1⟩ | ⟨k0, k1, k2⟩ | ⟨k0, k1, k2, k3⟩ | ⟨k0, k1, k2, k3⟩
       all_goals
        (try subst b3)
        go_wp2_with fail
        go_ret
        exact ⟨_, rfl, fun h => (by first | (cases h; done) | (simp only [decide_eq_true_eq, beq_iff_eq] at k1 k2 k3 h; exact Or.inr (Or.inl ⟨Or.inr rfl, H3.out (by trivial), by (try dsimp only); omega⟩))), HB2.out⟩
      ·skip
       rcases ch4 (b3) (decide (1 ≤ o1)) (decide (o1 < o2)) with k0 | ⟨k0, k1⟩ | ⟨k0, k1, k2⟩ | ⟨k0, k1, k2⟩
       all_goals
        (try subst b3)
        go_wp2_with fail
        go_ret
        exact ⟨_, rfl, fun h => (by first | (cases h; done) | (simp only [decide_eq_true_eq, beq_iff_eq] at k1 k2 h; exact Or.inr (Or.inr (Or.inl ⟨rfl, H3.out (by trivial), by (try dsimp only); omega⟩)))), HB2.out⟩
      ·skip
       rcases ch3 (b3) (o1 == 0) with k0 | ⟨k0, k1⟩ | ⟨k0, k1⟩
       all_goals
        (try subst b3)
        go_wp2_with fail
        go_ret
        exact ⟨_, rfl, fun h => (by first | (cases h; done) | (simp only [decide_eq_true_eq, beq_iff_eq] at k1 h; exact Or.inr (Or.inr (Or.inr (Or.inl ⟨Or.inl rfl, H3.out (by trivial), by (try dsimp only); omega⟩))))), HB2.out⟩
      ·skip
       rcases ch3 (b3) (o1 == 0) with k0 | ⟨k0, k1⟩ | ⟨k0, k1⟩
       all_goals
        (try subst b3)
        go_wp2_with fail
        go_ret
        exact ⟨_, rfl, fun h => (by first | (cases h; done) | (simp only [decide_eq_true_eq, beq_iff_eq] at k1 h; exact Or.inr (Or.inr (Or.inr (Or.inl ⟨Or.inr rfl, H3.out (by trivial), by (try dsimp only); omega⟩))))), HB2.out⟩
      ·skip
       rcases ch4 (o3.toList == ([] : List UInt8)) (o1 == 0) (o2 == 0) with k0 | ⟨k0, k1⟩ | ⟨k0, k1, k2⟩ | ⟨k0, k1, k2⟩
       ·go_wp2_with fail
        go_ret
        exact ⟨_, rfl, fun h => (by cases h), HB2.out⟩
       ·go_wp2_with fail
        go_ret
        exact ⟨_, rfl, fun h => (by cases h), HB2.out⟩
       ·go_wp2_with fail
        go_ret
        exact ⟨_, rfl, fun h => (by cases h), HB2.out⟩
       ·go_wp2_with fail
        with_reducible refine (spec_drawAttributes.calls 3000000000 _ _ o4 pa _ (Kd.C_below HI.out.1 HB2.out) HI.out.2.1 HI.out.2.2.2.1).mono ?_
        rintro e w3 ⟨rfl, ⟨nd2, rfl⟩⟩
        have HB3 := Lib.hid (pw_below_drewN HB2.out nd2)
        generalize V.drewN nd2 = w3 at HB3 ⊢
        go_wp2_with fail
        go_ret
        exact ⟨_, rfl, fun h => (by simp only [beq_iff_eq] at k0 k1 k2; exact Or.inr (Or.inr (Or.inr (Or.inr (Or.inl ⟨rfl, by assumption, by assumption, by assumption, HR.out.2.1 h⟩))))), HB3.out⟩
      ·skip
       rcases ch4 (o1 == 0) (o2 == 0) (((o4.length : Int) == 0)) with k0 | ⟨k0, k1⟩ | ⟨k0, k1, k2⟩ | ⟨k0, k1, k2⟩
       ·go_wp2_with fail
        go_ret
        exact ⟨_, rfl, fun h => (by cases h), HB2.out⟩
       ·go_wp2_with fail
        go_ret
        exact ⟨_, rfl, fun h => (by cases h), HB2.out⟩
       ·go_wp2_with fail
        go_ret
        exact ⟨_, rfl, fun h => (by cases h), HB2.out⟩
       ·go_wp2_with fail
        with_reducible refine (spec_DrawPlain.calls 3000000000 o3 20 pt _ HI.out.2.2.2.2).mono ?_
        rintro e w3 ⟨rfl, ⟨nd2, rfl⟩⟩
        have HB3 := Lib.hid (pw_below_drewN HB2.out nd2)
        generalize V.drewN nd2 = w3 at HB3 ⊢
        go_wp2_with fail
        go_ret
        exact ⟨_, rfl, fun h => (by simp only [beq_iff_eq] at k0 k1 k2; exact Or.inr (Or.inr (Or.inr (Or.inr (Or.inr (Or.inl ⟨rfl, by assumption, by assumption, List.eq_nil_of_length_eq_zero (by (try dsimp only); omega), HR.out.2.2 h⟩)))))), HB3.out⟩
      ·skip
       rcases ch3 (b3) (o2 == 0) with k0 | ⟨k0, k1⟩ | ⟨k0, k1⟩
       ·subst b3
        go_wp2_with fail
        go_ret
        exact ⟨_, rfl, fun h => (by cases h), HB2.out⟩
       ·subst b3
        go_wp2_with fail
        go_ret
        exact ⟨_, rfl, fun h => (by cases h), HB2.out⟩
       ·subst b3
        rcases (show (o1 == 13) = true ∨ ((o1 == 13) = false ∧ (o1 == 10) = true) ∨ ((o1 == 13) = false ∧ (o1 == 10) = false ∧ (o1 == 8) = true) ∨ ((o1 == 13) = false ∧ (o1 == 10) = false ∧ (o1 == 8) = false) by cases (o1 == 13) <;> cases (o1 == 10) <;> cases (o1 == 8) <;> simp) with j0 | ⟨j0, j1⟩ | ⟨j0, j1, j2⟩ | ⟨j0, j1, j2⟩
        all_goals
         go_wp2_with fail
         go_ret
         exact ⟨_, rfl, fun h => (by simp only [beq_iff_eq, beq_eq_false_iff_ne] at k1 j0 h; (try simp only [beq_iff_eq, beq_eq_false_iff_ne] at j1); (try simp only [beq_iff_eq, beq_eq_false_iff_ne] at j2); exact Or.inr (Or.inr (Or.inr (Or.inr (Or.inr (Or.inr ⟨rfl, H3.out (by trivial), by (try dsimp only); omega⟩)))))), HB2.out⟩
     ·have n0 : (o0 == 40) = false := beq_eq_false_iff_ne.2 (by omega)
      have n1 : (o0 == 41) = false := beq_eq_false_iff_ne.2 (by omega)
      have n2 : (o0 == 42) = false := beq_eq_false_iff_ne.2 (by omega)
      have n3 : (o0 == 50) = false := beq_eq_false_iff_ne.2 (by omega)
      have n4 : (o0 == 51) = false := beq_eq_false_iff_ne.2 (by omega)
      have n5 : (o0 == 52) = false := beq_eq_false_iff_ne.2 (by omega)
      have n6 : (o0 == 60) = false := beq_eq_false_iff_ne.2 (by omega)
      have n7 : (o0 == 61) = false := beq_eq_false_iff_ne.2 (by omega)
      clear hk
      go_wp2_with fail
      go_ret
      exact ⟨_, rfl, fun h => (by cases h), HB2.out⟩
theorem isPlan_calls (A0 : Option Addr) (c0 : Nat) (l : List Op) (w : World) (hr0 : Kd.C k38 w A0 l.length l) (hc0 : l.length ≤ c0) (hf : Fits l) :
  Calls Tryz.prog 5 #[.slice A0 l.length c0] w fun e w' => ∃ b, e = .returned (.bool b) ∧ (b = true → RightPlan l) ∧ Below w.heap.size w w' := by
 have HI := Lib.hid (And.intro hr0 hf)
 have hn := hf.1
 have hu42 := Tryz.underlying38
 clear hr0 hf
 go_enter Tryz.func5, Tryz.ntmps5
 go_wp2_with fail
 go_loopg [7] l.length (fun kq v7 w' => ∃ i : Nat, v7 = .int .i64 (i : Int) ∧ i + kq = l.length ∧ Hid ((∀ o ∈ l.take i, Right o) ∧ (∀ j, 0 < j → j < i → (h : j < l.length) → ¬ (l[j].f0 = 60 ∧ (l[j - 1]'(by omega)).f0 = 60)) ∧ Below w.heap.size w w'))
 case atStart => exact ⟨0, rfl, by omega, by simp, fun j h0 hj => by omega, Below.refl _ _⟩
 case round =>
  obtain ⟨i, rfl, hk, hA⟩ := hrel
  by_cases hi : i < l.length
  ·have d3 : (i : Int) < (l.length : Int) := by omega
   have p0 : 0 ≤ (i : Int) := by omega
   have e1 : IntKind.i64.wrap ((i : Int) + 1) = ((i + 1 : Nat) : Int) := by rw [IntKind.wrap_i64]; omega
   obtain ⟨ad, A4, c4, e, x0, x1, x2, x3, x4, l4, g4⟩ := at_T38 HI.out.1 (i : Int) p0 d3
   cases e
   have hprev : 0 < i → w.cell? (ad.add ((i - 1) * 5)) = some (.int .i64 (l[i - 1]'(by omega)).f0) := fun h0 => by
    obtain ⟨ad', _, _, e, y0, _⟩ := at_T38 HI.out.1 ((i - 1 : Nat) : Int) (by omega) (by omega)
    cases e
    rw [rdO_at l (i - 1) (by omega), Int.toNat_natCast] at y0
    exact y0
   have hfo := HI.out.2.2 _ (List.getElem_mem hi)
   have hst : ∀ (h : Right l[i]), ¬ (0 < i ∧ l[i].f0 = 60 ∧ (l[i - 1]'(by omega)).f0 = 60) → (∀ o ∈ l.take (i + 1), Right o) ∧ (∀ j, 0 < j → j < i + 1 → (h : j < l.length) → ¬ (l[j].f0 = 60 ∧ (l[j - 1]'(by omega)).f0 = 60)) := fun h hno => ⟨fun o ho => by
    rw [List.take_succ_eq_append_getElem hi] at ho
    rcases List.mem_append.1 ho with ho | ho
    ·exact hA.out.1 o ho
    ·rw [List.mem_singleton.1 ho]; exact h, fun j h0 hj hlt hc => by
    by_cases he : j = i
    ·subst he; exact hno ⟨h0, hc.1, hc.2⟩
    ·exact hA.out.2.1 j h0 (by omega) hlt hc⟩
   rw [rdO_at l i hi] at x0 x1 x2 x3 x4 l4 g4
   generalize l[i - 1]'(by omega) = o' at hprev hst
   generalize l[i] = o at hfo hst x0 x1 x2 x3 x4 l4 g4
   have HB := hA.out.2.2
   replace x0 := (HB.cell (World.block_lt_of_cell? w _ x0)).trans x0
   replace x1 := (HB.cell (World.block_lt_of_cell? w _ x1)).trans x1
   replace x2 := (HB.cell (World.block_lt_of_cell? w _ x2)).trans x2
   replace x3 := (HB.cell (World.block_lt_of_cell? w _ x3)).trans x3
   replace x4 := (HB.cell (World.block_lt_of_cell? w _ x4)).trans x4
   simp only [Int.toNat_natCast] at x0 x1 x2 x3 x4
   have HX := Lib.hid (And.intro hfo (And.intro hst (And.intro hprev (And.intro l4 g4))))
   clear hfo hst hprev l4 g4 HB
   replace p0 := eq_true p0
   go_upto_region 4 with fail
   obtain ⟨W, hW⟩ : ∃ W, W = wr.alloc (Obj.cells #[.int .i64 o.f0, .int .i64 o.f1, .int .i64 o.f2, .string o.f3, .slice A4 o.f4.length c4] 38) := ⟨_, rfl⟩
   rw [← hW]
   have ho : W.heap[wr.heap.size]? = some (Obj.cells #[.int .i64 o.f0, .int .i64 o.f1, .int .i64 o.f2, .string o.f3, .slice A4 o.f4.length c4] 38 (0, 0)) := by rw [hW]; exact blk_new wr _
   have hb1 : Below w.heap.size w W := below_step hA.out.2.2 (by rw [hW]; exact below_alloc (Below.refl _ _) _)
   have z0 : W.cell? ⟨wr.heap.size, 0, none⟩ = some (.int .i64 o.f0) := blk_cell ho 0
   have z1 : W.cell? ⟨wr.heap.size, 1, none⟩ = some (.int .i64 o.f1) := blk_cell ho 1
   have z2 : W.cell? ⟨wr.heap.size, 2, none⟩ = some (.int .i64 o.f2) := blk_cell ho 2
   have z3 : W.cell? ⟨wr.heap.size, 3, none⟩ = some (.string o.f3) := blk_cell ho 3
   have z4 : W.cell? ⟨wr.heap.size, 4, none⟩ = some (.slice A4 o.f4.length c4) := blk_cell ho 4
   have HW := Lib.hid (And.intro ho hb1)
   clear ho hb1 hW x0 x1 x2 x3 x4
   go_wp2_with fail
   refine (isOp_calls o A4 c4 W HX.out.1.1 HX.out.1.2 HX.out.2.2.2.1 (Kd.C_below HX.out.2.2.2.2 HW.out.2)).mono ?_
   rintro e w3 ⟨b, rfl, hR, hb⟩
   have HB3 := Lib.hid (below_step HW.out.2 hb)
   have y0 : w3.cell? ⟨wr.heap.size, 0, none⟩ = some (.int .i64 o.f0) := (hb.cell (blk_lt HW.out.1)).trans z0
   clear z0 z1 z2 z3 z4 hb
   have HRR := Lib.hid hR
   clear hR
   cases b with
   | false =>
    go_wp2_with fail
    go_ret
    exact ⟨_, rfl, fun h => (by cases h), HB3.out⟩
   | true =>
    by_cases c1 : 0 < i
    ·have k1 : (0 : Int) < (i : Int) := by omega
     rcases bTF (o.f0 == 60) with k2 | k2
     ·have e2 : IntKind.i64.wrap ((i : Int) - 1) = ((i - 1 : Nat) : Int) := by rw [IntKind.wrap_i64]; omega
      have d4 : ((i - 1 : Nat) : Int) < (l.length : Int) := by omega
      have d5 : (0 : Int) ≤ ((i - 1 : Nat) : Int) := by omega
      have u0 := HX.out.2.2.1 c1
      replace u0 := (HB3.out.cell (World.block_lt_of_cell? w _ u0)).trans u0
      rcases bTF (o'.f0 == 60) with k3 | k3
      ·go_wp2_with fail
       go_ret
       exact ⟨_, rfl, fun h => (by cases h), HB3.out⟩
      ·have hs := HX.out.2.1 (HRR.out rfl) (fun h => (beq_eq_false_iff_ne.1 k3) h.2.2)
       have HS := Lib.hid (And.intro hs.1 (And.intro hs.2 HB3.out))
       clear hs
       go_wp2_with fail
       go_roundg (l.length - (i + 1))
       case measure => omega
       case rel => exact ⟨i + 1, rfl, by omega, HS.out⟩
     ·have hs := HX.out.2.1 (HRR.out rfl) (fun h => (beq_eq_false_iff_ne.1 k2) h.2.1)
      have HS := Lib.hid (And.intro hs.1 (And.intro hs.2 HB3.out))
      clear hs
      go_wp2_with fail
      go_roundg (l.length - (i + 1))
      case measure => omega
      case rel => exact ⟨i + 1, rfl, by omega, HS.out⟩
    ·have k1 : decide ((0 : Int) < (i : Int)) = false := decide_eq_false (by omega)
     have hs := HX.out.2.1 (HRR.out rfl) (fun h => c1 h.1)
     have HS := Lib.hid (And.intro hs.1 (And.intro hs.2 HB3.out))
     clear hs
     go_wp2_with fail
     go_roundg (l.length - (i + 1))
     case measure => omega
     case rel => exact ⟨i + 1, rfl, by omega, HS.out⟩
  ·have d3 : decide ((i : Int) < (l.length : Int)) = false := decide_eq_false (by omega)
   have hs := hA.out
   rw [List.take_of_length_le (by omega)] at hs
   have HS := Lib.hid hs
   clear hs
   go_wp2_with fail
   go_ret
   exact ⟨_, rfl, fun h => ⟨HS.out.1, fun j h0 hj => HS.out.2.1 j h0 (by omega) hj, by have := of_decide_eq_true h; omega⟩, HS.out.2.2⟩
end Go.Proofs.YteebhoehflgfoaaGreatDoor.Y
end
section
namespace Go.Proofs.YteebhoehflgfoaaGreatDoor.Y
open Go.RowKit Go.Proofs.YteebhoehflgfoaaGreatDoorW.PrintWords Go.Proofs.YteebhoehflgfoaaGreatDoorW.PrintLast Go.Proofs.YteebhoehflgfoaaGreatDoorW.PrintMore
set_option linter.unusedSimpArgs false
set_option linter.unusedVariables false
set_option maxRecDepth 100000
set_option maxHeartbeats 8000000
def ncells (Wd H : Nat) (v : Value) : Array Value := #[.int .i64 Wd, .int .i64 H, v, .int .i64 0, .int .i64 0, .int .i64 0, .int .i64 0, .int .i64 0, .int .i64 0, .int .i64 0, .int .i64 ((H - 1 : Nat) : Int), .int .u8 0]
/-- A screen to which rows are laid. -/
structure NewAt (w : World) (B G Wd H : Nat) (v : Value) (bs : List Nat) : Prop where
 blk : w.heap[G]? = some (Obj.cells (ncells Wd H v) 86 (0, 0))
 own : w.ownsRow B 87 1 v bs.length (bs.map (rowV Wd))
 row : ∀ b ∈ bs, w.heap[b]? = some (Obj.cells (gcells (zrow Wd)).toArray 89 (0, 0))
 nd : bs.Nodup
 bb : ∀ b ∈ bs, B ≤ b
 bg : B ≤ G
theorem own_kind {w : World} {B n : Nat} {v : Value} {xs : List Value} (h : w.ownsRow B 87 1 v n xs) (k : Nat) (hk : v.ownBlock = some k) : B ≤ k ∧ ∃ cur, w.heap[k]? = some (Obj.cells cur 87 (0, 0)) := by
 rcases h.2 with ⟨rfl, _⟩ | ⟨g, cap, cur, rfl, h1, h2, _⟩
 ·simp [Value.ownBlock] at hk
 ·simp only [Value.ownBlock, Option.some.injEq] at hk
  subst hk
  exact ⟨h1, cur, h2⟩
theorem new_at {w : World} {B G Wd H : Nat} {v : Value} {bs : List Nat} (h : NewAt w B G Wd H v bs) (hl : bs.length = H) (h0 : 0 < H) : ∃ T c, AtX w B G T c bs (newScr Wd H) := by
 rcases h.own.2 with ⟨_, h2⟩ | ⟨T, cap, cur, rfl, h1, h2, h3, h4, h5, h6⟩
 ·omega
 ·refine ⟨T, cap, ?_, ⟨cur.toList.drop (bs.length * 1), ?_⟩, ?_, fun i b r hb hr => ?_, h.nd, h.bg, h1, h.bb, by rw [← hl] at *; exact h3⟩
  ·have := h.blk
   rw [hl] at this
   exact this
  ·have e : cur.toList = bs.map (rowV Wd) ++ cur.toList.drop (bs.length * 1) := by
    rw [← h6]
    exact (List.take_append_drop _ _).symm
   rw [h2]
   congr 2
   apply Array.toList_inj.1
   rw [List.toList_toArray]
   exact e
  ·rw [hl]; simp [newScr]
  ·rw [h.row b (List.mem_of_getElem? hb)]
   have : r = zrow Wd := by
    have := List.mem_of_getElem? hr
    simp only [newScr, List.mem_replicate] at this
    exact this.2
   rw [this]
theorem new_next {w wr W w1 : World} {B G Wd H b : Nat} {v v1 : Value} {bs : List Nat} (h : NewAt wr B G Wd H v bs) (hB : Below B w wr) (hw : Below wr.heap.size wr W) (hb : W.heap[b]? = some (Obj.cells (gcells (zrow Wd)).toArray 89 (0, 0))) (hbl : wr.heap.size ≤ b)
  (hg : W.grownBy w1 v.ownBlock) (ho : w1.ownsRow B 87 1 v1 (bs.length + 1) (bs.map (rowV Wd) ++ [rowV Wd b])) :
  (NewAt (w1.setCell ⟨G, 2, none⟩ v1) B G Wd H v1 (bs ++ [b]) ∧ Below B w (w1.setCell ⟨G, 2, none⟩ v1)) ∧ w1.heap[G]? = some (Obj.cells (ncells Wd H v) 86 (0, 0)) := by
 have hsz : B ≤ wr.heap.size := Nat.le_trans h.bg (Nat.le_of_lt (blk_lt h.blk))
 have stay : ∀ (k t : Nat) (cs : Array Value), W.heap[k]? = some (Obj.cells cs t (0, 0)) → t ≠ 87 → w1.heap[k]? = some (Obj.cells cs t (0, 0)) := fun k t cs hk ht => by
  refine (hg.block k (blk_lt hk) (fun e => ?_)).trans hk
  obtain ⟨_, cur, hc⟩ := own_kind h.own k e.symm
  have := (hw.block k (blk_lt hc)).trans hc
  rw [hk] at this
  injection this with this
  injection this with _ h2 _
  exact ht h2
 have hG := stay G _ _ ((hw.block G (blk_lt h.blk)).trans h.blk) (by decide)
 have hrows : ∀ x ∈ bs ++ [b], w1.heap[x]? = some (Obj.cells (gcells (zrow Wd)).toArray 89 (0, 0)) := fun x hx => by
  rcases List.mem_append.1 hx with hx | hx
  ·exact stay x _ _ ((hw.block x (blk_lt (h.row x hx))).trans (h.row x hx)) (by decide)
  ·rw [List.mem_singleton.1 hx]
   exact stay b _ _ hb (by decide)
 have hne : ∀ k, v1.ownBlock = some k → k ≠ G := fun k hk e => by
  subst e
  obtain ⟨_, cur, hc⟩ := own_kind ho k hk
  rw [hG] at hc
  injection hc with hc
  injection hc with _ h2 _
  exact absurd h2 (by decide)
 refine ⟨⟨⟨?_, ?_, fun x hx => ?_, ?_, fun x hx => ?_, h.bg⟩, ?_⟩, hG⟩
 ·have := blk_set hG 2 v1
  rw [this]
  rfl
 ·rw [List.length_append, List.map_append]
  exact own_move ho (fun k hk => Below.heap_setCell _ _ _ _ (hne k hk))
 ·have hx1 := hrows x hx
  refine (Below.heap_setCell _ _ _ _ (fun e => ?_)).trans hx1
  subst e
  rw [hG] at hx1
  injection hx1 with hx1
  injection hx1 with _ h2 _
  exact absurd h2 (by decide)
 ·refine List.nodup_append.2 ⟨h.nd, by simp, fun x hx y hy e => ?_⟩
  subst e
  rw [List.mem_singleton.1 hy] at hx
  have := blk_lt (h.row b hx)
  omega
 ·rcases List.mem_append.1 hx with hx | hx
  ·exact h.bb x hx
  ·rw [List.mem_singleton.1 hx]
   omega
 ·exact ((hB.trans (hw.mono hsz)).grown hg (Nat.le_trans hsz hw.size) (fun k hk => (own_kind h.own k hk).1)).setCell (p := ⟨G, 2, none⟩) h.bg _
theorem infoRow : (Tryz.prog.info? 87).map (fun i => (i.zero, i.size, i.bytes)) = some (some (.slice none 0 0), 1, 24) := by kernel_rfl
/-- The append of a new row. -/
theorem new_step {ops : Array Oper} {o : Oper} {a : Act} {Kc : Act → World → Prop} {Q : Exit → Act → World → Prop} {w wr W : World} {B G Wd H : Nat} {v : Value} {bs : List Nat} (h : NewAt wr B G Wd H v bs) (hB : Below B w wr) (hn : bs.length ≤ 1000)
  (hW : W = wr.drew.alloc (.cells (gcells (zrow Wd)).toArray 89)) (s y : Operand) (hw : Region.wanted o (yielded ops a.tmps) = true)
  (ho : o.op = .call { callee := .builtin .append, args := #[s, y], argTypes := #[82, 82] }) (hs : a.eval s = v) (hx : a.eval y = .slice (some ⟨W.heap.size, 0, none⟩) 1 1)
  (k : ∀ g1 c1 w1, Hid (NewAt (w1.setCell ⟨G, 2, none⟩ (.slice (some ⟨g1, 0, none⟩) (bs.length + 1) c1)) B G Wd H (.slice (some ⟨g1, 0, none⟩) (bs.length + 1) c1) (bs ++ [wr.heap.size]) ∧ Below B w (w1.setCell ⟨G, 2, none⟩ (.slice (some ⟨g1, 0, none⟩) (bs.length + 1) c1))) → w1.cell? ⟨G, 2, none⟩ = some v → w1.frozen? ⟨G, 2, none⟩ = false → Kc (a.put o.dst (.slice (some ⟨g1, 0, none⟩) (bs.length + 1) c1)) w1) :
  if Region.wanted o (yielded ops a.tmps) = true then Oper.wp Tryz.prog o a (W.alloc (.cells #[rowV Wd wr.heap.size] 87)) Kc Q else Kc (a.put o.dst undef) (W.alloc (.cells #[rowV Wd wr.heap.size] 87)) := by
 rw [if_pos hw]
 have hsz : B ≤ wr.heap.size := Nat.le_trans h.bg (Nat.le_of_lt (blk_lt h.blk))
 have hb1 : Below wr.heap.size wr W := by rw [hW]; exact below_alloc (below_drew (Below.refl _ _)) _
 have hb2 : Below wr.heap.size wr (W.alloc (.cells #[rowV Wd wr.heap.size] 87)) := below_alloc hb1 _
 obtain ⟨i0, hi, hzz⟩ := Option.map_eq_some_iff.1 infoRow
 simp only [Prod.mk.injEq] at hzz
 obtain ⟨hz0, hz1, hz2⟩ := hzz
 have hown : (W.alloc (.cells #[rowV Wd wr.heap.size] 87)).ownsRow B 87 1 v bs.length (bs.map (rowV Wd)) := own_move h.own (fun k hk => hb2.block k (by
  obtain ⟨_, cur, hc⟩ := own_kind h.own k hk
  exact blk_lt hc))
 refine wp_append_own _ s y 82 ho B 87 i0 (.slice none 0 0) 1 24 Tryz.underlying82 hi hz0 hz1 hz2 rfl (by decide) v bs.length (bs.map (rowV Wd)) hs hown ⟨W.heap.size, 0, none⟩ 1 1 [rowV Wd wr.heap.size] hx rfl (cell_one_new W _ _)
  (fun u hu => by rw [List.mem_singleton.1 hu]; rfl) (by simp only [maxLen]; omega) (by omega) (Nat.le_trans hsz hb2.size) ?_
 intro v1 w1 h2 h3 _
 have hrow : W.heap[wr.heap.size]? = some (Obj.cells (gcells (zrow Wd)).toArray 89 (0, 0)) := by rw [hW]; exact blk_new wr.drew _
 obtain ⟨h4, h5⟩ := new_next h hB hb2 (blk_alloc hrow _) (Nat.le_refl _) h3 h2
 rcases h2.2 with ⟨_, h6⟩ | ⟨g1, c1, _, rfl, _⟩
 ·omega
 exact k g1 c1 w1 (Lib.hid h4) (blk_cell h5 2) (blk_frozen h5 2)
theorem new_calls (w : World) (Wd H : Nat) (hw : 1 ≤ Wd ∧ Wd ≤ 1000) (hh : 1 ≤ H ∧ H ≤ 1000) :
  Calls Tryz.prog 65 #[.int .i64 (Wd : Int), .int .i64 (H : Int)] w fun e w' => e = .returned (.pointer (some ⟨w.heap.size, 0, none⟩)) ∧ (∃ T c bs, AtX w' w.heap.size w.heap.size T c bs (newScr Wd H)) ∧ Below w.heap.size w w' := by
 have HN := Lib.hid (And.intro hw hh)
 have e0 : IntKind.i64.wrap ((H : Int) - 1) = ((H - 1 : Nat) : Int) := by rw [IntKind.wrap_i64]; omega
 clear hw hh
 go_enter Tryz.func65, Tryz.ntmps65
 go_upto_region 2 with fail
 obtain ⟨W, hW⟩ : ∃ W, W = w.alloc (Obj.cells #[.int .i64 Wd, .int .i64 H, .slice none 0 0, .int .i64 0, .int .i64 0, .int .i64 0, .int .i64 0, .int .i64 0, .int .i64 0, .int .i64 0, .int .i64 ((H - 1 : Nat) : Int), .int .u8 0] 86) := ⟨_, rfl⟩
 rw [← hW]
 have HI := Lib.hid (show NewAt W w.heap.size w.heap.size Wd H (.slice none 0 0) [] ∧ Below w.heap.size w W by
  rw [hW]
  exact ⟨⟨blk_new w _, World.ownsRow_nil _ _ _ _, by simp, List.nodup_nil, by simp, Nat.le_refl _⟩, (Below.refl _ _).alloc (Nat.le_refl _) _⟩)
 clear hW e0
 go_wp2_with fail
 go_loopg [13] H (fun kq v13 w' => ∃ i : Nat, v13 = .int .i64 (i : Int) ∧ i + kq = H ∧ Hid (∃ v bs, bs.length = i ∧ NewAt w' w.heap.size w.heap.size Wd H v bs ∧ Below w.heap.size w w'))
 case atStart => exact ⟨0, rfl, by omega, _, [], rfl, HI.out⟩
 case round =>
  clear HI
  obtain ⟨i, rfl, hk, hA⟩ := hrel
  by_cases hi : i < H
  ·have d3 : (i : Int) < (H : Int) := by omega
   have e1 : IntKind.i64.wrap ((i : Int) + 1) = ((i + 1 : Nat) : Int) := by have := HN.out.2.2; rw [IntKind.wrap_i64]; omega
   obtain ⟨v, bs, hl, hI1⟩ := hA.out
   have hI := Lib.hid hI1
   have hbl : bs.length ≤ 1000 := by have := HN.out.2.2; omega
   have c2 : wr.cell? ⟨w.heap.size, 2, none⟩ = some v := blk_cell hI.out.1.blk 2
   have mk := make_row Wd HN.out.1.2
   clear hI1 hA
   go_wp2_with fail
   refine start_ (n := 12) (S := fun w' => w'.cell? ⟨w.heap.size, 2, none⟩ = some v) (ds := [11]) #[false, false, false, false, false, false, false, false, false, false, false, false] (by kernel_rfl) rfl rfl (c2) (fun hHeld => ?_)
   refine pure_ (i := 0) (N := some 15) (v := ?_) (a' := ?_) #[true, false, false, false, false, false, false, false, false, false, false, false] rfl rfl (by kernel_rfl) (fun _ _ _ h => h) (Or.inl ⟨by rfl, ?_⟩) ?_ ?_
   rotate_left
   ·intro w'
    go_simp
    with_reducible rfl
   rotate_left
   ·simp only [Act.put, List.setIfInBounds_toArray, List.set_cons_zero, List.set_cons_succ, i64_w, i32_w]
    rfl
   refine pure_ (i := 1) (N := some 16) (v := ?_) (a' := ?_) #[true, true, false, false, false, false, false, false, false, false, false, false] rfl rfl (by kernel_rfl) (fun _ _ _ h => h) (Or.inl ⟨by rfl, ?_⟩) ?_ ?_
   rotate_left
   ·intro w'
    go_simp
    with_reducible rfl
   rotate_left
   ·simp only [Act.put, List.setIfInBounds_toArray, List.set_cons_zero, List.set_cons_succ, i64_w, i32_w]
    rfl
   refine pure_ (i := 2) (N := some 17) (v := ?_) (a' := ?_) #[true, true, true, false, false, false, false, false, false, false, false, false] rfl rfl (by kernel_rfl) (fun _ _ _ h => h) (Or.inl ⟨by rfl, ?_⟩) ?_ ?_
   rotate_left
   ·intro w'
    go_simp
    with_reducible rfl
   rotate_left
   ·simp only [Act.put, List.setIfInBounds_toArray, List.set_cons_zero, List.set_cons_succ, i64_w, i32_w]
    rfl
   refine pure_ (i := 3) (N := some 18) (v := ?_) (a' := ?_) #[true, true, true, true, false, false, false, false, false, false, false, false] rfl rfl (by kernel_rfl) (fun _ _ _ h => h) (Or.inl ⟨by rfl, ?_⟩) ?_ ?_
   rotate_left
   ·intro w'
    go_simp
    with_reducible rfl
   rotate_left
   ·simp only [Act.put, List.setIfInBounds_toArray, List.set_cons_zero, List.set_cons_succ, i64_w, i32_w]
    rfl
   refine pure_ (i := 5) (N := some 20) (v := ?_) (a' := ?_) #[true, true, true, true, false, true, false, false, false, false, false, false] rfl rfl (by kernel_rfl) (fun _ _ _ h => h) (Or.inl ⟨by rfl, ?_⟩) ?_ ?_
   rotate_left
   ·intro w'
    go_simp
    with_reducible rfl
   rotate_left
   ·simp only [Act.put, List.setIfInBounds_toArray, List.set_cons_zero, List.set_cons_succ, i64_w, i32_w]
    rfl
   refine take_ (i := 4) (N := some 19) (v := ?_) (a' := ?_) #[true, true, true, true, true, true, false, false, false, false, false, false] rfl rfl (by kernel_rfl) (fun _ _ _ h => h) (Or.inl ⟨by rfl, ?_⟩) hHeld ?_ ?_
   rotate_left
   ·intro w' s0
    go_simp
    with_reducible rfl
   rotate_left
   ·simp only [Act.put, List.setIfInBounds_toArray, List.set_cons_zero, List.set_cons_succ, i64_w, i32_w]
    rfl
   refine one_ (i := 6) (N := some 21) #[true, true, true, true, true, true, true, false, false, false, false, false] rfl rfl (by kernel_rfl) (by decide) (fun K hK => ?_)
   refine value_ (w1 := ?_) (v := ?_) (by rfl) rfl ?_ ?_
   rotate_left 2
   ·go_simp
    constructor
    ·rfl
    ·rfl
   refine hK.out _ _ ((held_new hHeld _)) (fun hHeld => ?_)
   clear hK K
   refine norm_ (a' := ?_) ?_ ?_
   rotate_left
   ·show Act.put _ (some 21) _ = _
    simp only [Act.put, List.setIfInBounds_toArray, List.set_cons_zero, List.set_cons_succ, i64_w, i32_w]
    rfl
   refine one_ (i := 7) (N := some 22) #[true, true, true, true, true, true, true, true, false, false, false, false] rfl rfl (by kernel_rfl) (by decide) (fun K hK => ?_)
   refine value_ (w1 := ?_) (v := ?_) (by rfl) rfl ?_ ?_
   rotate_left 2
   ·go_simp
    constructor
    ·rfl
    ·rfl
   refine hK.out _ _ ((held_new hHeld _)) (fun hHeld => ?_)
   clear hK K
   refine norm_ (a' := ?_) ?_ ?_
   rotate_left
   ·show Act.put _ (some 22) _ = _
    simp only [Act.put, List.setIfInBounds_toArray, List.set_cons_zero, List.set_cons_succ, i64_w, i32_w]
    rfl
   refine one_ (i := 8) (N := some 23) #[true, true, true, true, true, true, true, true, true, false, false, false] rfl rfl (by kernel_rfl) (by decide) (fun K hK => ?_)
   refine new_step hI.out.1 hI.out.2 (by omega) rfl (.tmp 19) (.tmp 22) (by rfl) rfl rfl (by show Value.slice _ _ _ = _; simp) ?_
   intro g1 c1 w1 HE k1 k2
   refine hK.out _ _ (k1) (fun hHeld => ?_)
   clear hK K
   refine norm_ (a' := ?_) ?_ ?_
   rotate_left
   ·show Act.put _ (some 23) _ = _
    simp only [Act.put, List.setIfInBounds_toArray, List.set_cons_zero, List.set_cons_succ, i64_w, i32_w]
    rfl
   refine pure_ (i := 9) (N := some 24) (v := ?_) (a' := ?_) #[true, true, true, true, true, true, true, true, true, true, false, false] rfl rfl (by kernel_rfl) (fun _ _ _ h => h) (Or.inl ⟨by rfl, ?_⟩) ?_ ?_
   rotate_left
   ·intro w'
    go_simp
    with_reducible rfl
   rotate_left
   ·simp only [Act.put, List.setIfInBounds_toArray, List.set_cons_zero, List.set_cons_succ, i64_w, i32_w]
    rfl
   refine pure_ (i := 10) (N := some 25) (v := ?_) (a' := ?_) #[true, true, true, true, true, true, true, true, true, true, true, false] rfl rfl (by kernel_rfl) (fun _ _ _ h => h) (Or.inl ⟨by rfl, ?_⟩) ?_ ?_
   rotate_left
   ·intro w'
    go_simp
    with_reducible rfl
   rotate_left
   ·simp only [Act.put, List.setIfInBounds_toArray, List.set_cons_zero, List.set_cons_succ, i64_w, i32_w]
    rfl
   refine last_ (i := 11) (N := none) #[true, true, true, true, true, true, true, true, true, true, true, true] rfl rfl (by kernel_rfl) (by decide) (fun K hK => ?_)
   refine skip_ (w1 := ?_) (by rfl) rfl ?_ ?_
   rotate_left
   ·go_simp
    rfl
   refine hK.out _ _ ?_
   clear hK K
   refine done_ (by kernel_rfl) ?_
   go_wp2_with fail
   go_roundg (H - (i + 1))
   case measure => omega
   case rel => exact ⟨i + 1, rfl, by omega, _, bs ++ [wr.heap.size], (by rw [List.length_append, hl]; rfl), by have hq := HE.out; rw [hl] at hq; exact hq⟩
  ·have d3 : decide ((i : Int) < (H : Int)) = false := decide_eq_false (by omega)
   obtain ⟨v, bs, hl, hI⟩ := hA.out
   obtain ⟨T, c, hT⟩ := new_at hI.1 (by omega) HN.out.2.1
   have hend := Lib.hid (And.intro hT hI.2)
   clear hT hI hA
   go_wp2_with fail
   go_ret
   exact ⟨rfl, ⟨T, c, bs, hend.out.1⟩, hend.out.2⟩
end Go.Proofs.YteebhoehflgfoaaGreatDoor.Y
end
