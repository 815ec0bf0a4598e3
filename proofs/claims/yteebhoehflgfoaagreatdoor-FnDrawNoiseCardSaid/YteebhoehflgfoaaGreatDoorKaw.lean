/- Texts of this claim, joined: Y98D Y98 XNums0 XCtrl. Of each, what the claim uses. -/
import Derived.Test.YteebhoehflgfoaaGreatDoorKac
import Derived.Test.YteebhoehflgfoaaGreatDoorKav
import Derived.Test.YteebhoehflgfoaaGreatDoorKat
import Derived.Lib.Hide
import Derived.Deep.LoopGhost
section
namespace Go.Proofs.YteebhoehflgfoaaGreatDoor.Y
open Go.RowKit Go.Proofs.YteebhoehflgfoaaGreatDoorW.PrintWords Go.Proofs.YteebhoehflgfoaaGreatDoorW.PrintLast Go.Proofs.YteebhoehflgfoaaGreatDoorW.PrintMore
attribute [local go_sem] max2_int min2_int max_two min_two max_three min_three max_four min_four
set_option linter.unusedVariables false
set_option linter.unusedSimpArgs false
/-! ### spec_DrawParam: function 155 -/
def spec_DrawParam.f (l0 : List Int) (a1 : Int) (a2 : Int) : Option (Int) := if a1 ≥ (l0.length : Int) then (some a2) else (if 0 ≤ a1 then (if a1 < (l0.length : Int) then ((spec_Or.f (rd l0 a1) a2).bind fun t436 => (some t436)) else (none)) else (none))
set_option maxHeartbeats 8000000 in
set_option maxRecDepth 100000 in
theorem spec_DrawParam.calls (A0 : Option Addr) (c0 : Nat) (l0 : List Int) (a1 : Int) (a2 : Int) (r : Int) (w : World) (hr0 : Kd.C (Kd.int .i64) w A0 l0.length l0) (hc0 : l0.length ≤ c0) (h : spec_DrawParam.f l0 a1 a2 = some r) :
  Calls Tryz.prog 155 #[.slice A0 l0.length c0, .int .i64 a1, .int .i64 a2] w fun e w' => e = .returned (.int .i64 r) ∧ Drawn0 w w' := by
 have HR0 := Aside0.mk hr0
 have HC0 := Aside0.mk hc0
 clear hr0 hc0
 have H : (if a1 ≥ (l0.length : Int) then (some a2) else (if 0 ≤ a1 then (if a1 < (l0.length : Int) then ((spec_Or.f (rd l0 a1) a2).bind fun t436 => (some t436)) else (none)) else (none))) = some r := h
 clear h
 by_cases c4 : a1 ≥ (l0.length : Int)
 ·rw [if_pos c4] at H
  have c4b0 : decide ((l0.length : Int) ≤ a1) = true := decide_eq_true c4
  clear c4
  obtain rfl := Option.some.inj H
  go_enter Tryz.func155, Tryz.ntmps155
  go_wp2
  go_ret
  exact ⟨by first | rfl | (simp; done) | (simp [*]; done), by repeat (first | exact Drawn0.refl _ | apply Drawn0.step)⟩
 ·rw [if_neg c4] at H
  have c4b0 : decide ((l0.length : Int) ≤ a1) = false := decide_eq_false c4
  clear c4
  by_cases c5 : 0 ≤ a1
  ·rw [if_pos c5] at H
   have c5b0 : decide (0 ≤ a1) = true := decide_eq_true c5
   clear c5
   by_cases c6 : a1 < (l0.length : Int)
   ·rw [if_pos c6] at H
    have c6b0 : decide (a1 < (l0.length : Int)) = true := decide_eq_true c6
    clear c6
    replace H := Option.bind_eq_some_iff.mp H
    obtain ⟨t436, A70, H⟩ := H
    replace H : (some t436) = some r := H
    have A7 := Aside0.mk A70
    clear A70
    obtain rfl := Option.some.inj H
    have p435 : 0 ≤ (a1 : Int) := of_decide_eq_true (by first | (with_reducible assumption) | assumption)
    have q435 : a1 < (l0.length : Int) := of_decide_eq_true (by first | (with_reducible assumption) | assumption)
    obtain ⟨ad435, e435, hx435_0⟩ := Kd.at_int HR0.out a1 p435 q435
    cases e435
    replace p435 := eq_true p435
    replace q435 := eq_true q435
    go_enter Tryz.func155, Tryz.ntmps155
    go_wp2_with (first | ((with_reducible refine gate_callee (f := 179) rfl ?_); refine goesL_ (some 17) rfl rfl Tryz.func179 (by kernel_rfl) rfl #[.int .i64 (rd l0 a1), .int .i64 a2] rfl (by (try simp only [List.map_toArray, List.map_cons, List.map_nil]); first | done | rfl | (simp only [List.length_drop, List.length_take]; rfl)) ?_; (with_reducible refine (spec_Or.calls (rd l0 a1) a2 t436 _ A7.out).mono ?_); rintro e w' ⟨rfl, ⟨nd, rfl⟩⟩; refine ⟨_, rfl, ?_⟩))
    go_ret
    exact ⟨by first | rfl | (simp; done) | (simp [*]; done), by repeat (first | exact Drawn0.refl _ | apply Drawn0.step)⟩
   ·rw [if_neg c6] at H
    exact absurd H (by simp)
  ·rw [if_neg c5] at H
   exact absurd H (by simp)
end Go.Proofs.YteebhoehflgfoaaGreatDoor.Y
end
section
namespace Go.Proofs.YteebhoehflgfoaaGreatDoor.Y
open Go.RowKit Go.Proofs.YteebhoehflgfoaaGreatDoorW.PrintWords Go.Proofs.YteebhoehflgfoaaGreatDoorW.PrintLast Go.Proofs.YteebhoehflgfoaaGreatDoorW.PrintMore
theorem bits_low (a : Nat) (h : a < 2147483648) : Go.bits .and .i64 (a : Int) 2147483647 = (a : Int) := by
 have := bits_mask .i64 40 (by decide) (fun n h0 h1 => by rw [IntKind.wrap_i64]; omega) 31 (by decide) (a : Int) (by omega) (by omega)
 rw [show (2147483647 : Int) = 2 ^ 31 - 1 by decide, this]
 omega
theorem value_f (a : Int) (h0 : 0 ≤ a) (h1 : a < 2147483648) : spec_Value.f a = some a := by
 obtain ⟨n, rfl⟩ := Int.eq_ofNat_of_zero_le h0
 unfold spec_Value.f
 rw [bits_low n (by omega)]
theorem or_f (a d : Int) (h0 : 0 ≤ a) (h1 : a < 2147483647) : spec_Or.f a d = some a := by
 unfold spec_Or.f
 rw [value_f a h0 (by omega), Option.bind_some, if_neg (by omega), Option.bind_some]
theorem rd_at (l : List Int) (i : Nat) (h : i < l.length) : rd l (i : Int) = l[i] := by simp [rd, h]
/-- A parameter that is there. -/
theorem param_f (l : List Int) (i : Nat) (d : Int) (hi : i < l.length) (h0 : 0 ≤ l[i]) (h1 : l[i] < 2147483647) : spec_DrawParam.f l (i : Int) d = some l[i] := by
 unfold spec_DrawParam.f
 rw [if_neg (by omega), if_pos (by omega), if_pos (by omega), rd_at l i hi, or_f _ d h0 h1, Option.bind_some]
theorem param_none (l : List Int) (i : Nat) (d : Int) (hi : l.length ≤ i) : spec_DrawParam.f l (i : Int) d = some d := by
 unfold spec_DrawParam.f
 rw [if_pos (by omega)]
end Go.Proofs.YteebhoehflgfoaaGreatDoor.Y
end
section
namespace Go.Proofs.YteebhoehflgfoaaGreatDoor.Y
open Go.RowKit Go.Proofs.YteebhoehflgfoaaGreatDoorW.PrintWords Go.Proofs.YteebhoehflgfoaaGreatDoorW.PrintLast Go.Proofs.YteebhoehflgfoaaGreatDoorW.PrintMore
attribute [local go_sem] max2_int min2_int max_two min_two
set_option linter.unusedSimpArgs false
set_option linter.unusedVariables false
set_option maxRecDepth 100000
set_option maxHeartbeats 8000000
def finalsL : List (Int × Int) := [(65, 0), (66, 1), (67, 2), (68, 3), (69, 4), (70, 5), (71, 6), (88, 9), (74, 10), (75, 11), (83, 12), (84, 13), (76, 14), (77, 15), (64, 16), (80, 17), (100, 18), (101, 19), (96, 20), (97, 21), (98, 22)]
def finalOf (c : Int) : Option Int := (finalsL.find? (fun p => p.1 == c)).map Prod.snd
def mapE (l : List (Int × Int)) : List MapEntry := l.zipIdx.map fun (p, n) => ({ key := .int .u8 p.1, val := .int .i64 p.2, born := n } : MapEntry)
/-- What drawControl tells. -/
def spec_drawControl.f (a0 : Int) (l1 : List Int) : Option (Int × Int × Int × ByteArray × List Int × Bool) :=
 match finalOf a0 with
 | some k => if k = 10 ∨ k = 11 then (spec_DrawParam.f l1 0 0).map fun n => (k, n, 0, ⟨#[]⟩, [], true) else (spec_DrawParam.f l1 0 1).map fun n => (k, max n 1, 0, ⟨#[]⟩, [], true)
 | none => (spec_DrawParam.f l1 0 1).bind fun a => (spec_DrawParam.f l1 1 1).bind fun b =>
  if a0 = 72 then some (40, max b 1, max a 1, ⟨#[]⟩, [], true) else if a0 = 102 then some (41, max b 1, max a 1, ⟨#[]⟩, [], true) else if a0 = 114 then some (42, max a 1, max b 1, ⟨#[]⟩, [], true)
  else if a0 = 109 ∧ l1.length < 1000000 ∧ (∀ p ∈ l1, 0 ≤ p ∧ p < 2147483647) then some (52, 0, 0, ⟨#[]⟩, (if l1 = [] then [0] else l1), true) else none
/-- What a look-up in the finals finds. -/
theorem found (s : Int) (v : Int) (h : (s, v) ∈ finalsL) : (0 ≤ s ∧ s ≤ 127) ∧ ∃ n, Instr.findNow (.int .u8) (.int .u8 s) (mapE finalsL) 0 = some (some (n, .int .i64 v)) := by
 simp only [finalsL, List.mem_cons, Prod.mk.injEq, List.not_mem_nil, or_false] at h
 rcases h with ⟨rfl, rfl⟩ | ⟨rfl, rfl⟩ | ⟨rfl, rfl⟩ | ⟨rfl, rfl⟩ | ⟨rfl, rfl⟩ | ⟨rfl, rfl⟩ | ⟨rfl, rfl⟩ | ⟨rfl, rfl⟩ | ⟨rfl, rfl⟩ | ⟨rfl, rfl⟩ | ⟨rfl, rfl⟩ | ⟨rfl, rfl⟩ | ⟨rfl, rfl⟩ | ⟨rfl, rfl⟩ | ⟨rfl, rfl⟩ | ⟨rfl, rfl⟩ | ⟨rfl, rfl⟩ | ⟨rfl, rfl⟩ | ⟨rfl, rfl⟩ | ⟨rfl, rfl⟩ | ⟨rfl, rfl⟩
 all_goals exact ⟨by omega, _, by rfl⟩
theorem not_found (s : Int) (h : s = 72 ∨ s = 102 ∨ s = 114 ∨ s = 109) : Instr.findNow (.int .u8) (.int .u8 s) (mapE finalsL) 0 = some none := by
 rcases h with rfl | rfl | rfl | rfl <;> rfl
theorem finalOf_mem {s k : Int} (h : finalOf s = some k) : (s, k) ∈ finalsL := by
 unfold finalOf at h
 obtain ⟨p, hp, rfl⟩ := Option.map_eq_some_iff.1 h
 have h1 := List.find?_some hp
 have h2 := List.mem_of_find?_eq_some hp
 simp only [beq_iff_eq] at h1
 subst h1
 exact h2
theorem zeroI (w : World) : (zeroValue 2).run Tryz.prog w = .ok (.int .i64 0) w := by kernel_rfl
abbrev opCells (a b c : Int) (t : ByteArray) (v : Value) : Value := .agg #[.int .i64 a, .int .i64 b, .int .i64 c, .string t, v]
abbrev zeroOp : Obj := .cells #[.int .i64 0, .int .i64 0, .int .i64 0, .string ⟨#[]⟩, .slice none 0 0] 38
theorem ctrl_start (w w1 : World) (h : w1 = mapW (w.alloc zeroOp) finalsL) :
  w1.heap[w.heap.size]? = some (Obj.cells #[.int .i64 0, .int .i64 0, .int .i64 0, .string ⟨#[]⟩, .slice none 0 0] 38 (0, 0)) ∧ w1.heap[w.heap.size + 1]? = some (Obj.map (mapE finalsL).toArray 21) ∧ Below w.heap.size w w1 := by
 subst h
 refine ⟨blk_alloc (blk_new w zeroOp) _, ?_, below_alloc (below_alloc (Below.refl _ _) _) _⟩
 have e : w.heap.size + 1 = (w.alloc zeroOp).heap.size := by simp
 rw [e]
 exact blk_new (w.alloc zeroOp) (.map (mapE finalsL).toArray 21)
/-- The five cells of an operation, stored. -/
theorem op_stored {w w3 : World} {p : Nat} (hb : Below w.heap.size w w3) (hp : w3.heap[p]? = some (Obj.cells #[.int .i64 0, .int .i64 0, .int .i64 0, .string ⟨#[]⟩, .slice none 0 0] 38 (0, 0))) (hle : w.heap.size ≤ p) (a b c : Int) (t : ByteArray) (v : Value) :
  (((((w3.setCell ⟨p, 0, none⟩ (.int .i64 a)).setCell ⟨p, 1, none⟩ (.int .i64 b)).setCell ⟨p, 2, none⟩ (.int .i64 c)).setCell ⟨p, 3, none⟩ (.string t)).setCell ⟨p, 4, none⟩ v).heap[p]? = some (Obj.cells #[.int .i64 a, .int .i64 b, .int .i64 c, .string t, v] 38 (0, 0)) ∧
   Below w.heap.size w (((((w3.setCell ⟨p, 0, none⟩ (.int .i64 a)).setCell ⟨p, 1, none⟩ (.int .i64 b)).setCell ⟨p, 2, none⟩ (.int .i64 c)).setCell ⟨p, 3, none⟩ (.string t)).setCell ⟨p, 4, none⟩ v) :=
 ⟨blk_put (blk_put (blk_put (blk_put (blk_put hp 0 _ rfl) 1 _ rfl) 2 _ rfl) 3 _ rfl) 4 _ rfl, ((((hb.setCell (p := ⟨p, 0, none⟩) hle _).setCell (p := ⟨p, 1, none⟩) hle _).setCell (p := ⟨p, 2, none⟩) hle _).setCell (p := ⟨p, 3, none⟩) hle _).setCell (p := ⟨p, 4, none⟩) hle _⟩
theorem ctrl_final (s k n : Int) (A1 : Option Addr) (c1 : Nat) (l1 : List Int) (w : World) (hr1 : Kd.C (Kd.int .i64) w A1 l1.length l1) (hc1 : l1.length ≤ c1) (hm : (s, k) ∈ finalsL) (hk : k = 10 ∨ k = 11) (h : spec_DrawParam.f l1 0 0 = some n) :
  Calls Tryz.prog 137 #[.int .i64 s, .slice A1 l1.length c1] w fun e w' => e = .returned (.tuple #[opCells k n 0 ⟨#[]⟩ (.slice none 0 0), .bool true]) ∧ Below w.heap.size w w' := by
 obtain ⟨⟨s0, s1⟩, nf, hfn⟩ := found s k hm
 have HR := Lib.hid (And.intro hr1 (And.intro hc1 h))
 have d0 : decide (s < 0) = false := decide_eq_false (by omega)
 have d1 : decide (127 < s) = false := decide_eq_false (by omega)
 have e0 : IntKind.u8.wrap s = s := by rw [show IntKind.u8.wrap s = s % 256 from rfl]; omega
 clear hr1 hc1 h hm s0 s1
 go_enter Tryz.func137, Tryz.ntmps137
 go_wp2_with fail
 with_reducible refine (drawFinals_calls _).mono ?_
 rintro e w1 ⟨rfl, hw1⟩
 obtain ⟨hp, hr, hb⟩ := ctrl_start w w1 hw1
 rw [show (w.alloc zeroOp).heap.size = w.heap.size + 1 by simp]
 have hl := look_in (P := Tryz.prog) (w := w1) 164 5 2 (w.heap.size + 1) 21 (mapE finalsL) s k nf Tryz.underlying164 Tryz.underlying5 hr hfn
 have HW := Lib.hid (And.intro hp hb)
 clear hw1 hr hp hb hfn
 rcases hk with rfl | rfl
 all_goals
  go_wp2_with fail
  with_reducible refine (spec_DrawParam.calls _ _ _ _ _ _ _ (Kd.C_below HR.out.1 HW.out.2) HR.out.2.1 HR.out.2.2).mono ?_
  rintro e w2 ⟨rfl, ⟨nd, rfl⟩⟩
  have q0 : (w1.drewN nd).cell? ⟨w.heap.size, 0, none⟩ = some (.int .i64 0) := blk_cell HW.out.1 0
  have q1 : (w1.drewN nd).cell? ⟨w.heap.size, 1, none⟩ = some (.int .i64 0) := blk_cell HW.out.1 1
  have q2 : (w1.drewN nd).cell? ⟨w.heap.size, 2, none⟩ = some (.int .i64 0) := blk_cell HW.out.1 2
  have q3 : (w1.drewN nd).cell? ⟨w.heap.size, 3, none⟩ = some (.string ⟨#[]⟩) := blk_cell HW.out.1 3
  have q4 : (w1.drewN nd).cell? ⟨w.heap.size, 4, none⟩ = some (.slice none 0 0) := blk_cell HW.out.1 4
  have f0 : (w1.drewN nd).frozen? ⟨w.heap.size, 0, none⟩ = false := blk_frozen HW.out.1 0
  have f1 : (w1.drewN nd).frozen? ⟨w.heap.size, 1, none⟩ = false := blk_frozen HW.out.1 1
  have f2 : (w1.drewN nd).frozen? ⟨w.heap.size, 2, none⟩ = false := blk_frozen HW.out.1 2
  have f3 : (w1.drewN nd).frozen? ⟨w.heap.size, 3, none⟩ = false := blk_frozen HW.out.1 3
  have f4 : (w1.drewN nd).frozen? ⟨w.heap.size, 4, none⟩ = false := blk_frozen HW.out.1 4
  have H3 : Hid (Below w.heap.size w (w1.drewN nd) ∧ (w1.drewN nd).heap[w.heap.size]? = some (Obj.cells #[.int .i64 0, .int .i64 0, .int .i64 0, .string ⟨#[]⟩, .slice none 0 0] 38 (0, 0))) := ⟨pw_below_drewN HW.out.2 nd, HW.out.1⟩
  generalize w1.drewN nd = w3 at q0 q1 q2 q3 q4 f0 f1 f2 f3 f4 H3 ⊢
  clear hl
  go_wp2_with fail
  refine bodyPost_ret (results_ct (fn := Tryz.f137) rfl _ _ w.heap.size 38 _ (0, 0) _ rfl (op_stored H3.out.1 H3.out.2 (Nat.le_refl _) _ _ _ _ _).1 Tryz.underlying38 rfl (by kernel_rfl)) rfl ?_
  exact ⟨by first | rfl | (rw [hm2.out]; rfl), (op_stored H3.out.1 H3.out.2 (Nat.le_refl _) _ _ _ _ _).2⟩
theorem ctrl_one (s k n : Int) (A1 : Option Addr) (c1 : Nat) (l1 : List Int) (w : World) (hr1 : Kd.C (Kd.int .i64) w A1 l1.length l1) (hc1 : l1.length ≤ c1) (hm : (s, k) ∈ finalsL) (hk : k ≠ 10 ∧ k ≠ 11) (h : spec_DrawParam.f l1 0 1 = some n) :
  Calls Tryz.prog 137 #[.int .i64 s, .slice A1 l1.length c1] w fun e w' => e = .returned (.tuple #[opCells k (max n 1) 0 ⟨#[]⟩ (.slice none 0 0), .bool true]) ∧ Below w.heap.size w w' := by
 obtain ⟨⟨s0, s1⟩, nf, hfn⟩ := found s k hm
 have HR := Lib.hid (And.intro hr1 (And.intro hc1 h))
 have d0 : decide (s < 0) = false := decide_eq_false (by omega)
 have d1 : decide (127 < s) = false := decide_eq_false (by omega)
 have e0 : IntKind.u8.wrap s = s := by rw [show IntKind.u8.wrap s = s % 256 from rfl]; omega
 clear hr1 hc1 h hm s0 s1
 have g1 : (k == 10) = false := beq_eq_false_iff_ne.2 hk.1
 have g2 : (k == 11) = false := beq_eq_false_iff_ne.2 hk.2
 clear hk
 have hx : (n < 1 ∧ max n 1 = 1) ∨ (1 ≤ n ∧ max n 1 = n) := by omega
 go_enter Tryz.func137, Tryz.ntmps137
 go_wp2_with fail
 with_reducible refine (drawFinals_calls _).mono ?_
 rintro e w1 ⟨rfl, hw1⟩
 obtain ⟨hp, hr, hb⟩ := ctrl_start w w1 hw1
 rw [show (w.alloc zeroOp).heap.size = w.heap.size + 1 by simp]
 have hl := look_in (P := Tryz.prog) (w := w1) 164 5 2 (w.heap.size + 1) 21 (mapE finalsL) s k nf Tryz.underlying164 Tryz.underlying5 hr hfn
 have HW := Lib.hid (And.intro hp hb)
 clear hw1 hr hp hb hfn
 rcases hx with ⟨hx, hm⟩ | ⟨hx, hm⟩
 all_goals
  have hm2 := Lib.hid hm
  clear hm
  go_wp2_with fail
  with_reducible refine (spec_DrawParam.calls _ _ _ _ _ _ _ (Kd.C_below HR.out.1 HW.out.2) HR.out.2.1 HR.out.2.2).mono ?_
  rintro e w2 ⟨rfl, ⟨nd, rfl⟩⟩
  have q0 : (w1.drewN nd).cell? ⟨w.heap.size, 0, none⟩ = some (.int .i64 0) := blk_cell HW.out.1 0
  have q1 : (w1.drewN nd).cell? ⟨w.heap.size, 1, none⟩ = some (.int .i64 0) := blk_cell HW.out.1 1
  have q2 : (w1.drewN nd).cell? ⟨w.heap.size, 2, none⟩ = some (.int .i64 0) := blk_cell HW.out.1 2
  have q3 : (w1.drewN nd).cell? ⟨w.heap.size, 3, none⟩ = some (.string ⟨#[]⟩) := blk_cell HW.out.1 3
  have q4 : (w1.drewN nd).cell? ⟨w.heap.size, 4, none⟩ = some (.slice none 0 0) := blk_cell HW.out.1 4
  have f0 : (w1.drewN nd).frozen? ⟨w.heap.size, 0, none⟩ = false := blk_frozen HW.out.1 0
  have f1 : (w1.drewN nd).frozen? ⟨w.heap.size, 1, none⟩ = false := blk_frozen HW.out.1 1
  have f2 : (w1.drewN nd).frozen? ⟨w.heap.size, 2, none⟩ = false := blk_frozen HW.out.1 2
  have f3 : (w1.drewN nd).frozen? ⟨w.heap.size, 3, none⟩ = false := blk_frozen HW.out.1 3
  have f4 : (w1.drewN nd).frozen? ⟨w.heap.size, 4, none⟩ = false := blk_frozen HW.out.1 4
  have H3 : Hid (Below w.heap.size w (w1.drewN nd) ∧ (w1.drewN nd).heap[w.heap.size]? = some (Obj.cells #[.int .i64 0, .int .i64 0, .int .i64 0, .string ⟨#[]⟩, .slice none 0 0] 38 (0, 0))) := ⟨pw_below_drewN HW.out.2 nd, HW.out.1⟩
  generalize w1.drewN nd = w3 at q0 q1 q2 q3 q4 f0 f1 f2 f3 f4 H3 ⊢
  clear hl
  go_wp2_with fail
  refine bodyPost_ret (results_ct (fn := Tryz.f137) rfl _ _ w.heap.size 38 _ (0, 0) _ rfl (op_stored H3.out.1 H3.out.2 (Nat.le_refl _) _ _ _ _ _).1 Tryz.underlying38 rfl (by kernel_rfl)) rfl ?_
  exact ⟨by first | rfl | (rw [hm2.out]; rfl), (op_stored H3.out.1 H3.out.2 (Nat.le_refl _) _ _ _ _ _).2⟩
theorem ctrl_two (s a b : Int) (A1 : Option Addr) (c1 : Nat) (l1 : List Int) (w : World) (hr1 : Kd.C (Kd.int .i64) w A1 l1.length l1) (hc1 : l1.length ≤ c1) (hs : s = 72 ∨ s = 102 ∨ s = 114) (h : spec_DrawParam.f l1 0 1 = some a ∧ spec_DrawParam.f l1 1 1 = some b) :
  Calls Tryz.prog 137 #[.int .i64 s, .slice A1 l1.length c1] w fun e w' => e = .returned (.tuple #[opCells (if s = 72 then 40 else if s = 102 then 41 else 42) (if s = 114 then max a 1 else max b 1) (if s = 114 then max b 1 else max a 1) ⟨#[]⟩ (.slice none 0 0), .bool true]) ∧ Below w.heap.size w w' := by
 have hfn := not_found s (by omega)
 have HR := Lib.hid (And.intro hr1 (And.intro hc1 h))
 have d0 : decide (s < 0) = false := decide_eq_false (by omega)
 have d1 : decide (127 < s) = false := decide_eq_false (by omega)
 have e0 : IntKind.u8.wrap s = s := by rw [show IntKind.u8.wrap s = s % 256 from rfl]; omega
 clear hr1 hc1 h
 have hx : (a < 1 ∧ max a 1 = 1) ∨ (1 ≤ a ∧ max a 1 = a) := by omega
 have hy : (b < 1 ∧ max b 1 = 1) ∨ (1 ≤ b ∧ max b 1 = b) := by omega
 go_enter Tryz.func137, Tryz.ntmps137
 go_wp2_with fail
 with_reducible refine (drawFinals_calls _).mono ?_
 rintro e w1 ⟨rfl, hw1⟩
 obtain ⟨hp, hr, hb⟩ := ctrl_start w w1 hw1
 rw [show (w.alloc zeroOp).heap.size = w.heap.size + 1 by simp]
 have hl := look_out (P := Tryz.prog) (w := w1) 164 5 2 (w.heap.size + 1) 21 (mapE finalsL) s Tryz.underlying164 Tryz.underlying5 (zeroI w1) hr hfn
 have HW := Lib.hid (And.intro hp hb)
 clear hw1 hr hp hb hfn
 rcases hs with rfl | rfl | rfl
 all_goals
  go_wp2_with fail
  with_reducible refine (spec_DrawParam.calls _ _ _ _ _ _ _ (Kd.C_below HR.out.1 HW.out.2) HR.out.2.1 HR.out.2.2.1).mono ?_
  rintro e w2 ⟨rfl, ⟨nd, rfl⟩⟩
  have hl2 := Lib.hid hl
  clear hl
  rcases hx with ⟨hx, hm⟩ | ⟨hx, hm⟩
  all_goals
   have hm2 := Lib.hid hm
   clear hm
   go_wp2_with fail
   with_reducible refine (spec_DrawParam.calls _ _ _ _ _ _ _ (Kd.C_below HR.out.1 (pw_below_drewN HW.out.2 nd)) HR.out.2.1 HR.out.2.2.2).mono ?_
   rintro e w2 ⟨rfl, ⟨nd2, rfl⟩⟩
   rcases hy with ⟨hy, hn⟩ | ⟨hy, hn⟩
   all_goals
    have hn2 := Lib.hid hn
    clear hn
    have q0 : ((w1.drewN nd).drewN nd2).cell? ⟨w.heap.size, 0, none⟩ = some (.int .i64 0) := blk_cell HW.out.1 0
    have q1 : ((w1.drewN nd).drewN nd2).cell? ⟨w.heap.size, 1, none⟩ = some (.int .i64 0) := blk_cell HW.out.1 1
    have q2 : ((w1.drewN nd).drewN nd2).cell? ⟨w.heap.size, 2, none⟩ = some (.int .i64 0) := blk_cell HW.out.1 2
    have q3 : ((w1.drewN nd).drewN nd2).cell? ⟨w.heap.size, 3, none⟩ = some (.string ⟨#[]⟩) := blk_cell HW.out.1 3
    have q4 : ((w1.drewN nd).drewN nd2).cell? ⟨w.heap.size, 4, none⟩ = some (.slice none 0 0) := blk_cell HW.out.1 4
    have f0 : ((w1.drewN nd).drewN nd2).frozen? ⟨w.heap.size, 0, none⟩ = false := blk_frozen HW.out.1 0
    have f1 : ((w1.drewN nd).drewN nd2).frozen? ⟨w.heap.size, 1, none⟩ = false := blk_frozen HW.out.1 1
    have f2 : ((w1.drewN nd).drewN nd2).frozen? ⟨w.heap.size, 2, none⟩ = false := blk_frozen HW.out.1 2
    have f3 : ((w1.drewN nd).drewN nd2).frozen? ⟨w.heap.size, 3, none⟩ = false := blk_frozen HW.out.1 3
    have f4 : ((w1.drewN nd).drewN nd2).frozen? ⟨w.heap.size, 4, none⟩ = false := blk_frozen HW.out.1 4
    have H3 : Hid (Below w.heap.size w ((w1.drewN nd).drewN nd2) ∧ ((w1.drewN nd).drewN nd2).heap[w.heap.size]? = some (Obj.cells #[.int .i64 0, .int .i64 0, .int .i64 0, .string ⟨#[]⟩, .slice none 0 0] 38 (0, 0))) := ⟨pw_below_drewN (pw_below_drewN HW.out.2 nd) nd2, HW.out.1⟩
    generalize (w1.drewN nd).drewN nd2 = w3 at q0 q1 q2 q3 q4 f0 f1 f2 f3 f4 H3 ⊢
    go_wp2_with fail
    refine bodyPost_ret (results_ct (fn := Tryz.f137) rfl _ _ w.heap.size 38 _ (0, 0) _ rfl (op_stored H3.out.1 H3.out.2 (Nat.le_refl _) _ _ _ _ _).1 Tryz.underlying38 rfl (by kernel_rfl)) rfl ?_
    exact ⟨by simp [hm2.out, hn2.out], (op_stored H3.out.1 H3.out.2 (Nat.le_refl _) _ _ _ _ _).2⟩
theorem infoI64 : (Tryz.prog.info? 2).map (fun i => (i.zero, i.size, i.bytes)) = some (some (.int .i64 0), 1, 8) := by kernel_rfl
theorem own_of_param {l : List Int} (h : ∀ p ∈ l, 0 ≤ p ∧ p < 2147483647) (i : Nat) (hi : i < l.length) : spec_DrawParam.f l (i : Int) 0 = some l[i] := by
 obtain ⟨h0, h1⟩ := h _ (List.getElem_mem hi)
 exact param_f l i 0 hi h0 h1
/-- The list of a stored operation. -/
theorem style_R {w3 : World} {base p : Nat} {v0 : Value} {ys zs : List Int} (h : Kd.R (Kd.int .i64) 2 w3 base (fun _ => True) v0 ys)
  (hp : w3.heap[p]? = some (Obj.cells #[.int .i64 0, .int .i64 0, .int .i64 0, .string ⟨#[]⟩, .slice none 0 0] 38 (0, 0))) (hz : zs = ys) (a b c : Int) (t : ByteArray) (v : Value) :
  Kd.R (Kd.int .i64) 2 (((((w3.setCell ⟨p, 0, none⟩ (.int .i64 a)).setCell ⟨p, 1, none⟩ (.int .i64 b)).setCell ⟨p, 2, none⟩ (.int .i64 c)).setCell ⟨p, 3, none⟩ (.string t)).setCell ⟨p, 4, none⟩ v) base (fun _ => True) v0 zs := by
 subst hz
 exact Kd.R_mono (Kd.R_far (p := ⟨p, 4, none⟩) (Kd.R_far (p := ⟨p, 3, none⟩) (Kd.R_far (p := ⟨p, 2, none⟩) (Kd.R_far (p := ⟨p, 1, none⟩) (Kd.R_far (p := ⟨p, 0, none⟩) (Kd.R_types h hp (by decide)) (fun _ hk => hk.2) _) (fun _ hk => hk.2) _) (fun _ hk => hk.2) _) (fun _ hk => hk.2) _) (fun _ hk => hk.2) _) (fun _ _ => trivial)
theorem ctrl_style (A1 : Option Addr) (c1 : Nat) (l1 : List Int) (w : World) (hr1 : Kd.C (Kd.int .i64) w A1 l1.length l1) (hc1 : l1.length ≤ c1) (a b : Int) (h : spec_DrawParam.f l1 0 1 = some a ∧ spec_DrawParam.f l1 1 1 = some b) (hl1 : l1.length < 1000000) (hp1 : ∀ p ∈ l1, 0 ≤ p ∧ p < 2147483647) :
  Calls Tryz.prog 137 #[.int .i64 109, .slice A1 l1.length c1] w fun e w' => ∃ v : Value, e = .returned (.tuple #[opCells 52 0 0 ⟨#[]⟩ v, .bool true]) ∧ Kd.R (Kd.int .i64) 2 w' w.heap.size (fun _ => True) v (if l1 = [] then [0] else l1) ∧ Below w.heap.size w w' := by
 have hfn := not_found 109 (by omega)
 have HR := Lib.hid (And.intro hr1 (And.intro hc1 (And.intro h hp1)))
 have d0 : decide ((109 : Int) < 0) = false := by decide
 have d1 : decide (127 < (109 : Int)) = false := by decide
 have e0 : IntKind.u8.wrap 109 = 109 := by decide
 have hx : a < 1 ∨ 1 ≤ a := by omega
 have hy : b < 1 ∨ 1 ≤ b := by omega
 clear hr1 hc1 h
 go_enter Tryz.func137, Tryz.ntmps137
 go_wp2_with fail
 with_reducible refine (drawFinals_calls _).mono ?_
 rintro e w1 ⟨rfl, hw1⟩
 obtain ⟨hp, hr, hb⟩ := ctrl_start w w1 hw1
 rw [show (w.alloc zeroOp).heap.size = w.heap.size + 1 by simp]
 have hl := look_out (P := Tryz.prog) (w := w1) 164 5 2 (w.heap.size + 1) 21 (mapE finalsL) 109 Tryz.underlying164 Tryz.underlying5 (zeroI w1) hr hfn
 have HW := Lib.hid (And.intro hp hb)
 clear hw1 hr hp hb hfn
 go_wp2_with fail
 with_reducible refine (spec_DrawParam.calls _ _ _ _ _ _ _ (Kd.C_below HR.out.1 HW.out.2) HR.out.2.1 HR.out.2.2.1.1).mono ?_
 rintro e w2 ⟨rfl, ⟨nd, rfl⟩⟩
 clear hl
 rcases hx with hx | hx
 all_goals
  go_wp2_with fail
  with_reducible refine (spec_DrawParam.calls _ _ _ _ _ _ _ (Kd.C_below HR.out.1 (pw_below_drewN HW.out.2 nd)) HR.out.2.1 HR.out.2.2.1.2).mono ?_
  rintro e w2 ⟨rfl, ⟨nd2, rfl⟩⟩
  have H3 : Hid (Below w.heap.size w ((w1.drewN nd).drewN nd2) ∧ ((w1.drewN nd).drewN nd2).heap[w.heap.size]? = some (Obj.cells #[.int .i64 0, .int .i64 0, .int .i64 0, .string ⟨#[]⟩, .slice none 0 0] 38 (0, 0))) := ⟨pw_below_drewN (pw_below_drewN HW.out.2 nd) nd2, HW.out.1⟩
  generalize (w1.drewN nd).drewN nd2 = w3 at H3 ⊢
  rcases hy with hy | hy
  all_goals
   go_wp2_with fail
   clear hx hy
   go_loopg [10, 73] l1.length (fun kq v10 v73 w' => ∃ i : Nat, v73 = .int .i64 (i : Int) ∧ i + kq = l1.length ∧ Hid (Kd.R (Kd.int .i64) 2 w' w.heap.size (fun _ => True) v10 (l1.take i) ∧ Below w.heap.size w w' ∧ w'.heap[w.heap.size]? = some (Obj.cells #[.int .i64 0, .int .i64 0, .int .i64 0, .string ⟨#[]⟩, .slice none 0 0] 38 (0, 0))))
   case atStart => exact ⟨0, rfl, by omega, Kd.R_nil _ _ _ _ _, H3.out⟩
   case round =>
    obtain ⟨i, rfl, hk, hA⟩ := hrel
    by_cases hi : i < l1.length
    ·have d3 : (i : Int) < (l1.length : Int) := by omega
     have e1 : IntKind.i64.wrap ((i : Int) + 1) = ((i + 1 : Nat) : Int) := by rw [IntKind.wrap_i64]; omega
     have hpar := Lib.hid (own_of_param hp1 i hi)
     have htk : Hid (l1.take (i + 1) = l1.take i ++ [l1[i]]) := List.take_succ_eq_append_getElem hi
     generalize l1[i] = x at hpar htk
     go_wp2_with fail
     with_reducible refine (spec_DrawParam.calls _ _ _ _ _ _ _ (Kd.C_below HR.out.1 hA.out.2.1) HR.out.2.1 hpar.out).mono ?_
     rintro e w4 ⟨rfl, ⟨nd4, rfl⟩⟩
     go_wp2_with ((with_reducible refine gate_builtin (b := .append) (xs := #[.tmp 76, .tmp 80]) rfl ?_); at_builtin; refine Kd.R_append (Kd.int .i64) (w0 := w) w.heap.size rfl (.tmp 76) (.tmp 80) 29 2 (.int .i64 0) 8 rfl Tryz.underlying29 infoI64 rfl (by decide) (by omega) u10 (l1.take i) x [.int .i64 x] (fun _ => True) (fun _ => False) rfl rfl rfl (fun _ hk => hk.elim) (fun _ _ => trivial) (Kd.R_drewN hA.out.1 nd4) (pw_below_drewN hA.out.2.1 nd4) (below_size (pw_below_drewN hA.out.2.1 nd4)) (by have h8 := List.length_take_le i l1; omega) ?_; intro v390 w6 ho hb hg hat)
     have nb : w6.heap[w.heap.size]? = some (Obj.cells #[.int .i64 0, .int .i64 0, .int .i64 0, .string ⟨#[]⟩, .slice none 0 0] 38 (0, 0)) := blk_grown (blk_drewN hA.out.2.2 nd4) hg (Kd.R_ne (Kd.R_drewN hA.out.1 nd4) (blk_drewN hA.out.2.2 nd4) (by decide))
     rw [← htk.out] at ho
     have nI := Lib.hid (And.intro ho (And.intro hb nb))
     clear ho hb nb hg hat htk hpar hA d3
     go_wp2_with fail
     go_roundg (l1.length - (i + 1))
     case measure => omega
     case rel => exact ⟨i + 1, by simp, by omega, nI⟩
    ·have d3 : decide ((i : Int) < (l1.length : Int)) = false := decide_eq_false (by omega)
     have hil : i = l1.length := by omega
     subst hil
     obtain ⟨A, c, hv⟩ := Kd.R_slice hA.out.1
     rw [hv] at hA
     rw [hv]
     rw [List.take_length] at hA
     by_cases hz : l1.length = 0
     ·have hz1 : l1 = [] := List.length_eq_zero_iff.1 hz
      subst hz1
      clear hk hi d3 hz hv
      rw [show ([] : List Int).length = 0 from rfl] at hA ⊢
      go_wp2_with (refine Kd.R_lit (Kd.int .i64) (w0 := w) w.heap.size 2 ?hg (N := 86) ?hd (xs := ([0] : List Int)) (inner := [.int .i64 0]) (ok := fun _ => True) (okp := fun _ => True) ?hr ?hp (fun _ hk => hk) trivial hA.out.2.1 (below_size hA.out.2.1) (by simp) ?_; (case hd => rfl); (case hg => rfl); (case hr => first | (go_simp; done) | (go_simp; rfl)); (case hp => exact (Reps.one (show Kd.M (Kd.int .i64) _ _ _ 0 [.int .i64 0] from rfl) (Reps.none _ _))); intro v146 w6 ho hb hg hnew_; obtain ⟨A6, c6, hv6⟩ := Kd.R_slice ho; subst hv6; have nb := blk_grown hA.out.2.2 hg (by simp); have q0 := blk_cell nb 0; have q1 := blk_cell nb 1; have q2 := blk_cell nb 2; have q3 := blk_cell nb 3; have q4 := blk_cell nb 4; have f0 := blk_frozen nb 0; have f1 := blk_frozen nb 1; have f2 := blk_frozen nb 2; have f3 := blk_frozen nb 3; have f4 := blk_frozen nb 4; have H6 := Lib.hid (And.intro ho (And.intro hb nb)); clear ho hb hg hnew_ nb; simp only [List.getElem?_toArray, List.getElem?_cons_zero, List.getElem?_cons_succ] at q0 q1 q2 q3 q4)
      refine bodyPost_ret (results_ct (fn := Tryz.f137) rfl _ _ w.heap.size 38 _ (0, 0) _ rfl (op_stored H6.out.2.1 H6.out.2.2 (Nat.le_refl _) _ _ _ _ _).1 Tryz.underlying38 rfl (by kernel_rfl)) rfl ?_
      exact ⟨_, rfl, style_R H6.out.1 H6.out.2.2 (by rfl) _ _ _ _ _, (op_stored H6.out.2.1 H6.out.2.2 (Nat.le_refl _) _ _ _ _ _).2⟩
     ·have g2 : (l1.length == 0) = false := beq_eq_false_iff_ne.2 hz
      have g3 : ((l1.length : Int) == 0) = false := beq_eq_false_iff_ne.2 (by omega)
      have nb := hA.out.2.2
      have q0 : wr.cell? ⟨w.heap.size, 0, none⟩ = some (.int .i64 0) := blk_cell nb 0
      have q1 : wr.cell? ⟨w.heap.size, 1, none⟩ = some (.int .i64 0) := blk_cell nb 1
      have q2 : wr.cell? ⟨w.heap.size, 2, none⟩ = some (.int .i64 0) := blk_cell nb 2
      have q3 : wr.cell? ⟨w.heap.size, 3, none⟩ = some (.string ⟨#[]⟩) := blk_cell nb 3
      have q4 : wr.cell? ⟨w.heap.size, 4, none⟩ = some (.slice none 0 0) := blk_cell nb 4
      have f0 := blk_frozen nb 0
      have f1 := blk_frozen nb 1
      have f2 := blk_frozen nb 2
      have f3 := blk_frozen nb 3
      have f4 := blk_frozen nb 4
      have hz2 : l1 ≠ [] := fun h => hz (by rw [h]; rfl)
      clear nb hz hk hi d3 hv
      go_wp2_with fail
      refine bodyPost_ret (results_ct (fn := Tryz.f137) rfl _ _ w.heap.size 38 _ (0, 0) _ rfl (op_stored hA.out.2.1 hA.out.2.2 (Nat.le_refl _) _ _ _ _ _).1 Tryz.underlying38 rfl (by kernel_rfl)) rfl ?_
      exact ⟨_, rfl, style_R hA.out.1 hA.out.2.2 (by first | rfl | exact if_neg hz2) _ _ _ _ _, (op_stored hA.out.2.1 hA.out.2.2 (Nat.le_refl _) _ _ _ _ _).2⟩
/-- drawControl. -/
theorem spec_drawControl.calls (a0 : Int) (A1 : Option Addr) (c1 : Nat) (l1 : List Int) (t0 t1 t2 : Int) (t3 : ByteArray) (t4 : List Int) (r5 : Bool) (w : World) (hr1 : Kd.C (Kd.int .i64) w A1 l1.length l1) (hc1 : l1.length ≤ c1)
  (h : spec_drawControl.f a0 l1 = some (t0, t1, t2, t3, t4, r5)) :
  Calls Tryz.prog 137 #[.int .i64 a0, .slice A1 l1.length c1] w fun e w' => ∃ v : Value, e = .returned (.tuple #[.agg #[.int .i64 t0, .int .i64 t1, .int .i64 t2, .string t3, v], .bool r5]) ∧ Kd.R (Kd.int .i64) 2 w' w.heap.size (fun _ => True) v t4 ∧ Below w.heap.size w w' := by
 unfold spec_drawControl.f at h
 cases hf : finalOf a0 with
 | some k =>
  simp only [hf] at h
  have hm := finalOf_mem hf
  by_cases hk : k = 10 ∨ k = 11
  ·rw [if_pos hk] at h
   obtain ⟨n, hn, he⟩ := Option.map_eq_some_iff.1 h
   cases he
   exact (ctrl_final a0 _ _ A1 c1 l1 w hr1 hc1 hm hk hn).mono fun e w' hh => ⟨_, hh.1, Kd.R_nil _ _ _ _ _, hh.2⟩
  ·rw [if_neg hk] at h
   obtain ⟨n, hn, he⟩ := Option.map_eq_some_iff.1 h
   cases he
   exact (ctrl_one a0 _ _ A1 c1 l1 w hr1 hc1 hm (by omega) hn).mono fun e w' hh => ⟨_, hh.1, Kd.R_nil _ _ _ _ _, hh.2⟩
 | none =>
  simp only [hf] at h
  obtain ⟨a, ha, hx⟩ := Option.bind_eq_some_iff.1 h
  clear h
  obtain ⟨b, hb, h⟩ := Option.bind_eq_some_iff.1 hx
  clear hx
  by_cases h1 : a0 = 72
  ·rw [if_pos h1] at h
   subst h1
   cases h
   exact (ctrl_two 72 a b A1 c1 l1 w hr1 hc1 (by omega) ⟨ha, hb⟩).mono fun e w' hh => ⟨_, hh.1, Kd.R_nil _ _ _ _ _, hh.2⟩
  rw [if_neg h1] at h
  by_cases h2 : a0 = 102
  ·rw [if_pos h2] at h
   subst h2
   cases h
   exact (ctrl_two 102 a b A1 c1 l1 w hr1 hc1 (by omega) ⟨ha, hb⟩).mono fun e w' hh => ⟨_, hh.1, Kd.R_nil _ _ _ _ _, hh.2⟩
  rw [if_neg h2] at h
  by_cases h3 : a0 = 114
  ·rw [if_pos h3] at h
   subst h3
   cases h
   exact (ctrl_two 114 a b A1 c1 l1 w hr1 hc1 (by omega) ⟨ha, hb⟩).mono fun e w' hh => ⟨_, hh.1, Kd.R_nil _ _ _ _ _, hh.2⟩
  rw [if_neg h3] at h
  by_cases h4 : a0 = 109 ∧ l1.length < 1000000 ∧ (∀ p ∈ l1, 0 ≤ p ∧ p < 2147483647)
  ·rw [if_pos h4] at h
   obtain ⟨h5, h6, h7⟩ := h4
   subst h5
   cases h
   exact ctrl_style A1 c1 l1 w hr1 hc1 a b ⟨ha, hb⟩ h6 h7
  ·rw [if_neg h4] at h
   cases h
end Go.Proofs.YteebhoehflgfoaaGreatDoor.Y
end
