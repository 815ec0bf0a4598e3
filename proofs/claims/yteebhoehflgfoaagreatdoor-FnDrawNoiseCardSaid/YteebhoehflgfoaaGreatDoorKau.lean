/- Texts of this claim, joined: Y91 XAttr Y93D Y93 Y28D Y28 Y94D Y94 Y95D. Of each, what the claim uses. -/
import Derived.Test.YteebhoehflgfoaaGreatDoorKac
import Derived.Test.YteebhoehflgfoaaGreatDoorKat
import Derived.Lib.ItoaNum
import Derived.Test.YteebhoehflgfoaaGreatDoorKaq
section
namespace Go.Proofs.YteebhoehflgfoaaGreatDoor.Y
open Go.RowKit Go.Proofs.YteebhoehflgfoaaGreatDoorW.PrintWords Go.Proofs.YteebhoehflgfoaaGreatDoorW.PrintLast Go.Proofs.YteebhoehflgfoaaGreatDoorW.PrintMore
attribute [local go_sem] max2_int min2_int max_two min_two max_three min_three max_four min_four
set_option linter.unusedVariables false
set_option linter.unusedSimpArgs false
set_option maxHeartbeats 8000000 in
set_option maxRecDepth 100000 in
theorem impl_count.calls (k : Nat) (A0 : Option Addr) (c0 : Nat) (l0 : List Int) (r : List Int) (w : World) (hr0 : Kd.C (Kd.int .i64) w A0 l0.length l0) (hc0 : l0.length ≤ c0) (h : impl_count.f k l0 = some r) :
  Calls Tryz.prog 20 #[.slice A0 l0.length c0] w fun e w' => ∃ v0_ : Value, e = .returned (v0_) ∧ Kd.R (Kd.int .i64) 3 w' w.heap.size (fun _ => True) v0_ r ∧ Below w.heap.size w w' := by
 have HR0 := Aside0.mk hr0
 have HC0 := Aside0.mk hc0
 clear hr0 hc0
 have HB := Aside0.mk (Below.refl w.heap.size w)
 have H : (impl_count.l0 k ([] : List Int) l0 (l0.length : Int) 0) = some r := h
 clear h
 have H' := Aside0.mk H
 clear H
 go_enter Tryz.func20, Tryz.ntmps20
 go_wp2
 go_loopg [3, 8] k (fun kq v3 v8 w' => ∃ (x3_1 : List Int) (x8_1 : Int), v8 = .int .i64 x8_1 ∧ Aside0 (impl_count.l0 kq x3_1 l0 (l0.length : Int) x8_1 = some r) ∧ Aside0 (kq ≤ k) ∧ Aside0 (Kd.R (Kd.int .i64) 3 w' w.heap.size (fun _ => True) v3 x3_1) ∧ Aside0 (Below w.heap.size w w'))
 case atStart => exact ⟨(([] : List Int)), (0), (by first | rfl | (simp; done) | (simp [*]; done)), H', ⟨Nat.le_refl _⟩, ⟨by first | exact Kd.R_nil _ _ _ _ _ | exact Kd.N_nil _ _ _ _ _ | exact Kd.V_nil _ _ _ _ _ | exact Kd.Q_nil _ _ _ _ _ | exact Kd.S_nil _ _ _ _ _⟩, ⟨by repeat (first | (with_reducible first | exact HB.out | apply below_alloc | apply pw_below_drewN | apply below_drew1) | exact HB.out)⟩⟩
 case round =>
  clear H'
  obtain ⟨x3_1, x8_1, rfl, HA, HK1, HO_3, HB⟩ := hrel
  cases gk with
  | zero => exact absurd HA.out (by simp [impl_count.l0])
  | succ k1 =>
   have H := HA.out
   clear HA
   simp only [impl_count.l0] at H
   by_cases c2 : x8_1 < (l0.length : Int)
   ·rw [if_pos c2] at H
    have c2b0 : decide (x8_1 < (l0.length : Int)) = true := decide_eq_true c2
    clear c2
    by_cases c3 : 0 ≤ x8_1
    ·rw [if_pos c3] at H
     have c3b0 : decide (0 ≤ x8_1) = true := decide_eq_true c3
     clear c3
     by_cases c4 : x8_1 < (l0.length : Int)
     ·rw [if_pos c4] at H
      have c4b0 : decide (x8_1 < (l0.length : Int)) = true := decide_eq_true c4
      clear c4
      by_cases c5 : x3_1.length < 17592186044416
      ·rw [if_pos c5] at H
       have LMc5 := Aside0.mk c5
       clear c5
       obtain ⟨y405, hy405⟩ : ∃ y_ : List Int, y_ = (x3_1 ++ [rd l0 x8_1]) := ⟨_, rfl⟩
       replace H : (impl_count.l0 k1 y405 l0 (l0.length : Int) (wrap64 (x8_1 + 1))) = some r := by first | (rw [hy405]; with_reducible exact H) | (have H2_ := (Option.bind_some _ _).symm.trans H; rw [hy405]; with_reducible exact H2_) | (have H2_ := (Option.bind_some _ _).symm.trans H; with_reducible exact H2_) | with_reducible exact H | (rw [hy405]; exact H) | exact H
       have Ny405 := Aside0.mk hy405
       clear hy405
       have H' := Aside0.mk H
       clear H
       have p404 : 0 ≤ (x8_1 : Int) := of_decide_eq_true (by first | (with_reducible assumption) | assumption)
       have q404 : x8_1 < (l0.length : Int) := of_decide_eq_true (by first | (with_reducible assumption) | assumption)
       obtain ⟨ad404, e404, hx404_0⟩ := Kd.at_int HR0.out x8_1 p404 q404
       cases e404
       replace hx404_0 := (HB.out.cell (World.block_lt_of_cell? w _ hx404_0)).trans hx404_0
       replace p404 := eq_true p404
       replace q404 := eq_true q404
       go_wp2_with (first | ((with_reducible refine gate_builtin (b := .append) (xs := #[.tmp 12, .tmp 14]) rfl ?_); at_builtin; refine Kd.R_append (Kd.int .i64) (w0 := w) w.heap.size rfl (.tmp 12) (.tmp 14) 52 3 (.int .i64 0) 8 rfl Tryz.underlying52 info3 rfl (by decide) (by omega) u3 x3_1 (rd l0 x8_1) [.int .i64 (rd l0 x8_1)] (fun _ => True) (fun _ => False) rfl rfl ?aP (fun _ hk => hk.elim) ?aF ?aO ?aB ?aS ?aL ?_; (case aP => exact rfl); (case aB => exact (by repeat (first | (with_reducible first | exact HB.out | apply below_alloc | apply pw_below_drewN | apply below_drew1) | exact HB.out))); (case aF => exact (fun _ _ => trivial)); (case aO => exact (by (with_reducible repeat (first | apply Kd.R_alloc | apply Kd.R_drewN | apply Kd.R_drew)); exact HO_3.out)); (case aS => exact (below_size (by repeat (first | (with_reducible first | exact HB.out | apply below_alloc | apply pw_below_drewN | apply below_drew1) | exact HB.out)))); (case aL => have := LMc5.out; omega); intro v406 w6 ho hb hg hat; rw [← Ny405.out] at ho; have n0_ := Aside0.mk (hb); have n1_ := Aside0.mk (ho); clear HB; clear HO_3; have HB := n0_; have HO407 := n1_; clear n0_ n1_; clear ho hb hg hat))
       go_roundg k1
       case measure => have := HK1.out; omega
       case rel => exact ⟨(y405), (wrap64 (x8_1 + 1)), (by first | rfl | (simp; done) | (simp [*]; done)), H', ⟨by have := HK1.out; omega⟩, ⟨by (with_reducible repeat (first | apply Kd.R_alloc | apply Kd.R_drewN | apply Kd.R_drew)); exact HO407.out⟩, ⟨by repeat (first | (with_reducible first | exact HB.out | apply below_alloc | apply pw_below_drewN | apply below_drew1) | exact HB.out)⟩⟩
      ·rw [if_neg c5] at H
       exact absurd H (by simp)
     ·rw [if_neg c4] at H
      exact absurd H (by simp)
    ·rw [if_neg c3] at H
     exact absurd H (by simp)
   ·rw [if_neg c2] at H
    have c2b0 : decide (x8_1 < (l0.length : Int)) = false := decide_eq_false c2
    clear c2
    obtain rfl := Option.some.inj H
    go_wp2
    go_ret
    exact ⟨_, by first | rfl | (simp [errW_none, errW_some] <;> rfl) | (simp [*, errW_none, errW_some] <;> rfl), by (with_reducible repeat (first | apply Kd.R_alloc | apply Kd.R_drewN | apply Kd.R_drew)); exact HO_3.out, by repeat (first | (with_reducible first | exact HB.out | apply below_alloc | apply pw_below_drewN | apply below_drew1) | exact HB.out)⟩
end Go.Proofs.YteebhoehflgfoaaGreatDoor.Y
end
section
namespace Go.Proofs.YteebhoehflgfoaaGreatDoor.Y
open Go.RowKit Go.Proofs.YteebhoehflgfoaaGreatDoorW.PrintWords Go.Proofs.YteebhoehflgfoaaGreatDoorW.PrintLast Go.Proofs.YteebhoehflgfoaaGreatDoorW.PrintMore
def xansi_attrStrings.f (a0 : Int) : Option (ByteArray × Bool) := if (0 ≤ a0 ∧ a0 ≤ 9) ∨ (22 ≤ a0 ∧ a0 ≤ 29 ∧ a0 ≠ 26) then some (⟨(Lib.itoa a0).toArray⟩, true) else none
theorem xansi_attrStrings.calls (a0 : Int) (r1 : ByteArray) (r2 : Bool) (w : World) (h : xansi_attrStrings.f a0 = some (r1, r2)) :
  Calls Tryz.prog 140 #[.int .i64 a0] w fun e w' => e = .returned (.tuple #[.string r1, .bool r2]) ∧ Drawn0 w w' := by
 unfold xansi_attrStrings.f at h
 split at h
 ·rename_i hc
  simp only [Option.some.injEq, Prod.mk.injEq] at h
  obtain ⟨rfl, rfl⟩ := h
  have : a0 = 0 ∨ a0 = 1 ∨ a0 = 2 ∨ a0 = 3 ∨ a0 = 4 ∨ a0 = 5 ∨ a0 = 6 ∨ a0 = 7 ∨ a0 = 8 ∨ a0 = 9 ∨ a0 = 22 ∨ a0 = 23 ∨ a0 = 24 ∨ a0 = 25 ∨ a0 = 27 ∨ a0 = 28 ∨ a0 = 29 := by omega
  clear hc
  rcases this with rfl | rfl | rfl | rfl | rfl | rfl | rfl | rfl | rfl | rfl | rfl | rfl | rfl | rfl | rfl | rfl | rfl
  ·rw [show (⟨(Lib.itoa 0).toArray⟩ : ByteArray) = ⟨#[48]⟩ by kernel_rfl]
   go_enter Tryz.func140, Tryz.ntmps140
   go_wp2_with fail
   go_ret2
   exact ⟨rfl, Drawn0.refl _⟩
  ·rw [show (⟨(Lib.itoa 1).toArray⟩ : ByteArray) = ⟨#[49]⟩ by kernel_rfl]
   go_enter Tryz.func140, Tryz.ntmps140
   go_wp2_with fail
   go_ret2
   exact ⟨rfl, Drawn0.refl _⟩
  ·rw [show (⟨(Lib.itoa 2).toArray⟩ : ByteArray) = ⟨#[50]⟩ by kernel_rfl]
   go_enter Tryz.func140, Tryz.ntmps140
   go_wp2_with fail
   go_ret2
   exact ⟨rfl, Drawn0.refl _⟩
  ·rw [show (⟨(Lib.itoa 3).toArray⟩ : ByteArray) = ⟨#[51]⟩ by kernel_rfl]
   go_enter Tryz.func140, Tryz.ntmps140
   go_wp2_with fail
   go_ret2
   exact ⟨rfl, Drawn0.refl _⟩
  ·rw [show (⟨(Lib.itoa 4).toArray⟩ : ByteArray) = ⟨#[52]⟩ by kernel_rfl]
   go_enter Tryz.func140, Tryz.ntmps140
   go_wp2_with fail
   go_ret2
   exact ⟨rfl, Drawn0.refl _⟩
  ·rw [show (⟨(Lib.itoa 5).toArray⟩ : ByteArray) = ⟨#[53]⟩ by kernel_rfl]
   go_enter Tryz.func140, Tryz.ntmps140
   go_wp2_with fail
   go_ret2
   exact ⟨rfl, Drawn0.refl _⟩
  ·rw [show (⟨(Lib.itoa 6).toArray⟩ : ByteArray) = ⟨#[54]⟩ by kernel_rfl]
   go_enter Tryz.func140, Tryz.ntmps140
   go_wp2_with fail
   go_ret2
   exact ⟨rfl, Drawn0.refl _⟩
  ·rw [show (⟨(Lib.itoa 7).toArray⟩ : ByteArray) = ⟨#[55]⟩ by kernel_rfl]
   go_enter Tryz.func140, Tryz.ntmps140
   go_wp2_with fail
   go_ret2
   exact ⟨rfl, Drawn0.refl _⟩
  ·rw [show (⟨(Lib.itoa 8).toArray⟩ : ByteArray) = ⟨#[56]⟩ by kernel_rfl]
   go_enter Tryz.func140, Tryz.ntmps140
   go_wp2_with fail
   go_ret2
   exact ⟨rfl, Drawn0.refl _⟩
  ·rw [show (⟨(Lib.itoa 9).toArray⟩ : ByteArray) = ⟨#[57]⟩ by kernel_rfl]
   go_enter Tryz.func140, Tryz.ntmps140
   go_wp2_with fail
   go_ret2
   exact ⟨rfl, Drawn0.refl _⟩
  ·rw [show (⟨(Lib.itoa 22).toArray⟩ : ByteArray) = ⟨#[50, 50]⟩ by kernel_rfl]
   go_enter Tryz.func140, Tryz.ntmps140
   go_wp2_with fail
   go_ret2
   exact ⟨rfl, Drawn0.refl _⟩
  ·rw [show (⟨(Lib.itoa 23).toArray⟩ : ByteArray) = ⟨#[50, 51]⟩ by kernel_rfl]
   go_enter Tryz.func140, Tryz.ntmps140
   go_wp2_with fail
   go_ret2
   exact ⟨rfl, Drawn0.refl _⟩
  ·rw [show (⟨(Lib.itoa 24).toArray⟩ : ByteArray) = ⟨#[50, 52]⟩ by kernel_rfl]
   go_enter Tryz.func140, Tryz.ntmps140
   go_wp2_with fail
   go_ret2
   exact ⟨rfl, Drawn0.refl _⟩
  ·rw [show (⟨(Lib.itoa 25).toArray⟩ : ByteArray) = ⟨#[50, 53]⟩ by kernel_rfl]
   go_enter Tryz.func140, Tryz.ntmps140
   go_wp2_with fail
   go_ret2
   exact ⟨rfl, Drawn0.refl _⟩
  ·rw [show (⟨(Lib.itoa 27).toArray⟩ : ByteArray) = ⟨#[50, 55]⟩ by kernel_rfl]
   go_enter Tryz.func140, Tryz.ntmps140
   go_wp2_with fail
   go_ret2
   exact ⟨rfl, Drawn0.refl _⟩
  ·rw [show (⟨(Lib.itoa 28).toArray⟩ : ByteArray) = ⟨#[50, 56]⟩ by kernel_rfl]
   go_enter Tryz.func140, Tryz.ntmps140
   go_wp2_with fail
   go_ret2
   exact ⟨rfl, Drawn0.refl _⟩
  ·rw [show (⟨(Lib.itoa 29).toArray⟩ : ByteArray) = ⟨#[50, 57]⟩ by kernel_rfl]
   go_enter Tryz.func140, Tryz.ntmps140
   go_wp2_with fail
   go_ret2
   exact ⟨rfl, Drawn0.refl _⟩
 ·exact absurd h (by simp)
end Go.Proofs.YteebhoehflgfoaaGreatDoor.Y
end
section
namespace Go.Proofs.YteebhoehflgfoaaGreatDoor.Y
open Go.RowKit Go.Proofs.YteebhoehflgfoaaGreatDoorW.PrintWords Go.Proofs.YteebhoehflgfoaaGreatDoorW.PrintLast Go.Proofs.YteebhoehflgfoaaGreatDoorW.PrintMore
attribute [local go_sem] max2_int min2_int max_two min_two max_three min_three max_four min_four
set_option linter.unusedVariables false
set_option linter.unusedSimpArgs false
/-! ### xansi_NewStyle: function 105 -/
def xansi_NewStyle.l0 : Nat → List ByteArray → List Int → Int → Int → Option (List ByteArray)
 | 0, _, _, _, _ => none
 | k + 1, x3, x15, x16, x17 => if x17 < x16 then (if 0 ≤ x17 then (if x17 < (x15.length : Int) then ((xansi_attrStrings.f (rd x15 x17)).bind fun bt415 => (if bt415.2 = true then (if x3.length < 8796093022208 then (xansi_NewStyle.l0 k (x3 ++ [bt415.1]) x15 x16 (wrap64 (x17 + 1))) else (none)) else (if (rd x15 x17) < 0 then ((strconv_Itoa.f 0).bind fun t420 => (if x3.length < 8796093022208 then (xansi_NewStyle.l0 k (x3 ++ [t420]) x15 x16 (wrap64 (x17 + 1))) else (none))) else ((strconv_Itoa.f (rd x15 x17)).bind fun t424 => (if x3.length < 8796093022208 then (xansi_NewStyle.l0 k (x3 ++ [t424]) x15 x16 (wrap64 (x17 + 1))) else (none)))))) else (none)) else (none)) else (some x3)
def xansi_NewStyle.f (k : Nat) (l0 : List Int) : Option (List ByteArray) := if (l0.length : Int) = 0 then (some (([] : List ByteArray))) else (if 0 ≤ (l0.length : Int) then (if ((l0.length : Int) : Int).toNat ≤ 17592186044416 then (xansi_NewStyle.l0 k (([] : List ByteArray)) l0 (l0.length : Int) 0) else (none)) else (none))
theorem xansi_NewStyle.mono_l : ∀ k, (∀ y0 y1 y2 y3, LeO (xansi_NewStyle.l0 k y0 y1 y2 y3) (xansi_NewStyle.l0 (k + 1) y0 y1 y2 y3))
 | 0 => fun _ _ _ _ r h => by simp [xansi_NewStyle.l0] at h
 | k + 1 => by
  have ih0 := xansi_NewStyle.mono_l k
  ·intro y0 y1 y2 y3
   unfold xansi_NewStyle.l0
   repeat' first
   | (with_reducible exact ih0 _ _ _ _)
   | (with_reducible exact LeO.refl _)
   | (with_reducible exact LeO.none _)
   | (with_reducible refine LeO.ite ?_ ?_)
   | (with_reducible refine LeO.bind ?_ (fun _ => ?_))
   | exact ih0 _ _ _ _
   | exact LeO.none _
   | refine LeO.ite ?_ ?_
   | refine LeO.bind ?_ (fun _ => ?_)
theorem xansi_NewStyle.mono : ∀ a0 k, LeO (xansi_NewStyle.f k a0) (xansi_NewStyle.f (k + 1) a0) := by
 intro a0 k
 have ih0 := xansi_NewStyle.mono_l k
 unfold xansi_NewStyle.f
 repeat' first
   | (with_reducible exact ih0 _ _ _ _)
   | (with_reducible exact LeO.refl _)
   | (with_reducible exact LeO.none _)
   | (with_reducible refine LeO.ite ?_ ?_)
   | (with_reducible refine LeO.bind ?_ (fun _ => ?_))
   | exact ih0 _ _ _ _
   | exact LeO.none _
   | refine LeO.ite ?_ ?_
   | refine LeO.bind ?_ (fun _ => ?_)
set_option maxHeartbeats 8000000 in
set_option maxRecDepth 100000 in
theorem xansi_NewStyle.calls (k : Nat) (A0 : Option Addr) (c0 : Nat) (l0 : List Int) (r : List ByteArray) (w : World) (hT : XTab w) (hr0 : Kd.C (Kd.int .i64) w A0 l0.length l0) (hc0 : l0.length ≤ c0) (h : xansi_NewStyle.f k l0 = some r) :
  Calls Tryz.prog 105 #[.slice A0 l0.length c0] w fun e w' => ∃ v0_ : Value, e = .returned (v0_) ∧ Kd.R Kd.string 9 w' w.heap.size (fun _ => True) v0_ r ∧ Below w.heap.size w w' := by
 have HT := Aside0.mk hT
 clear hT
 have HR0 := Aside0.mk hr0
 have HC0 := Aside0.mk hc0
 clear hr0 hc0
 have HB := Aside0.mk (Below.refl w.heap.size w)
 have H : (if (l0.length : Int) = 0 then (some (([] : List ByteArray))) else (if 0 ≤ (l0.length : Int) then (if ((l0.length : Int) : Int).toNat ≤ 17592186044416 then (xansi_NewStyle.l0 k (([] : List ByteArray)) l0 (l0.length : Int) 0) else (none)) else (none))) = some r := h
 clear h
 by_cases c2 : (l0.length : Int) = 0
 ·rw [if_pos c2] at H
  have c2b0 : ((l0.length : Int) == 0) = true := beq_iff_eq.mpr c2
  have c2b1 : ((l0.length : Int) != 0) = false := bne_eq_false_iff_eq.mpr c2
  clear c2
  obtain ⟨y408, hy408⟩ : ∃ y_ : List ByteArray, y_ = (([] : List ByteArray)) := ⟨_, rfl⟩
  replace H : (some y408) = some r := by first | (rw [hy408]; with_reducible exact H) | (have H2_ := (Option.bind_some _ _).symm.trans H; rw [hy408]; with_reducible exact H2_) | (have H2_ := (Option.bind_some _ _).symm.trans H; with_reducible exact H2_) | with_reducible exact H | (rw [hy408]; exact H) | exact H
  have Ny408 := Aside0.mk hy408
  clear hy408
  obtain rfl := Option.some.inj H
  go_enter Tryz.func105, Tryz.ntmps105
  go_wp2_with (first | ((with_reducible refine gate_dst (N := 11) rfl ?_); refine Kd.R_lit Kd.string _ 9 ?hg (N := 11) ?hd (xs := ([] : List ByteArray)) (inner := []) (ok := fun _ => True) (okp := fun _ => True) ?hr ?hp (fun _ hk => hk) trivial (Below.refl _ _) (Nat.le_refl _) (by simp) ?_; (case hd => rfl); (case hg => rfl); (case hr => first | (go_simp; done) | (go_simp; rfl)); (case hp => exact (Reps.none _ _)); intro v409 w3 ho4 hb hg_ hnew_; clear hg_ hnew_; (first | rw [← Ny408.out] at ho4 | (simp only [Int.reduceToNat] at ho4; rw [← Ny408.out] at ho4)); have n0_ := Aside0.mk (Kd.R_lower ho4 (below_size (by repeat (first | (with_reducible first | exact HB.out | apply below_alloc | apply pw_below_drewN | apply below_drew1) | exact HB.out)))); have n1_ := Aside0.mk (below_step (by repeat (first | (with_reducible first | exact HB.out | apply below_alloc | apply pw_below_drewN | apply below_drew1) | exact HB.out)) hb); clear HB; have HO410 := n0_; have HB := n1_; clear n0_ n1_; clear hb ho4))
  go_ret
  exact ⟨_, by first | rfl | (simp [errW_none, errW_some] <;> rfl) | (simp [*, errW_none, errW_some] <;> rfl), by (with_reducible repeat (first | apply Kd.R_alloc | apply Kd.R_drewN | apply Kd.R_drew)); exact HO410.out, by repeat (first | (with_reducible first | exact HB.out | apply below_alloc | apply pw_below_drewN | apply below_drew1) | exact HB.out)⟩
 ·rw [if_neg c2] at H
  have c2b0 : ((l0.length : Int) == 0) = false := beq_eq_false_iff_ne.mpr c2
  have c2b1 : ((l0.length : Int) != 0) = true := bne_iff_ne.mpr c2
  have c2b2 : ¬ (l0 = []) := fun h_ => c2 (by rw [h_]; rfl)
  by_cases c5 : 0 ≤ (l0.length : Int)
  ·rw [if_pos c5] at H
   have c5b0 := eq_true c5
   have c5b1 : decide (0 ≤ (l0.length : Int)) = true := decide_eq_true c5
   clear c5
   by_cases c6 : ((l0.length : Int) : Int).toNat ≤ 17592186044416
   ·rw [if_pos c6] at H
    have c6b0 := eq_true c6
    have c6b1 : decide (((l0.length : Int) : Int).toNat ≤ 17592186044416) = true := decide_eq_true c6
    clear c6
    obtain ⟨y411, hy411⟩ : ∃ y_ : List ByteArray, y_ = (([] : List ByteArray)) := ⟨_, rfl⟩
    replace H : (xansi_NewStyle.l0 k y411 l0 (l0.length : Int) 0) = some r := by first | (rw [hy411]; with_reducible exact H) | (have H2_ := (Option.bind_some _ _).symm.trans H; rw [hy411]; with_reducible exact H2_) | (have H2_ := (Option.bind_some _ _).symm.trans H; with_reducible exact H2_) | with_reducible exact H | (rw [hy411]; exact H) | exact H
    have Ny411 := Aside0.mk hy411
    clear hy411
    have H' := Aside0.mk H
    clear H
    go_enter Tryz.func105, Tryz.ntmps105
    go_wp2_with (first | ((with_reducible refine gate_dst (N := 14) rfl ?_); refine Kd.R_make0 Kd.string _ 9 rfl (N := 14) rfl 94 _ _ rfl (l0.length : Int) rfl rfl Tryz.underlying94 (.string ⟨#[]⟩) 16 info9 rfl (by decide) (by omega) (ok := fun _ => True) (okp := fun _ => True) (fun _ hk => hk) trivial (of_decide_eq_true (by first | (with_reducible assumption) | assumption)) (Nat.le_trans (Nat.mul_le_mul_right _ (of_decide_eq_true (by first | (with_reducible assumption) | assumption) : (l0.length : Int).toNat ≤ 17592186044416)) (by omega)) (Below.refl _ _) (Nat.le_refl _) ?_; intro v412 w7 ho8 hb hg_ hnew_; clear hg_ hnew_; (first | rw [← Ny411.out] at ho8 | (simp only [Int.reduceToNat] at ho8; rw [← Ny411.out] at ho8)); have n0_ := Aside0.mk (Kd.R_lower ho8 (below_size (by repeat (first | (with_reducible first | exact HB.out | apply below_alloc | apply pw_below_drewN | apply below_drew1) | exact HB.out)))); have n1_ := Aside0.mk (below_step (by repeat (first | (with_reducible first | exact HB.out | apply below_alloc | apply pw_below_drewN | apply below_drew1) | exact HB.out)) hb); clear HB; have HO413 := n0_; have HB := n1_; clear n0_ n1_; clear hb ho8))
    go_loopg [3, 17] k (fun kq v3 v17 w' => ∃ (x3_1 : List ByteArray) (x17_1 : Int), v17 = .int .i64 x17_1 ∧ Aside0 (xansi_NewStyle.l0 kq x3_1 l0 (l0.length : Int) x17_1 = some r) ∧ Aside0 (kq ≤ k) ∧ Aside0 (Kd.R Kd.string 9 w' w.heap.size (fun _ => True) v3 x3_1) ∧ Aside0 (Below w.heap.size w w'))
    case atStart => exact ⟨(y411), (0), (by first | rfl | (simp; done) | (simp [*]; done)), H', ⟨Nat.le_refl _⟩, ⟨by (with_reducible repeat (first | apply Kd.R_alloc | apply Kd.R_drewN | apply Kd.R_drew)); exact HO413.out⟩, ⟨by repeat (first | (with_reducible first | exact HB.out | apply below_alloc | apply pw_below_drewN | apply below_drew1) | exact HB.out)⟩⟩
    case round =>
     clear H'
     try clear c1
     try clear c2
     try clear c2b0
     try clear c2b1
     try clear c2b2
     try clear p2
     try clear c5
     try clear c5b0
     try clear c5b1
     try clear c6
     try clear c6b0
     try clear c6b1
     obtain ⟨x3_1, x17_1, rfl, HA, HK1, HO_3, HB⟩ := hrel
     cases gk with
     | zero => exact absurd HA.out (by simp [xansi_NewStyle.l0])
     | succ k1 =>
      have H := HA.out
      clear HA
      simp only [xansi_NewStyle.l0] at H
      by_cases c9 : x17_1 < (l0.length : Int)
      ·rw [if_pos c9] at H
       have c9b0 : decide (x17_1 < (l0.length : Int)) = true := decide_eq_true c9
       clear c9
       by_cases c10 : 0 ≤ x17_1
       ·rw [if_pos c10] at H
        have c10b0 : decide (0 ≤ x17_1) = true := decide_eq_true c10
        clear c10
        by_cases c11 : x17_1 < (l0.length : Int)
        ·rw [if_pos c11] at H
         have c11b0 : decide (x17_1 < (l0.length : Int)) = true := decide_eq_true c11
         clear c11
         replace H := Option.bind_eq_some_iff.mp H
         obtain ⟨⟨t415, t416⟩, A120, H⟩ := H
         replace H : (if t416 = true then (if x3_1.length < 8796093022208 then (xansi_NewStyle.l0 k1 (x3_1 ++ [t415]) l0 (l0.length : Int) (wrap64 (x17_1 + 1))) else (none)) else (if (rd l0 x17_1) < 0 then ((strconv_Itoa.f 0).bind fun t420 => (if x3_1.length < 8796093022208 then (xansi_NewStyle.l0 k1 (x3_1 ++ [t420]) l0 (l0.length : Int) (wrap64 (x17_1 + 1))) else (none))) else ((strconv_Itoa.f (rd l0 x17_1)).bind fun t424 => (if x3_1.length < 8796093022208 then (xansi_NewStyle.l0 k1 (x3_1 ++ [t424]) l0 (l0.length : Int) (wrap64 (x17_1 + 1))) else (none))))) = some r := H
         have A12 := Aside0.mk A120
         clear A120
         by_cases c13 : t416 = true
         ·subst c13
          have H1 : (if x3_1.length < 8796093022208 then (xansi_NewStyle.l0 k1 (x3_1 ++ [t415]) l0 (l0.length : Int) (wrap64 (x17_1 + 1))) else (none)) = some r := by rw [if_pos rfl] at H; exact H
          clear H
          have H := H1
          clear H1
          by_cases c14 : x3_1.length < 8796093022208
          ·rw [if_pos c14] at H
           have LMc14 := Aside0.mk c14
           clear c14
           obtain ⟨y417, hy417⟩ : ∃ y_ : List ByteArray, y_ = (x3_1 ++ [t415]) := ⟨_, rfl⟩
           replace H : (xansi_NewStyle.l0 k1 y417 l0 (l0.length : Int) (wrap64 (x17_1 + 1))) = some r := by first | (rw [hy417]; with_reducible exact H) | (have H2_ := (Option.bind_some _ _).symm.trans H; rw [hy417]; with_reducible exact H2_) | (have H2_ := (Option.bind_some _ _).symm.trans H; with_reducible exact H2_) | with_reducible exact H | (rw [hy417]; exact H) | exact H
           have Ny417 := Aside0.mk hy417
           clear hy417
           have H' := Aside0.mk H
           clear H
           have p414 : 0 ≤ (x17_1 : Int) := of_decide_eq_true (by first | (with_reducible assumption) | assumption)
           have q414 : x17_1 < (l0.length : Int) := of_decide_eq_true (by first | (with_reducible assumption) | assumption)
           obtain ⟨ad414, e414, hx414_0⟩ := Kd.at_int HR0.out x17_1 p414 q414
           cases e414
           replace hx414_0 := (HB.out.cell (World.block_lt_of_cell? w _ hx414_0)).trans hx414_0
           replace p414 := eq_true p414
           replace q414 := eq_true q414
           go_wp2_with (first | ((with_reducible refine gate_callee (f := 140) rfl ?_); refine goesL_ (some 23) rfl rfl Tryz.func140 (by kernel_rfl) rfl #[.int .i64 (rd l0 x17_1)] rfl (by (try simp only [List.map_toArray, List.map_cons, List.map_nil]); first | done | rfl | (simp only [List.length_drop, List.length_take]; rfl)) ?_; (with_reducible refine (xansi_attrStrings.calls (rd l0 x17_1) t415 true _ A12.out).mono ?_); rintro e w' ⟨rfl, ⟨nd, rfl⟩⟩; refine ⟨_, rfl, ?_⟩) | ((with_reducible refine gate_builtin (b := .append) (xs := #[.tmp 27, .tmp 29]) rfl ?_); at_builtin; refine Kd.R_append Kd.string (w0 := w) w.heap.size rfl (.tmp 27) (.tmp 29) 94 9 (.string ⟨#[]⟩) 16 rfl Tryz.underlying94 info9 rfl (by decide) (by omega) u3 x3_1 t415 [.string t415] (fun _ => True) (fun _ => False) rfl rfl ?aP (fun _ hk => hk.elim) ?aF ?aO ?aB ?aS ?aL ?_; (case aP => exact rfl); (case aB => exact (by repeat (first | (with_reducible first | exact HB.out | apply below_alloc | apply pw_below_drewN | apply below_drew1) | exact HB.out))); (case aF => exact (fun _ _ => trivial)); (case aO => exact (by (with_reducible repeat (first | apply Kd.R_alloc | apply Kd.R_drewN | apply Kd.R_drew)); exact HO_3.out)); (case aS => exact (below_size (by repeat (first | (with_reducible first | exact HB.out | apply below_alloc | apply pw_below_drewN | apply below_drew1) | exact HB.out)))); (case aL => have := LMc14.out; omega); intro v418 w15 ho hb hg hat; rw [← Ny417.out] at ho; have n0_ := Aside0.mk (hb); have n1_ := Aside0.mk (ho); clear HB; clear HO_3; have HB := n0_; have HO419 := n1_; clear n0_ n1_; clear ho hb hg hat))
           go_roundg k1
           case measure => have := HK1.out; omega
           case rel => exact ⟨(y417), (wrap64 (x17_1 + 1)), (by first | rfl | (simp; done) | (simp [*]; done)), H', ⟨by have := HK1.out; omega⟩, ⟨by (with_reducible repeat (first | apply Kd.R_alloc | apply Kd.R_drewN | apply Kd.R_drew)); exact HO419.out⟩, ⟨by repeat (first | (with_reducible first | exact HB.out | apply below_alloc | apply pw_below_drewN | apply below_drew1) | exact HB.out)⟩⟩
          ·rw [if_neg c14] at H
           exact absurd H (by simp)
         ·replace c13 := Bool.eq_false_iff.mpr c13
          subst c13
          have H1 : (if (rd l0 x17_1) < 0 then ((strconv_Itoa.f 0).bind fun t420 => (if x3_1.length < 8796093022208 then (xansi_NewStyle.l0 k1 (x3_1 ++ [t420]) l0 (l0.length : Int) (wrap64 (x17_1 + 1))) else (none))) else ((strconv_Itoa.f (rd l0 x17_1)).bind fun t424 => (if x3_1.length < 8796093022208 then (xansi_NewStyle.l0 k1 (x3_1 ++ [t424]) l0 (l0.length : Int) (wrap64 (x17_1 + 1))) else (none)))) = some r := by rw [if_neg (show ¬ (false = true) by decide)] at H; exact H
          clear H
          have H := H1
          clear H1
          by_cases c16 : (rd l0 x17_1) < 0
          ·rw [if_pos c16] at H
           have c16b0 : decide ((rd l0 x17_1) < 0) = true := decide_eq_true c16
           clear c16
           replace H := Option.bind_eq_some_iff.mp H
           obtain ⟨t420, A170, H⟩ := H
           replace H : (if x3_1.length < 8796093022208 then (xansi_NewStyle.l0 k1 (x3_1 ++ [t420]) l0 (l0.length : Int) (wrap64 (x17_1 + 1))) else (none)) = some r := H
           have A17 := Aside0.mk A170
           clear A170
           by_cases c18 : x3_1.length < 8796093022208
           ·rw [if_pos c18] at H
            have LMc18 := Aside0.mk c18
            clear c18
            obtain ⟨y421, hy421⟩ : ∃ y_ : List ByteArray, y_ = (x3_1 ++ [t420]) := ⟨_, rfl⟩
            replace H : (xansi_NewStyle.l0 k1 y421 l0 (l0.length : Int) (wrap64 (x17_1 + 1))) = some r := by first | (rw [hy421]; with_reducible exact H) | (have H2_ := (Option.bind_some _ _).symm.trans H; rw [hy421]; with_reducible exact H2_) | (have H2_ := (Option.bind_some _ _).symm.trans H; with_reducible exact H2_) | with_reducible exact H | (rw [hy421]; exact H) | exact H
            have Ny421 := Aside0.mk hy421
            clear hy421
            have H' := Aside0.mk H
            clear H
            have p414 : 0 ≤ (x17_1 : Int) := of_decide_eq_true (by first | (with_reducible assumption) | assumption)
            have q414 : x17_1 < (l0.length : Int) := of_decide_eq_true (by first | (with_reducible assumption) | assumption)
            obtain ⟨ad414, e414, hx414_0⟩ := Kd.at_int HR0.out x17_1 p414 q414
            cases e414
            replace hx414_0 := (HB.out.cell (World.block_lt_of_cell? w _ hx414_0)).trans hx414_0
            replace p414 := eq_true p414
            replace q414 := eq_true q414
            go_wp2_with (first | ((with_reducible refine gate_callee (f := 140) rfl ?_); refine goesL_ (some 23) rfl rfl Tryz.func140 (by kernel_rfl) rfl #[.int .i64 (rd l0 x17_1)] rfl (by (try simp only [List.map_toArray, List.map_cons, List.map_nil]); first | done | rfl | (simp only [List.length_drop, List.length_take]; rfl)) ?_; (with_reducible refine (xansi_attrStrings.calls (rd l0 x17_1) t415 false _ A12.out).mono ?_); rintro e w' ⟨rfl, ⟨nd, rfl⟩⟩; refine ⟨_, rfl, ?_⟩) | ((with_reducible refine gate_callee (f := 103) rfl ?_); refine goesL_ (some 35) rfl rfl Tryz.func103 (by kernel_rfl) rfl #[.int .i64 0] rfl (by (try simp only [List.map_toArray, List.map_cons, List.map_nil]); first | done | rfl | (simp only [List.length_drop, List.length_take]; rfl)) ?_; (with_reducible refine (strconv_Itoa.calls 0 t420 _ ?side1 A17.out).mono ?_); (case side1 => exact XTab.below HT.out (by repeat (first | (with_reducible first | exact HB.out | apply below_alloc | apply pw_below_drewN | apply below_drew1) | exact HB.out))); rintro e w19 ⟨rfl, hb⟩; refine ⟨_, rfl, ?_⟩; have n0_ := Aside0.mk (Kd.R_below (by (with_reducible repeat (first | apply Kd.R_alloc | apply Kd.R_drewN | apply Kd.R_drew)); exact HO_3.out) hb); have n1_ := Aside0.mk (below_step (by repeat (first | (with_reducible first | exact HB.out | apply below_alloc | apply pw_below_drewN | apply below_drew1) | exact HB.out)) hb); clear HO_3; clear HB; have HO_3 := n0_; have HB := n1_; clear n0_ n1_; (try clear hb); (try clear hb2); (try clear hk); (try clear hi)) | ((with_reducible refine gate_builtin (b := .append) (xs := #[.tmp 33, .tmp 36]) rfl ?_); at_builtin; refine Kd.R_append Kd.string (w0 := w) w.heap.size rfl (.tmp 33) (.tmp 36) 94 9 (.string ⟨#[]⟩) 16 rfl Tryz.underlying94 info9 rfl (by decide) (by omega) u3 x3_1 t420 [.string t420] (fun _ => True) (fun _ => False) rfl rfl ?aP (fun _ hk => hk.elim) ?aF ?aO ?aB ?aS ?aL ?_; (case aP => exact rfl); (case aB => exact (by repeat (first | (with_reducible first | exact HB.out | apply below_alloc | apply pw_below_drewN | apply below_drew1) | exact HB.out))); (case aF => exact (fun _ _ => trivial)); (case aO => exact (by (with_reducible repeat (first | apply Kd.R_alloc | apply Kd.R_drewN | apply Kd.R_drew)); exact HO_3.out)); (case aS => exact (below_size (by repeat (first | (with_reducible first | exact HB.out | apply below_alloc | apply pw_below_drewN | apply below_drew1) | exact HB.out)))); (case aL => have := LMc18.out; omega); intro v422 w20 ho hb hg hat; rw [← Ny421.out] at ho; have n0_ := Aside0.mk (hb); have n1_ := Aside0.mk (ho); clear HB; clear HO_3; have HB := n0_; have HO423 := n1_; clear n0_ n1_; clear ho hb hg hat))
            go_roundg k1
            case measure => have := HK1.out; omega
            case rel => exact ⟨(y421), (wrap64 (x17_1 + 1)), (by first | rfl | (simp; done) | (simp [*]; done)), H', ⟨by have := HK1.out; omega⟩, ⟨by (with_reducible repeat (first | apply Kd.R_alloc | apply Kd.R_drewN | apply Kd.R_drew)); exact HO423.out⟩, ⟨by repeat (first | (with_reducible first | exact HB.out | apply below_alloc | apply pw_below_drewN | apply below_drew1) | exact HB.out)⟩⟩
           ·rw [if_neg c18] at H
            exact absurd H (by simp)
          ·rw [if_neg c16] at H
           have c16b0 : decide ((rd l0 x17_1) < 0) = false := decide_eq_false c16
           clear c16
           replace H := Option.bind_eq_some_iff.mp H
           obtain ⟨t424, A210, H⟩ := H
           replace H : (if x3_1.length < 8796093022208 then (xansi_NewStyle.l0 k1 (x3_1 ++ [t424]) l0 (l0.length : Int) (wrap64 (x17_1 + 1))) else (none)) = some r := H
           have A21 := Aside0.mk A210
           clear A210
           by_cases c22 : x3_1.length < 8796093022208
           ·rw [if_pos c22] at H
            have LMc22 := Aside0.mk c22
            clear c22
            obtain ⟨y425, hy425⟩ : ∃ y_ : List ByteArray, y_ = (x3_1 ++ [t424]) := ⟨_, rfl⟩
            replace H : (xansi_NewStyle.l0 k1 y425 l0 (l0.length : Int) (wrap64 (x17_1 + 1))) = some r := by first | (rw [hy425]; with_reducible exact H) | (have H2_ := (Option.bind_some _ _).symm.trans H; rw [hy425]; with_reducible exact H2_) | (have H2_ := (Option.bind_some _ _).symm.trans H; with_reducible exact H2_) | with_reducible exact H | (rw [hy425]; exact H) | exact H
            have Ny425 := Aside0.mk hy425
            clear hy425
            have H' := Aside0.mk H
            clear H
            have p414 : 0 ≤ (x17_1 : Int) := of_decide_eq_true (by first | (with_reducible assumption) | assumption)
            have q414 : x17_1 < (l0.length : Int) := of_decide_eq_true (by first | (with_reducible assumption) | assumption)
            obtain ⟨ad414, e414, hx414_0⟩ := Kd.at_int HR0.out x17_1 p414 q414
            cases e414
            replace hx414_0 := (HB.out.cell (World.block_lt_of_cell? w _ hx414_0)).trans hx414_0
            replace p414 := eq_true p414
            replace q414 := eq_true q414
            go_wp2_with (first | ((with_reducible refine gate_callee (f := 140) rfl ?_); refine goesL_ (some 23) rfl rfl Tryz.func140 (by kernel_rfl) rfl #[.int .i64 (rd l0 x17_1)] rfl (by (try simp only [List.map_toArray, List.map_cons, List.map_nil]); first | done | rfl | (simp only [List.length_drop, List.length_take]; rfl)) ?_; (with_reducible refine (xansi_attrStrings.calls (rd l0 x17_1) t415 false _ A12.out).mono ?_); rintro e w' ⟨rfl, ⟨nd, rfl⟩⟩; refine ⟨_, rfl, ?_⟩) | ((with_reducible refine gate_callee (f := 103) rfl ?_); refine goesL_ (some 35) rfl rfl Tryz.func103 (by kernel_rfl) rfl #[.int .i64 (rd l0 x17_1)] rfl (by (try simp only [List.map_toArray, List.map_cons, List.map_nil]); first | done | rfl | (simp only [List.length_drop, List.length_take]; rfl)) ?_; (with_reducible refine (strconv_Itoa.calls (rd l0 x17_1) t424 _ ?side1 A21.out).mono ?_); (case side1 => exact XTab.below HT.out (by repeat (first | (with_reducible first | exact HB.out | apply below_alloc | apply pw_below_drewN | apply below_drew1) | exact HB.out))); rintro e w23 ⟨rfl, hb⟩; refine ⟨_, rfl, ?_⟩; have n0_ := Aside0.mk (Kd.R_below (by (with_reducible repeat (first | apply Kd.R_alloc | apply Kd.R_drewN | apply Kd.R_drew)); exact HO_3.out) hb); have n1_ := Aside0.mk (below_step (by repeat (first | (with_reducible first | exact HB.out | apply below_alloc | apply pw_below_drewN | apply below_drew1) | exact HB.out)) hb); clear HO_3; clear HB; have HO_3 := n0_; have HB := n1_; clear n0_ n1_; (try clear hb); (try clear hb2); (try clear hk); (try clear hi)) | ((with_reducible refine gate_builtin (b := .append) (xs := #[.tmp 33, .tmp 36]) rfl ?_); at_builtin; refine Kd.R_append Kd.string (w0 := w) w.heap.size rfl (.tmp 33) (.tmp 36) 94 9 (.string ⟨#[]⟩) 16 rfl Tryz.underlying94 info9 rfl (by decide) (by omega) u3 x3_1 t424 [.string t424] (fun _ => True) (fun _ => False) rfl rfl ?aP (fun _ hk => hk.elim) ?aF ?aO ?aB ?aS ?aL ?_; (case aP => exact rfl); (case aB => exact (by repeat (first | (with_reducible first | exact HB.out | apply below_alloc | apply pw_below_drewN | apply below_drew1) | exact HB.out))); (case aF => exact (fun _ _ => trivial)); (case aO => exact (by (with_reducible repeat (first | apply Kd.R_alloc | apply Kd.R_drewN | apply Kd.R_drew)); exact HO_3.out)); (case aS => exact (below_size (by repeat (first | (with_reducible first | exact HB.out | apply below_alloc | apply pw_below_drewN | apply below_drew1) | exact HB.out)))); (case aL => have := LMc22.out; omega); intro v426 w24 ho hb hg hat; rw [← Ny425.out] at ho; have n0_ := Aside0.mk (hb); have n1_ := Aside0.mk (ho); clear HB; clear HO_3; have HB := n0_; have HO427 := n1_; clear n0_ n1_; clear ho hb hg hat))
            go_roundg k1
            case measure => have := HK1.out; omega
            case rel => exact ⟨(y425), (wrap64 (x17_1 + 1)), (by first | rfl | (simp; done) | (simp [*]; done)), H', ⟨by have := HK1.out; omega⟩, ⟨by (with_reducible repeat (first | apply Kd.R_alloc | apply Kd.R_drewN | apply Kd.R_drew)); exact HO427.out⟩, ⟨by repeat (first | (with_reducible first | exact HB.out | apply below_alloc | apply pw_below_drewN | apply below_drew1) | exact HB.out)⟩⟩
           ·rw [if_neg c22] at H
            exact absurd H (by simp)
        ·rw [if_neg c11] at H
         exact absurd H (by simp)
       ·rw [if_neg c10] at H
        exact absurd H (by simp)
      ·rw [if_neg c9] at H
       have c9b0 : decide (x17_1 < (l0.length : Int)) = false := decide_eq_false c9
       clear c9
       obtain rfl := Option.some.inj H
       go_wp2
       go_ret
       exact ⟨_, by first | rfl | (simp [errW_none, errW_some] <;> rfl) | (simp [*, errW_none, errW_some] <;> rfl), by (with_reducible repeat (first | apply Kd.R_alloc | apply Kd.R_drewN | apply Kd.R_drew)); exact HO_3.out, by repeat (first | (with_reducible first | exact HB.out | apply below_alloc | apply pw_below_drewN | apply below_drew1) | exact HB.out)⟩
   ·rw [if_neg c6] at H
    exact absurd H (by simp)
  ·rw [if_neg c5] at H
   exact absurd H (by simp)
/-! ### xansi_zzJoin: function 104 -/
def xansi_zzJoin.l0 : Nat → ByteArray → ByteArray → List ByteArray → Int → Int → Option (ByteArray)
 | 0, _, _, _, _, _ => none
 | k + 1, x1, x5, x8, x9, x10 => if x10 < x9 then (if 0 ≤ x10 then (if x10 < (x8.length : Int) then (if x10 > 0 then (if x5.size + x1.size ≤ 9223372036854775807 then (if x5.size + x1.size + (rdOf ByteArray.empty x8 x10).size ≤ 9223372036854775807 then (xansi_zzJoin.l0 k x1 ((x5 ++ x1) ++ (rdOf ByteArray.empty x8 x10)) x8 x9 (wrap64 (x10 + 1))) else (none)) else (none)) else (if x5.size + (rdOf ByteArray.empty x8 x10).size ≤ 9223372036854775807 then (xansi_zzJoin.l0 k x1 (x5 ++ (rdOf ByteArray.empty x8 x10)) x8 x9 (wrap64 (x10 + 1))) else (none))) else (none)) else (none)) else (some x5)
def xansi_zzJoin.f (k : Nat) (l0 : List ByteArray) (a1 : ByteArray) : Option (ByteArray) := xansi_zzJoin.l0 k a1 (⟨#[]⟩ : ByteArray) l0 (l0.length : Int) 0
theorem xansi_zzJoin.mono_l : ∀ k, (∀ y0 y1 y2 y3 y4, LeO (xansi_zzJoin.l0 k y0 y1 y2 y3 y4) (xansi_zzJoin.l0 (k + 1) y0 y1 y2 y3 y4))
 | 0 => fun _ _ _ _ _ r h => by simp [xansi_zzJoin.l0] at h
 | k + 1 => by
  have ih0 := xansi_zzJoin.mono_l k
  ·intro y0 y1 y2 y3 y4
   unfold xansi_zzJoin.l0
   repeat' first
   | (with_reducible exact ih0 _ _ _ _ _)
   | (with_reducible exact LeO.refl _)
   | (with_reducible exact LeO.none _)
   | (with_reducible refine LeO.ite ?_ ?_)
   | (with_reducible refine LeO.bind ?_ (fun _ => ?_))
   | exact ih0 _ _ _ _ _
   | exact LeO.none _
   | refine LeO.ite ?_ ?_
   | refine LeO.bind ?_ (fun _ => ?_)
theorem xansi_zzJoin.mono : ∀ a0 a1 k, LeO (xansi_zzJoin.f k a0 a1) (xansi_zzJoin.f (k + 1) a0 a1) := by
 intro a0 a1 k
 have ih0 := xansi_zzJoin.mono_l k
 unfold xansi_zzJoin.f
 repeat' first
   | (with_reducible exact ih0 _ _ _ _ _)
   | (with_reducible exact LeO.refl _)
   | (with_reducible exact LeO.none _)
   | (with_reducible refine LeO.ite ?_ ?_)
   | (with_reducible refine LeO.bind ?_ (fun _ => ?_))
   | exact ih0 _ _ _ _ _
   | exact LeO.none _
   | refine LeO.ite ?_ ?_
   | refine LeO.bind ?_ (fun _ => ?_)
set_option maxHeartbeats 8000000 in
set_option maxRecDepth 100000 in
theorem xansi_zzJoin.calls (k : Nat) (A0 : Option Addr) (c0 : Nat) (l0 : List ByteArray) (a1 : ByteArray) (r : ByteArray) (w : World) (hr0 : Kd.C Kd.string w A0 l0.length l0) (hc0 : l0.length ≤ c0) (h : xansi_zzJoin.f k l0 a1 = some r) :
  Calls Tryz.prog 104 #[.slice A0 l0.length c0, .string a1] w fun e w' => e = .returned (.string r) ∧ Drawn0 w w' := by
 have HR0 := Aside0.mk hr0
 have HC0 := Aside0.mk hc0
 clear hr0 hc0
 have H : (xansi_zzJoin.l0 k a1 (⟨#[]⟩ : ByteArray) l0 (l0.length : Int) 0) = some r := h
 clear h
 have H' := Aside0.mk H
 clear H
 go_enter Tryz.func104, Tryz.ntmps104
 go_wp2
 go_loopg [5, 10] k (fun kq v5 v10 w' => ∃ (x5_1 : ByteArray) (x10_1 : Int), v5 = .string x5_1 ∧ v10 = .int .i64 x10_1 ∧ Aside0 (xansi_zzJoin.l0 kq a1 x5_1 l0 (l0.length : Int) x10_1 = some r) ∧ Aside0 (kq ≤ k) ∧ Drawn0 w w')
 case atStart => exact ⟨((⟨#[]⟩ : ByteArray)), (0), (by first | rfl | (simp; done) | (simp [*]; done)), (by first | rfl | (simp; done) | (simp [*]; done)), H', ⟨Nat.le_refl _⟩, by repeat (first | exact Drawn0.refl _ | apply Drawn0.step)⟩
 case round =>
  clear H'
  try clear c1
  try clear p2
  obtain ⟨x5_1, x10_1, rfl, rfl, HA, HK1, ⟨m1, rfl⟩⟩ := hrel
  cases gk with
  | zero => exact absurd HA.out (by simp [xansi_zzJoin.l0])
  | succ k1 =>
   have H := HA.out
   clear HA
   simp only [xansi_zzJoin.l0] at H
   by_cases c3 : x10_1 < (l0.length : Int)
   ·rw [if_pos c3] at H
    have c3b0 : decide (x10_1 < (l0.length : Int)) = true := decide_eq_true c3
    clear c3
    by_cases c4 : 0 ≤ x10_1
    ·rw [if_pos c4] at H
     have c4b0 : decide (0 ≤ x10_1) = true := decide_eq_true c4
     clear c4
     by_cases c5 : x10_1 < (l0.length : Int)
     ·rw [if_pos c5] at H
      have c5b0 : decide (x10_1 < (l0.length : Int)) = true := decide_eq_true c5
      clear c5
      by_cases c6 : x10_1 > 0
      ·rw [if_pos c6] at H
       have c6b0 : decide (0 < x10_1) = true := decide_eq_true c6
       clear c6
       by_cases c7 : x5_1.size + a1.size ≤ 9223372036854775807
       ·rw [if_pos c7] at H
        have c7b0 := eq_true c7
        have c7b1 : decide (x5_1.size + a1.size ≤ 9223372036854775807) = true := decide_eq_true c7
        try have c7b2 : (9223372036854775807 < x5_1.size + a1.size) = False := eq_false (Nat.not_lt.2 c7)
        by_cases c8 : x5_1.size + a1.size + (rdOf ByteArray.empty l0 x10_1).size ≤ 9223372036854775807
        ·rw [if_pos c8] at H
         have c8b0 := eq_true c8
         have c8b1 : decide (x5_1.size + a1.size + (rdOf ByteArray.empty l0 x10_1).size ≤ 9223372036854775807) = true := decide_eq_true c8
         try have c8b2 : (9223372036854775807 < x5_1.size + a1.size + (rdOf ByteArray.empty l0 x10_1).size) = False := eq_false (Nat.not_lt.2 c8)
         have H' := Aside0.mk H
         clear H
         have p125 : 0 ≤ (x10_1 : Int) := of_decide_eq_true (by first | (with_reducible assumption) | assumption)
         have q125 : x10_1 < (l0.length : Int) := of_decide_eq_true (by first | (with_reducible assumption) | assumption)
         obtain ⟨ad125, e125, hx125_0⟩ := Kd.at_string HR0.out x10_1 p125 q125
         cases e125
         replace p125 := eq_true p125
         replace q125 := eq_true q125
         go_wp2
         go_roundg k1
         case measure => have := HK1.out; omega
         case rel => exact ⟨((x5_1 ++ a1) ++ (rdOf ByteArray.empty l0 x10_1)), (wrap64 (x10_1 + 1)), (by first | rfl | (simp; done) | (simp [*]; done)), (by first | rfl | (simp; done) | (simp [*]; done)), H', ⟨by have := HK1.out; omega⟩, by repeat (first | exact Drawn0.refl _ | apply Drawn0.step)⟩
        ·rw [if_neg c8] at H
         exact absurd H (by simp)
       ·rw [if_neg c7] at H
        exact absurd H (by simp)
      ·rw [if_neg c6] at H
       have c6b0 : decide (0 < x10_1) = false := decide_eq_false c6
       clear c6
       by_cases c9 : x5_1.size + (rdOf ByteArray.empty l0 x10_1).size ≤ 9223372036854775807
       ·rw [if_pos c9] at H
        have c9b0 := eq_true c9
        have c9b1 : decide (x5_1.size + (rdOf ByteArray.empty l0 x10_1).size ≤ 9223372036854775807) = true := decide_eq_true c9
        try have c9b2 : (9223372036854775807 < x5_1.size + (rdOf ByteArray.empty l0 x10_1).size) = False := eq_false (Nat.not_lt.2 c9)
        have H' := Aside0.mk H
        clear H
        have p125 : 0 ≤ (x10_1 : Int) := of_decide_eq_true (by first | (with_reducible assumption) | assumption)
        have q125 : x10_1 < (l0.length : Int) := of_decide_eq_true (by first | (with_reducible assumption) | assumption)
        obtain ⟨ad125, e125, hx125_0⟩ := Kd.at_string HR0.out x10_1 p125 q125
        cases e125
        replace p125 := eq_true p125
        replace q125 := eq_true q125
        go_wp2
        go_roundg k1
        case measure => have := HK1.out; omega
        case rel => exact ⟨(x5_1 ++ (rdOf ByteArray.empty l0 x10_1)), (wrap64 (x10_1 + 1)), (by first | rfl | (simp; done) | (simp [*]; done)), (by first | rfl | (simp; done) | (simp [*]; done)), H', ⟨by have := HK1.out; omega⟩, by repeat (first | exact Drawn0.refl _ | apply Drawn0.step)⟩
       ·rw [if_neg c9] at H
        exact absurd H (by simp)
     ·rw [if_neg c5] at H
      exact absurd H (by simp)
    ·rw [if_neg c4] at H
     exact absurd H (by simp)
   ·rw [if_neg c3] at H
    have c3b0 : decide (x10_1 < (l0.length : Int)) = false := decide_eq_false c3
    clear c3
    obtain rfl := Option.some.inj H
    go_wp2
    go_ret
    exact ⟨by first | rfl | (simp; done) | (simp [*]; done), by repeat (first | exact Drawn0.refl _ | apply Drawn0.step)⟩
/-! ### xansi_Style_String: function 106 -/
def xansi_Style_String.f (k : Nat) (l0 : List ByteArray) : Option (ByteArray) := if (l0.length : Int) = 0 then (some (⟨#[27, 91, 109]⟩ : ByteArray)) else ((xansi_zzJoin.f k l0 (⟨#[59]⟩ : ByteArray)).bind fun t428 => (if 2 + t428.size ≤ 9223372036854775807 then (if 2 + t428.size + 1 ≤ 9223372036854775807 then (some (((⟨#[27, 91]⟩ : ByteArray) ++ t428) ++ (⟨#[109]⟩ : ByteArray))) else (none)) else (none)))
theorem xansi_Style_String.mono : ∀ a0 k, LeO (xansi_Style_String.f k a0) (xansi_Style_String.f (k + 1) a0) := by
 intro a0 k
 unfold xansi_Style_String.f
 repeat' first
   | (with_reducible exact xansi_zzJoin.mono _ _ _)
   | (with_reducible exact LeO.refl _)
   | (with_reducible exact LeO.none _)
   | (with_reducible refine LeO.ite ?_ ?_)
   | (with_reducible refine LeO.bind ?_ (fun _ => ?_))
   | exact xansi_zzJoin.mono _ _ _
   | exact LeO.none _
   | refine LeO.ite ?_ ?_
   | refine LeO.bind ?_ (fun _ => ?_)
set_option maxHeartbeats 8000000 in
set_option maxRecDepth 100000 in
theorem xansi_Style_String.calls (k : Nat) (A0 : Option Addr) (c0 : Nat) (l0 : List ByteArray) (r : ByteArray) (w : World) (hr0 : Kd.C Kd.string w A0 l0.length l0) (hc0 : l0.length ≤ c0) (h : xansi_Style_String.f k l0 = some r) :
  Calls Tryz.prog 106 #[.slice A0 l0.length c0] w fun e w' => e = .returned (.string r) ∧ Drawn0 w w' := by
 have HR0 := Aside0.mk hr0
 have HC0 := Aside0.mk hc0
 clear hr0 hc0
 have H : (if (l0.length : Int) = 0 then (some (⟨#[27, 91, 109]⟩ : ByteArray)) else ((xansi_zzJoin.f k l0 (⟨#[59]⟩ : ByteArray)).bind fun t428 => (if 2 + t428.size ≤ 9223372036854775807 then (if 2 + t428.size + 1 ≤ 9223372036854775807 then (some (((⟨#[27, 91]⟩ : ByteArray) ++ t428) ++ (⟨#[109]⟩ : ByteArray))) else (none)) else (none)))) = some r := h
 clear h
 by_cases c2 : (l0.length : Int) = 0
 ·rw [if_pos c2] at H
  have c2b0 : ((l0.length : Int) == 0) = true := beq_iff_eq.mpr c2
  have c2b1 : ((l0.length : Int) != 0) = false := bne_eq_false_iff_eq.mpr c2
  clear c2
  obtain rfl := Option.some.inj H
  go_enter Tryz.func106, Tryz.ntmps106
  go_wp2
  go_ret
  exact ⟨by first | rfl | (simp; done) | (simp [*]; done), by repeat (first | exact Drawn0.refl _ | apply Drawn0.step)⟩
 ·rw [if_neg c2] at H
  have c2b0 : ((l0.length : Int) == 0) = false := beq_eq_false_iff_ne.mpr c2
  have c2b1 : ((l0.length : Int) != 0) = true := bne_iff_ne.mpr c2
  have c2b2 : ¬ (l0 = []) := fun h_ => c2 (by rw [h_]; rfl)
  replace H := Option.bind_eq_some_iff.mp H
  obtain ⟨t428, A30, H⟩ := H
  replace H : (if 2 + t428.size ≤ 9223372036854775807 then (if 2 + t428.size + 1 ≤ 9223372036854775807 then (some (((⟨#[27, 91]⟩ : ByteArray) ++ t428) ++ (⟨#[109]⟩ : ByteArray))) else (none)) else (none)) = some r := H
  have A3 := Aside0.mk A30
  clear A30
  by_cases c4 : 2 + t428.size ≤ 9223372036854775807
  ·rw [if_pos c4] at H
   have c4b0 := eq_true c4
   have c4b1 : decide (2 + t428.size ≤ 9223372036854775807) = true := decide_eq_true c4
   try have c4b2 : (9223372036854775807 < 2 + t428.size) = False := eq_false (Nat.not_lt.2 c4)
   by_cases c5 : 2 + t428.size + 1 ≤ 9223372036854775807
   ·rw [if_pos c5] at H
    have c5b0 := eq_true c5
    have c5b1 : decide (2 + t428.size + 1 ≤ 9223372036854775807) = true := decide_eq_true c5
    try have c5b2 : (9223372036854775807 < 2 + t428.size + 1) = False := eq_false (Nat.not_lt.2 c5)
    obtain rfl := Option.some.inj H
    go_enter Tryz.func106, Tryz.ntmps106
    go_wp2_with (first | ((with_reducible refine gate_callee (f := 104) rfl ?_); refine goesL_ (some 7) rfl rfl Tryz.func104 (by kernel_rfl) rfl #[.slice A0 l0.length c0, .string (⟨#[59]⟩ : ByteArray)] rfl (by (try simp only [List.map_toArray, List.map_cons, List.map_nil]); first | done | rfl | (simp only [List.length_drop, List.length_take]; rfl)) ?_; (with_reducible refine (xansi_zzJoin.calls k _ _ l0 (⟨#[59]⟩ : ByteArray) t428 _ ?side1 ?side2 A3.out).mono ?_); (case side1 => repeat (first | exact HR0.out | (with_reducible refine Kd.C_alloc ?_ _) | (with_reducible refine Kd.C_drewN ?_ _) | (with_reducible refine Kd.C_drew ?_))); (case side2 => exact HC0.out); rintro e w' ⟨rfl, ⟨nd, rfl⟩⟩; refine ⟨_, rfl, ?_⟩))
    go_ret
    exact ⟨by first | rfl | (simp; done) | (simp [*]; done), by repeat (first | exact Drawn0.refl _ | apply Drawn0.step)⟩
   ·rw [if_neg c5] at H
    exact absurd H (by simp)
  ·rw [if_neg c4] at H
   exact absurd H (by simp)
/-! ### xansi_SelectGraphicRendition: function 25 -/
def xansi_SelectGraphicRendition.f (k : Nat) (l0 : List Int) : Option (ByteArray) := if (l0.length : Int) = 0 then (some (⟨#[27, 91, 109]⟩ : ByteArray)) else ((xansi_NewStyle.f k l0).bind fun t429 => ((xansi_Style_String.f k t429).bind fun t432 => (some t432)))
theorem xansi_SelectGraphicRendition.mono : ∀ a0 k, LeO (xansi_SelectGraphicRendition.f k a0) (xansi_SelectGraphicRendition.f (k + 1) a0) := by
 intro a0 k
 unfold xansi_SelectGraphicRendition.f
 repeat' first
   | (with_reducible exact xansi_NewStyle.mono _ _)
   | (with_reducible exact xansi_Style_String.mono _ _)
   | (with_reducible exact LeO.refl _)
   | (with_reducible exact LeO.none _)
   | (with_reducible refine LeO.ite ?_ ?_)
   | (with_reducible refine LeO.bind ?_ (fun _ => ?_))
   | exact xansi_NewStyle.mono _ _
   | exact xansi_Style_String.mono _ _
   | exact LeO.none _
   | refine LeO.ite ?_ ?_
   | refine LeO.bind ?_ (fun _ => ?_)
end Go.Proofs.YteebhoehflgfoaaGreatDoor.Y
end
