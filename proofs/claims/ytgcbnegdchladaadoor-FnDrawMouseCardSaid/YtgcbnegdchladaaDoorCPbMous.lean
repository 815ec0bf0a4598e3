-- Written by a program of this session (wip/tool/xprint.py, round the kit's print.py). Lean checks it.
import Derived.Test.YtgcbnegdchladaaDoorCY0
import Derived.Test.YtgcbnegdchladaaDoorCPaMous
import Derived.Test.YtgcbnegdchladaaDoorCEngD
namespace Go.Proofs.YtgcbnegdchladaaDoor.Y
open Go.RowKit Go.Proofs.YtgcbnegdchladaaDoorW.PrintWords Go.Proofs.YtgcbnegdchladaaDoorW.PrintLast Go.Proofs.YtgcbnegdchladaaDoorW.PrintMore
attribute [local go_sem] max2_int min2_int max_two min_two max_three min_three max_four min_four   -- for this text's walks alone
set_option linter.unusedVariables false
set_option linter.unusedSimpArgs false

/-! ### laws_FnDrawMouse: function 5 -/
mutual
def laws_FnDrawMouse.l0 : Nat → List (S45) → ByteArray → List (S45) → Int → Int → Option (Bool)
  | 0, _, _, _, _, _ => none
  | k + 1, x0, x3, x16, x17, x18 => if x18 < x17 then (if 0 ≤ x18 then (if x18 < (x16.length : Int) then (if ((rd_T45 x16 x18).f1) < 0 then (laws_FnDrawMouse.j1 k x0 x3 x16 x17 x18 true ((rd_T45 x16 x18).f0) ((rd_T45 x16 x18).f1) ((rd_T45 x16 x18).f2) ((rd_T45 x16 x18).f3)) else (if ((rd_T45 x16 x18).f1) > 9999 then (laws_FnDrawMouse.j1 k x0 x3 x16 x17 x18 true ((rd_T45 x16 x18).f0) ((rd_T45 x16 x18).f1) ((rd_T45 x16 x18).f2) ((rd_T45 x16 x18).f3)) else (if ((rd_T45 x16 x18).f2) < 0 then (laws_FnDrawMouse.j1 k x0 x3 x16 x17 x18 true ((rd_T45 x16 x18).f0) ((rd_T45 x16 x18).f1) ((rd_T45 x16 x18).f2) ((rd_T45 x16 x18).f3)) else (laws_FnDrawMouse.j1 k x0 x3 x16 x17 x18 (decide (((rd_T45 x16 x18).f2) > 9999)) ((rd_T45 x16 x18).f0) ((rd_T45 x16 x18).f1) ((rd_T45 x16 x18).f2) ((rd_T45 x16 x18).f3))))) else (none)) else (none)) else ((gosem_conv.f x3).bind fun t193 => ((impl_Feed.f 32 4096 t193).bind fun t196 => (if (x0.length : Int) < 1 then (laws_FnDrawMouse.j2 k x0 t196 true) else (laws_FnDrawMouse.j2 k x0 t196 (decide ((x0.length : Int) > 8))))))
def laws_FnDrawMouse.j1 : Nat → List (S45) → ByteArray → List (S45) → Int → Int → Bool → Int → Int → Int → Bool → Option (Bool)
  | 0, _, _, _, _, _, _, _, _, _, _ => none
  | k + 1, x0, x3, x16, x17, x18, x39, x191000, x191001, x191002, x191003 => if x39 = true then ((laws_drawAwake.f).bind fun t191 => (some t191)) else ((impl_MouseSgr.f k x191000 x191001 x191002 x191003).bind fun t192 => (if x3.size + t192.size ≤ 9223372036854775807 then (laws_FnDrawMouse.l0 k x0 (x3 ++ t192) x16 x17 (wrap64 (x18 + 1))) else (none)))
def laws_FnDrawMouse.j2 : Nat → List (S45) → List (S36) → Bool → Option (Bool)
  | 0, _, _, _ => none
  | k + 1, x0, x6, x63 => if x63 = true then ((laws_drawAwake.f).bind fun t199 => (some t199)) else (if (x6.length : Int) = (x0.length : Int) then (laws_FnDrawMouse.l1 k x6 x0 (x0.length : Int) 0) else (some false))
def laws_FnDrawMouse.l1 : Nat → List (S36) → List (S45) → Int → Int → Option (Bool)
  | 0, _, _, _, _ => none
  | k + 1, x6, x70, x71, x72 => if x72 < x71 then (if 0 ≤ x72 then (if x72 < (x70.length : Int) then (if (rd_T45 x70 x72).f3 = true then (laws_FnDrawMouse.j4 k x6 x72 109 x70 x71 x72 ((rd_T45 x70 x72).f0) ((rd_T45 x70 x72).f1) ((rd_T45 x70 x72).f2) ((rd_T45 x70 x72).f3)) else (laws_FnDrawMouse.j4 k x6 x72 77 x70 x71 x72 ((rd_T45 x70 x72).f0) ((rd_T45 x70 x72).f1) ((rd_T45 x70 x72).f2) ((rd_T45 x70 x72).f3))) else (none)) else (none)) else ((laws_drawAwake.f).bind fun t200 => (some t200))
def laws_FnDrawMouse.j4 : Nat → List (S36) → Int → Int → List (S45) → Int → Int → Int → Int → Int → Bool → Option (Bool)
  | 0, _, _, _, _, _, _, _, _, _, _ => none
  | k + 1, x6, x7, x9, x70, x71, x72, x203000, x203001, x203002, x203003 => if 0 ≤ x7 then (if x7 ≤ (wrap64 (x7 + 1)) then (if (wrap64 (x7 + 1)) ≤ (x6.length : Int) then ((laws_drawEvents.f k ((x6.take ((wrap64 (x7 + 1)) : Int).toNat).drop (x7 : Int).toNat)).bind fun t208 => ((spec_DrawNumbers.f k t208).bind fun bt211 => (if bt211.2.2 = true then ((impl_Pack.f 60 0 x9).bind fun t216 => (if bt211.1 = t216 then ((spec_SameInts.f k bt211.2.1 (([wrap64 (x203000), wrap64 (x203001 + 1), wrap64 (x203002 + 1)] : List Int))).bind fun t220 => (if t220 = true then (laws_FnDrawMouse.l1 k x6 x70 x71 (wrap64 (x72 + 1))) else (some false))) else (some false))) else (some false)))) else (none)) else (none)) else (none)
end
def laws_FnDrawMouse.f (k : Nat) (l0 : List (S45)) : Option (Bool) := if (l0.length : Int) > 2147483647 then (some true) else (laws_FnDrawMouse.l0 k l0 (⟨#[]⟩ : ByteArray) l0 (l0.length : Int) 0)
theorem laws_FnDrawMouse.mono_l : ∀ k, (∀ y0 y1 y2 y3 y4, LeO (laws_FnDrawMouse.l0 k y0 y1 y2 y3 y4) (laws_FnDrawMouse.l0 (k + 1) y0 y1 y2 y3 y4)) ∧ (∀ y0 y1 y2 y3 y4 y5 y6 y7 y8 y9, LeO (laws_FnDrawMouse.j1 k y0 y1 y2 y3 y4 y5 y6 y7 y8 y9) (laws_FnDrawMouse.j1 (k + 1) y0 y1 y2 y3 y4 y5 y6 y7 y8 y9)) ∧ (∀ y0 y1 y2, LeO (laws_FnDrawMouse.j2 k y0 y1 y2) (laws_FnDrawMouse.j2 (k + 1) y0 y1 y2)) ∧ (∀ y0 y1 y2 y3, LeO (laws_FnDrawMouse.l1 k y0 y1 y2 y3) (laws_FnDrawMouse.l1 (k + 1) y0 y1 y2 y3)) ∧ (∀ y0 y1 y2 y3 y4 y5 y6 y7 y8 y9, LeO (laws_FnDrawMouse.j4 k y0 y1 y2 y3 y4 y5 y6 y7 y8 y9) (laws_FnDrawMouse.j4 (k + 1) y0 y1 y2 y3 y4 y5 y6 y7 y8 y9))
  | 0 => ⟨fun _ _ _ _ _ r h => by simp [laws_FnDrawMouse.l0] at h, fun _ _ _ _ _ _ _ _ _ _ r h => by simp [laws_FnDrawMouse.j1] at h, fun _ _ _ r h => by simp [laws_FnDrawMouse.j2] at h, fun _ _ _ _ r h => by simp [laws_FnDrawMouse.l1] at h, fun _ _ _ _ _ _ _ _ _ _ r h => by simp [laws_FnDrawMouse.j4] at h⟩
  | k + 1 => by
    obtain ⟨ih0, ih1, ih2, ih3, ih4⟩ := laws_FnDrawMouse.mono_l k
    refine ⟨?_, ?_, ?_, ?_, ?_⟩
    · intro y0 y1 y2 y3 y4
      unfold laws_FnDrawMouse.l0
      repeat' first
      | (with_reducible exact ih0 _ _ _ _ _)
      | (with_reducible exact ih1 _ _ _ _ _ _ _ _ _ _)
      | (with_reducible exact ih2 _ _ _)
      | (with_reducible exact ih3 _ _ _ _)
      | (with_reducible exact ih4 _ _ _ _ _ _ _ _ _ _)
      | (with_reducible exact impl_MouseSgr.mono _ _ _ _ _)
      | (with_reducible exact laws_drawEvents.mono _ _)
      | (with_reducible exact spec_DrawNumbers.mono _ _)
      | (with_reducible exact spec_SameInts.mono _ _ _)
      | (with_reducible exact LeO.refl _)
      | (with_reducible exact LeO.none _)
      | (with_reducible refine LeO.ite ?_ ?_)
      | (with_reducible refine LeO.bind ?_ (fun _ => ?_))
      | exact ih0 _ _ _ _ _
      | exact ih1 _ _ _ _ _ _ _ _ _ _
      | exact ih2 _ _ _
      | exact ih3 _ _ _ _
      | exact ih4 _ _ _ _ _ _ _ _ _ _
      | exact impl_MouseSgr.mono _ _ _ _ _
      | exact laws_drawEvents.mono _ _
      | exact spec_DrawNumbers.mono _ _
      | exact spec_SameInts.mono _ _ _
      | exact LeO.none _
      | refine LeO.ite ?_ ?_
      | refine LeO.bind ?_ (fun _ => ?_)
    · intro y0 y1 y2 y3 y4 y5 y6 y7 y8 y9
      unfold laws_FnDrawMouse.j1
      repeat' first
      | (with_reducible exact ih0 _ _ _ _ _)
      | (with_reducible exact ih1 _ _ _ _ _ _ _ _ _ _)
      | (with_reducible exact ih2 _ _ _)
      | (with_reducible exact ih3 _ _ _ _)
      | (with_reducible exact ih4 _ _ _ _ _ _ _ _ _ _)
      | (with_reducible exact impl_MouseSgr.mono _ _ _ _ _)
      | (with_reducible exact laws_drawEvents.mono _ _)
      | (with_reducible exact spec_DrawNumbers.mono _ _)
      | (with_reducible exact spec_SameInts.mono _ _ _)
      | (with_reducible exact LeO.refl _)
      | (with_reducible exact LeO.none _)
      | (with_reducible refine LeO.ite ?_ ?_)
      | (with_reducible refine LeO.bind ?_ (fun _ => ?_))
      | exact ih0 _ _ _ _ _
      | exact ih1 _ _ _ _ _ _ _ _ _ _
      | exact ih2 _ _ _
      | exact ih3 _ _ _ _
      | exact ih4 _ _ _ _ _ _ _ _ _ _
      | exact impl_MouseSgr.mono _ _ _ _ _
      | exact laws_drawEvents.mono _ _
      | exact spec_DrawNumbers.mono _ _
      | exact spec_SameInts.mono _ _ _
      | exact LeO.none _
      | refine LeO.ite ?_ ?_
      | refine LeO.bind ?_ (fun _ => ?_)
    · intro y0 y1 y2
      unfold laws_FnDrawMouse.j2
      repeat' first
      | (with_reducible exact ih0 _ _ _ _ _)
      | (with_reducible exact ih1 _ _ _ _ _ _ _ _ _ _)
      | (with_reducible exact ih2 _ _ _)
      | (with_reducible exact ih3 _ _ _ _)
      | (with_reducible exact ih4 _ _ _ _ _ _ _ _ _ _)
      | (with_reducible exact impl_MouseSgr.mono _ _ _ _ _)
      | (with_reducible exact laws_drawEvents.mono _ _)
      | (with_reducible exact spec_DrawNumbers.mono _ _)
      | (with_reducible exact spec_SameInts.mono _ _ _)
      | (with_reducible exact LeO.refl _)
      | (with_reducible exact LeO.none _)
      | (with_reducible refine LeO.ite ?_ ?_)
      | (with_reducible refine LeO.bind ?_ (fun _ => ?_))
      | exact ih0 _ _ _ _ _
      | exact ih1 _ _ _ _ _ _ _ _ _ _
      | exact ih2 _ _ _
      | exact ih3 _ _ _ _
      | exact ih4 _ _ _ _ _ _ _ _ _ _
      | exact impl_MouseSgr.mono _ _ _ _ _
      | exact laws_drawEvents.mono _ _
      | exact spec_DrawNumbers.mono _ _
      | exact spec_SameInts.mono _ _ _
      | exact LeO.none _
      | refine LeO.ite ?_ ?_
      | refine LeO.bind ?_ (fun _ => ?_)
    · intro y0 y1 y2 y3
      unfold laws_FnDrawMouse.l1
      repeat' first
      | (with_reducible exact ih0 _ _ _ _ _)
      | (with_reducible exact ih1 _ _ _ _ _ _ _ _ _ _)
      | (with_reducible exact ih2 _ _ _)
      | (with_reducible exact ih3 _ _ _ _)
      | (with_reducible exact ih4 _ _ _ _ _ _ _ _ _ _)
      | (with_reducible exact impl_MouseSgr.mono _ _ _ _ _)
      | (with_reducible exact laws_drawEvents.mono _ _)
      | (with_reducible exact spec_DrawNumbers.mono _ _)
      | (with_reducible exact spec_SameInts.mono _ _ _)
      | (with_reducible exact LeO.refl _)
      | (with_reducible exact LeO.none _)
      | (with_reducible refine LeO.ite ?_ ?_)
      | (with_reducible refine LeO.bind ?_ (fun _ => ?_))
      | exact ih0 _ _ _ _ _
      | exact ih1 _ _ _ _ _ _ _ _ _ _
      | exact ih2 _ _ _
      | exact ih3 _ _ _ _
      | exact ih4 _ _ _ _ _ _ _ _ _ _
      | exact impl_MouseSgr.mono _ _ _ _ _
      | exact laws_drawEvents.mono _ _
      | exact spec_DrawNumbers.mono _ _
      | exact spec_SameInts.mono _ _ _
      | exact LeO.none _
      | refine LeO.ite ?_ ?_
      | refine LeO.bind ?_ (fun _ => ?_)
    · intro y0 y1 y2 y3 y4 y5 y6 y7 y8 y9
      unfold laws_FnDrawMouse.j4
      repeat' first
      | (with_reducible exact ih0 _ _ _ _ _)
      | (with_reducible exact ih1 _ _ _ _ _ _ _ _ _ _)
      | (with_reducible exact ih2 _ _ _)
      | (with_reducible exact ih3 _ _ _ _)
      | (with_reducible exact ih4 _ _ _ _ _ _ _ _ _ _)
      | (with_reducible exact impl_MouseSgr.mono _ _ _ _ _)
      | (with_reducible exact laws_drawEvents.mono _ _)
      | (with_reducible exact spec_DrawNumbers.mono _ _)
      | (with_reducible exact spec_SameInts.mono _ _ _)
      | (with_reducible exact LeO.refl _)
      | (with_reducible exact LeO.none _)
      | (with_reducible refine LeO.ite ?_ ?_)
      | (with_reducible refine LeO.bind ?_ (fun _ => ?_))
      | exact ih0 _ _ _ _ _
      | exact ih1 _ _ _ _ _ _ _ _ _ _
      | exact ih2 _ _ _
      | exact ih3 _ _ _ _
      | exact ih4 _ _ _ _ _ _ _ _ _ _
      | exact impl_MouseSgr.mono _ _ _ _ _
      | exact laws_drawEvents.mono _ _
      | exact spec_DrawNumbers.mono _ _
      | exact spec_SameInts.mono _ _ _
      | exact LeO.none _
      | refine LeO.ite ?_ ?_
      | refine LeO.bind ?_ (fun _ => ?_)
theorem laws_FnDrawMouse.mono : ∀ a0 k, LeO (laws_FnDrawMouse.f k a0) (laws_FnDrawMouse.f (k + 1) a0) := by
  intro a0 k
  obtain ⟨ih0, ih1, ih2, ih3, ih4⟩ := laws_FnDrawMouse.mono_l k
  unfold laws_FnDrawMouse.f
  repeat' first
      | (with_reducible exact ih0 _ _ _ _ _)
      | (with_reducible exact ih1 _ _ _ _ _ _ _ _ _ _)
      | (with_reducible exact ih2 _ _ _)
      | (with_reducible exact ih3 _ _ _ _)
      | (with_reducible exact ih4 _ _ _ _ _ _ _ _ _ _)
      | (with_reducible exact impl_MouseSgr.mono _ _ _ _ _)
      | (with_reducible exact laws_drawEvents.mono _ _)
      | (with_reducible exact spec_DrawNumbers.mono _ _)
      | (with_reducible exact spec_SameInts.mono _ _ _)
      | (with_reducible exact LeO.refl _)
      | (with_reducible exact LeO.none _)
      | (with_reducible refine LeO.ite ?_ ?_)
      | (with_reducible refine LeO.bind ?_ (fun _ => ?_))
      | exact ih0 _ _ _ _ _
      | exact ih1 _ _ _ _ _ _ _ _ _ _
      | exact ih2 _ _ _
      | exact ih3 _ _ _ _
      | exact ih4 _ _ _ _ _ _ _ _ _ _
      | exact impl_MouseSgr.mono _ _ _ _ _
      | exact laws_drawEvents.mono _ _
      | exact spec_DrawNumbers.mono _ _
      | exact spec_SameInts.mono _ _ _
      | exact LeO.none _
      | refine LeO.ite ?_ ?_
      | refine LeO.bind ?_ (fun _ => ?_)
set_option maxHeartbeats 8000000 in
set_option maxRecDepth 100000 in
theorem laws_FnDrawMouse.calls (k : Nat) (A0 : Option Addr) (c0 : Nat) (l0 : List (S45)) (r : Bool) (w : World) (hT : XTab w) (hr0 : Kd.C k45 w A0 l0.length l0) (hc0 : l0.length ≤ c0) (h : laws_FnDrawMouse.f k l0 = some r) :
    Calls Tryd.prog 5 #[.slice A0 l0.length c0] w fun e w' => e = .returned (.bool r) ∧ Below w.heap.size w w' := by
  have hu45 := Tryd.underlying45
  have HT := Aside0.mk hT
  clear hT
  have HR0 := Aside0.mk hr0
  have HC0 := Aside0.mk hc0
  clear hr0 hc0
  have HB := Aside0.mk (Below.refl w.heap.size w)
  have H : (if (l0.length : Int) > 2147483647 then (some true) else (laws_FnDrawMouse.l0 k l0 (⟨#[]⟩ : ByteArray) l0 (l0.length : Int) 0)) = some r := h
  clear h
  by_cases c2 : (l0.length : Int) > 2147483647
  · rw [if_pos c2] at H
    have c2b0 : decide (2147483647 < (l0.length : Int)) = true := decide_eq_true c2
    have c2b1 : decide (2147483647 < l0.length) = true := decide_eq_true (by omega)
    clear c2
    obtain rfl := Option.some.inj H
    go_enter Tryd.func5, Tryd.ntmps5
    go_wp2
    go_ret
    exact ⟨by first | rfl | (simp [errW_none, errW_some] <;> rfl) | (simp [*, errW_none, errW_some] <;> rfl), by repeat (first | (with_reducible first | exact HB.out | apply below_alloc | apply pw_below_drewN | apply below_drew1) | exact HB.out)⟩
  · rw [if_neg c2] at H
    have c2b0 : decide (2147483647 < (l0.length : Int)) = false := decide_eq_false c2
    have c2b1 : decide (2147483647 < l0.length) = false := decide_eq_false (by omega)
    clear c2
    have H' := Aside0.mk H
    clear H
    go_enter Tryd.func5, Tryd.ntmps5
    go_wp2
    go_loopg [3, 18] k (fun kq v3 v18 w' => ∃ (x3_1 : ByteArray) (x18_1 : Int), v3 = .string x3_1 ∧ v18 = .int .i64 x18_1 ∧ Aside0 (laws_FnDrawMouse.l0 kq l0 x3_1 l0 (l0.length : Int) x18_1 = some r) ∧ Aside0 (kq ≤ k) ∧ Aside0 (Below w.heap.size w w'))
    case atStart => exact ⟨((⟨#[]⟩ : ByteArray)), (0), (by first | rfl | (simp; done) | (simp [*]; done)), (by first | rfl | (simp; done) | (simp [*]; done)), H', ⟨Nat.le_refl _⟩, ⟨by repeat (first | (with_reducible first | exact HB.out | apply below_alloc | apply pw_below_drewN | apply below_drew1) | exact HB.out)⟩⟩
    case round =>
      clear H'
      try clear c2
      try clear c2b0
      try clear c2b1
      try clear p2
      obtain ⟨x3_1, x18_1, rfl, rfl, HA, HK1, HB⟩ := hrel
      cases gk with
      | zero => exact absurd HA.out (by simp [laws_FnDrawMouse.l0])
      | succ k1 =>
        have H := HA.out
        clear HA
        simp only [laws_FnDrawMouse.l0] at H
        by_cases c3 : x18_1 < (l0.length : Int)
        · rw [if_pos c3] at H
          have c3b0 : decide (x18_1 < (l0.length : Int)) = true := decide_eq_true c3
          clear c3
          by_cases c4 : 0 ≤ x18_1
          · rw [if_pos c4] at H
            have c4b0 : decide (0 ≤ x18_1) = true := decide_eq_true c4
            clear c4
            by_cases c5 : x18_1 < (l0.length : Int)
            · rw [if_pos c5] at H
              have c5b0 : decide (x18_1 < (l0.length : Int)) = true := decide_eq_true c5
              clear c5
              have HC6 := Aside0.mk H
              clear H
              have p189 : 0 ≤ (x18_1 : Int) := of_decide_eq_true (by first | (with_reducible assumption) | assumption)
              have q189 : x18_1 < (l0.length : Int) := of_decide_eq_true (by first | (with_reducible assumption) | assumption)
              obtain ⟨ad189, e189, hx189_0, hx189_1, hx189_2, hx189_3⟩ := at_T45 HR0.out x18_1 p189 q189
              cases e189
              replace hx189_0 := (HB.out.cell (World.block_lt_of_cell? w _ hx189_0)).trans hx189_0
              replace hx189_1 := (HB.out.cell (World.block_lt_of_cell? w _ hx189_1)).trans hx189_1
              replace hx189_2 := (HB.out.cell (World.block_lt_of_cell? w _ hx189_2)).trans hx189_2
              replace hx189_3 := (HB.out.cell (World.block_lt_of_cell? w _ hx189_3)).trans hx189_3
              replace p189 := eq_true p189
              replace q189 := eq_true q189
              go_upto_region 7 with (first | ((with_reducible refine gate_dst (N := 5) rfl ?_); (try (refine gate_guard (by rfl) ?_; dsimp only)); refine box_event ?hg (N := 5) ?hd (cs := #[.int .u8 0, .int .i64 0, .int .i64 0, .bool false]) (t := 45) ?hr ?_; (case hd => rfl); (case hg => rfl); (case hr => first | (go_simp; done) | (go_simp; rfl)); intro gb190 hg w7 hbox hb; have n0_ := Aside0.mk (below_step (by repeat (first | (with_reducible first | exact HB.out | apply below_alloc | apply pw_below_drewN | apply below_drew1) | exact HB.out)) hb); have n1_ := Aside0.mk (hbox); have n2_ := Aside0.mk ((by rw [hg]; exact (below_size (by repeat (first | (with_reducible first | exact HB.out | apply below_alloc | apply pw_below_drewN | apply below_drew1) | exact HB.out))) : w.heap.size ≤ gb190)); have n3_ := Aside0.mk ((by rw [hg]; exact (below_size (by repeat (first | (with_reducible first | exact HB.out | apply below_alloc | apply pw_below_drewN | apply below_drew1) | exact HB.out))) : w.heap.size ≤ gb190)); clear HB; have HB := n0_; have BK190 := n1_; have GW190 := n2_; have GE190 := n3_; clear n0_ n1_ n2_ n3_; clear hb hbox hg; have hcz8_0 : w7.cell? ⟨gb190, 0, none⟩ = some (.int .u8 0) := (blk_cell BK190.out 0).trans rfl; have hcz8_1 : w7.cell? ⟨gb190, 1, none⟩ = some (.int .i64 0) := (blk_cell BK190.out 1).trans rfl; have hcz8_2 : w7.cell? ⟨gb190, 2, none⟩ = some (.int .i64 0) := (blk_cell BK190.out 2).trans rfl; have hcz8_3 : w7.cell? ⟨gb190, 3, none⟩ = some (.bool false) := (blk_cell BK190.out 3).trans rfl; have hfz8_0 := blk_frozen BK190.out 0; have hfz8_1 := blk_frozen BK190.out 1; have hfz8_2 := blk_frozen BK190.out 2; have hfz8_3 := blk_frozen BK190.out 3))
              (try simp only [Act.put, List.setIfInBounds_toArray, List.set_cons_zero, List.set_cons_succ])
              go_cut [39] (fun v39 wc => ∃ (kq : Nat) (x39_5 : Bool), v39 = .bool x39_5 ∧ Aside0 (laws_FnDrawMouse.j1 kq l0 x3_1 l0 (l0.length : Int) x18_1 x39_5 ((rd_T45 l0 x18_1).f0) ((rd_T45 l0 x18_1).f1) ((rd_T45 l0 x18_1).f2) ((rd_T45 l0 x18_1).f3) = some r) ∧ Aside0 (kq ≤ k1) ∧ Aside0 (wc.heap[gb190]? = some (.cells #[.int .u8 ((rd_T45 l0 x18_1).f0), .int .i64 ((rd_T45 l0 x18_1).f1), .int .i64 ((rd_T45 l0 x18_1).f2), .bool ((rd_T45 l0 x18_1).f3)] 45 (0, 0))) ∧ Aside0 (Below w.heap.size w wc))
              case first =>
                have H := HC6.out
                clear HC6
                by_cases c9 : ((rd_T45 l0 x18_1).f1) < 0
                · rw [if_pos c9] at H
                  have c9b0 : decide (((rd_T45 l0 x18_1).f1) < 0) = true := decide_eq_true c9
                  clear c9
                  (first | rw [c9b0] | (simp only [i64_w, i32_w]; rw [c9b0]) | skip)
                  have H' := Aside0.mk H
                  clear H
                  have hcz10_0 : w7.cell? ⟨gb190, 0, none⟩ = some (.int .u8 0) := (blk_cell BK190.out 0).trans rfl
                  have hcz10_1 : w7.cell? ⟨gb190, 1, none⟩ = some (.int .i64 0) := (blk_cell BK190.out 1).trans rfl
                  have hcz10_2 : w7.cell? ⟨gb190, 2, none⟩ = some (.int .i64 0) := (blk_cell BK190.out 2).trans rfl
                  have hcz10_3 : w7.cell? ⟨gb190, 3, none⟩ = some (.bool false) := (blk_cell BK190.out 3).trans rfl
                  have hfz10_0 := blk_frozen BK190.out 0
                  have hfz10_1 := blk_frozen BK190.out 1
                  have hfz10_2 := blk_frozen BK190.out 2
                  have hfz10_3 := blk_frozen BK190.out 3
                  go_wp2
                  go_meet
                  case rel => exact ⟨_, (true), (by first | rfl | (simp; done) | (simp [*]; done)), H', ⟨by have := HK1.out; first | omega | exact Nat.le_refl _⟩, ⟨by (with_reducible repeat (first | refine blk_drewN ?_ _ | refine blk_drew ?_ | refine blk_alloc ?_ _)); refine blk_put (cs := #[.int .u8 ((rd_T45 l0 x18_1).f0), .int .i64 ((rd_T45 l0 x18_1).f1), .int .i64 ((rd_T45 l0 x18_1).f2), .bool false]) ?_ 3 _ rfl; (with_reducible repeat (first | refine blk_drewN ?_ _ | refine blk_drew ?_ | refine blk_alloc ?_ _)); refine blk_put (cs := #[.int .u8 ((rd_T45 l0 x18_1).f0), .int .i64 ((rd_T45 l0 x18_1).f1), .int .i64 0, .bool false]) ?_ 2 _ rfl; (with_reducible repeat (first | refine blk_drewN ?_ _ | refine blk_drew ?_ | refine blk_alloc ?_ _)); refine blk_put (cs := #[.int .u8 ((rd_T45 l0 x18_1).f0), .int .i64 0, .int .i64 0, .bool false]) ?_ 1 _ rfl; (with_reducible repeat (first | refine blk_drewN ?_ _ | refine blk_drew ?_ | refine blk_alloc ?_ _)); refine blk_put (cs := #[.int .u8 0, .int .i64 0, .int .i64 0, .bool false]) ?_ 0 _ rfl; (with_reducible repeat (first | refine blk_drewN ?_ _ | refine blk_drew ?_ | refine blk_alloc ?_ _)); exact BK190.out⟩, ⟨by repeat (first | (with_reducible first | exact HB.out | apply below_alloc | apply pw_below_drewN | apply below_drew1 | refine below_set ?_ GE190.out) | exact HB.out)⟩⟩
                · rw [if_neg c9] at H
                  have c9b0 : decide (((rd_T45 l0 x18_1).f1) < 0) = false := decide_eq_false c9
                  clear c9
                  (first | rw [c9b0] | (simp only [i64_w, i32_w]; rw [c9b0]) | skip)
                  by_cases c11 : ((rd_T45 l0 x18_1).f1) > 9999
                  · rw [if_pos c11] at H
                    have c11b0 : decide (9999 < ((rd_T45 l0 x18_1).f1)) = true := decide_eq_true c11
                    clear c11
                    have H' := Aside0.mk H
                    clear H
                    have hcz12_0 : w7.cell? ⟨gb190, 0, none⟩ = some (.int .u8 0) := (blk_cell BK190.out 0).trans rfl
                    have hcz12_1 : w7.cell? ⟨gb190, 1, none⟩ = some (.int .i64 0) := (blk_cell BK190.out 1).trans rfl
                    have hcz12_2 : w7.cell? ⟨gb190, 2, none⟩ = some (.int .i64 0) := (blk_cell BK190.out 2).trans rfl
                    have hcz12_3 : w7.cell? ⟨gb190, 3, none⟩ = some (.bool false) := (blk_cell BK190.out 3).trans rfl
                    have hfz12_0 := blk_frozen BK190.out 0
                    have hfz12_1 := blk_frozen BK190.out 1
                    have hfz12_2 := blk_frozen BK190.out 2
                    have hfz12_3 := blk_frozen BK190.out 3
                    go_wp2
                    go_meet
                    case rel => exact ⟨_, (true), (by first | rfl | (simp; done) | (simp [*]; done)), H', ⟨by have := HK1.out; first | omega | exact Nat.le_refl _⟩, ⟨by (with_reducible repeat (first | refine blk_drewN ?_ _ | refine blk_drew ?_ | refine blk_alloc ?_ _)); refine blk_put (cs := #[.int .u8 ((rd_T45 l0 x18_1).f0), .int .i64 ((rd_T45 l0 x18_1).f1), .int .i64 ((rd_T45 l0 x18_1).f2), .bool false]) ?_ 3 _ rfl; (with_reducible repeat (first | refine blk_drewN ?_ _ | refine blk_drew ?_ | refine blk_alloc ?_ _)); refine blk_put (cs := #[.int .u8 ((rd_T45 l0 x18_1).f0), .int .i64 ((rd_T45 l0 x18_1).f1), .int .i64 0, .bool false]) ?_ 2 _ rfl; (with_reducible repeat (first | refine blk_drewN ?_ _ | refine blk_drew ?_ | refine blk_alloc ?_ _)); refine blk_put (cs := #[.int .u8 ((rd_T45 l0 x18_1).f0), .int .i64 0, .int .i64 0, .bool false]) ?_ 1 _ rfl; (with_reducible repeat (first | refine blk_drewN ?_ _ | refine blk_drew ?_ | refine blk_alloc ?_ _)); refine blk_put (cs := #[.int .u8 0, .int .i64 0, .int .i64 0, .bool false]) ?_ 0 _ rfl; (with_reducible repeat (first | refine blk_drewN ?_ _ | refine blk_drew ?_ | refine blk_alloc ?_ _)); exact BK190.out⟩, ⟨by repeat (first | (with_reducible first | exact HB.out | apply below_alloc | apply pw_below_drewN | apply below_drew1 | refine below_set ?_ GE190.out) | exact HB.out)⟩⟩
                  · rw [if_neg c11] at H
                    have c11b0 : decide (9999 < ((rd_T45 l0 x18_1).f1)) = false := decide_eq_false c11
                    clear c11
                    by_cases c13 : ((rd_T45 l0 x18_1).f2) < 0
                    · rw [if_pos c13] at H
                      have c13b0 : decide (((rd_T45 l0 x18_1).f2) < 0) = true := decide_eq_true c13
                      clear c13
                      have H' := Aside0.mk H
                      clear H
                      have hcz14_0 : w7.cell? ⟨gb190, 0, none⟩ = some (.int .u8 0) := (blk_cell BK190.out 0).trans rfl
                      have hcz14_1 : w7.cell? ⟨gb190, 1, none⟩ = some (.int .i64 0) := (blk_cell BK190.out 1).trans rfl
                      have hcz14_2 : w7.cell? ⟨gb190, 2, none⟩ = some (.int .i64 0) := (blk_cell BK190.out 2).trans rfl
                      have hcz14_3 : w7.cell? ⟨gb190, 3, none⟩ = some (.bool false) := (blk_cell BK190.out 3).trans rfl
                      have hfz14_0 := blk_frozen BK190.out 0
                      have hfz14_1 := blk_frozen BK190.out 1
                      have hfz14_2 := blk_frozen BK190.out 2
                      have hfz14_3 := blk_frozen BK190.out 3
                      go_wp2
                      go_meet
                      case rel => exact ⟨_, (true), (by first | rfl | (simp; done) | (simp [*]; done)), H', ⟨by have := HK1.out; first | omega | exact Nat.le_refl _⟩, ⟨by (with_reducible repeat (first | refine blk_drewN ?_ _ | refine blk_drew ?_ | refine blk_alloc ?_ _)); refine blk_put (cs := #[.int .u8 ((rd_T45 l0 x18_1).f0), .int .i64 ((rd_T45 l0 x18_1).f1), .int .i64 ((rd_T45 l0 x18_1).f2), .bool false]) ?_ 3 _ rfl; (with_reducible repeat (first | refine blk_drewN ?_ _ | refine blk_drew ?_ | refine blk_alloc ?_ _)); refine blk_put (cs := #[.int .u8 ((rd_T45 l0 x18_1).f0), .int .i64 ((rd_T45 l0 x18_1).f1), .int .i64 0, .bool false]) ?_ 2 _ rfl; (with_reducible repeat (first | refine blk_drewN ?_ _ | refine blk_drew ?_ | refine blk_alloc ?_ _)); refine blk_put (cs := #[.int .u8 ((rd_T45 l0 x18_1).f0), .int .i64 0, .int .i64 0, .bool false]) ?_ 1 _ rfl; (with_reducible repeat (first | refine blk_drewN ?_ _ | refine blk_drew ?_ | refine blk_alloc ?_ _)); refine blk_put (cs := #[.int .u8 0, .int .i64 0, .int .i64 0, .bool false]) ?_ 0 _ rfl; (with_reducible repeat (first | refine blk_drewN ?_ _ | refine blk_drew ?_ | refine blk_alloc ?_ _)); exact BK190.out⟩, ⟨by repeat (first | (with_reducible first | exact HB.out | apply below_alloc | apply pw_below_drewN | apply below_drew1 | refine below_set ?_ GE190.out) | exact HB.out)⟩⟩
                    · rw [if_neg c13] at H
                      have c13b0 : decide (((rd_T45 l0 x18_1).f2) < 0) = false := decide_eq_false c13
                      clear c13
                      have H' := Aside0.mk H
                      clear H
                      have hcz15_0 : w7.cell? ⟨gb190, 0, none⟩ = some (.int .u8 0) := (blk_cell BK190.out 0).trans rfl
                      have hcz15_1 : w7.cell? ⟨gb190, 1, none⟩ = some (.int .i64 0) := (blk_cell BK190.out 1).trans rfl
                      have hcz15_2 : w7.cell? ⟨gb190, 2, none⟩ = some (.int .i64 0) := (blk_cell BK190.out 2).trans rfl
                      have hcz15_3 : w7.cell? ⟨gb190, 3, none⟩ = some (.bool false) := (blk_cell BK190.out 3).trans rfl
                      have hfz15_0 := blk_frozen BK190.out 0
                      have hfz15_1 := blk_frozen BK190.out 1
                      have hfz15_2 := blk_frozen BK190.out 2
                      have hfz15_3 := blk_frozen BK190.out 3
                      go_wp2
                      go_meet
                      case rel => exact ⟨_, (decide (((rd_T45 l0 x18_1).f2) > 9999)), (by first | rfl | (simp; done) | (simp [*]; done)), H', ⟨by have := HK1.out; first | omega | exact Nat.le_refl _⟩, ⟨by (with_reducible repeat (first | refine blk_drewN ?_ _ | refine blk_drew ?_ | refine blk_alloc ?_ _)); refine blk_put (cs := #[.int .u8 ((rd_T45 l0 x18_1).f0), .int .i64 ((rd_T45 l0 x18_1).f1), .int .i64 ((rd_T45 l0 x18_1).f2), .bool false]) ?_ 3 _ rfl; (with_reducible repeat (first | refine blk_drewN ?_ _ | refine blk_drew ?_ | refine blk_alloc ?_ _)); refine blk_put (cs := #[.int .u8 ((rd_T45 l0 x18_1).f0), .int .i64 ((rd_T45 l0 x18_1).f1), .int .i64 0, .bool false]) ?_ 2 _ rfl; (with_reducible repeat (first | refine blk_drewN ?_ _ | refine blk_drew ?_ | refine blk_alloc ?_ _)); refine blk_put (cs := #[.int .u8 ((rd_T45 l0 x18_1).f0), .int .i64 0, .int .i64 0, .bool false]) ?_ 1 _ rfl; (with_reducible repeat (first | refine blk_drewN ?_ _ | refine blk_drew ?_ | refine blk_alloc ?_ _)); refine blk_put (cs := #[.int .u8 0, .int .i64 0, .int .i64 0, .bool false]) ?_ 0 _ rfl; (with_reducible repeat (first | refine blk_drewN ?_ _ | refine blk_drew ?_ | refine blk_alloc ?_ _)); exact BK190.out⟩, ⟨by repeat (first | (with_reducible first | exact HB.out | apply below_alloc | apply pw_below_drewN | apply below_drew1 | refine below_set ?_ GE190.out) | exact HB.out)⟩⟩
              case rest =>
                clear HC6
                try clear c1
                try clear p1
                try clear q1
                try clear hx1
                try clear c2
                try clear c2b0
                try clear c2b1
                try clear p2
                try clear c3
                try clear c3b0
                try clear c4
                try clear c4b0
                try clear c5
                try clear c5b0
                try clear c9
                try clear c9b0
                try clear c11
                try clear c11b0
                try clear c13
                try clear c13b0
                try clear hcz10_0
                try clear hcz10_1
                try clear hcz10_2
                try clear hcz10_3
                try clear hcz12_0
                try clear hcz12_1
                try clear hcz12_2
                try clear hcz12_3
                try clear hcz14_0
                try clear hcz14_1
                try clear hcz14_2
                try clear hcz14_3
                try clear hcz15_0
                try clear hcz15_1
                try clear hcz15_2
                try clear hcz15_3
                try clear hcz8_0
                try clear hcz8_1
                try clear hcz8_2
                try clear hcz8_3
                try clear hfz10_0
                try clear hfz10_1
                try clear hfz10_2
                try clear hfz10_3
                try clear hfz12_0
                try clear hfz12_1
                try clear hfz12_2
                try clear hfz12_3
                try clear hfz14_0
                try clear hfz14_1
                try clear hfz14_2
                try clear hfz14_3
                try clear hfz15_0
                try clear hfz15_1
                try clear hfz15_2
                try clear hfz15_3
                try clear hfz8_0
                try clear hfz8_1
                try clear hfz8_2
                try clear hfz8_3
                try clear hx189_0
                try clear hx189_1
                try clear hx189_2
                try clear hx189_3
                try clear p189
                try clear p2
                try clear q189
                obtain ⟨kq, x39_5, rfl, HA, HJ5, BK190, HB⟩ := hcut
                cases kq with
                | zero => exact absurd HA.out (by simp [laws_FnDrawMouse.j1])
                | succ kj5 =>
                  have H := HA.out
                  clear HA
                  simp only [laws_FnDrawMouse.j1] at H
                  by_cases c16 : x39_5 = true
                  · subst c16
                    have H1 : ((laws_drawAwake.f).bind fun t191 => (some t191)) = some r := by rw [if_pos rfl] at H; exact H
                    clear H
                    have H := H1
                    clear H1
                    replace H := Option.bind_eq_some_iff.mp H
                    obtain ⟨t191, A170, H⟩ := H
                    replace H : (some t191) = some r := H
                    have A17 := Aside0.mk A170
                    clear A170
                    obtain rfl := Option.some.inj H
                    go_wp2_with (first | ((with_reducible refine gate_callee (f := 8) rfl ?_); refine goesL_ (some 40) rfl rfl Tryd.func8 (by kernel_rfl) rfl #[] rfl (by (try simp only [List.map_toArray, List.map_cons, List.map_nil]); first | done | rfl | (simp only [List.length_drop, List.length_take]; rfl)) ?_; (with_reducible refine (laws_drawAwake.calls  t191 _ ?side1 A17.out).mono ?_); (case side1 => exact XTab.below HT.out (by repeat (first | (with_reducible first | exact HB.out | apply below_alloc | apply pw_below_drewN | apply below_drew1 | refine below_set ?_ GE190.out) | exact HB.out))); rintro e w18 ⟨rfl, hb⟩; refine ⟨_, rfl, ?_⟩; have n0_ := Aside0.mk (blk_below (g := gb190) (o := .cells #[.int .u8 ((rd_T45 l0 x18_1).f0), .int .i64 ((rd_T45 l0 x18_1).f1), .int .i64 ((rd_T45 l0 x18_1).f2), .bool ((rd_T45 l0 x18_1).f3)] 45 (0, 0)) (by (with_reducible repeat (first | refine blk_drewN ?_ _ | refine blk_drew ?_ | refine blk_alloc ?_ _)); exact BK190.out) hb); have n1_ := Aside0.mk (below_step (by repeat (first | (with_reducible first | exact HB.out | apply below_alloc | apply pw_below_drewN | apply below_drew1 | refine below_set ?_ GE190.out) | exact HB.out)) hb); clear BK190; clear HB; have BK190 := n0_; have HB := n1_; clear n0_ n1_; (try clear hb); (try clear hb2); (try clear hk); (try clear hi)))
                    go_ret
                    exact ⟨by first | rfl | (simp [errW_none, errW_some] <;> rfl) | (simp [*, errW_none, errW_some] <;> rfl), by repeat (first | (with_reducible first | exact HB.out | apply below_alloc | apply pw_below_drewN | apply below_drew1 | refine below_set ?_ GE190.out) | exact HB.out)⟩
                  · replace c16 := Bool.eq_false_iff.mpr c16
                    subst c16
                    have H1 : ((impl_MouseSgr.f kj5 ((rd_T45 l0 x18_1).f0) ((rd_T45 l0 x18_1).f1) ((rd_T45 l0 x18_1).f2) ((rd_T45 l0 x18_1).f3)).bind fun t192 => (if x3_1.size + t192.size ≤ 9223372036854775807 then (laws_FnDrawMouse.l0 kj5 l0 (x3_1 ++ t192) l0 (l0.length : Int) (wrap64 (x18_1 + 1))) else (none))) = some r := by rw [if_neg (show ¬ (false = true) by decide)] at H; exact H
                    clear H
                    have H := H1
                    clear H1
                    replace H := Option.bind_eq_some_iff.mp H
                    obtain ⟨t192, A190, H⟩ := H
                    replace H : (if x3_1.size + t192.size ≤ 9223372036854775807 then (laws_FnDrawMouse.l0 kj5 l0 (x3_1 ++ t192) l0 (l0.length : Int) (wrap64 (x18_1 + 1))) else (none)) = some r := H
                    have A19 := Aside0.mk A190
                    clear A190
                    by_cases c20 : x3_1.size + t192.size ≤ 9223372036854775807
                    · rw [if_pos c20] at H
                      have c20b0 := eq_true c20
                      have c20b1 : decide (x3_1.size + t192.size ≤ 9223372036854775807) = true := decide_eq_true c20
                      try have c20b2 : (9223372036854775807 < x3_1.size + t192.size) = False := eq_false (Nat.not_lt.2 c20)
                      have H' := Aside0.mk H
                      clear H
                      have hcz21_0 : wc.cell? ⟨gb190, 0, none⟩ = some (.int .u8 ((rd_T45 l0 x18_1).f0)) := (blk_cell BK190.out 0).trans rfl
                      have hcz21_1 : wc.cell? ⟨gb190, 1, none⟩ = some (.int .i64 ((rd_T45 l0 x18_1).f1)) := (blk_cell BK190.out 1).trans rfl
                      have hcz21_2 : wc.cell? ⟨gb190, 2, none⟩ = some (.int .i64 ((rd_T45 l0 x18_1).f2)) := (blk_cell BK190.out 2).trans rfl
                      have hcz21_3 : wc.cell? ⟨gb190, 3, none⟩ = some (.bool ((rd_T45 l0 x18_1).f3)) := (blk_cell BK190.out 3).trans rfl
                      have hfz21_0 := blk_frozen BK190.out 0
                      have hfz21_1 := blk_frozen BK190.out 1
                      have hfz21_2 := blk_frozen BK190.out 2
                      have hfz21_3 := blk_frozen BK190.out 3
                      go_wp2_with (first | ((with_reducible refine gate_callee (f := 17) rfl ?_); refine goesL_ (some 50) rfl rfl Tryd.func17 (by kernel_rfl) rfl #[.int .u8 ((rd_T45 l0 x18_1).f0), .int .i64 ((rd_T45 l0 x18_1).f1), .int .i64 ((rd_T45 l0 x18_1).f2), .bool ((rd_T45 l0 x18_1).f3)] rfl (by (try simp only [List.map_toArray, List.map_cons, List.map_nil]); first | done | rfl | (simp only [List.length_drop, List.length_take]; rfl)) ?_; (with_reducible refine (impl_MouseSgr.calls kj5 ((rd_T45 l0 x18_1).f0) ((rd_T45 l0 x18_1).f1) ((rd_T45 l0 x18_1).f2) ((rd_T45 l0 x18_1).f3) t192 _ ?side1 A19.out).mono ?_); (case side1 => exact XTab.below HT.out (by repeat (first | (with_reducible first | exact HB.out | apply below_alloc | apply pw_below_drewN | apply below_drew1 | refine below_set ?_ GE190.out) | exact HB.out))); rintro e w22 ⟨rfl, hb⟩; refine ⟨_, rfl, ?_⟩; have n0_ := Aside0.mk (blk_below (g := gb190) (o := .cells #[.int .u8 ((rd_T45 l0 x18_1).f0), .int .i64 ((rd_T45 l0 x18_1).f1), .int .i64 ((rd_T45 l0 x18_1).f2), .bool ((rd_T45 l0 x18_1).f3)] 45 (0, 0)) (by (with_reducible repeat (first | refine blk_drewN ?_ _ | refine blk_drew ?_ | refine blk_alloc ?_ _)); exact BK190.out) hb); have n1_ := Aside0.mk (below_step (by repeat (first | (with_reducible first | exact HB.out | apply below_alloc | apply pw_below_drewN | apply below_drew1 | refine below_set ?_ GE190.out) | exact HB.out)) hb); clear BK190; clear HB; have BK190 := n0_; have HB := n1_; clear n0_ n1_; (try clear hb); (try clear hb2); (try clear hk); (try clear hi)))
                      go_roundg kj5
                      case measure => have := HK1.out; have := HJ5.out; omega
                      case rel => exact ⟨(x3_1 ++ t192), (wrap64 (x18_1 + 1)), (by first | rfl | (simp; done) | (simp [*]; done)), (by first | rfl | (simp; done) | (simp [*]; done)), H', ⟨by have := HK1.out; have := HJ5.out; omega⟩, ⟨by repeat (first | (with_reducible first | exact HB.out | apply below_alloc | apply pw_below_drewN | apply below_drew1 | refine below_set ?_ GE190.out) | exact HB.out)⟩⟩
                    · rw [if_neg c20] at H
                      exact absurd H (by simp)
            · rw [if_neg c5] at H
              exact absurd H (by simp)
          · rw [if_neg c4] at H
            exact absurd H (by simp)
        · rw [if_neg c3] at H
          have c3b0 : decide (x18_1 < (l0.length : Int)) = false := decide_eq_false c3
          clear c3
          replace H := Option.bind_eq_some_iff.mp H
          obtain ⟨t193, A230, H⟩ := H
          replace H : ((impl_Feed.f 32 4096 t193).bind fun t196 => (if (l0.length : Int) < 1 then (laws_FnDrawMouse.j2 k1 l0 t196 true) else (laws_FnDrawMouse.j2 k1 l0 t196 (decide ((l0.length : Int) > 8))))) = some r := H
          have A23 := Aside0.mk A230
          clear A230
          replace H := Option.bind_eq_some_iff.mp H
          obtain ⟨t196, A240, H⟩ := H
          replace H : (if (l0.length : Int) < 1 then (laws_FnDrawMouse.j2 k1 l0 t196 true) else (laws_FnDrawMouse.j2 k1 l0 t196 (decide ((l0.length : Int) > 8)))) = some r := H
          have A24 := Aside0.mk A240
          clear A240
          have HC25 := Aside0.mk H
          clear H
          go_upto_region 12 with (first | ((with_reducible refine gate_dst (N := 54) rfl ?_); (try (refine gate_guard (by rfl) ?_; dsimp only)); refine conv_ev 9 32 5 rfl rfl Tryd.underlying9 Tryd.underlying32 Tryd.underlying5 x3_1 rfl A23.out ?_; rintro e w26 ⟨v194, rfl, ho0, hb⟩; refine ⟨_, rfl, ?_⟩; have n0_ := Aside0.mk (Kd.V_lower (Kd.V_mono (ok' := fun k_ => True) ho0 (fun k_ hk_ => trivial)) (below_size (by repeat (first | (with_reducible first | exact HB.out | apply below_alloc | apply pw_below_drewN | apply below_drew1) | exact HB.out)))); have n1_ := Aside0.mk (below_step (by repeat (first | (with_reducible first | exact HB.out | apply below_alloc | apply pw_below_drewN | apply below_drew1) | exact HB.out)) hb); clear HB; have HO195 := n0_; have HB := n1_; clear n0_ n1_; (try clear hb); (try clear hb2); (try clear hk); (try clear hi); (try clear ho0); obtain ⟨Ao27, co27, eo27⟩ := Kd.V_slice HO195.out; subst eo27) | ((with_reducible refine gate_callee (f := 13) rfl ?_); refine goesL_ (some 55) rfl rfl Tryd.func13 (by kernel_rfl) rfl #[.int .i64 32, .int .i64 4096, .slice Ao27 t193.length co27] rfl (by (try simp only [List.map_toArray, List.map_cons, List.map_nil]); first | done | rfl | (simp only [List.length_drop, List.length_take]; rfl)) ?_; (with_reducible refine (impl_Feed.calls 32 4096 _ _ t193 t196 _ ?side1 ?side2 A24.out).mono ?_); (case side1 => repeat (first | exact (Kd.V_reads' HO195.out).2.2 | (with_reducible refine Kd.C_alloc ?_ _) | (with_reducible refine Kd.C_drewN ?_ _) | (with_reducible refine Kd.C_drew ?_))); (case side2 => exact (Kd.V_reads' HO195.out).2.1); rintro e w28 ⟨v197, rfl, ho0, hb⟩; refine ⟨_, rfl, ?_⟩; have n0_ := Aside0.mk (Kd.V_elder' (by (with_reducible repeat (first | apply Kd.V_alloc | apply Kd.V_drewN | apply Kd.V_drew)); exact HO195.out) (by first | exact Kd.N_base ho0 | exact Kd.S_base ho0) hb); have n1_ := Aside0.mk (Kd.N_lower (Kd.N_mono (ok' := fun k_ => True) (Kd.S_N (Kd.S_bound ho0)) (fun k_ hk_ => trivial)) (below_size (by repeat (first | (with_reducible first | exact HB.out | apply below_alloc | apply pw_below_drewN | apply below_drew1) | exact HB.out)))); have n2_ := Aside0.mk (below_step (by repeat (first | (with_reducible first | exact HB.out | apply below_alloc | apply pw_below_drewN | apply below_drew1) | exact HB.out)) hb); clear HO195; clear HB; have HO195 := n0_; have HO198 := n1_; have HB := n2_; clear n0_ n1_ n2_; (try clear hb); (try clear hb2); (try clear hk); (try clear hi); (try clear ho0)))
          (try simp only [Act.put, List.setIfInBounds_toArray, List.set_cons_zero, List.set_cons_succ])
          go_cut [63] (fun v63 wc => ∃ (kq : Nat) (x63_24 : Bool), v63 = .bool x63_24 ∧ Aside0 (laws_FnDrawMouse.j2 kq l0 t196 x63_24 = some r) ∧ Aside0 (kq ≤ k1) ∧ Aside0 (Kd.N k36 36 wc w.heap.size (fun _ => True) v197 t196) ∧ Aside0 (Below w.heap.size w wc))
          case first =>
            have H := HC25.out
            clear HC25
            by_cases c29 : (l0.length : Int) < 1
            · rw [if_pos c29] at H
              have c29b0 : decide ((l0.length : Int) < 1) = true := decide_eq_true c29
              have c29b1 : decide (l0.length < 1) = true := decide_eq_true (by omega)
              clear c29
              (first | rw [c29b0] | (simp only [i64_w, i32_w]; rw [c29b0]) | skip)
              have H' := Aside0.mk H
              clear H
              go_wp2
              go_meet
              case rel => exact ⟨_, (true), (by first | rfl | (simp; done) | (simp [*]; done)), H', ⟨by have := HK1.out; first | omega | exact Nat.le_refl _⟩, ⟨by (with_reducible repeat (first | apply Kd.N_alloc | apply Kd.N_drewN | apply Kd.N_drew)); exact HO198.out⟩, ⟨by repeat (first | (with_reducible first | exact HB.out | apply below_alloc | apply pw_below_drewN | apply below_drew1) | exact HB.out)⟩⟩
            · rw [if_neg c29] at H
              have c29b0 : decide ((l0.length : Int) < 1) = false := decide_eq_false c29
              have c29b1 : decide (l0.length < 1) = false := decide_eq_false (by omega)
              clear c29
              (first | rw [c29b0] | (simp only [i64_w, i32_w]; rw [c29b0]) | skip)
              have H' := Aside0.mk H
              clear H
              go_wp2
              go_meet
              case rel => exact ⟨_, (decide ((l0.length : Int) > 8)), (by first | rfl | (simp; done) | (simp [*]; done)), H', ⟨by have := HK1.out; first | omega | exact Nat.le_refl _⟩, ⟨by (with_reducible repeat (first | apply Kd.N_alloc | apply Kd.N_drewN | apply Kd.N_drew)); exact HO198.out⟩, ⟨by repeat (first | (with_reducible first | exact HB.out | apply below_alloc | apply pw_below_drewN | apply below_drew1) | exact HB.out)⟩⟩
          case rest =>
            clear HC25
            try clear c1
            try clear p1
            try clear q1
            try clear hx1
            try clear c2
            try clear c2b0
            try clear c2b1
            try clear p2
            try clear c3
            try clear c3b0
            try clear c4
            try clear c4b0
            try clear c5
            try clear c5b0
            try clear p6
            try clear c8
            try clear c9
            try clear c9b0
            try clear c11
            try clear c11b0
            try clear c13
            try clear c13b0
            try clear c16
            try clear c17
            try clear p18
            try clear q18
            try clear hx18
            try clear c20
            try clear c20b0
            try clear c20b1
            try clear c20b2
            try clear c29
            try clear c29b0
            try clear c29b1
            try clear hcz10_0
            try clear hcz10_1
            try clear hcz10_2
            try clear hcz10_3
            try clear hcz12_0
            try clear hcz12_1
            try clear hcz12_2
            try clear hcz12_3
            try clear hcz14_0
            try clear hcz14_1
            try clear hcz14_2
            try clear hcz14_3
            try clear hcz15_0
            try clear hcz15_1
            try clear hcz15_2
            try clear hcz15_3
            try clear hcz21_0
            try clear hcz21_1
            try clear hcz21_2
            try clear hcz21_3
            try clear hcz8_0
            try clear hcz8_1
            try clear hcz8_2
            try clear hcz8_3
            try clear hfz10_0
            try clear hfz10_1
            try clear hfz10_2
            try clear hfz10_3
            try clear hfz12_0
            try clear hfz12_1
            try clear hfz12_2
            try clear hfz12_3
            try clear hfz14_0
            try clear hfz14_1
            try clear hfz14_2
            try clear hfz14_3
            try clear hfz15_0
            try clear hfz15_1
            try clear hfz15_2
            try clear hfz15_3
            try clear hfz21_0
            try clear hfz21_1
            try clear hfz21_2
            try clear hfz21_3
            try clear hfz8_0
            try clear hfz8_1
            try clear hfz8_2
            try clear hfz8_3
            try clear hx189_0
            try clear hx189_1
            try clear hx189_2
            try clear hx189_3
            try clear p1
            try clear p189
            try clear p2
            try clear q1
            try clear q189
            obtain ⟨kq, x63_24, rfl, HA, HJ24, HO_6, HB⟩ := hcut
            cases kq with
            | zero => exact absurd HA.out (by simp [laws_FnDrawMouse.j2])
            | succ kj24 =>
              have H := HA.out
              clear HA
              simp only [laws_FnDrawMouse.j2] at H
              by_cases c30 : x63_24 = true
              · subst c30
                have H1 : ((laws_drawAwake.f).bind fun t199 => (some t199)) = some r := by rw [if_pos rfl] at H; exact H
                clear H
                have H := H1
                clear H1
                replace H := Option.bind_eq_some_iff.mp H
                obtain ⟨t199, A310, H⟩ := H
                replace H : (some t199) = some r := H
                have A31 := Aside0.mk A310
                clear A310
                obtain rfl := Option.some.inj H
                go_wp2_with (first | ((with_reducible refine gate_callee (f := 8) rfl ?_); refine goesL_ (some 64) rfl rfl Tryd.func8 (by kernel_rfl) rfl #[] rfl (by (try simp only [List.map_toArray, List.map_cons, List.map_nil]); first | done | rfl | (simp only [List.length_drop, List.length_take]; rfl)) ?_; (with_reducible refine (laws_drawAwake.calls  t199 _ ?side1 A31.out).mono ?_); (case side1 => exact XTab.below HT.out (by repeat (first | (with_reducible first | exact HB.out | apply below_alloc | apply pw_below_drewN | apply below_drew1) | exact HB.out))); rintro e w32 ⟨rfl, hb⟩; refine ⟨_, rfl, ?_⟩; have n0_ := Aside0.mk (Kd.N_below (by (with_reducible repeat (first | apply Kd.N_alloc | apply Kd.N_drewN | apply Kd.N_drew)); exact HO_6.out) hb); have n1_ := Aside0.mk (below_step (by repeat (first | (with_reducible first | exact HB.out | apply below_alloc | apply pw_below_drewN | apply below_drew1) | exact HB.out)) hb); clear HO_6; clear HB; have HO_6 := n0_; have HB := n1_; clear n0_ n1_; (try clear hb); (try clear hb2); (try clear hk); (try clear hi)))
                go_ret
                exact ⟨by first | rfl | (simp [errW_none, errW_some] <;> rfl) | (simp [*, errW_none, errW_some] <;> rfl), by repeat (first | (with_reducible first | exact HB.out | apply below_alloc | apply pw_below_drewN | apply below_drew1) | exact HB.out)⟩
              · replace c30 := Bool.eq_false_iff.mpr c30
                subst c30
                have H1 : (if (t196.length : Int) = (l0.length : Int) then (laws_FnDrawMouse.l1 kj24 t196 l0 (l0.length : Int) 0) else (some false)) = some r := by rw [if_neg (show ¬ (false = true) by decide)] at H; exact H
                clear H
                have H := H1
                clear H1
                by_cases c33 : (t196.length : Int) = (l0.length : Int)
                · rw [if_pos c33] at H
                  have c33b0 : ((t196.length : Int) == (l0.length : Int)) = true := beq_iff_eq.mpr c33
                  have c33b1 : ((t196.length : Int) != (l0.length : Int)) = false := bne_eq_false_iff_eq.mpr c33
                  have c33b2 : (t196.length == l0.length) = true := by first | simpa using c33 | (simp at c33 ⊢; omega)
                  clear c33
                  have H' := Aside0.mk H
                  clear H
                  obtain ⟨Ao34, co34, eo34⟩ := Kd.N_slice HO_6.out
                  subst eo34
                  go_wp2
                  go_loopg [72] kj24 (fun kq v72 w' => ∃ (x72_3 : Int), v72 = .int .i64 x72_3 ∧ Aside0 (laws_FnDrawMouse.l1 kq t196 l0 (l0.length : Int) x72_3 = some r) ∧ Aside0 (kq ≤ kj24) ∧ Aside0 (Kd.N k36 36 w' w.heap.size (fun _ => True) (.slice Ao34 t196.length co34) t196) ∧ Aside0 (Below w.heap.size w w'))
                  case atStart => exact ⟨(0), (by first | rfl | (simp; done) | (simp [*]; done)), H', ⟨Nat.le_refl _⟩, ⟨by (with_reducible repeat (first | apply Kd.N_alloc | apply Kd.N_drewN | apply Kd.N_drew)); exact HO_6.out⟩, ⟨by repeat (first | (with_reducible first | exact HB.out | apply below_alloc | apply pw_below_drewN | apply below_drew1) | exact HB.out)⟩⟩
                  case round =>
                    clear H'
                    try clear c1
                    try clear p1
                    try clear q1
                    try clear hx1
                    try clear c2
                    try clear c2b0
                    try clear c2b1
                    try clear p2
                    try clear c3
                    try clear c3b0
                    try clear c4
                    try clear c4b0
                    try clear c5
                    try clear c5b0
                    try clear p6
                    try clear c8
                    try clear c9
                    try clear c9b0
                    try clear c11
                    try clear c11b0
                    try clear c13
                    try clear c13b0
                    try clear c16
                    try clear c17
                    try clear p18
                    try clear q18
                    try clear hx18
                    try clear c20
                    try clear c20b0
                    try clear c20b1
                    try clear c20b2
                    try clear c29
                    try clear c29b0
                    try clear c29b1
                    try clear c30
                    try clear c33
                    try clear c33b0
                    try clear c33b1
                    try clear c33b2
                    try clear hcz10_0
                    try clear hcz10_1
                    try clear hcz10_2
                    try clear hcz10_3
                    try clear hcz12_0
                    try clear hcz12_1
                    try clear hcz12_2
                    try clear hcz12_3
                    try clear hcz14_0
                    try clear hcz14_1
                    try clear hcz14_2
                    try clear hcz14_3
                    try clear hcz15_0
                    try clear hcz15_1
                    try clear hcz15_2
                    try clear hcz15_3
                    try clear hcz21_0
                    try clear hcz21_1
                    try clear hcz21_2
                    try clear hcz21_3
                    try clear hcz8_0
                    try clear hcz8_1
                    try clear hcz8_2
                    try clear hcz8_3
                    try clear hfz10_0
                    try clear hfz10_1
                    try clear hfz10_2
                    try clear hfz10_3
                    try clear hfz12_0
                    try clear hfz12_1
                    try clear hfz12_2
                    try clear hfz12_3
                    try clear hfz14_0
                    try clear hfz14_1
                    try clear hfz14_2
                    try clear hfz14_3
                    try clear hfz15_0
                    try clear hfz15_1
                    try clear hfz15_2
                    try clear hfz15_3
                    try clear hfz21_0
                    try clear hfz21_1
                    try clear hfz21_2
                    try clear hfz21_3
                    try clear hfz8_0
                    try clear hfz8_1
                    try clear hfz8_2
                    try clear hfz8_3
                    try clear hx189_0
                    try clear hx189_1
                    try clear hx189_2
                    try clear hx189_3
                    try clear p1
                    try clear p18
                    try clear p189
                    try clear p2
                    try clear p6
                    try clear q1
                    try clear q18
                    try clear q189
                    obtain ⟨x72_3, rfl, HA, HK3, HO_6, HB⟩ := hrel
                    cases gk with
                    | zero => exact absurd HA.out (by simp [laws_FnDrawMouse.l1])
                    | succ k3 =>
                      have H := HA.out
                      clear HA
                      simp only [laws_FnDrawMouse.l1] at H
                      by_cases c35 : x72_3 < (l0.length : Int)
                      · rw [if_pos c35] at H
                        have c35b0 : decide (x72_3 < (l0.length : Int)) = true := decide_eq_true c35
                        clear c35
                        by_cases c36 : 0 ≤ x72_3
                        · rw [if_pos c36] at H
                          have c36b0 : decide (0 ≤ x72_3) = true := decide_eq_true c36
                          clear c36
                          by_cases c37 : x72_3 < (l0.length : Int)
                          · rw [if_pos c37] at H
                            have c37b0 : decide (x72_3 < (l0.length : Int)) = true := decide_eq_true c37
                            clear c37
                            have HC38 := Aside0.mk H
                            clear H
                            have p201 : 0 ≤ (x72_3 : Int) := of_decide_eq_true (by first | (with_reducible assumption) | assumption)
                            have q201 : x72_3 < (l0.length : Int) := of_decide_eq_true (by first | (with_reducible assumption) | assumption)
                            obtain ⟨ad201, e201, hx201_0, hx201_1, hx201_2, hx201_3⟩ := at_T45 HR0.out x72_3 p201 q201
                            cases e201
                            replace hx201_0 := (HB.out.cell (World.block_lt_of_cell? w _ hx201_0)).trans hx201_0
                            replace hx201_1 := (HB.out.cell (World.block_lt_of_cell? w _ hx201_1)).trans hx201_1
                            replace hx201_2 := (HB.out.cell (World.block_lt_of_cell? w _ hx201_2)).trans hx201_2
                            replace hx201_3 := (HB.out.cell (World.block_lt_of_cell? w _ hx201_3)).trans hx201_3
                            replace p201 := eq_true p201
                            replace q201 := eq_true q201
                            go_upto_if 78 with (first | ((with_reducible refine gate_dst (N := 8) rfl ?_); (try (refine gate_guard (by rfl) ?_; dsimp only)); refine box_event ?hg (N := 8) ?hd (cs := #[.int .u8 0, .int .i64 0, .int .i64 0, .bool false]) (t := 45) ?hr ?_; (case hd => rfl); (case hg => rfl); (case hr => first | (go_simp; done) | (go_simp; rfl)); intro gb202 hg w39 hbox hb; have n0_ := Aside0.mk (Kd.N_below (Kd.N_elderB (by (with_reducible repeat (first | apply Kd.N_alloc | apply Kd.N_drewN | apply Kd.N_drew)); exact HO_6.out) gb202 (Nat.le_of_eq hg.symm)) hb); have n1_ := Aside0.mk (below_step (by repeat (first | (with_reducible first | exact HB.out | apply below_alloc | apply pw_below_drewN | apply below_drew1) | exact HB.out)) hb); have n2_ := Aside0.mk (hbox); have n3_ := Aside0.mk ((by rw [hg]; exact (below_size (by repeat (first | (with_reducible first | exact HB.out | apply below_alloc | apply pw_below_drewN | apply below_drew1) | exact HB.out))) : w.heap.size ≤ gb202)); have n4_ := Aside0.mk ((by rw [hg]; exact (below_size (by repeat (first | (with_reducible first | exact HB.out | apply below_alloc | apply pw_below_drewN | apply below_drew1) | exact HB.out))) : w.heap.size ≤ gb202)); clear HO_6; clear HB; have HO_6 := n0_; have HB := n1_; have BK202 := n2_; have GW202 := n3_; have GE202 := n4_; clear n0_ n1_ n2_ n3_ n4_; clear hb hbox hg; have hcz40_0 : w39.cell? ⟨gb202, 0, none⟩ = some (.int .u8 0) := (blk_cell BK202.out 0).trans rfl; have hcz40_1 : w39.cell? ⟨gb202, 1, none⟩ = some (.int .i64 0) := (blk_cell BK202.out 1).trans rfl; have hcz40_2 : w39.cell? ⟨gb202, 2, none⟩ = some (.int .i64 0) := (blk_cell BK202.out 2).trans rfl; have hcz40_3 : w39.cell? ⟨gb202, 3, none⟩ = some (.bool false) := (blk_cell BK202.out 3).trans rfl; have hfz40_0 := blk_frozen BK202.out 0; have hfz40_1 := blk_frozen BK202.out 1; have hfz40_2 := blk_frozen BK202.out 2; have hfz40_3 := blk_frozen BK202.out 3))
                            (try simp only [Act.put, List.setIfInBounds_toArray, List.set_cons_zero, List.set_cons_succ])
                            go_cut [9] (fun v9 wc => ∃ (kq : Nat) (x9_37 : Int), v9 = .int .u8 x9_37 ∧ Aside0 (laws_FnDrawMouse.j4 kq t196 x72_3 x9_37 l0 (l0.length : Int) x72_3 ((rd_T45 l0 x72_3).f0) ((rd_T45 l0 x72_3).f1) ((rd_T45 l0 x72_3).f2) ((rd_T45 l0 x72_3).f3) = some r) ∧ Aside0 (kq ≤ k3) ∧ Aside0 (Kd.N k36 36 wc w.heap.size (fun k_ => k_ ≠ gb202) (.slice Ao34 t196.length co34) t196) ∧ Aside0 (wc.heap[gb202]? = some (.cells #[.int .u8 ((rd_T45 l0 x72_3).f0), .int .i64 ((rd_T45 l0 x72_3).f1), .int .i64 ((rd_T45 l0 x72_3).f2), .bool ((rd_T45 l0 x72_3).f3)] 45 (0, 0))) ∧ Aside0 (Below w.heap.size w wc))
                            case first =>
                              have H := HC38.out
                              clear HC38
                              obtain ⟨bq41, hbq41⟩ : ∃ b_ : Bool, b_ = ((rd_T45 l0 x72_3).f3) := ⟨_, rfl⟩
                              replace H : (if bq41 = true then (laws_FnDrawMouse.j4 k3 t196 x72_3 109 l0 (l0.length : Int) x72_3 ((rd_T45 l0 x72_3).f0) ((rd_T45 l0 x72_3).f1) ((rd_T45 l0 x72_3).f2) bq41) else (laws_FnDrawMouse.j4 k3 t196 x72_3 77 l0 (l0.length : Int) x72_3 ((rd_T45 l0 x72_3).f0) ((rd_T45 l0 x72_3).f1) ((rd_T45 l0 x72_3).f2) bq41)) = some r := by rw [← hbq41] at H; exact H
                              have Nbq41 := Aside0.mk hbq41
                              clear hbq41
                              (try rw [← Nbq41.out])
                              by_cases c42 : bq41 = true
                              · subst c42
                                have H1 : (laws_FnDrawMouse.j4 k3 t196 x72_3 109 l0 (l0.length : Int) x72_3 ((rd_T45 l0 x72_3).f0) ((rd_T45 l0 x72_3).f1) ((rd_T45 l0 x72_3).f2) true) = some r := by rw [if_pos rfl] at H; exact H
                                clear H
                                have H := H1
                                clear H1
                                have H' := Aside0.mk H
                                clear H
                                go_wp2
                                go_meet
                                case rel => (try rw [← Nbq41.out]); exact ⟨_, (109), (by first | rfl | (simp; done) | (simp [*]; done)), H', ⟨by have := HK1.out; have := HJ24.out; have := HK3.out; first | omega | exact Nat.le_refl _⟩, ⟨by (with_reducible repeat (first | apply Kd.N_alloc | apply Kd.N_drewN | apply Kd.N_drew)); exact Kd.N_mono (Kd.N_far (p := ⟨gb202, 3, none⟩) (Kd.N_far (p := ⟨gb202, 2, none⟩) (Kd.N_far (p := ⟨gb202, 1, none⟩) (Kd.N_far (p := ⟨gb202, 0, none⟩) (Kd.N_mono HO_6.out (fun k_ hk => (⟨hk, hk.2⟩ : _ ∧ k_ ≠ gb202))) (fun _ hk => hk.2) (.int .u8 ((rd_T45 l0 x72_3).f0))) (fun _ hk => hk.2) (.int .i64 ((rd_T45 l0 x72_3).f1))) (fun _ hk => hk.2) (.int .i64 ((rd_T45 l0 x72_3).f2))) (fun _ hk => hk.2) (.bool (true))) (fun _ hk => hk.1.2)⟩, ⟨by (with_reducible repeat (first | refine blk_drewN ?_ _ | refine blk_drew ?_ | refine blk_alloc ?_ _)); refine blk_put (cs := #[.int .u8 ((rd_T45 l0 x72_3).f0), .int .i64 ((rd_T45 l0 x72_3).f1), .int .i64 ((rd_T45 l0 x72_3).f2), .bool false]) ?_ 3 _ rfl; (with_reducible repeat (first | refine blk_drewN ?_ _ | refine blk_drew ?_ | refine blk_alloc ?_ _)); refine blk_put (cs := #[.int .u8 ((rd_T45 l0 x72_3).f0), .int .i64 ((rd_T45 l0 x72_3).f1), .int .i64 0, .bool false]) ?_ 2 _ rfl; (with_reducible repeat (first | refine blk_drewN ?_ _ | refine blk_drew ?_ | refine blk_alloc ?_ _)); refine blk_put (cs := #[.int .u8 ((rd_T45 l0 x72_3).f0), .int .i64 0, .int .i64 0, .bool false]) ?_ 1 _ rfl; (with_reducible repeat (first | refine blk_drewN ?_ _ | refine blk_drew ?_ | refine blk_alloc ?_ _)); refine blk_put (cs := #[.int .u8 0, .int .i64 0, .int .i64 0, .bool false]) ?_ 0 _ rfl; (with_reducible repeat (first | refine blk_drewN ?_ _ | refine blk_drew ?_ | refine blk_alloc ?_ _)); exact BK202.out⟩, ⟨by repeat (first | (with_reducible first | exact HB.out | apply below_alloc | apply pw_below_drewN | apply below_drew1 | refine below_set ?_ GE202.out) | exact HB.out)⟩⟩
                              · replace c42 := Bool.eq_false_iff.mpr c42
                                subst c42
                                have H1 : (laws_FnDrawMouse.j4 k3 t196 x72_3 77 l0 (l0.length : Int) x72_3 ((rd_T45 l0 x72_3).f0) ((rd_T45 l0 x72_3).f1) ((rd_T45 l0 x72_3).f2) false) = some r := by rw [if_neg (show ¬ (false = true) by decide)] at H; exact H
                                clear H
                                have H := H1
                                clear H1
                                have H' := Aside0.mk H
                                clear H
                                go_wp2
                                go_meet
                                case rel => (try rw [← Nbq41.out]); exact ⟨_, (77), (by first | rfl | (simp; done) | (simp [*]; done)), H', ⟨by have := HK1.out; have := HJ24.out; have := HK3.out; first | omega | exact Nat.le_refl _⟩, ⟨by (with_reducible repeat (first | apply Kd.N_alloc | apply Kd.N_drewN | apply Kd.N_drew)); exact Kd.N_mono (Kd.N_far (p := ⟨gb202, 3, none⟩) (Kd.N_far (p := ⟨gb202, 2, none⟩) (Kd.N_far (p := ⟨gb202, 1, none⟩) (Kd.N_far (p := ⟨gb202, 0, none⟩) (Kd.N_mono HO_6.out (fun k_ hk => (⟨hk, hk.2⟩ : _ ∧ k_ ≠ gb202))) (fun _ hk => hk.2) (.int .u8 ((rd_T45 l0 x72_3).f0))) (fun _ hk => hk.2) (.int .i64 ((rd_T45 l0 x72_3).f1))) (fun _ hk => hk.2) (.int .i64 ((rd_T45 l0 x72_3).f2))) (fun _ hk => hk.2) (.bool (false))) (fun _ hk => hk.1.2)⟩, ⟨by (with_reducible repeat (first | refine blk_drewN ?_ _ | refine blk_drew ?_ | refine blk_alloc ?_ _)); refine blk_put (cs := #[.int .u8 ((rd_T45 l0 x72_3).f0), .int .i64 ((rd_T45 l0 x72_3).f1), .int .i64 ((rd_T45 l0 x72_3).f2), .bool false]) ?_ 3 _ rfl; (with_reducible repeat (first | refine blk_drewN ?_ _ | refine blk_drew ?_ | refine blk_alloc ?_ _)); refine blk_put (cs := #[.int .u8 ((rd_T45 l0 x72_3).f0), .int .i64 ((rd_T45 l0 x72_3).f1), .int .i64 0, .bool false]) ?_ 2 _ rfl; (with_reducible repeat (first | refine blk_drewN ?_ _ | refine blk_drew ?_ | refine blk_alloc ?_ _)); refine blk_put (cs := #[.int .u8 ((rd_T45 l0 x72_3).f0), .int .i64 0, .int .i64 0, .bool false]) ?_ 1 _ rfl; (with_reducible repeat (first | refine blk_drewN ?_ _ | refine blk_drew ?_ | refine blk_alloc ?_ _)); refine blk_put (cs := #[.int .u8 0, .int .i64 0, .int .i64 0, .bool false]) ?_ 0 _ rfl; (with_reducible repeat (first | refine blk_drewN ?_ _ | refine blk_drew ?_ | refine blk_alloc ?_ _)); exact BK202.out⟩, ⟨by repeat (first | (with_reducible first | exact HB.out | apply below_alloc | apply pw_below_drewN | apply below_drew1 | refine below_set ?_ GE202.out) | exact HB.out)⟩⟩
                            case rest =>
                              clear HC38
                              try clear c1
                              try clear p1
                              try clear q1
                              try clear hx1
                              try clear c2
                              try clear c2b0
                              try clear c2b1
                              try clear p2
                              try clear q2
                              try clear hx2
                              try clear c3
                              try clear c3b0
                              try clear c4
                              try clear c4b0
                              try clear q4
                              try clear c5
                              try clear c5b0
                              try clear p6
                              try clear c8
                              try clear c9
                              try clear c9b0
                              try clear c11
                              try clear c11b0
                              try clear c13
                              try clear c13b0
                              try clear c16
                              try clear c17
                              try clear p18
                              try clear q18
                              try clear hx18
                              try clear c20
                              try clear c20b0
                              try clear c20b1
                              try clear c20b2
                              try clear p20
                              try clear q20
                              try clear hx20
                              try clear c29
                              try clear c29b0
                              try clear c29b1
                              try clear c30
                              try clear c33
                              try clear c33b0
                              try clear c33b1
                              try clear c33b2
                              try clear c35
                              try clear c35b0
                              try clear c36
                              try clear c36b0
                              try clear c37
                              try clear c37b0
                              try clear q41
                              try clear c42
                              try clear hcz10_0
                              try clear hcz10_1
                              try clear hcz10_2
                              try clear hcz10_3
                              try clear hcz12_0
                              try clear hcz12_1
                              try clear hcz12_2
                              try clear hcz12_3
                              try clear hcz14_0
                              try clear hcz14_1
                              try clear hcz14_2
                              try clear hcz14_3
                              try clear hcz15_0
                              try clear hcz15_1
                              try clear hcz15_2
                              try clear hcz15_3
                              try clear hcz21_0
                              try clear hcz21_1
                              try clear hcz21_2
                              try clear hcz21_3
                              try clear hcz40_0
                              try clear hcz40_1
                              try clear hcz40_2
                              try clear hcz40_3
                              try clear hcz8_0
                              try clear hcz8_1
                              try clear hcz8_2
                              try clear hcz8_3
                              try clear hfz10_0
                              try clear hfz10_1
                              try clear hfz10_2
                              try clear hfz10_3
                              try clear hfz12_0
                              try clear hfz12_1
                              try clear hfz12_2
                              try clear hfz12_3
                              try clear hfz14_0
                              try clear hfz14_1
                              try clear hfz14_2
                              try clear hfz14_3
                              try clear hfz15_0
                              try clear hfz15_1
                              try clear hfz15_2
                              try clear hfz15_3
                              try clear hfz21_0
                              try clear hfz21_1
                              try clear hfz21_2
                              try clear hfz21_3
                              try clear hfz40_0
                              try clear hfz40_1
                              try clear hfz40_2
                              try clear hfz40_3
                              try clear hfz8_0
                              try clear hfz8_1
                              try clear hfz8_2
                              try clear hfz8_3
                              try clear hx189_0
                              try clear hx189_1
                              try clear hx189_2
                              try clear hx189_3
                              try clear hx201_0
                              try clear hx201_1
                              try clear hx201_2
                              try clear hx201_3
                              try clear p1
                              try clear p18
                              try clear p189
                              try clear p2
                              try clear p201
                              try clear p6
                              try clear q1
                              try clear q18
                              try clear q189
                              try clear q201
                              obtain ⟨kq, x9_37, rfl, HA, HJ37, HO_6, BK202, HB⟩ := hcut
                              cases kq with
                              | zero => exact absurd HA.out (by simp [laws_FnDrawMouse.j4])
                              | succ kj37 =>
                                have H := HA.out
                                clear HA
                                simp only [laws_FnDrawMouse.j4] at H
                                by_cases c43 : 0 ≤ x72_3
                                · rw [if_pos c43] at H
                                  have c43b0 := eq_true c43
                                  have c43b1 : decide (0 ≤ x72_3) = true := decide_eq_true c43
                                  clear c43
                                  by_cases c44 : x72_3 ≤ (wrap64 (x72_3 + 1))
                                  · rw [if_pos c44] at H
                                    have c44b0 := eq_true c44
                                    have c44b1 : decide (x72_3 ≤ (wrap64 (x72_3 + 1))) = true := decide_eq_true c44
                                    by_cases c45 : (wrap64 (x72_3 + 1)) ≤ (t196.length : Int)
                                    · rw [if_pos c45] at H
                                      have c45b0 := eq_true c45
                                      have c45b1 : decide ((wrap64 (x72_3 + 1)) ≤ (t196.length : Int)) = true := decide_eq_true c45
                                      obtain ⟨y203, hy203⟩ : ∃ y_ : List (S36), y_ = ((t196.take ((wrap64 (x72_3 + 1)) : Int).toNat).drop (x72_3 : Int).toNat) := ⟨_, rfl⟩
                                      replace H : ((laws_drawEvents.f kj37 y203).bind fun t208 => ((spec_DrawNumbers.f kj37 t208).bind fun bt211 => (if bt211.2.2 = true then ((impl_Pack.f 60 0 x9_37).bind fun t216 => (if bt211.1 = t216 then ((spec_SameInts.f kj37 bt211.2.1 (([wrap64 (((rd_T45 l0 x72_3).f0)), wrap64 (((rd_T45 l0 x72_3).f1) + 1), wrap64 (((rd_T45 l0 x72_3).f2) + 1)] : List Int))).bind fun t220 => (if t220 = true then (laws_FnDrawMouse.l1 kj37 t196 l0 (l0.length : Int) (wrap64 (x72_3 + 1))) else (some false))) else (some false))) else (some false)))) = some r := by first | (rw [hy203]; with_reducible exact H) | (have H2_ := (Option.bind_some _ _).symm.trans H; rw [hy203]; with_reducible exact H2_) | (have H2_ := (Option.bind_some _ _).symm.trans H; with_reducible exact H2_) | with_reducible exact H | (rw [hy203]; exact H) | exact H
                                      have Ny203 := Aside0.mk hy203
                                      clear hy203
                                      replace H := Option.bind_eq_some_iff.mp H
                                      obtain ⟨t208, A460, H⟩ := H
                                      replace H : ((spec_DrawNumbers.f kj37 t208).bind fun bt211 => (if bt211.2.2 = true then ((impl_Pack.f 60 0 x9_37).bind fun t216 => (if bt211.1 = t216 then ((spec_SameInts.f kj37 bt211.2.1 (([wrap64 (((rd_T45 l0 x72_3).f0)), wrap64 (((rd_T45 l0 x72_3).f1) + 1), wrap64 (((rd_T45 l0 x72_3).f2) + 1)] : List Int))).bind fun t220 => (if t220 = true then (laws_FnDrawMouse.l1 kj37 t196 l0 (l0.length : Int) (wrap64 (x72_3 + 1))) else (some false))) else (some false))) else (some false))) = some r := H
                                      have A46 := Aside0.mk A460
                                      clear A460
                                      replace H := Option.bind_eq_some_iff.mp H
                                      obtain ⟨⟨t211, t212, t213⟩, A470, H⟩ := H
                                      replace H : (if t213 = true then ((impl_Pack.f 60 0 x9_37).bind fun t216 => (if t211 = t216 then ((spec_SameInts.f kj37 t212 (([wrap64 (((rd_T45 l0 x72_3).f0)), wrap64 (((rd_T45 l0 x72_3).f1) + 1), wrap64 (((rd_T45 l0 x72_3).f2) + 1)] : List Int))).bind fun t220 => (if t220 = true then (laws_FnDrawMouse.l1 kj37 t196 l0 (l0.length : Int) (wrap64 (x72_3 + 1))) else (some false))) else (some false))) else (some false)) = some r := H
                                      have A47 := Aside0.mk A470
                                      clear A470
                                      by_cases c48 : t213 = true
                                      · subst c48
                                        have H1 : ((impl_Pack.f 60 0 x9_37).bind fun t216 => (if t211 = t216 then ((spec_SameInts.f kj37 t212 (([wrap64 (((rd_T45 l0 x72_3).f0)), wrap64 (((rd_T45 l0 x72_3).f1) + 1), wrap64 (((rd_T45 l0 x72_3).f2) + 1)] : List Int))).bind fun t220 => (if t220 = true then (laws_FnDrawMouse.l1 kj37 t196 l0 (l0.length : Int) (wrap64 (x72_3 + 1))) else (some false))) else (some false))) = some r := by rw [if_pos rfl] at H; exact H
                                        clear H
                                        have H := H1
                                        clear H1
                                        replace H := Option.bind_eq_some_iff.mp H
                                        obtain ⟨t216, A490, H⟩ := H
                                        replace H : (if t211 = t216 then ((spec_SameInts.f kj37 t212 (([wrap64 (((rd_T45 l0 x72_3).f0)), wrap64 (((rd_T45 l0 x72_3).f1) + 1), wrap64 (((rd_T45 l0 x72_3).f2) + 1)] : List Int))).bind fun t220 => (if t220 = true then (laws_FnDrawMouse.l1 kj37 t196 l0 (l0.length : Int) (wrap64 (x72_3 + 1))) else (some false))) else (some false)) = some r := H
                                        have A49 := Aside0.mk A490
                                        clear A490
                                        by_cases c50 : t211 = t216
                                        · rw [if_pos c50] at H
                                          have c50b0 : (t211 == t216) = true := beq_iff_eq.mpr c50
                                          have c50b1 : (t211 != t216) = false := bne_eq_false_iff_eq.mpr c50
                                          clear c50
                                          obtain ⟨y217, hy217⟩ : ∃ y_ : List Int, y_ = (([wrap64 (((rd_T45 l0 x72_3).f0)), wrap64 (((rd_T45 l0 x72_3).f1) + 1), wrap64 (((rd_T45 l0 x72_3).f2) + 1)] : List Int)) := ⟨_, rfl⟩
                                          replace H : ((spec_SameInts.f kj37 t212 y217).bind fun t220 => (if t220 = true then (laws_FnDrawMouse.l1 kj37 t196 l0 (l0.length : Int) (wrap64 (x72_3 + 1))) else (some false))) = some r := by first | (rw [hy217]; with_reducible exact H) | (have H2_ := (Option.bind_some _ _).symm.trans H; rw [hy217]; with_reducible exact H2_) | (have H2_ := (Option.bind_some _ _).symm.trans H; with_reducible exact H2_) | with_reducible exact H | (rw [hy217]; exact H) | exact H
                                          have Ny217 := Aside0.mk hy217
                                          clear hy217
                                          replace H := Option.bind_eq_some_iff.mp H
                                          obtain ⟨t220, A510, H⟩ := H
                                          replace H : (if t220 = true then (laws_FnDrawMouse.l1 kj37 t196 l0 (l0.length : Int) (wrap64 (x72_3 + 1))) else (some false)) = some r := H
                                          have A51 := Aside0.mk A510
                                          clear A510
                                          by_cases c52 : t220 = true
                                          · subst c52
                                            have H1 : (laws_FnDrawMouse.l1 kj37 t196 l0 (l0.length : Int) (wrap64 (x72_3 + 1))) = some r := by rw [if_pos rfl] at H; exact H
                                            clear H
                                            have H := H1
                                            clear H1
                                            have H' := Aside0.mk H
                                            clear H
                                            have q53 : ((wrap64 (x72_3 + 1)) : Int) ≤ ((t196.length : Int) : Int) := of_decide_eq_true (by first | (with_reducible assumption) | assumption)
                                            obtain ⟨i053, hi053, _, hsz53, _⟩ := info_parts info36
                                            have hroom53 : t196.length ≤ co34 := (Kd.N_reads' HO_6.out).2.1
                                            have hC53 : Kd.F k36 _ _ Ao34 t196.length t196 := (Kd.V_at (base := w.heap.size) (Kd.N_V HO_6.out)).2.2
                                            have ql53 : (x72_3 : Int) ≤ ((wrap64 (x72_3 + 1)) : Int) := of_decide_eq_true (by first | (with_reducible assumption) | assumption)
                                            have q053 : (0 : Int) ≤ (x72_3 : Int) := of_decide_eq_true (by first | (with_reducible assumption) | assumption)
                                            have hcut53 := cut_mid (P := Tryd.prog) 30 36 .i64 .i64 Tryd.underlying30 hi053 6 hsz53 Ao34 t196.length co34 x72_3 (wrap64 (x72_3 + 1)) q053 ql53 q53 hroom53
                                            have hr53 := Kd.F_mid (lo := (x72_3 : Int).toNat) (hi := ((wrap64 (x72_3 + 1)) : Int).toNat) (c := co34) hC53 (by omega) (by omega) hroom53
                                            obtain ⟨A53, hA53⟩ : ∃ A1, A1 = (if co34 = (x72_3 : Int).toNat then Ao34 else (Ao34 : Option Addr).map (·.add ((x72_3 : Int).toNat * 6))) := ⟨_, rfl⟩
                                            obtain ⟨c53, hc53⟩ : ∃ c1, c1 = co34 - (x72_3 : Int).toNat := ⟨_, rfl⟩
                                            have hy53 : y203.length = ((wrap64 (x72_3 + 1)) : Int).toNat - (x72_3 : Int).toNat := (by rw [Ny203.out, List.length_drop, List.length_take] <;> omega)
                                            rw [show ((t196).take ((wrap64 (x72_3 + 1)) : Int).toNat).drop (x72_3 : Int).toNat = y203 from Ny203.out.symm] at hr53
                                            replace hr53 : Kd.F k36 _ _ A53 y203.length y203 := (by rw [hA53]; exact hr53)
                                            rw [← hy53, ← hA53, ← hc53] at hcut53
                                            have HO207 := Aside0.mk (show Kd.V k36 36 _ w.heap.size _ (.slice A53 y203.length c53) y203 from Kd.V_mk (by rw [hy53, hc53]; exact Nat.sub_le_sub_right (Nat.le_trans (by omega) hroom53) _) hr53)
                                            have HC207 := Aside0.mk (show y203.length ≤ c53 from by rw [hy53, hc53]; exact Nat.sub_le_sub_right (Nat.le_trans (by omega) hroom53) _)
                                            clear hr53 hC53 hroom53 hi053 hsz53 hc53
                                            have KY53 := Aside0.mk hy53
                                            have KA53 := Aside0.mk hA53
                                            clear hy53 hA53
                                            replace q53 := eq_true q53
                                            go_wp2_with (first | ((with_reducible refine gate_callee (f := 12) rfl ?_); refine goesL_ (some 85) rfl rfl Tryd.func12 (by kernel_rfl) rfl #[.slice A53 y203.length c53] rfl (by (try simp only [List.map_toArray, List.map_cons, List.map_nil]); first | done | rfl | (simp only [List.length_drop, List.length_take]; rfl)) ?_; (with_reducible refine (laws_drawEvents.calls kj37 (fun k_ => k_ ≠ gb202) _ _ y203 t208 _ ?side1 A46.out).mono ?_); (case side1 => exact HO207.out); rintro e w54 ⟨v209, rfl, ho0, hb⟩; refine ⟨_, rfl, ?_⟩; have n0_ := Aside0.mk (Kd.N_elder' (by (with_reducible repeat (first | apply Kd.N_alloc | apply Kd.N_drewN | apply Kd.N_drew)); exact HO_6.out) (by first | exact Kd.N_base ho0 | exact Kd.S_base ho0) hb); have n1_ := Aside0.mk (Kd.V_elder' (by (with_reducible repeat (first | apply Kd.V_alloc | apply Kd.V_drewN | apply Kd.V_drew)); exact HO207.out) (by first | exact Kd.N_base ho0 | exact Kd.S_base ho0) hb); have n2_ := Aside0.mk (Kd.N_lower (Kd.N_mono (ok' := fun k_ => k_ ≠ gb202) ho0 (fun k_ hk_ => Or.elim hk_ (fun hs_ => hs_) (fun hn_ => (Kd.freshB (g := gb202) (o := .cells #[.int .u8 ((rd_T45 l0 x72_3).f0), .int .i64 ((rd_T45 l0 x72_3).f1), .int .i64 ((rd_T45 l0 x72_3).f2), .bool ((rd_T45 l0 x72_3).f3)] 45 (0, 0)) (by (with_reducible repeat (first | refine blk_drewN ?_ _ | refine blk_drew ?_ | refine blk_alloc ?_ _)); exact BK202.out) k_ hn_)))) (below_size (by repeat (first | (with_reducible first | exact HB.out | apply below_alloc | apply pw_below_drewN | apply below_drew1 | refine below_set ?_ GE202.out) | exact HB.out)))); have n3_ := Aside0.mk (blk_below (g := gb202) (o := .cells #[.int .u8 ((rd_T45 l0 x72_3).f0), .int .i64 ((rd_T45 l0 x72_3).f1), .int .i64 ((rd_T45 l0 x72_3).f2), .bool ((rd_T45 l0 x72_3).f3)] 45 (0, 0)) (by (with_reducible repeat (first | refine blk_drewN ?_ _ | refine blk_drew ?_ | refine blk_alloc ?_ _)); exact BK202.out) hb); have n4_ := Aside0.mk (below_step (by repeat (first | (with_reducible first | exact HB.out | apply below_alloc | apply pw_below_drewN | apply below_drew1 | refine below_set ?_ GE202.out) | exact HB.out)) hb); clear HO_6; clear HO207; clear BK202; clear HB; have HO_6 := n0_; have HO207 := n1_; have HO210 := n2_; have BK202 := n3_; have HB := n4_; clear n0_ n1_ n2_ n3_ n4_; (try clear hb); (try clear hb2); (try clear hk); (try clear hi); (try clear ho0); obtain ⟨Ao55, co55, eo55⟩ := Kd.N_slice HO210.out; subst eo55) | ((with_reducible refine gate_callee (f := 14) rfl ?_); refine goesL_ (some 86) rfl rfl Tryd.func14 (by kernel_rfl) rfl #[.slice Ao55 t208.length co55] rfl (by (try simp only [List.map_toArray, List.map_cons, List.map_nil]); first | done | rfl | (simp only [List.length_drop, List.length_take]; rfl)) ?_; (with_reducible refine (spec_DrawNumbers.calls kj37 _ _ t208 t211 t212 true _ ?side1 ?side2 A47.out).mono ?_); (case side1 => repeat (first | exact (Kd.N_reads' HO210.out).2.2 | (with_reducible refine Kd.C_alloc ?_ _) | (with_reducible refine Kd.C_drewN ?_ _) | (with_reducible refine Kd.C_drew ?_))); (case side2 => exact (Kd.N_reads' HO210.out).2.1); rintro e w56 ⟨v214, rfl, ho0, hb⟩; refine ⟨_, rfl, ?_⟩; have n0_ := Aside0.mk (Kd.N_elder' (by (with_reducible repeat (first | apply Kd.N_alloc | apply Kd.N_drewN | apply Kd.N_drew)); exact HO_6.out) (Kd.R_base ho0) hb); have n1_ := Aside0.mk (Kd.V_elder' (by (with_reducible repeat (first | apply Kd.V_alloc | apply Kd.V_drewN | apply Kd.V_drew)); exact HO207.out) (Kd.R_base ho0) hb); have n2_ := Aside0.mk (Kd.N_elder' (by (with_reducible repeat (first | apply Kd.N_alloc | apply Kd.N_drewN | apply Kd.N_drew)); exact HO210.out) (Kd.R_base ho0) hb); have n3_ := Aside0.mk (Kd.R_lower ho0 (below_size (by repeat (first | (with_reducible first | exact HB.out | apply below_alloc | apply pw_below_drewN | apply below_drew1 | refine below_set ?_ GE202.out) | exact HB.out)))); have n4_ := Aside0.mk (blk_below (g := gb202) (o := .cells #[.int .u8 ((rd_T45 l0 x72_3).f0), .int .i64 ((rd_T45 l0 x72_3).f1), .int .i64 ((rd_T45 l0 x72_3).f2), .bool ((rd_T45 l0 x72_3).f3)] 45 (0, 0)) (by (with_reducible repeat (first | refine blk_drewN ?_ _ | refine blk_drew ?_ | refine blk_alloc ?_ _)); exact BK202.out) hb); have n5_ := Aside0.mk (below_step (by repeat (first | (with_reducible first | exact HB.out | apply below_alloc | apply pw_below_drewN | apply below_drew1 | refine below_set ?_ GE202.out) | exact HB.out)) hb); clear HO_6; clear HO207; clear HO210; clear BK202; clear HB; have HO_6 := n0_; have HO207 := n1_; have HO210 := n2_; have HO215 := n3_; have BK202 := n4_; have HB := n5_; clear n0_ n1_ n2_ n3_ n4_ n5_; (try clear hb); (try clear hb2); (try clear hk); (try clear hi); (try clear ho0)) | (go_at_call 15; (with_reducible refine (impl_Pack.calls 60 0 x9_37 t216 _ A49.out).mono ?_); rintro e w' ⟨rfl, ⟨nd, rfl⟩⟩; have hcz57_0 : w56.cell? ⟨gb202, 0, none⟩ = some (.int .u8 ((rd_T45 l0 x72_3).f0)) := (blk_cell BK202.out 0).trans rfl; have hcz57_1 : w56.cell? ⟨gb202, 1, none⟩ = some (.int .i64 ((rd_T45 l0 x72_3).f1)) := (blk_cell BK202.out 1).trans rfl; have hcz57_2 : w56.cell? ⟨gb202, 2, none⟩ = some (.int .i64 ((rd_T45 l0 x72_3).f2)) := (blk_cell BK202.out 2).trans rfl; have hcz57_3 : w56.cell? ⟨gb202, 3, none⟩ = some (.bool ((rd_T45 l0 x72_3).f3)) := (blk_cell BK202.out 3).trans rfl; have hfz57_0 := blk_frozen BK202.out 0; have hfz57_1 := blk_frozen BK202.out 1; have hfz57_2 := blk_frozen BK202.out 2; have hfz57_3 := blk_frozen BK202.out 3) | ((with_reducible refine gate_dst (N := 109) rfl ?_); (try (refine gate_guard (by rfl) ?_; dsimp only)); refine Kd.R_lit (Kd.int .i64) _ 2 ?hg (N := 109) ?hd (xs := ([wrap64 (((rd_T45 l0 x72_3).f0)), wrap64 (((rd_T45 l0 x72_3).f1) + 1), wrap64 (((rd_T45 l0 x72_3).f2) + 1)] : List Int)) (inner := [.int .i64 (wrap64 (((rd_T45 l0 x72_3).f0))), .int .i64 (wrap64 (((rd_T45 l0 x72_3).f1) + 1)), .int .i64 (wrap64 (((rd_T45 l0 x72_3).f2) + 1))]) (ok := fun _ => True) (okp := fun _ => True) ?hr ?hp (fun _ hk => hk) trivial (Below.refl _ _) (Nat.le_refl _) (by simp) ?_; (case hd => rfl); (case hg => rfl); (case hr => first | (go_simp; done) | (go_simp; rfl)); (case hp => exact (Reps.one (show Kd.M (Kd.int .i64) _ _ _ (wrap64 (((rd_T45 l0 x72_3).f0))) [.int .i64 (wrap64 (((rd_T45 l0 x72_3).f0)))] from rfl) (Reps.one (show Kd.M (Kd.int .i64) _ _ _ (wrap64 (((rd_T45 l0 x72_3).f1) + 1)) [.int .i64 (wrap64 (((rd_T45 l0 x72_3).f1) + 1))] from rfl) (Reps.one (show Kd.M (Kd.int .i64) _ _ _ (wrap64 (((rd_T45 l0 x72_3).f2) + 1)) [.int .i64 (wrap64 (((rd_T45 l0 x72_3).f2) + 1))] from rfl) (Reps.none _ _))))); intro v218 w58 ho59 hb hg_ hnew_; clear hg_ hnew_; (first | rw [← Ny217.out] at ho59 | (simp only [Int.reduceToNat] at ho59; rw [← Ny217.out] at ho59)); have n0_ := Aside0.mk (Kd.N_elder' (by (with_reducible repeat (first | apply Kd.N_alloc | apply Kd.N_drewN | apply Kd.N_drew)); exact HO_6.out) (Kd.R_base ho59) hb); have n1_ := Aside0.mk (Kd.V_elder' (by (with_reducible repeat (first | apply Kd.V_alloc | apply Kd.V_drewN | apply Kd.V_drew)); exact HO207.out) (Kd.R_base ho59) hb); have n2_ := Aside0.mk (Kd.N_elder' (by (with_reducible repeat (first | apply Kd.N_alloc | apply Kd.N_drewN | apply Kd.N_drew)); exact HO210.out) (Kd.R_base ho59) hb); have n3_ := Aside0.mk (Kd.R_elder' (by (with_reducible repeat (first | apply Kd.R_alloc | apply Kd.R_drewN | apply Kd.R_drew)); exact HO215.out) (Kd.R_base ho59) hb); have n4_ := Aside0.mk (Kd.R_lower (Kd.R_new' ho59 (Kd.R_lt (by (with_reducible repeat (first | apply Kd.R_alloc | apply Kd.R_drewN | apply Kd.R_drew)); exact HO215.out))) (below_size (by repeat (first | (with_reducible first | exact HB.out | apply below_alloc | apply pw_below_drewN | apply below_drew1 | refine below_set ?_ GE202.out) | exact HB.out)))); have n5_ := Aside0.mk (blk_below (g := gb202) (o := .cells #[.int .u8 ((rd_T45 l0 x72_3).f0), .int .i64 ((rd_T45 l0 x72_3).f1), .int .i64 ((rd_T45 l0 x72_3).f2), .bool ((rd_T45 l0 x72_3).f3)] 45 (0, 0)) (by (with_reducible repeat (first | refine blk_drewN ?_ _ | refine blk_drew ?_ | refine blk_alloc ?_ _)); exact BK202.out) hb); have n6_ := Aside0.mk (below_step (by repeat (first | (with_reducible first | exact HB.out | apply below_alloc | apply pw_below_drewN | apply below_drew1 | refine below_set ?_ GE202.out) | exact HB.out)) hb); clear HO_6; clear HO207; clear HO210; clear HO215; clear BK202; clear HB; have HO_6 := n0_; have HO207 := n1_; have HO210 := n2_; have HO215 := n3_; have HO219 := n4_; have BK202 := n5_; have HB := n6_; clear n0_ n1_ n2_ n3_ n4_ n5_ n6_; clear hb ho59; obtain ⟨Ao60, co60, eo60⟩ := Kd.R_slice HO215.out; subst eo60; obtain ⟨Ao61, co61, eo61⟩ := Kd.R_slice HO219.out; subst eo61) | (go_at_call 16; (with_reducible refine (spec_SameInts.calls kj37 _ _ t212 _ _ y217 true _ ?side1 ?side2 ?side3 ?side4 A51.out).mono ?_); (case side1 => repeat (first | exact (Kd.R_reads' HO215.out).2.2 | (with_reducible refine Kd.C_alloc ?_ _) | (with_reducible refine Kd.C_drewN ?_ _) | (with_reducible refine Kd.C_drew ?_))); (case side2 => exact (Kd.R_reads' HO215.out).2.1); (case side3 => repeat (first | exact (Kd.R_reads' HO219.out).2.2 | (with_reducible refine Kd.C_alloc ?_ _) | (with_reducible refine Kd.C_drewN ?_ _) | (with_reducible refine Kd.C_drew ?_))); (case side4 => exact (Kd.R_reads' HO219.out).2.1); rintro e w' ⟨rfl, ⟨nd, rfl⟩⟩))
                                            go_roundg kj37
                                            case measure => have := HK1.out; have := HJ24.out; have := HK3.out; have := HJ37.out; omega
                                            case rel => exact ⟨(wrap64 (x72_3 + 1)), (by first | rfl | (simp; done) | (simp [*]; done)), H', ⟨by have := HK1.out; have := HJ24.out; have := HK3.out; have := HJ37.out; omega⟩, ⟨by (with_reducible repeat (first | apply Kd.N_alloc | apply Kd.N_drewN | apply Kd.N_drew)); exact Kd.N_mono HO_6.out (fun _ hk => trivial)⟩, ⟨by repeat (first | (with_reducible first | exact HB.out | apply below_alloc | apply pw_below_drewN | apply below_drew1 | refine below_set ?_ GE202.out) | exact HB.out)⟩⟩
                                          · replace c52 := Bool.eq_false_iff.mpr c52
                                            subst c52
                                            have H1 : (some false) = some r := by rw [if_neg (show ¬ (false = true) by decide)] at H; exact H
                                            clear H
                                            have H := H1
                                            clear H1
                                            obtain rfl := Option.some.inj H
                                            have q62 : ((wrap64 (x72_3 + 1)) : Int) ≤ ((t196.length : Int) : Int) := of_decide_eq_true (by first | (with_reducible assumption) | assumption)
                                            obtain ⟨i062, hi062, _, hsz62, _⟩ := info_parts info36
                                            have hroom62 : t196.length ≤ co34 := (Kd.N_reads' HO_6.out).2.1
                                            have hC62 : Kd.F k36 _ _ Ao34 t196.length t196 := (Kd.V_at (base := w.heap.size) (Kd.N_V HO_6.out)).2.2
                                            have ql62 : (x72_3 : Int) ≤ ((wrap64 (x72_3 + 1)) : Int) := of_decide_eq_true (by first | (with_reducible assumption) | assumption)
                                            have q062 : (0 : Int) ≤ (x72_3 : Int) := of_decide_eq_true (by first | (with_reducible assumption) | assumption)
                                            have hcut62 := cut_mid (P := Tryd.prog) 30 36 .i64 .i64 Tryd.underlying30 hi062 6 hsz62 Ao34 t196.length co34 x72_3 (wrap64 (x72_3 + 1)) q062 ql62 q62 hroom62
                                            have hr62 := Kd.F_mid (lo := (x72_3 : Int).toNat) (hi := ((wrap64 (x72_3 + 1)) : Int).toNat) (c := co34) hC62 (by omega) (by omega) hroom62
                                            obtain ⟨A62, hA62⟩ : ∃ A1, A1 = (if co34 = (x72_3 : Int).toNat then Ao34 else (Ao34 : Option Addr).map (·.add ((x72_3 : Int).toNat * 6))) := ⟨_, rfl⟩
                                            obtain ⟨c62, hc62⟩ : ∃ c1, c1 = co34 - (x72_3 : Int).toNat := ⟨_, rfl⟩
                                            have hy62 : y203.length = ((wrap64 (x72_3 + 1)) : Int).toNat - (x72_3 : Int).toNat := (by rw [Ny203.out, List.length_drop, List.length_take] <;> omega)
                                            rw [show ((t196).take ((wrap64 (x72_3 + 1)) : Int).toNat).drop (x72_3 : Int).toNat = y203 from Ny203.out.symm] at hr62
                                            replace hr62 : Kd.F k36 _ _ A62 y203.length y203 := (by rw [hA62]; exact hr62)
                                            rw [← hy62, ← hA62, ← hc62] at hcut62
                                            have HO207 := Aside0.mk (show Kd.V k36 36 _ w.heap.size _ (.slice A62 y203.length c62) y203 from Kd.V_mk (by rw [hy62, hc62]; exact Nat.sub_le_sub_right (Nat.le_trans (by omega) hroom62) _) hr62)
                                            have HC207 := Aside0.mk (show y203.length ≤ c62 from by rw [hy62, hc62]; exact Nat.sub_le_sub_right (Nat.le_trans (by omega) hroom62) _)
                                            clear hr62 hC62 hroom62 hi062 hsz62 hc62
                                            have KY62 := Aside0.mk hy62
                                            have KA62 := Aside0.mk hA62
                                            clear hy62 hA62
                                            replace q62 := eq_true q62
                                            go_wp2_with (first | ((with_reducible refine gate_callee (f := 12) rfl ?_); refine goesL_ (some 85) rfl rfl Tryd.func12 (by kernel_rfl) rfl #[.slice A62 y203.length c62] rfl (by (try simp only [List.map_toArray, List.map_cons, List.map_nil]); first | done | rfl | (simp only [List.length_drop, List.length_take]; rfl)) ?_; (with_reducible refine (laws_drawEvents.calls kj37 (fun k_ => k_ ≠ gb202) _ _ y203 t208 _ ?side1 A46.out).mono ?_); (case side1 => exact HO207.out); rintro e w63 ⟨v209, rfl, ho0, hb⟩; refine ⟨_, rfl, ?_⟩; have n0_ := Aside0.mk (Kd.N_elder' (by (with_reducible repeat (first | apply Kd.N_alloc | apply Kd.N_drewN | apply Kd.N_drew)); exact HO_6.out) (by first | exact Kd.N_base ho0 | exact Kd.S_base ho0) hb); have n1_ := Aside0.mk (Kd.V_elder' (by (with_reducible repeat (first | apply Kd.V_alloc | apply Kd.V_drewN | apply Kd.V_drew)); exact HO207.out) (by first | exact Kd.N_base ho0 | exact Kd.S_base ho0) hb); have n2_ := Aside0.mk (Kd.N_lower (Kd.N_mono (ok' := fun k_ => k_ ≠ gb202) ho0 (fun k_ hk_ => Or.elim hk_ (fun hs_ => hs_) (fun hn_ => (Kd.freshB (g := gb202) (o := .cells #[.int .u8 ((rd_T45 l0 x72_3).f0), .int .i64 ((rd_T45 l0 x72_3).f1), .int .i64 ((rd_T45 l0 x72_3).f2), .bool ((rd_T45 l0 x72_3).f3)] 45 (0, 0)) (by (with_reducible repeat (first | refine blk_drewN ?_ _ | refine blk_drew ?_ | refine blk_alloc ?_ _)); exact BK202.out) k_ hn_)))) (below_size (by repeat (first | (with_reducible first | exact HB.out | apply below_alloc | apply pw_below_drewN | apply below_drew1 | refine below_set ?_ GE202.out) | exact HB.out)))); have n3_ := Aside0.mk (blk_below (g := gb202) (o := .cells #[.int .u8 ((rd_T45 l0 x72_3).f0), .int .i64 ((rd_T45 l0 x72_3).f1), .int .i64 ((rd_T45 l0 x72_3).f2), .bool ((rd_T45 l0 x72_3).f3)] 45 (0, 0)) (by (with_reducible repeat (first | refine blk_drewN ?_ _ | refine blk_drew ?_ | refine blk_alloc ?_ _)); exact BK202.out) hb); have n4_ := Aside0.mk (below_step (by repeat (first | (with_reducible first | exact HB.out | apply below_alloc | apply pw_below_drewN | apply below_drew1 | refine below_set ?_ GE202.out) | exact HB.out)) hb); clear HO_6; clear HO207; clear BK202; clear HB; have HO_6 := n0_; have HO207 := n1_; have HO210 := n2_; have BK202 := n3_; have HB := n4_; clear n0_ n1_ n2_ n3_ n4_; (try clear hb); (try clear hb2); (try clear hk); (try clear hi); (try clear ho0); obtain ⟨Ao64, co64, eo64⟩ := Kd.N_slice HO210.out; subst eo64) | ((with_reducible refine gate_callee (f := 14) rfl ?_); refine goesL_ (some 86) rfl rfl Tryd.func14 (by kernel_rfl) rfl #[.slice Ao64 t208.length co64] rfl (by (try simp only [List.map_toArray, List.map_cons, List.map_nil]); first | done | rfl | (simp only [List.length_drop, List.length_take]; rfl)) ?_; (with_reducible refine (spec_DrawNumbers.calls kj37 _ _ t208 t211 t212 true _ ?side1 ?side2 A47.out).mono ?_); (case side1 => repeat (first | exact (Kd.N_reads' HO210.out).2.2 | (with_reducible refine Kd.C_alloc ?_ _) | (with_reducible refine Kd.C_drewN ?_ _) | (with_reducible refine Kd.C_drew ?_))); (case side2 => exact (Kd.N_reads' HO210.out).2.1); rintro e w65 ⟨v214, rfl, ho0, hb⟩; refine ⟨_, rfl, ?_⟩; have n0_ := Aside0.mk (Kd.N_elder' (by (with_reducible repeat (first | apply Kd.N_alloc | apply Kd.N_drewN | apply Kd.N_drew)); exact HO_6.out) (Kd.R_base ho0) hb); have n1_ := Aside0.mk (Kd.V_elder' (by (with_reducible repeat (first | apply Kd.V_alloc | apply Kd.V_drewN | apply Kd.V_drew)); exact HO207.out) (Kd.R_base ho0) hb); have n2_ := Aside0.mk (Kd.N_elder' (by (with_reducible repeat (first | apply Kd.N_alloc | apply Kd.N_drewN | apply Kd.N_drew)); exact HO210.out) (Kd.R_base ho0) hb); have n3_ := Aside0.mk (Kd.R_lower ho0 (below_size (by repeat (first | (with_reducible first | exact HB.out | apply below_alloc | apply pw_below_drewN | apply below_drew1 | refine below_set ?_ GE202.out) | exact HB.out)))); have n4_ := Aside0.mk (blk_below (g := gb202) (o := .cells #[.int .u8 ((rd_T45 l0 x72_3).f0), .int .i64 ((rd_T45 l0 x72_3).f1), .int .i64 ((rd_T45 l0 x72_3).f2), .bool ((rd_T45 l0 x72_3).f3)] 45 (0, 0)) (by (with_reducible repeat (first | refine blk_drewN ?_ _ | refine blk_drew ?_ | refine blk_alloc ?_ _)); exact BK202.out) hb); have n5_ := Aside0.mk (below_step (by repeat (first | (with_reducible first | exact HB.out | apply below_alloc | apply pw_below_drewN | apply below_drew1 | refine below_set ?_ GE202.out) | exact HB.out)) hb); clear HO_6; clear HO207; clear HO210; clear BK202; clear HB; have HO_6 := n0_; have HO207 := n1_; have HO210 := n2_; have HO215 := n3_; have BK202 := n4_; have HB := n5_; clear n0_ n1_ n2_ n3_ n4_ n5_; (try clear hb); (try clear hb2); (try clear hk); (try clear hi); (try clear ho0)) | (go_at_call 15; (with_reducible refine (impl_Pack.calls 60 0 x9_37 t216 _ A49.out).mono ?_); rintro e w' ⟨rfl, ⟨nd, rfl⟩⟩; have hcz66_0 : w65.cell? ⟨gb202, 0, none⟩ = some (.int .u8 ((rd_T45 l0 x72_3).f0)) := (blk_cell BK202.out 0).trans rfl; have hcz66_1 : w65.cell? ⟨gb202, 1, none⟩ = some (.int .i64 ((rd_T45 l0 x72_3).f1)) := (blk_cell BK202.out 1).trans rfl; have hcz66_2 : w65.cell? ⟨gb202, 2, none⟩ = some (.int .i64 ((rd_T45 l0 x72_3).f2)) := (blk_cell BK202.out 2).trans rfl; have hcz66_3 : w65.cell? ⟨gb202, 3, none⟩ = some (.bool ((rd_T45 l0 x72_3).f3)) := (blk_cell BK202.out 3).trans rfl; have hfz66_0 := blk_frozen BK202.out 0; have hfz66_1 := blk_frozen BK202.out 1; have hfz66_2 := blk_frozen BK202.out 2; have hfz66_3 := blk_frozen BK202.out 3) | ((with_reducible refine gate_dst (N := 109) rfl ?_); (try (refine gate_guard (by rfl) ?_; dsimp only)); refine Kd.R_lit (Kd.int .i64) _ 2 ?hg (N := 109) ?hd (xs := ([wrap64 (((rd_T45 l0 x72_3).f0)), wrap64 (((rd_T45 l0 x72_3).f1) + 1), wrap64 (((rd_T45 l0 x72_3).f2) + 1)] : List Int)) (inner := [.int .i64 (wrap64 (((rd_T45 l0 x72_3).f0))), .int .i64 (wrap64 (((rd_T45 l0 x72_3).f1) + 1)), .int .i64 (wrap64 (((rd_T45 l0 x72_3).f2) + 1))]) (ok := fun _ => True) (okp := fun _ => True) ?hr ?hp (fun _ hk => hk) trivial (Below.refl _ _) (Nat.le_refl _) (by simp) ?_; (case hd => rfl); (case hg => rfl); (case hr => first | (go_simp; done) | (go_simp; rfl)); (case hp => exact (Reps.one (show Kd.M (Kd.int .i64) _ _ _ (wrap64 (((rd_T45 l0 x72_3).f0))) [.int .i64 (wrap64 (((rd_T45 l0 x72_3).f0)))] from rfl) (Reps.one (show Kd.M (Kd.int .i64) _ _ _ (wrap64 (((rd_T45 l0 x72_3).f1) + 1)) [.int .i64 (wrap64 (((rd_T45 l0 x72_3).f1) + 1))] from rfl) (Reps.one (show Kd.M (Kd.int .i64) _ _ _ (wrap64 (((rd_T45 l0 x72_3).f2) + 1)) [.int .i64 (wrap64 (((rd_T45 l0 x72_3).f2) + 1))] from rfl) (Reps.none _ _))))); intro v218 w67 ho68 hb hg_ hnew_; clear hg_ hnew_; (first | rw [← Ny217.out] at ho68 | (simp only [Int.reduceToNat] at ho68; rw [← Ny217.out] at ho68)); have n0_ := Aside0.mk (Kd.N_elder' (by (with_reducible repeat (first | apply Kd.N_alloc | apply Kd.N_drewN | apply Kd.N_drew)); exact HO_6.out) (Kd.R_base ho68) hb); have n1_ := Aside0.mk (Kd.V_elder' (by (with_reducible repeat (first | apply Kd.V_alloc | apply Kd.V_drewN | apply Kd.V_drew)); exact HO207.out) (Kd.R_base ho68) hb); have n2_ := Aside0.mk (Kd.N_elder' (by (with_reducible repeat (first | apply Kd.N_alloc | apply Kd.N_drewN | apply Kd.N_drew)); exact HO210.out) (Kd.R_base ho68) hb); have n3_ := Aside0.mk (Kd.R_elder' (by (with_reducible repeat (first | apply Kd.R_alloc | apply Kd.R_drewN | apply Kd.R_drew)); exact HO215.out) (Kd.R_base ho68) hb); have n4_ := Aside0.mk (Kd.R_lower (Kd.R_new' ho68 (Kd.R_lt (by (with_reducible repeat (first | apply Kd.R_alloc | apply Kd.R_drewN | apply Kd.R_drew)); exact HO215.out))) (below_size (by repeat (first | (with_reducible first | exact HB.out | apply below_alloc | apply pw_below_drewN | apply below_drew1 | refine below_set ?_ GE202.out) | exact HB.out)))); have n5_ := Aside0.mk (blk_below (g := gb202) (o := .cells #[.int .u8 ((rd_T45 l0 x72_3).f0), .int .i64 ((rd_T45 l0 x72_3).f1), .int .i64 ((rd_T45 l0 x72_3).f2), .bool ((rd_T45 l0 x72_3).f3)] 45 (0, 0)) (by (with_reducible repeat (first | refine blk_drewN ?_ _ | refine blk_drew ?_ | refine blk_alloc ?_ _)); exact BK202.out) hb); have n6_ := Aside0.mk (below_step (by repeat (first | (with_reducible first | exact HB.out | apply below_alloc | apply pw_below_drewN | apply below_drew1 | refine below_set ?_ GE202.out) | exact HB.out)) hb); clear HO_6; clear HO207; clear HO210; clear HO215; clear BK202; clear HB; have HO_6 := n0_; have HO207 := n1_; have HO210 := n2_; have HO215 := n3_; have HO219 := n4_; have BK202 := n5_; have HB := n6_; clear n0_ n1_ n2_ n3_ n4_ n5_ n6_; clear hb ho68; obtain ⟨Ao69, co69, eo69⟩ := Kd.R_slice HO215.out; subst eo69; obtain ⟨Ao70, co70, eo70⟩ := Kd.R_slice HO219.out; subst eo70) | (go_at_call 16; (with_reducible refine (spec_SameInts.calls kj37 _ _ t212 _ _ y217 false _ ?side1 ?side2 ?side3 ?side4 A51.out).mono ?_); (case side1 => repeat (first | exact (Kd.R_reads' HO215.out).2.2 | (with_reducible refine Kd.C_alloc ?_ _) | (with_reducible refine Kd.C_drewN ?_ _) | (with_reducible refine Kd.C_drew ?_))); (case side2 => exact (Kd.R_reads' HO215.out).2.1); (case side3 => repeat (first | exact (Kd.R_reads' HO219.out).2.2 | (with_reducible refine Kd.C_alloc ?_ _) | (with_reducible refine Kd.C_drewN ?_ _) | (with_reducible refine Kd.C_drew ?_))); (case side4 => exact (Kd.R_reads' HO219.out).2.1); rintro e w' ⟨rfl, ⟨nd, rfl⟩⟩))
                                            go_ret
                                            exact ⟨by first | rfl | (simp [errW_none, errW_some] <;> rfl) | (simp [*, errW_none, errW_some] <;> rfl), by repeat (first | (with_reducible first | exact HB.out | apply below_alloc | apply pw_below_drewN | apply below_drew1 | refine below_set ?_ GE202.out) | exact HB.out)⟩
                                        · rw [if_neg c50] at H
                                          have c50b0 : (t211 == t216) = false := beq_eq_false_iff_ne.mpr c50
                                          have c50b1 : (t211 != t216) = true := bne_iff_ne.mpr c50
                                          obtain rfl := Option.some.inj H
                                          have q71 : ((wrap64 (x72_3 + 1)) : Int) ≤ ((t196.length : Int) : Int) := of_decide_eq_true (by first | (with_reducible assumption) | assumption)
                                          obtain ⟨i071, hi071, _, hsz71, _⟩ := info_parts info36
                                          have hroom71 : t196.length ≤ co34 := (Kd.N_reads' HO_6.out).2.1
                                          have hC71 : Kd.F k36 _ _ Ao34 t196.length t196 := (Kd.V_at (base := w.heap.size) (Kd.N_V HO_6.out)).2.2
                                          have ql71 : (x72_3 : Int) ≤ ((wrap64 (x72_3 + 1)) : Int) := of_decide_eq_true (by first | (with_reducible assumption) | assumption)
                                          have q071 : (0 : Int) ≤ (x72_3 : Int) := of_decide_eq_true (by first | (with_reducible assumption) | assumption)
                                          have hcut71 := cut_mid (P := Tryd.prog) 30 36 .i64 .i64 Tryd.underlying30 hi071 6 hsz71 Ao34 t196.length co34 x72_3 (wrap64 (x72_3 + 1)) q071 ql71 q71 hroom71
                                          have hr71 := Kd.F_mid (lo := (x72_3 : Int).toNat) (hi := ((wrap64 (x72_3 + 1)) : Int).toNat) (c := co34) hC71 (by omega) (by omega) hroom71
                                          obtain ⟨A71, hA71⟩ : ∃ A1, A1 = (if co34 = (x72_3 : Int).toNat then Ao34 else (Ao34 : Option Addr).map (·.add ((x72_3 : Int).toNat * 6))) := ⟨_, rfl⟩
                                          obtain ⟨c71, hc71⟩ : ∃ c1, c1 = co34 - (x72_3 : Int).toNat := ⟨_, rfl⟩
                                          have hy71 : y203.length = ((wrap64 (x72_3 + 1)) : Int).toNat - (x72_3 : Int).toNat := (by rw [Ny203.out, List.length_drop, List.length_take] <;> omega)
                                          rw [show ((t196).take ((wrap64 (x72_3 + 1)) : Int).toNat).drop (x72_3 : Int).toNat = y203 from Ny203.out.symm] at hr71
                                          replace hr71 : Kd.F k36 _ _ A71 y203.length y203 := (by rw [hA71]; exact hr71)
                                          rw [← hy71, ← hA71, ← hc71] at hcut71
                                          have HO207 := Aside0.mk (show Kd.V k36 36 _ w.heap.size _ (.slice A71 y203.length c71) y203 from Kd.V_mk (by rw [hy71, hc71]; exact Nat.sub_le_sub_right (Nat.le_trans (by omega) hroom71) _) hr71)
                                          have HC207 := Aside0.mk (show y203.length ≤ c71 from by rw [hy71, hc71]; exact Nat.sub_le_sub_right (Nat.le_trans (by omega) hroom71) _)
                                          clear hr71 hC71 hroom71 hi071 hsz71 hc71
                                          have KY71 := Aside0.mk hy71
                                          have KA71 := Aside0.mk hA71
                                          clear hy71 hA71
                                          replace q71 := eq_true q71
                                          go_wp2_with (first | ((with_reducible refine gate_callee (f := 12) rfl ?_); refine goesL_ (some 85) rfl rfl Tryd.func12 (by kernel_rfl) rfl #[.slice A71 y203.length c71] rfl (by (try simp only [List.map_toArray, List.map_cons, List.map_nil]); first | done | rfl | (simp only [List.length_drop, List.length_take]; rfl)) ?_; (with_reducible refine (laws_drawEvents.calls kj37 (fun k_ => k_ ≠ gb202) _ _ y203 t208 _ ?side1 A46.out).mono ?_); (case side1 => exact HO207.out); rintro e w72 ⟨v209, rfl, ho0, hb⟩; refine ⟨_, rfl, ?_⟩; have n0_ := Aside0.mk (Kd.N_elder' (by (with_reducible repeat (first | apply Kd.N_alloc | apply Kd.N_drewN | apply Kd.N_drew)); exact HO_6.out) (by first | exact Kd.N_base ho0 | exact Kd.S_base ho0) hb); have n1_ := Aside0.mk (Kd.V_elder' (by (with_reducible repeat (first | apply Kd.V_alloc | apply Kd.V_drewN | apply Kd.V_drew)); exact HO207.out) (by first | exact Kd.N_base ho0 | exact Kd.S_base ho0) hb); have n2_ := Aside0.mk (Kd.N_lower (Kd.N_mono (ok' := fun k_ => k_ ≠ gb202) ho0 (fun k_ hk_ => Or.elim hk_ (fun hs_ => hs_) (fun hn_ => (Kd.freshB (g := gb202) (o := .cells #[.int .u8 ((rd_T45 l0 x72_3).f0), .int .i64 ((rd_T45 l0 x72_3).f1), .int .i64 ((rd_T45 l0 x72_3).f2), .bool ((rd_T45 l0 x72_3).f3)] 45 (0, 0)) (by (with_reducible repeat (first | refine blk_drewN ?_ _ | refine blk_drew ?_ | refine blk_alloc ?_ _)); exact BK202.out) k_ hn_)))) (below_size (by repeat (first | (with_reducible first | exact HB.out | apply below_alloc | apply pw_below_drewN | apply below_drew1 | refine below_set ?_ GE202.out) | exact HB.out)))); have n3_ := Aside0.mk (blk_below (g := gb202) (o := .cells #[.int .u8 ((rd_T45 l0 x72_3).f0), .int .i64 ((rd_T45 l0 x72_3).f1), .int .i64 ((rd_T45 l0 x72_3).f2), .bool ((rd_T45 l0 x72_3).f3)] 45 (0, 0)) (by (with_reducible repeat (first | refine blk_drewN ?_ _ | refine blk_drew ?_ | refine blk_alloc ?_ _)); exact BK202.out) hb); have n4_ := Aside0.mk (below_step (by repeat (first | (with_reducible first | exact HB.out | apply below_alloc | apply pw_below_drewN | apply below_drew1 | refine below_set ?_ GE202.out) | exact HB.out)) hb); clear HO_6; clear HO207; clear BK202; clear HB; have HO_6 := n0_; have HO207 := n1_; have HO210 := n2_; have BK202 := n3_; have HB := n4_; clear n0_ n1_ n2_ n3_ n4_; (try clear hb); (try clear hb2); (try clear hk); (try clear hi); (try clear ho0); obtain ⟨Ao73, co73, eo73⟩ := Kd.N_slice HO210.out; subst eo73) | ((with_reducible refine gate_callee (f := 14) rfl ?_); refine goesL_ (some 86) rfl rfl Tryd.func14 (by kernel_rfl) rfl #[.slice Ao73 t208.length co73] rfl (by (try simp only [List.map_toArray, List.map_cons, List.map_nil]); first | done | rfl | (simp only [List.length_drop, List.length_take]; rfl)) ?_; (with_reducible refine (spec_DrawNumbers.calls kj37 _ _ t208 t211 t212 true _ ?side1 ?side2 A47.out).mono ?_); (case side1 => repeat (first | exact (Kd.N_reads' HO210.out).2.2 | (with_reducible refine Kd.C_alloc ?_ _) | (with_reducible refine Kd.C_drewN ?_ _) | (with_reducible refine Kd.C_drew ?_))); (case side2 => exact (Kd.N_reads' HO210.out).2.1); rintro e w74 ⟨v214, rfl, ho0, hb⟩; refine ⟨_, rfl, ?_⟩; have n0_ := Aside0.mk (Kd.N_elder' (by (with_reducible repeat (first | apply Kd.N_alloc | apply Kd.N_drewN | apply Kd.N_drew)); exact HO_6.out) (Kd.R_base ho0) hb); have n1_ := Aside0.mk (Kd.V_elder' (by (with_reducible repeat (first | apply Kd.V_alloc | apply Kd.V_drewN | apply Kd.V_drew)); exact HO207.out) (Kd.R_base ho0) hb); have n2_ := Aside0.mk (Kd.N_elder' (by (with_reducible repeat (first | apply Kd.N_alloc | apply Kd.N_drewN | apply Kd.N_drew)); exact HO210.out) (Kd.R_base ho0) hb); have n3_ := Aside0.mk (Kd.R_lower ho0 (below_size (by repeat (first | (with_reducible first | exact HB.out | apply below_alloc | apply pw_below_drewN | apply below_drew1 | refine below_set ?_ GE202.out) | exact HB.out)))); have n4_ := Aside0.mk (blk_below (g := gb202) (o := .cells #[.int .u8 ((rd_T45 l0 x72_3).f0), .int .i64 ((rd_T45 l0 x72_3).f1), .int .i64 ((rd_T45 l0 x72_3).f2), .bool ((rd_T45 l0 x72_3).f3)] 45 (0, 0)) (by (with_reducible repeat (first | refine blk_drewN ?_ _ | refine blk_drew ?_ | refine blk_alloc ?_ _)); exact BK202.out) hb); have n5_ := Aside0.mk (below_step (by repeat (first | (with_reducible first | exact HB.out | apply below_alloc | apply pw_below_drewN | apply below_drew1 | refine below_set ?_ GE202.out) | exact HB.out)) hb); clear HO_6; clear HO207; clear HO210; clear BK202; clear HB; have HO_6 := n0_; have HO207 := n1_; have HO210 := n2_; have HO215 := n3_; have BK202 := n4_; have HB := n5_; clear n0_ n1_ n2_ n3_ n4_ n5_; (try clear hb); (try clear hb2); (try clear hk); (try clear hi); (try clear ho0)) | (go_at_call 15; (with_reducible refine (impl_Pack.calls 60 0 x9_37 t216 _ A49.out).mono ?_); rintro e w' ⟨rfl, ⟨nd, rfl⟩⟩))
                                          go_ret
                                          exact ⟨by first | rfl | (simp [errW_none, errW_some] <;> rfl) | (simp [*, errW_none, errW_some] <;> rfl), by repeat (first | (with_reducible first | exact HB.out | apply below_alloc | apply pw_below_drewN | apply below_drew1 | refine below_set ?_ GE202.out) | exact HB.out)⟩
                                      · replace c48 := Bool.eq_false_iff.mpr c48
                                        subst c48
                                        have H1 : (some false) = some r := by rw [if_neg (show ¬ (false = true) by decide)] at H; exact H
                                        clear H
                                        have H := H1
                                        clear H1
                                        obtain rfl := Option.some.inj H
                                        have q75 : ((wrap64 (x72_3 + 1)) : Int) ≤ ((t196.length : Int) : Int) := of_decide_eq_true (by first | (with_reducible assumption) | assumption)
                                        obtain ⟨i075, hi075, _, hsz75, _⟩ := info_parts info36
                                        have hroom75 : t196.length ≤ co34 := (Kd.N_reads' HO_6.out).2.1
                                        have hC75 : Kd.F k36 _ _ Ao34 t196.length t196 := (Kd.V_at (base := w.heap.size) (Kd.N_V HO_6.out)).2.2
                                        have ql75 : (x72_3 : Int) ≤ ((wrap64 (x72_3 + 1)) : Int) := of_decide_eq_true (by first | (with_reducible assumption) | assumption)
                                        have q075 : (0 : Int) ≤ (x72_3 : Int) := of_decide_eq_true (by first | (with_reducible assumption) | assumption)
                                        have hcut75 := cut_mid (P := Tryd.prog) 30 36 .i64 .i64 Tryd.underlying30 hi075 6 hsz75 Ao34 t196.length co34 x72_3 (wrap64 (x72_3 + 1)) q075 ql75 q75 hroom75
                                        have hr75 := Kd.F_mid (lo := (x72_3 : Int).toNat) (hi := ((wrap64 (x72_3 + 1)) : Int).toNat) (c := co34) hC75 (by omega) (by omega) hroom75
                                        obtain ⟨A75, hA75⟩ : ∃ A1, A1 = (if co34 = (x72_3 : Int).toNat then Ao34 else (Ao34 : Option Addr).map (·.add ((x72_3 : Int).toNat * 6))) := ⟨_, rfl⟩
                                        obtain ⟨c75, hc75⟩ : ∃ c1, c1 = co34 - (x72_3 : Int).toNat := ⟨_, rfl⟩
                                        have hy75 : y203.length = ((wrap64 (x72_3 + 1)) : Int).toNat - (x72_3 : Int).toNat := (by rw [Ny203.out, List.length_drop, List.length_take] <;> omega)
                                        rw [show ((t196).take ((wrap64 (x72_3 + 1)) : Int).toNat).drop (x72_3 : Int).toNat = y203 from Ny203.out.symm] at hr75
                                        replace hr75 : Kd.F k36 _ _ A75 y203.length y203 := (by rw [hA75]; exact hr75)
                                        rw [← hy75, ← hA75, ← hc75] at hcut75
                                        have HO207 := Aside0.mk (show Kd.V k36 36 _ w.heap.size _ (.slice A75 y203.length c75) y203 from Kd.V_mk (by rw [hy75, hc75]; exact Nat.sub_le_sub_right (Nat.le_trans (by omega) hroom75) _) hr75)
                                        have HC207 := Aside0.mk (show y203.length ≤ c75 from by rw [hy75, hc75]; exact Nat.sub_le_sub_right (Nat.le_trans (by omega) hroom75) _)
                                        clear hr75 hC75 hroom75 hi075 hsz75 hc75
                                        have KY75 := Aside0.mk hy75
                                        have KA75 := Aside0.mk hA75
                                        clear hy75 hA75
                                        replace q75 := eq_true q75
                                        go_wp2_with (first | ((with_reducible refine gate_callee (f := 12) rfl ?_); refine goesL_ (some 85) rfl rfl Tryd.func12 (by kernel_rfl) rfl #[.slice A75 y203.length c75] rfl (by (try simp only [List.map_toArray, List.map_cons, List.map_nil]); first | done | rfl | (simp only [List.length_drop, List.length_take]; rfl)) ?_; (with_reducible refine (laws_drawEvents.calls kj37 (fun k_ => k_ ≠ gb202) _ _ y203 t208 _ ?side1 A46.out).mono ?_); (case side1 => exact HO207.out); rintro e w76 ⟨v209, rfl, ho0, hb⟩; refine ⟨_, rfl, ?_⟩; have n0_ := Aside0.mk (Kd.N_elder' (by (with_reducible repeat (first | apply Kd.N_alloc | apply Kd.N_drewN | apply Kd.N_drew)); exact HO_6.out) (by first | exact Kd.N_base ho0 | exact Kd.S_base ho0) hb); have n1_ := Aside0.mk (Kd.V_elder' (by (with_reducible repeat (first | apply Kd.V_alloc | apply Kd.V_drewN | apply Kd.V_drew)); exact HO207.out) (by first | exact Kd.N_base ho0 | exact Kd.S_base ho0) hb); have n2_ := Aside0.mk (Kd.N_lower (Kd.N_mono (ok' := fun k_ => k_ ≠ gb202) ho0 (fun k_ hk_ => Or.elim hk_ (fun hs_ => hs_) (fun hn_ => (Kd.freshB (g := gb202) (o := .cells #[.int .u8 ((rd_T45 l0 x72_3).f0), .int .i64 ((rd_T45 l0 x72_3).f1), .int .i64 ((rd_T45 l0 x72_3).f2), .bool ((rd_T45 l0 x72_3).f3)] 45 (0, 0)) (by (with_reducible repeat (first | refine blk_drewN ?_ _ | refine blk_drew ?_ | refine blk_alloc ?_ _)); exact BK202.out) k_ hn_)))) (below_size (by repeat (first | (with_reducible first | exact HB.out | apply below_alloc | apply pw_below_drewN | apply below_drew1 | refine below_set ?_ GE202.out) | exact HB.out)))); have n3_ := Aside0.mk (blk_below (g := gb202) (o := .cells #[.int .u8 ((rd_T45 l0 x72_3).f0), .int .i64 ((rd_T45 l0 x72_3).f1), .int .i64 ((rd_T45 l0 x72_3).f2), .bool ((rd_T45 l0 x72_3).f3)] 45 (0, 0)) (by (with_reducible repeat (first | refine blk_drewN ?_ _ | refine blk_drew ?_ | refine blk_alloc ?_ _)); exact BK202.out) hb); have n4_ := Aside0.mk (below_step (by repeat (first | (with_reducible first | exact HB.out | apply below_alloc | apply pw_below_drewN | apply below_drew1 | refine below_set ?_ GE202.out) | exact HB.out)) hb); clear HO_6; clear HO207; clear BK202; clear HB; have HO_6 := n0_; have HO207 := n1_; have HO210 := n2_; have BK202 := n3_; have HB := n4_; clear n0_ n1_ n2_ n3_ n4_; (try clear hb); (try clear hb2); (try clear hk); (try clear hi); (try clear ho0); obtain ⟨Ao77, co77, eo77⟩ := Kd.N_slice HO210.out; subst eo77) | ((with_reducible refine gate_callee (f := 14) rfl ?_); refine goesL_ (some 86) rfl rfl Tryd.func14 (by kernel_rfl) rfl #[.slice Ao77 t208.length co77] rfl (by (try simp only [List.map_toArray, List.map_cons, List.map_nil]); first | done | rfl | (simp only [List.length_drop, List.length_take]; rfl)) ?_; (with_reducible refine (spec_DrawNumbers.calls kj37 _ _ t208 t211 t212 false _ ?side1 ?side2 A47.out).mono ?_); (case side1 => repeat (first | exact (Kd.N_reads' HO210.out).2.2 | (with_reducible refine Kd.C_alloc ?_ _) | (with_reducible refine Kd.C_drewN ?_ _) | (with_reducible refine Kd.C_drew ?_))); (case side2 => exact (Kd.N_reads' HO210.out).2.1); rintro e w78 ⟨v214, rfl, ho0, hb⟩; refine ⟨_, rfl, ?_⟩; have n0_ := Aside0.mk (Kd.N_elder' (by (with_reducible repeat (first | apply Kd.N_alloc | apply Kd.N_drewN | apply Kd.N_drew)); exact HO_6.out) (Kd.R_base ho0) hb); have n1_ := Aside0.mk (Kd.V_elder' (by (with_reducible repeat (first | apply Kd.V_alloc | apply Kd.V_drewN | apply Kd.V_drew)); exact HO207.out) (Kd.R_base ho0) hb); have n2_ := Aside0.mk (Kd.N_elder' (by (with_reducible repeat (first | apply Kd.N_alloc | apply Kd.N_drewN | apply Kd.N_drew)); exact HO210.out) (Kd.R_base ho0) hb); have n3_ := Aside0.mk (Kd.R_lower ho0 (below_size (by repeat (first | (with_reducible first | exact HB.out | apply below_alloc | apply pw_below_drewN | apply below_drew1 | refine below_set ?_ GE202.out) | exact HB.out)))); have n4_ := Aside0.mk (blk_below (g := gb202) (o := .cells #[.int .u8 ((rd_T45 l0 x72_3).f0), .int .i64 ((rd_T45 l0 x72_3).f1), .int .i64 ((rd_T45 l0 x72_3).f2), .bool ((rd_T45 l0 x72_3).f3)] 45 (0, 0)) (by (with_reducible repeat (first | refine blk_drewN ?_ _ | refine blk_drew ?_ | refine blk_alloc ?_ _)); exact BK202.out) hb); have n5_ := Aside0.mk (below_step (by repeat (first | (with_reducible first | exact HB.out | apply below_alloc | apply pw_below_drewN | apply below_drew1 | refine below_set ?_ GE202.out) | exact HB.out)) hb); clear HO_6; clear HO207; clear HO210; clear BK202; clear HB; have HO_6 := n0_; have HO207 := n1_; have HO210 := n2_; have HO215 := n3_; have BK202 := n4_; have HB := n5_; clear n0_ n1_ n2_ n3_ n4_ n5_; (try clear hb); (try clear hb2); (try clear hk); (try clear hi); (try clear ho0)))
                                        go_ret
                                        exact ⟨by first | rfl | (simp [errW_none, errW_some] <;> rfl) | (simp [*, errW_none, errW_some] <;> rfl), by repeat (first | (with_reducible first | exact HB.out | apply below_alloc | apply pw_below_drewN | apply below_drew1 | refine below_set ?_ GE202.out) | exact HB.out)⟩
                                    · rw [if_neg c45] at H
                                      exact absurd H (by simp)
                                  · rw [if_neg c44] at H
                                    exact absurd H (by simp)
                                · rw [if_neg c43] at H
                                  exact absurd H (by simp)
                          · rw [if_neg c37] at H
                            exact absurd H (by simp)
                        · rw [if_neg c36] at H
                          exact absurd H (by simp)
                      · rw [if_neg c35] at H
                        have c35b0 : decide (x72_3 < (l0.length : Int)) = false := decide_eq_false c35
                        clear c35
                        replace H := Option.bind_eq_some_iff.mp H
                        obtain ⟨t200, A790, H⟩ := H
                        replace H : (some t200) = some r := H
                        have A79 := Aside0.mk A790
                        clear A790
                        obtain rfl := Option.some.inj H
                        go_wp2_with (first | ((with_reducible refine gate_callee (f := 8) rfl ?_); refine goesL_ (some 114) rfl rfl Tryd.func8 (by kernel_rfl) rfl #[] rfl (by (try simp only [List.map_toArray, List.map_cons, List.map_nil]); first | done | rfl | (simp only [List.length_drop, List.length_take]; rfl)) ?_; (with_reducible refine (laws_drawAwake.calls  t200 _ ?side1 A79.out).mono ?_); (case side1 => exact XTab.below HT.out (by repeat (first | (with_reducible first | exact HB.out | apply below_alloc | apply pw_below_drewN | apply below_drew1) | exact HB.out))); rintro e w80 ⟨rfl, hb⟩; refine ⟨_, rfl, ?_⟩; have n0_ := Aside0.mk (Kd.N_below (by (with_reducible repeat (first | apply Kd.N_alloc | apply Kd.N_drewN | apply Kd.N_drew)); exact HO_6.out) hb); have n1_ := Aside0.mk (below_step (by repeat (first | (with_reducible first | exact HB.out | apply below_alloc | apply pw_below_drewN | apply below_drew1) | exact HB.out)) hb); clear HO_6; clear HB; have HO_6 := n0_; have HB := n1_; clear n0_ n1_; (try clear hb); (try clear hb2); (try clear hk); (try clear hi)))
                        go_ret
                        exact ⟨by first | rfl | (simp [errW_none, errW_some] <;> rfl) | (simp [*, errW_none, errW_some] <;> rfl), by repeat (first | (with_reducible first | exact HB.out | apply below_alloc | apply pw_below_drewN | apply below_drew1) | exact HB.out)⟩
                · rw [if_neg c33] at H
                  have c33b0 : ((t196.length : Int) == (l0.length : Int)) = false := beq_eq_false_iff_ne.mpr c33
                  have c33b1 : ((t196.length : Int) != (l0.length : Int)) = true := bne_iff_ne.mpr c33
                  have c33b2 : (t196.length == l0.length) = false := by first | simpa using c33 | (simp at c33 ⊢; omega)
                  obtain rfl := Option.some.inj H
                  obtain ⟨Ao81, co81, eo81⟩ := Kd.N_slice HO_6.out
                  subst eo81
                  go_wp2
                  go_ret
                  exact ⟨by first | rfl | (simp [errW_none, errW_some] <;> rfl) | (simp [*, errW_none, errW_some] <;> rfl), by repeat (first | (with_reducible first | exact HB.out | apply below_alloc | apply pw_below_drewN | apply below_drew1) | exact HB.out)⟩

end Go.Proofs.YtgcbnegdchladaaDoor.Y
