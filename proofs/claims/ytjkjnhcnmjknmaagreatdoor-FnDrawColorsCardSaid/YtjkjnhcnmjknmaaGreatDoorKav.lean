/- Texts of this claim, joined: Y42 Y43 Y44 Y45 Y46 Y47 Y48 Y49 Y50 Y51 Y57 Y58. Of each, what the claim uses. -/
import Derived.Test.YtjkjnhcnmjknmaaGreatDoorKac
import Derived.Test.YtjkjnhcnmjknmaaGreatDoorKat
section
namespace Go.Proofs.YtjkjnhcnmjknmaaGreatDoor.Y
open Go.RowKit Go.Proofs.YtjkjnhcnmjknmaaGreatDoorW.PrintWords Go.Proofs.YtjkjnhcnmjknmaaGreatDoorW.PrintLast Go.Proofs.YtjkjnhcnmjknmaaGreatDoorW.PrintMore
attribute [local go_sem] max2_int min2_int max_two min_two max_three min_three max_four min_four   -- for this text's walks alone
set_option linter.unusedVariables false
set_option linter.unusedSimpArgs false
set_option maxHeartbeats 8000000 in
set_option maxRecDepth 100000 in
theorem laws_zzFits8.calls (a0_0 : Int) (a0_1 : ByteArray) (r : Bool) (w : World) (h : laws_zzFits8.f a0_0 a0_1 = some r) :
    Calls Tryz.prog 46 #[.agg #[.int .u8 a0_0, .string a0_1]] w fun e w' => e = .returned (.bool r) ∧ Below w.heap.size w w' := by
  have hu62 := Tryz.underlying62
  have HB := Aside0.mk (Below.refl w.heap.size w)
  have H : (if (a0_1.size : Int) > 2147483647 then (some false) else (some true)) = some r := h
  clear h
  by_cases c2 : (a0_1.size : Int) > 2147483647
  · rw [if_pos c2] at H
    have c2b0 : decide (2147483647 < (a0_1.size : Int)) = true := decide_eq_true c2
    have c2b1 : decide (2147483647 < a0_1.size) = true := decide_eq_true (by omega)
    clear c2
    obtain rfl := Option.some.inj H
    go_enter Tryz.func46, Tryz.ntmps46
    go_wp2_with (first | ((with_reducible refine gate_dst (N := 1) rfl ?_); refine box_event ?hg (N := 1) ?hd (cs := #[.int .u8 a0_0, .string a0_1]) (t := 62) ?hr ?_; (case hd => rfl); (case hg => rfl); (case hr => first | (go_simp; done) | (go_simp; rfl)); intro gb127 hg w3 hbox hb; have n0_ := Aside0.mk (below_step (by repeat (first | (with_reducible first | exact HB.out | apply below_alloc | apply pw_below_drewN | apply below_drew1) | exact HB.out)) hb); have n1_ := Aside0.mk (hbox); have n2_ := Aside0.mk ((by rw [hg]; exact (below_size (by repeat (first | (with_reducible first | exact HB.out | apply below_alloc | apply pw_below_drewN | apply below_drew1) | exact HB.out))) : w.heap.size ≤ gb127)); have n3_ := Aside0.mk ((by rw [hg]; exact (below_size (by repeat (first | (with_reducible first | exact HB.out | apply below_alloc | apply pw_below_drewN | apply below_drew1) | exact HB.out))) : w.heap.size ≤ gb127)); clear HB; have HB := n0_; have BK127 := n1_; have GW127 := n2_; have GE127 := n3_; clear n0_ n1_ n2_ n3_; clear hb hbox hg; have hcz4_0 : w3.cell? ⟨gb127, 0, none⟩ = some (.int .u8 a0_0) := (blk_cell BK127.out 0).trans rfl; have hcz4_1 : w3.cell? ⟨gb127, 1, none⟩ = some (.string a0_1) := (blk_cell BK127.out 1).trans rfl; have hfz4_0 := blk_frozen BK127.out 0; have hfz4_1 := blk_frozen BK127.out 1))
    go_ret
    exact ⟨by first | rfl | (simp [errW_none, errW_some] <;> rfl) | (simp [*, errW_none, errW_some] <;> rfl), by repeat (first | (with_reducible first | exact HB.out | apply below_alloc | apply pw_below_drewN | apply below_drew1 | refine below_set ?_ GE127.out) | exact HB.out)⟩
  · rw [if_neg c2] at H
    have c2b0 : decide (2147483647 < (a0_1.size : Int)) = false := decide_eq_false c2
    have c2b1 : decide (2147483647 < a0_1.size) = false := decide_eq_false (by omega)
    clear c2
    obtain rfl := Option.some.inj H
    go_enter Tryz.func46, Tryz.ntmps46
    go_wp2_with (first | ((with_reducible refine gate_dst (N := 1) rfl ?_); refine box_event ?hg (N := 1) ?hd (cs := #[.int .u8 a0_0, .string a0_1]) (t := 62) ?hr ?_; (case hd => rfl); (case hg => rfl); (case hr => first | (go_simp; done) | (go_simp; rfl)); intro gb127 hg w5 hbox hb; have n0_ := Aside0.mk (below_step (by repeat (first | (with_reducible first | exact HB.out | apply below_alloc | apply pw_below_drewN | apply below_drew1) | exact HB.out)) hb); have n1_ := Aside0.mk (hbox); have n2_ := Aside0.mk ((by rw [hg]; exact (below_size (by repeat (first | (with_reducible first | exact HB.out | apply below_alloc | apply pw_below_drewN | apply below_drew1) | exact HB.out))) : w.heap.size ≤ gb127)); have n3_ := Aside0.mk ((by rw [hg]; exact (below_size (by repeat (first | (with_reducible first | exact HB.out | apply below_alloc | apply pw_below_drewN | apply below_drew1) | exact HB.out))) : w.heap.size ≤ gb127)); clear HB; have HB := n0_; have BK127 := n1_; have GW127 := n2_; have GE127 := n3_; clear n0_ n1_ n2_ n3_; clear hb hbox hg; have hcz6_0 : w5.cell? ⟨gb127, 0, none⟩ = some (.int .u8 a0_0) := (blk_cell BK127.out 0).trans rfl; have hcz6_1 : w5.cell? ⟨gb127, 1, none⟩ = some (.string a0_1) := (blk_cell BK127.out 1).trans rfl; have hfz6_0 := blk_frozen BK127.out 0; have hfz6_1 := blk_frozen BK127.out 1))
    go_ret
    exact ⟨by first | rfl | (simp [errW_none, errW_some] <;> rfl) | (simp [*, errW_none, errW_some] <;> rfl), by repeat (first | (with_reducible first | exact HB.out | apply below_alloc | apply pw_below_drewN | apply below_drew1 | refine below_set ?_ GE127.out) | exact HB.out)⟩
end Go.Proofs.YtjkjnhcnmjknmaaGreatDoor.Y
end
section
namespace Go.Proofs.YtjkjnhcnmjknmaaGreatDoor.Y
open Go.RowKit Go.Proofs.YtjkjnhcnmjknmaaGreatDoorW.PrintWords Go.Proofs.YtjkjnhcnmjknmaaGreatDoorW.PrintLast Go.Proofs.YtjkjnhcnmjknmaaGreatDoorW.PrintMore
attribute [local go_sem] max2_int min2_int max_two min_two max_three min_three max_four min_four   -- for this text's walks alone
set_option linter.unusedVariables false
set_option linter.unusedSimpArgs false
set_option maxHeartbeats 8000000 in
set_option maxRecDepth 100000 in
theorem laws_zzFits7.calls (k : Nat) (A0 : Option Addr) (c0 : Nat) (l0 : List (S62)) (r : Bool) (w : World) (hr0 : Kd.C k62 w A0 l0.length l0) (hc0 : l0.length ≤ c0) (h : laws_zzFits7.f k l0 = some r) :
    Calls Tryz.prog 26 #[.slice A0 l0.length c0] w fun e w' => e = .returned (.bool r) ∧ Below w.heap.size w w' := by
  have hu62 := Tryz.underlying62
  have HR0 := Aside0.mk hr0
  have HC0 := Aside0.mk hc0
  clear hr0 hc0
  have HB := Aside0.mk (Below.refl w.heap.size w)
  have H : (if (l0.length : Int) > 2147483647 then (some false) else (laws_zzFits7.l0 k l0 (l0.length : Int) 0)) = some r := h
  clear h
  by_cases c2 : (l0.length : Int) > 2147483647
  · rw [if_pos c2] at H
    have c2b0 : decide (2147483647 < (l0.length : Int)) = true := decide_eq_true c2
    have c2b1 : decide (2147483647 < l0.length) = true := decide_eq_true (by omega)
    clear c2
    obtain rfl := Option.some.inj H
    go_enter Tryz.func26, Tryz.ntmps26
    go_wp2
    go_ret
    exact ⟨by first | rfl | (simp [errW_none, errW_some] <;> rfl) | (simp [*, errW_none, errW_some] <;> rfl), by repeat (first | (with_reducible first | exact HB.out | apply below_alloc | apply pw_below_drewN | apply below_drew1) | exact HB.out)⟩
  · rw [if_neg c2] at H
    have c2b0 : decide (2147483647 < (l0.length : Int)) = false := decide_eq_false c2
    have c2b1 : decide (2147483647 < l0.length) = false := decide_eq_false (by omega)
    clear c2
    have H' := Aside0.mk H
    clear H
    go_enter Tryz.func26, Tryz.ntmps26
    go_wp2
    go_loopg [10] k (fun kq v10 w' => ∃ (x10_1 : Int), v10 = .int .i64 x10_1 ∧ Aside0 (laws_zzFits7.l0 kq l0 (l0.length : Int) x10_1 = some r) ∧ Aside0 (kq ≤ k) ∧ Aside0 (Below w.heap.size w w'))
    case atStart => exact ⟨(0), (by first | rfl | (simp; done) | (simp [*]; done)), H', ⟨Nat.le_refl _⟩, ⟨by repeat (first | (with_reducible first | exact HB.out | apply below_alloc | apply pw_below_drewN | apply below_drew1) | exact HB.out)⟩⟩
    case round =>
      clear H'
      try clear c2
      try clear c2b0
      try clear c2b1
      try clear p2
      obtain ⟨x10_1, rfl, HA, HK1, HB⟩ := hrel
      cases gk with
      | zero => exact absurd HA.out (by simp [laws_zzFits7.l0])
      | succ k1 =>
        have H := HA.out
        clear HA
        simp only [laws_zzFits7.l0] at H
        by_cases c3 : x10_1 < (l0.length : Int)
        · rw [if_pos c3] at H
          have c3b0 : decide (x10_1 < (l0.length : Int)) = true := decide_eq_true c3
          clear c3
          by_cases c4 : 0 ≤ x10_1
          · rw [if_pos c4] at H
            have c4b0 : decide (0 ≤ x10_1) = true := decide_eq_true c4
            clear c4
            by_cases c5 : x10_1 < (l0.length : Int)
            · rw [if_pos c5] at H
              have c5b0 : decide (x10_1 < (l0.length : Int)) = true := decide_eq_true c5
              clear c5
              replace H := Option.bind_eq_some_iff.mp H
              obtain ⟨t130, A60, H⟩ := H
              replace H : (if t130 = true then (laws_zzFits7.l0 k1 l0 (l0.length : Int) (wrap64 (x10_1 + 1))) else (some false)) = some r := H
              have A6 := Aside0.mk A60
              clear A60
              by_cases c7 : t130 = true
              · subst c7
                have H1 : (laws_zzFits7.l0 k1 l0 (l0.length : Int) (wrap64 (x10_1 + 1))) = some r := by rw [if_pos rfl] at H; exact H
                clear H
                have H := H1
                clear H1
                have H' := Aside0.mk H
                clear H
                have p128 : 0 ≤ (x10_1 : Int) := of_decide_eq_true (by first | (with_reducible assumption) | assumption)
                have q128 : x10_1 < (l0.length : Int) := of_decide_eq_true (by first | (with_reducible assumption) | assumption)
                obtain ⟨ad128, e128, hx128_0, hx128_1⟩ := at_T62 HR0.out x10_1 p128 q128
                cases e128
                replace hx128_0 := (HB.out.cell (World.block_lt_of_cell? w _ hx128_0)).trans hx128_0
                replace hx128_1 := (HB.out.cell (World.block_lt_of_cell? w _ hx128_1)).trans hx128_1
                replace p128 := eq_true p128
                replace q128 := eq_true q128
                go_wp2_with (first | ((with_reducible refine gate_dst (N := 4) rfl ?_); refine box_event ?hg (N := 4) ?hd (cs := #[.int .u8 0, .string (⟨#[]⟩ : ByteArray)]) (t := 62) ?hr ?_; (case hd => rfl); (case hg => rfl); (case hr => first | (go_simp; done) | (go_simp; rfl)); intro gb129 hg w8 hbox hb; have n0_ := Aside0.mk (below_step (by repeat (first | (with_reducible first | exact HB.out | apply below_alloc | apply pw_below_drewN | apply below_drew1) | exact HB.out)) hb); have n1_ := Aside0.mk (hbox); have n2_ := Aside0.mk ((by rw [hg]; exact (below_size (by repeat (first | (with_reducible first | exact HB.out | apply below_alloc | apply pw_below_drewN | apply below_drew1) | exact HB.out))) : w.heap.size ≤ gb129)); have n3_ := Aside0.mk ((by rw [hg]; exact (below_size (by repeat (first | (with_reducible first | exact HB.out | apply below_alloc | apply pw_below_drewN | apply below_drew1) | exact HB.out))) : w.heap.size ≤ gb129)); clear HB; have HB := n0_; have BK129 := n1_; have GW129 := n2_; have GE129 := n3_; clear n0_ n1_ n2_ n3_; clear hb hbox hg; have hcz9_0 : w8.cell? ⟨gb129, 0, none⟩ = some (.int .u8 0) := (blk_cell BK129.out 0).trans rfl; have hcz9_1 : w8.cell? ⟨gb129, 1, none⟩ = some (.string (⟨#[]⟩ : ByteArray)) := (blk_cell BK129.out 1).trans rfl; have hfz9_0 := blk_frozen BK129.out 0; have hfz9_1 := blk_frozen BK129.out 1) | ((with_reducible refine gate_callee (f := 46) rfl ?_); refine goesL_ (some 15) rfl rfl Tryz.func46 (by kernel_rfl) rfl #[.agg #[.int .u8 ((rd_T62 l0 x10_1).f0), .string ((rd_T62 l0 x10_1).f1)]] rfl (by (try simp only [List.map_toArray, List.map_cons, List.map_nil]); first | done | rfl | (simp only [List.length_drop, List.length_take]; rfl)) ?_; (with_reducible refine (laws_zzFits8.calls ((rd_T62 l0 x10_1).f0) ((rd_T62 l0 x10_1).f1) true _ A6.out).mono ?_); rintro e w10 ⟨rfl, hb⟩; refine ⟨_, rfl, ?_⟩; have n0_ := Aside0.mk (blk_below (g := gb129) (o := .cells #[.int .u8 ((rd_T62 l0 x10_1).f0), .string ((rd_T62 l0 x10_1).f1)] 62 (0, 0)) (by (with_reducible repeat (first | refine blk_drewN ?_ _ | refine blk_drew ?_ | refine blk_alloc ?_ _)); refine blk_put (cs := #[.int .u8 ((rd_T62 l0 x10_1).f0), .string (⟨#[]⟩ : ByteArray)]) ?_ 1 _ rfl; (with_reducible repeat (first | refine blk_drewN ?_ _ | refine blk_drew ?_ | refine blk_alloc ?_ _)); refine blk_put (cs := #[.int .u8 0, .string (⟨#[]⟩ : ByteArray)]) ?_ 0 _ rfl; (with_reducible repeat (first | refine blk_drewN ?_ _ | refine blk_drew ?_ | refine blk_alloc ?_ _)); exact BK129.out) hb); have n1_ := Aside0.mk (below_step (by repeat (first | (with_reducible first | exact HB.out | apply below_alloc | apply pw_below_drewN | apply below_drew1 | refine below_set ?_ GE129.out) | exact HB.out)) hb); clear BK129; clear HB; have BK129 := n0_; have HB := n1_; clear n0_ n1_; (try clear hb); (try clear hb2); (try clear hk); (try clear hi)))
                go_roundg k1
                case measure => have := HK1.out; omega
                case rel => exact ⟨(wrap64 (x10_1 + 1)), (by first | rfl | (simp; done) | (simp [*]; done)), H', ⟨by have := HK1.out; omega⟩, ⟨by repeat (first | (with_reducible first | exact HB.out | apply below_alloc | apply pw_below_drewN | apply below_drew1 | refine below_set ?_ GE129.out) | exact HB.out)⟩⟩
              · replace c7 := Bool.eq_false_iff.mpr c7
                subst c7
                have H1 : (some false) = some r := by rw [if_neg (show ¬ (false = true) by decide)] at H; exact H
                clear H
                have H := H1
                clear H1
                obtain rfl := Option.some.inj H
                have p128 : 0 ≤ (x10_1 : Int) := of_decide_eq_true (by first | (with_reducible assumption) | assumption)
                have q128 : x10_1 < (l0.length : Int) := of_decide_eq_true (by first | (with_reducible assumption) | assumption)
                obtain ⟨ad128, e128, hx128_0, hx128_1⟩ := at_T62 HR0.out x10_1 p128 q128
                cases e128
                replace hx128_0 := (HB.out.cell (World.block_lt_of_cell? w _ hx128_0)).trans hx128_0
                replace hx128_1 := (HB.out.cell (World.block_lt_of_cell? w _ hx128_1)).trans hx128_1
                replace p128 := eq_true p128
                replace q128 := eq_true q128
                go_wp2_with (first | ((with_reducible refine gate_dst (N := 4) rfl ?_); refine box_event ?hg (N := 4) ?hd (cs := #[.int .u8 0, .string (⟨#[]⟩ : ByteArray)]) (t := 62) ?hr ?_; (case hd => rfl); (case hg => rfl); (case hr => first | (go_simp; done) | (go_simp; rfl)); intro gb129 hg w11 hbox hb; have n0_ := Aside0.mk (below_step (by repeat (first | (with_reducible first | exact HB.out | apply below_alloc | apply pw_below_drewN | apply below_drew1) | exact HB.out)) hb); have n1_ := Aside0.mk (hbox); have n2_ := Aside0.mk ((by rw [hg]; exact (below_size (by repeat (first | (with_reducible first | exact HB.out | apply below_alloc | apply pw_below_drewN | apply below_drew1) | exact HB.out))) : w.heap.size ≤ gb129)); have n3_ := Aside0.mk ((by rw [hg]; exact (below_size (by repeat (first | (with_reducible first | exact HB.out | apply below_alloc | apply pw_below_drewN | apply below_drew1) | exact HB.out))) : w.heap.size ≤ gb129)); clear HB; have HB := n0_; have BK129 := n1_; have GW129 := n2_; have GE129 := n3_; clear n0_ n1_ n2_ n3_; clear hb hbox hg; have hcz12_0 : w11.cell? ⟨gb129, 0, none⟩ = some (.int .u8 0) := (blk_cell BK129.out 0).trans rfl; have hcz12_1 : w11.cell? ⟨gb129, 1, none⟩ = some (.string (⟨#[]⟩ : ByteArray)) := (blk_cell BK129.out 1).trans rfl; have hfz12_0 := blk_frozen BK129.out 0; have hfz12_1 := blk_frozen BK129.out 1) | ((with_reducible refine gate_callee (f := 46) rfl ?_); refine goesL_ (some 15) rfl rfl Tryz.func46 (by kernel_rfl) rfl #[.agg #[.int .u8 ((rd_T62 l0 x10_1).f0), .string ((rd_T62 l0 x10_1).f1)]] rfl (by (try simp only [List.map_toArray, List.map_cons, List.map_nil]); first | done | rfl | (simp only [List.length_drop, List.length_take]; rfl)) ?_; (with_reducible refine (laws_zzFits8.calls ((rd_T62 l0 x10_1).f0) ((rd_T62 l0 x10_1).f1) false _ A6.out).mono ?_); rintro e w13 ⟨rfl, hb⟩; refine ⟨_, rfl, ?_⟩; have n0_ := Aside0.mk (blk_below (g := gb129) (o := .cells #[.int .u8 ((rd_T62 l0 x10_1).f0), .string ((rd_T62 l0 x10_1).f1)] 62 (0, 0)) (by (with_reducible repeat (first | refine blk_drewN ?_ _ | refine blk_drew ?_ | refine blk_alloc ?_ _)); refine blk_put (cs := #[.int .u8 ((rd_T62 l0 x10_1).f0), .string (⟨#[]⟩ : ByteArray)]) ?_ 1 _ rfl; (with_reducible repeat (first | refine blk_drewN ?_ _ | refine blk_drew ?_ | refine blk_alloc ?_ _)); refine blk_put (cs := #[.int .u8 0, .string (⟨#[]⟩ : ByteArray)]) ?_ 0 _ rfl; (with_reducible repeat (first | refine blk_drewN ?_ _ | refine blk_drew ?_ | refine blk_alloc ?_ _)); exact BK129.out) hb); have n1_ := Aside0.mk (below_step (by repeat (first | (with_reducible first | exact HB.out | apply below_alloc | apply pw_below_drewN | apply below_drew1 | refine below_set ?_ GE129.out) | exact HB.out)) hb); clear BK129; clear HB; have BK129 := n0_; have HB := n1_; clear n0_ n1_; (try clear hb); (try clear hb2); (try clear hk); (try clear hi)))
                go_ret
                exact ⟨by first | rfl | (simp [errW_none, errW_some] <;> rfl) | (simp [*, errW_none, errW_some] <;> rfl), by repeat (first | (with_reducible first | exact HB.out | apply below_alloc | apply pw_below_drewN | apply below_drew1 | refine below_set ?_ GE129.out) | exact HB.out)⟩
            · rw [if_neg c5] at H
              exact absurd H (by simp)
          · rw [if_neg c4] at H
            exact absurd H (by simp)
        · rw [if_neg c3] at H
          have c3b0 : decide (x10_1 < (l0.length : Int)) = false := decide_eq_false c3
          clear c3
          obtain rfl := Option.some.inj H
          go_wp2
          go_ret
          exact ⟨by first | rfl | (simp [errW_none, errW_some] <;> rfl) | (simp [*, errW_none, errW_some] <;> rfl), by repeat (first | (with_reducible first | exact HB.out | apply below_alloc | apply pw_below_drewN | apply below_drew1) | exact HB.out)⟩
end Go.Proofs.YtjkjnhcnmjknmaaGreatDoor.Y
end
section
namespace Go.Proofs.YtjkjnhcnmjknmaaGreatDoor.Y
open Go.RowKit Go.Proofs.YtjkjnhcnmjknmaaGreatDoorW.PrintWords Go.Proofs.YtjkjnhcnmjknmaaGreatDoorW.PrintLast Go.Proofs.YtjkjnhcnmjknmaaGreatDoorW.PrintMore
attribute [local go_sem] max2_int min2_int max_two min_two max_three min_three max_four min_four   -- for this text's walks alone
set_option linter.unusedVariables false
set_option linter.unusedSimpArgs false
set_option maxHeartbeats 8000000 in
set_option maxRecDepth 100000 in
theorem xansi_SetWindowTitle.calls (a0 : ByteArray) (r : ByteArray) (w : World) (h : xansi_SetWindowTitle.f a0 = some r) :
    Calls Tryz.prog 47 #[.string a0] w fun e w' => e = .returned (.string r) ∧ Drawn0 w w' := by
  have H : (if 4 + a0.size ≤ 9223372036854775807 then (if 4 + a0.size + 1 ≤ 9223372036854775807 then (some (((⟨#[27, 93, 50, 59]⟩ : ByteArray) ++ a0) ++ (⟨#[7]⟩ : ByteArray))) else (none)) else (none)) = some r := h
  clear h
  by_cases c2 : 4 + a0.size ≤ 9223372036854775807
  · rw [if_pos c2] at H
    have c2b0 := eq_true c2
    have c2b1 : decide (4 + a0.size ≤ 9223372036854775807) = true := decide_eq_true c2
    try have c2b2 : (9223372036854775807 < 4 + a0.size) = False := eq_false (Nat.not_lt.2 c2)
    by_cases c3 : 4 + a0.size + 1 ≤ 9223372036854775807
    · rw [if_pos c3] at H
      have c3b0 := eq_true c3
      have c3b1 : decide (4 + a0.size + 1 ≤ 9223372036854775807) = true := decide_eq_true c3
      try have c3b2 : (9223372036854775807 < 4 + a0.size + 1) = False := eq_false (Nat.not_lt.2 c3)
      obtain rfl := Option.some.inj H
      go_enter Tryz.func47, Tryz.ntmps47
      go_wp2
      go_ret
      exact ⟨by first | rfl | (simp; done) | (simp [*]; done), by repeat (first | exact Drawn0.refl _ | apply Drawn0.step)⟩
    · rw [if_neg c3] at H
      exact absurd H (by simp)
  · rw [if_neg c2] at H
    exact absurd H (by simp)
end Go.Proofs.YtjkjnhcnmjknmaaGreatDoor.Y
end
section
namespace Go.Proofs.YtjkjnhcnmjknmaaGreatDoor.Y
open Go.RowKit Go.Proofs.YtjkjnhcnmjknmaaGreatDoorW.PrintWords Go.Proofs.YtjkjnhcnmjknmaaGreatDoorW.PrintLast Go.Proofs.YtjkjnhcnmjknmaaGreatDoorW.PrintMore
attribute [local go_sem] max2_int min2_int max_two min_two max_three min_three max_four min_four   -- for this text's walks alone
set_option linter.unusedVariables false
set_option linter.unusedSimpArgs false
set_option maxHeartbeats 8000000 in
set_option maxRecDepth 100000 in
theorem xansi_SetIconName.calls (a0 : ByteArray) (r : ByteArray) (w : World) (h : xansi_SetIconName.f a0 = some r) :
    Calls Tryz.prog 48 #[.string a0] w fun e w' => e = .returned (.string r) ∧ Drawn0 w w' := by
  have H : (if 4 + a0.size ≤ 9223372036854775807 then (if 4 + a0.size + 1 ≤ 9223372036854775807 then (some (((⟨#[27, 93, 49, 59]⟩ : ByteArray) ++ a0) ++ (⟨#[7]⟩ : ByteArray))) else (none)) else (none)) = some r := h
  clear h
  by_cases c2 : 4 + a0.size ≤ 9223372036854775807
  · rw [if_pos c2] at H
    have c2b0 := eq_true c2
    have c2b1 : decide (4 + a0.size ≤ 9223372036854775807) = true := decide_eq_true c2
    try have c2b2 : (9223372036854775807 < 4 + a0.size) = False := eq_false (Nat.not_lt.2 c2)
    by_cases c3 : 4 + a0.size + 1 ≤ 9223372036854775807
    · rw [if_pos c3] at H
      have c3b0 := eq_true c3
      have c3b1 : decide (4 + a0.size + 1 ≤ 9223372036854775807) = true := decide_eq_true c3
      try have c3b2 : (9223372036854775807 < 4 + a0.size + 1) = False := eq_false (Nat.not_lt.2 c3)
      obtain rfl := Option.some.inj H
      go_enter Tryz.func48, Tryz.ntmps48
      go_wp2
      go_ret
      exact ⟨by first | rfl | (simp; done) | (simp [*]; done), by repeat (first | exact Drawn0.refl _ | apply Drawn0.step)⟩
    · rw [if_neg c3] at H
      exact absurd H (by simp)
  · rw [if_neg c2] at H
    exact absurd H (by simp)
end Go.Proofs.YtjkjnhcnmjknmaaGreatDoor.Y
end
section
namespace Go.Proofs.YtjkjnhcnmjknmaaGreatDoor.Y
open Go.RowKit Go.Proofs.YtjkjnhcnmjknmaaGreatDoorW.PrintWords Go.Proofs.YtjkjnhcnmjknmaaGreatDoorW.PrintLast Go.Proofs.YtjkjnhcnmjknmaaGreatDoorW.PrintMore
attribute [local go_sem] max2_int min2_int max_two min_two max_three min_three max_four min_four   -- for this text's walks alone
set_option linter.unusedVariables false
set_option linter.unusedSimpArgs false
set_option maxHeartbeats 8000000 in
set_option maxRecDepth 100000 in
theorem xansi_SetIconNameWindowTitle.calls (a0 : ByteArray) (r : ByteArray) (w : World) (h : xansi_SetIconNameWindowTitle.f a0 = some r) :
    Calls Tryz.prog 49 #[.string a0] w fun e w' => e = .returned (.string r) ∧ Drawn0 w w' := by
  have H : (if 4 + a0.size ≤ 9223372036854775807 then (if 4 + a0.size + 1 ≤ 9223372036854775807 then (some (((⟨#[27, 93, 48, 59]⟩ : ByteArray) ++ a0) ++ (⟨#[7]⟩ : ByteArray))) else (none)) else (none)) = some r := h
  clear h
  by_cases c2 : 4 + a0.size ≤ 9223372036854775807
  · rw [if_pos c2] at H
    have c2b0 := eq_true c2
    have c2b1 : decide (4 + a0.size ≤ 9223372036854775807) = true := decide_eq_true c2
    try have c2b2 : (9223372036854775807 < 4 + a0.size) = False := eq_false (Nat.not_lt.2 c2)
    by_cases c3 : 4 + a0.size + 1 ≤ 9223372036854775807
    · rw [if_pos c3] at H
      have c3b0 := eq_true c3
      have c3b1 : decide (4 + a0.size + 1 ≤ 9223372036854775807) = true := decide_eq_true c3
      try have c3b2 : (9223372036854775807 < 4 + a0.size + 1) = False := eq_false (Nat.not_lt.2 c3)
      obtain rfl := Option.some.inj H
      go_enter Tryz.func49, Tryz.ntmps49
      go_wp2
      go_ret
      exact ⟨by first | rfl | (simp; done) | (simp [*]; done), by repeat (first | exact Drawn0.refl _ | apply Drawn0.step)⟩
    · rw [if_neg c3] at H
      exact absurd H (by simp)
  · rw [if_neg c2] at H
    exact absurd H (by simp)
end Go.Proofs.YtjkjnhcnmjknmaaGreatDoor.Y
end
section
namespace Go.Proofs.YtjkjnhcnmjknmaaGreatDoor.Y
open Go.RowKit Go.Proofs.YtjkjnhcnmjknmaaGreatDoorW.PrintWords Go.Proofs.YtjkjnhcnmjknmaaGreatDoorW.PrintLast Go.Proofs.YtjkjnhcnmjknmaaGreatDoorW.PrintMore
attribute [local go_sem] max2_int min2_int max_two min_two max_three min_three max_four min_four   -- for this text's walks alone
set_option linter.unusedVariables false
set_option linter.unusedSimpArgs false
set_option maxHeartbeats 8000000 in
set_option maxRecDepth 100000 in
theorem xansi_SetForegroundColor.calls (a0 : ByteArray) (r : ByteArray) (w : World) (h : xansi_SetForegroundColor.f a0 = some r) :
    Calls Tryz.prog 50 #[.string a0] w fun e w' => e = .returned (.string r) ∧ Drawn0 w w' := by
  have H : (if 5 + a0.size ≤ 9223372036854775807 then (if 5 + a0.size + 1 ≤ 9223372036854775807 then (some (((⟨#[27, 93, 49, 48, 59]⟩ : ByteArray) ++ a0) ++ (⟨#[7]⟩ : ByteArray))) else (none)) else (none)) = some r := h
  clear h
  by_cases c2 : 5 + a0.size ≤ 9223372036854775807
  · rw [if_pos c2] at H
    have c2b0 := eq_true c2
    have c2b1 : decide (5 + a0.size ≤ 9223372036854775807) = true := decide_eq_true c2
    try have c2b2 : (9223372036854775807 < 5 + a0.size) = False := eq_false (Nat.not_lt.2 c2)
    by_cases c3 : 5 + a0.size + 1 ≤ 9223372036854775807
    · rw [if_pos c3] at H
      have c3b0 := eq_true c3
      have c3b1 : decide (5 + a0.size + 1 ≤ 9223372036854775807) = true := decide_eq_true c3
      try have c3b2 : (9223372036854775807 < 5 + a0.size + 1) = False := eq_false (Nat.not_lt.2 c3)
      obtain rfl := Option.some.inj H
      go_enter Tryz.func50, Tryz.ntmps50
      go_wp2
      go_ret
      exact ⟨by first | rfl | (simp; done) | (simp [*]; done), by repeat (first | exact Drawn0.refl _ | apply Drawn0.step)⟩
    · rw [if_neg c3] at H
      exact absurd H (by simp)
  · rw [if_neg c2] at H
    exact absurd H (by simp)
end Go.Proofs.YtjkjnhcnmjknmaaGreatDoor.Y
end
section
namespace Go.Proofs.YtjkjnhcnmjknmaaGreatDoor.Y
open Go.RowKit Go.Proofs.YtjkjnhcnmjknmaaGreatDoorW.PrintWords Go.Proofs.YtjkjnhcnmjknmaaGreatDoorW.PrintLast Go.Proofs.YtjkjnhcnmjknmaaGreatDoorW.PrintMore
attribute [local go_sem] max2_int min2_int max_two min_two max_three min_three max_four min_four   -- for this text's walks alone
set_option linter.unusedVariables false
set_option linter.unusedSimpArgs false
set_option maxHeartbeats 8000000 in
set_option maxRecDepth 100000 in
theorem xansi_SetBackgroundColor.calls (a0 : ByteArray) (r : ByteArray) (w : World) (h : xansi_SetBackgroundColor.f a0 = some r) :
    Calls Tryz.prog 51 #[.string a0] w fun e w' => e = .returned (.string r) ∧ Drawn0 w w' := by
  have H : (if 5 + a0.size ≤ 9223372036854775807 then (if 5 + a0.size + 1 ≤ 9223372036854775807 then (some (((⟨#[27, 93, 49, 49, 59]⟩ : ByteArray) ++ a0) ++ (⟨#[7]⟩ : ByteArray))) else (none)) else (none)) = some r := h
  clear h
  by_cases c2 : 5 + a0.size ≤ 9223372036854775807
  · rw [if_pos c2] at H
    have c2b0 := eq_true c2
    have c2b1 : decide (5 + a0.size ≤ 9223372036854775807) = true := decide_eq_true c2
    try have c2b2 : (9223372036854775807 < 5 + a0.size) = False := eq_false (Nat.not_lt.2 c2)
    by_cases c3 : 5 + a0.size + 1 ≤ 9223372036854775807
    · rw [if_pos c3] at H
      have c3b0 := eq_true c3
      have c3b1 : decide (5 + a0.size + 1 ≤ 9223372036854775807) = true := decide_eq_true c3
      try have c3b2 : (9223372036854775807 < 5 + a0.size + 1) = False := eq_false (Nat.not_lt.2 c3)
      obtain rfl := Option.some.inj H
      go_enter Tryz.func51, Tryz.ntmps51
      go_wp2
      go_ret
      exact ⟨by first | rfl | (simp; done) | (simp [*]; done), by repeat (first | exact Drawn0.refl _ | apply Drawn0.step)⟩
    · rw [if_neg c3] at H
      exact absurd H (by simp)
  · rw [if_neg c2] at H
    exact absurd H (by simp)
end Go.Proofs.YtjkjnhcnmjknmaaGreatDoor.Y
end
section
namespace Go.Proofs.YtjkjnhcnmjknmaaGreatDoor.Y
open Go.RowKit Go.Proofs.YtjkjnhcnmjknmaaGreatDoorW.PrintWords Go.Proofs.YtjkjnhcnmjknmaaGreatDoorW.PrintLast Go.Proofs.YtjkjnhcnmjknmaaGreatDoorW.PrintMore
attribute [local go_sem] max2_int min2_int max_two min_two max_three min_three max_four min_four   -- for this text's walks alone
set_option linter.unusedVariables false
set_option linter.unusedSimpArgs false
set_option maxHeartbeats 8000000 in
set_option maxRecDepth 100000 in
theorem xansi_SetCursorColor.calls (a0 : ByteArray) (r : ByteArray) (w : World) (h : xansi_SetCursorColor.f a0 = some r) :
    Calls Tryz.prog 52 #[.string a0] w fun e w' => e = .returned (.string r) ∧ Drawn0 w w' := by
  have H : (if 5 + a0.size ≤ 9223372036854775807 then (if 5 + a0.size + 1 ≤ 9223372036854775807 then (some (((⟨#[27, 93, 49, 50, 59]⟩ : ByteArray) ++ a0) ++ (⟨#[7]⟩ : ByteArray))) else (none)) else (none)) = some r := h
  clear h
  by_cases c2 : 5 + a0.size ≤ 9223372036854775807
  · rw [if_pos c2] at H
    have c2b0 := eq_true c2
    have c2b1 : decide (5 + a0.size ≤ 9223372036854775807) = true := decide_eq_true c2
    try have c2b2 : (9223372036854775807 < 5 + a0.size) = False := eq_false (Nat.not_lt.2 c2)
    by_cases c3 : 5 + a0.size + 1 ≤ 9223372036854775807
    · rw [if_pos c3] at H
      have c3b0 := eq_true c3
      have c3b1 : decide (5 + a0.size + 1 ≤ 9223372036854775807) = true := decide_eq_true c3
      try have c3b2 : (9223372036854775807 < 5 + a0.size + 1) = False := eq_false (Nat.not_lt.2 c3)
      obtain rfl := Option.some.inj H
      go_enter Tryz.func52, Tryz.ntmps52
      go_wp2
      go_ret
      exact ⟨by first | rfl | (simp; done) | (simp [*]; done), by repeat (first | exact Drawn0.refl _ | apply Drawn0.step)⟩
    · rw [if_neg c3] at H
      exact absurd H (by simp)
  · rw [if_neg c2] at H
    exact absurd H (by simp)
end Go.Proofs.YtjkjnhcnmjknmaaGreatDoor.Y
end
section
namespace Go.Proofs.YtjkjnhcnmjknmaaGreatDoor.Y
open Go.RowKit Go.Proofs.YtjkjnhcnmjknmaaGreatDoorW.PrintWords Go.Proofs.YtjkjnhcnmjknmaaGreatDoorW.PrintLast Go.Proofs.YtjkjnhcnmjknmaaGreatDoorW.PrintMore
attribute [local go_sem] max2_int min2_int max_two min_two max_three min_three max_four min_four   -- for this text's walks alone
set_option linter.unusedVariables false
set_option linter.unusedSimpArgs false
set_option maxHeartbeats 8000000 in
set_option maxRecDepth 100000 in
theorem xansi_SetPointerShape.calls (a0 : ByteArray) (r : ByteArray) (w : World) (h : xansi_SetPointerShape.f a0 = some r) :
    Calls Tryz.prog 53 #[.string a0] w fun e w' => e = .returned (.string r) ∧ Drawn0 w w' := by
  have H : (if 5 + a0.size ≤ 9223372036854775807 then (if 5 + a0.size + 1 ≤ 9223372036854775807 then (some (((⟨#[27, 93, 50, 50, 59]⟩ : ByteArray) ++ a0) ++ (⟨#[7]⟩ : ByteArray))) else (none)) else (none)) = some r := h
  clear h
  by_cases c2 : 5 + a0.size ≤ 9223372036854775807
  · rw [if_pos c2] at H
    have c2b0 := eq_true c2
    have c2b1 : decide (5 + a0.size ≤ 9223372036854775807) = true := decide_eq_true c2
    try have c2b2 : (9223372036854775807 < 5 + a0.size) = False := eq_false (Nat.not_lt.2 c2)
    by_cases c3 : 5 + a0.size + 1 ≤ 9223372036854775807
    · rw [if_pos c3] at H
      have c3b0 := eq_true c3
      have c3b1 : decide (5 + a0.size + 1 ≤ 9223372036854775807) = true := decide_eq_true c3
      try have c3b2 : (9223372036854775807 < 5 + a0.size + 1) = False := eq_false (Nat.not_lt.2 c3)
      obtain rfl := Option.some.inj H
      go_enter Tryz.func53, Tryz.ntmps53
      go_wp2
      go_ret
      exact ⟨by first | rfl | (simp; done) | (simp [*]; done), by repeat (first | exact Drawn0.refl _ | apply Drawn0.step)⟩
    · rw [if_neg c3] at H
      exact absurd H (by simp)
  · rw [if_neg c2] at H
    exact absurd H (by simp)
end Go.Proofs.YtjkjnhcnmjknmaaGreatDoor.Y
end
section
namespace Go.Proofs.YtjkjnhcnmjknmaaGreatDoor.Y
open Go.RowKit Go.Proofs.YtjkjnhcnmjknmaaGreatDoorW.PrintWords Go.Proofs.YtjkjnhcnmjknmaaGreatDoorW.PrintLast Go.Proofs.YtjkjnhcnmjknmaaGreatDoorW.PrintMore
attribute [local go_sem] max2_int min2_int max_two min_two max_three min_three max_four min_four   -- for this text's walks alone
set_option linter.unusedVariables false
set_option linter.unusedSimpArgs false
set_option maxHeartbeats 8000000 in
set_option maxRecDepth 100000 in
theorem xansi_Notify.calls (a0 : ByteArray) (r : ByteArray) (w : World) (h : xansi_Notify.f a0 = some r) :
    Calls Tryz.prog 54 #[.string a0] w fun e w' => e = .returned (.string r) ∧ Drawn0 w w' := by
  have H : (if 4 + a0.size ≤ 9223372036854775807 then (if 4 + a0.size + 1 ≤ 9223372036854775807 then (some (((⟨#[27, 93, 57, 59]⟩ : ByteArray) ++ a0) ++ (⟨#[7]⟩ : ByteArray))) else (none)) else (none)) = some r := h
  clear h
  by_cases c2 : 4 + a0.size ≤ 9223372036854775807
  · rw [if_pos c2] at H
    have c2b0 := eq_true c2
    have c2b1 : decide (4 + a0.size ≤ 9223372036854775807) = true := decide_eq_true c2
    try have c2b2 : (9223372036854775807 < 4 + a0.size) = False := eq_false (Nat.not_lt.2 c2)
    by_cases c3 : 4 + a0.size + 1 ≤ 9223372036854775807
    · rw [if_pos c3] at H
      have c3b0 := eq_true c3
      have c3b1 : decide (4 + a0.size + 1 ≤ 9223372036854775807) = true := decide_eq_true c3
      try have c3b2 : (9223372036854775807 < 4 + a0.size + 1) = False := eq_false (Nat.not_lt.2 c3)
      obtain rfl := Option.some.inj H
      go_enter Tryz.func54, Tryz.ntmps54
      go_wp2
      go_ret
      exact ⟨by first | rfl | (simp; done) | (simp [*]; done), by repeat (first | exact Drawn0.refl _ | apply Drawn0.step)⟩
    · rw [if_neg c3] at H
      exact absurd H (by simp)
  · rw [if_neg c2] at H
    exact absurd H (by simp)
end Go.Proofs.YtjkjnhcnmjknmaaGreatDoor.Y
end
section
namespace Go.Proofs.YtjkjnhcnmjknmaaGreatDoor.Y
open Go.RowKit Go.Proofs.YtjkjnhcnmjknmaaGreatDoorW.PrintWords Go.Proofs.YtjkjnhcnmjknmaaGreatDoorW.PrintLast Go.Proofs.YtjkjnhcnmjknmaaGreatDoorW.PrintMore
attribute [local go_sem] max2_int min2_int max_two min_two max_three min_three max_four min_four   -- for this text's walks alone
set_option linter.unusedVariables false
set_option linter.unusedSimpArgs false
set_option maxHeartbeats 8000000 in
set_option maxRecDepth 100000 in
theorem impl_MakeText.calls (a0 : Int) (a1 : ByteArray) (r : ByteArray) (w : World) (h : impl_MakeText.f a0 a1 = some r) :
    Calls Tryz.prog 27 #[.int .i64 a0, .string a1] w fun e w' => e = .returned (.string r) ∧ Drawn0 w w' := by
  have H : (if a0 = 0 then ((xansi_SetWindowTitle.f a1).bind fun t131 => (some t131)) else (if a0 = 1 then ((xansi_SetIconName.f a1).bind fun t132 => (some t132)) else (if a0 = 2 then ((xansi_SetIconNameWindowTitle.f a1).bind fun t133 => (some t133)) else (if a0 = 3 then ((xansi_SetForegroundColor.f a1).bind fun t134 => (some t134)) else (if a0 = 4 then ((xansi_SetBackgroundColor.f a1).bind fun t135 => (some t135)) else (if a0 = 5 then ((xansi_SetCursorColor.f a1).bind fun t136 => (some t136)) else (if a0 = 6 then ((xansi_SetPointerShape.f a1).bind fun t137 => (some t137)) else (if a0 = 7 then ((xansi_Notify.f a1).bind fun t138 => (some t138)) else (if a0 = 8 then (none) else (if a0 = 9 then (none) else (if a0 = 10 then (none) else (if a0 = 11 then (none) else (if a0 = 12 then (none) else (some (⟨#[]⟩ : ByteArray))))))))))))))) = some r := h
  clear h
  by_cases c3 : a0 = 0
  · rw [if_pos c3] at H
    have c3b0 : (a0 == 0) = true := beq_iff_eq.mpr c3
    have c3b1 : (a0 != 0) = false := bne_eq_false_iff_eq.mpr c3
    clear c3
    replace H := Option.bind_eq_some_iff.mp H
    obtain ⟨t131, A40, H⟩ := H
    replace H : (some t131) = some r := H
    have A4 := Aside0.mk A40
    clear A40
    obtain rfl := Option.some.inj H
    go_enter Tryz.func27, Tryz.ntmps27
    go_wp2_with (first | ((with_reducible refine gate_callee (f := 47) rfl ?_); refine goesL_ (some 9) rfl rfl Tryz.func47 (by kernel_rfl) rfl #[.string a1] rfl (by (try simp only [List.map_toArray, List.map_cons, List.map_nil]); first | done | rfl | (simp only [List.length_drop, List.length_take]; rfl)) ?_; (with_reducible refine (xansi_SetWindowTitle.calls a1 t131 _ A4.out).mono ?_); rintro e w' ⟨rfl, ⟨nd, rfl⟩⟩; refine ⟨_, rfl, ?_⟩))
    go_ret
    exact ⟨by first | rfl | (simp; done) | (simp [*]; done), by repeat (first | exact Drawn0.refl _ | apply Drawn0.step)⟩
  · rw [if_neg c3] at H
    have c3b0 : (a0 == 0) = false := beq_eq_false_iff_ne.mpr c3
    have c3b1 : (a0 != 0) = true := bne_iff_ne.mpr c3
    by_cases c5 : a0 = 1
    · rw [if_pos c5] at H
      have c5b0 : (a0 == 1) = true := beq_iff_eq.mpr c5
      have c5b1 : (a0 != 1) = false := bne_eq_false_iff_eq.mpr c5
      clear c5
      replace H := Option.bind_eq_some_iff.mp H
      obtain ⟨t132, A60, H⟩ := H
      replace H : (some t132) = some r := H
      have A6 := Aside0.mk A60
      clear A60
      obtain rfl := Option.some.inj H
      go_enter Tryz.func27, Tryz.ntmps27
      go_wp2_with (first | ((with_reducible refine gate_callee (f := 48) rfl ?_); refine goesL_ (some 13) rfl rfl Tryz.func48 (by kernel_rfl) rfl #[.string a1] rfl (by (try simp only [List.map_toArray, List.map_cons, List.map_nil]); first | done | rfl | (simp only [List.length_drop, List.length_take]; rfl)) ?_; (with_reducible refine (xansi_SetIconName.calls a1 t132 _ A6.out).mono ?_); rintro e w' ⟨rfl, ⟨nd, rfl⟩⟩; refine ⟨_, rfl, ?_⟩))
      go_ret
      exact ⟨by first | rfl | (simp; done) | (simp [*]; done), by repeat (first | exact Drawn0.refl _ | apply Drawn0.step)⟩
    · rw [if_neg c5] at H
      have c5b0 : (a0 == 1) = false := beq_eq_false_iff_ne.mpr c5
      have c5b1 : (a0 != 1) = true := bne_iff_ne.mpr c5
      by_cases c7 : a0 = 2
      · rw [if_pos c7] at H
        have c7b0 : (a0 == 2) = true := beq_iff_eq.mpr c7
        have c7b1 : (a0 != 2) = false := bne_eq_false_iff_eq.mpr c7
        clear c7
        replace H := Option.bind_eq_some_iff.mp H
        obtain ⟨t133, A80, H⟩ := H
        replace H : (some t133) = some r := H
        have A8 := Aside0.mk A80
        clear A80
        obtain rfl := Option.some.inj H
        go_enter Tryz.func27, Tryz.ntmps27
        go_wp2_with (first | ((with_reducible refine gate_callee (f := 49) rfl ?_); refine goesL_ (some 17) rfl rfl Tryz.func49 (by kernel_rfl) rfl #[.string a1] rfl (by (try simp only [List.map_toArray, List.map_cons, List.map_nil]); first | done | rfl | (simp only [List.length_drop, List.length_take]; rfl)) ?_; (with_reducible refine (xansi_SetIconNameWindowTitle.calls a1 t133 _ A8.out).mono ?_); rintro e w' ⟨rfl, ⟨nd, rfl⟩⟩; refine ⟨_, rfl, ?_⟩))
        go_ret
        exact ⟨by first | rfl | (simp; done) | (simp [*]; done), by repeat (first | exact Drawn0.refl _ | apply Drawn0.step)⟩
      · rw [if_neg c7] at H
        have c7b0 : (a0 == 2) = false := beq_eq_false_iff_ne.mpr c7
        have c7b1 : (a0 != 2) = true := bne_iff_ne.mpr c7
        by_cases c9 : a0 = 3
        · rw [if_pos c9] at H
          have c9b0 : (a0 == 3) = true := beq_iff_eq.mpr c9
          have c9b1 : (a0 != 3) = false := bne_eq_false_iff_eq.mpr c9
          clear c9
          replace H := Option.bind_eq_some_iff.mp H
          obtain ⟨t134, A100, H⟩ := H
          replace H : (some t134) = some r := H
          have A10 := Aside0.mk A100
          clear A100
          obtain rfl := Option.some.inj H
          go_enter Tryz.func27, Tryz.ntmps27
          go_wp2_with (first | ((with_reducible refine gate_callee (f := 50) rfl ?_); refine goesL_ (some 21) rfl rfl Tryz.func50 (by kernel_rfl) rfl #[.string a1] rfl (by (try simp only [List.map_toArray, List.map_cons, List.map_nil]); first | done | rfl | (simp only [List.length_drop, List.length_take]; rfl)) ?_; (with_reducible refine (xansi_SetForegroundColor.calls a1 t134 _ A10.out).mono ?_); rintro e w' ⟨rfl, ⟨nd, rfl⟩⟩; refine ⟨_, rfl, ?_⟩))
          go_ret
          exact ⟨by first | rfl | (simp; done) | (simp [*]; done), by repeat (first | exact Drawn0.refl _ | apply Drawn0.step)⟩
        · rw [if_neg c9] at H
          have c9b0 : (a0 == 3) = false := beq_eq_false_iff_ne.mpr c9
          have c9b1 : (a0 != 3) = true := bne_iff_ne.mpr c9
          by_cases c11 : a0 = 4
          · rw [if_pos c11] at H
            have c11b0 : (a0 == 4) = true := beq_iff_eq.mpr c11
            have c11b1 : (a0 != 4) = false := bne_eq_false_iff_eq.mpr c11
            clear c11
            replace H := Option.bind_eq_some_iff.mp H
            obtain ⟨t135, A120, H⟩ := H
            replace H : (some t135) = some r := H
            have A12 := Aside0.mk A120
            clear A120
            obtain rfl := Option.some.inj H
            go_enter Tryz.func27, Tryz.ntmps27
            go_wp2_with (first | ((with_reducible refine gate_callee (f := 51) rfl ?_); refine goesL_ (some 25) rfl rfl Tryz.func51 (by kernel_rfl) rfl #[.string a1] rfl (by (try simp only [List.map_toArray, List.map_cons, List.map_nil]); first | done | rfl | (simp only [List.length_drop, List.length_take]; rfl)) ?_; (with_reducible refine (xansi_SetBackgroundColor.calls a1 t135 _ A12.out).mono ?_); rintro e w' ⟨rfl, ⟨nd, rfl⟩⟩; refine ⟨_, rfl, ?_⟩))
            go_ret
            exact ⟨by first | rfl | (simp; done) | (simp [*]; done), by repeat (first | exact Drawn0.refl _ | apply Drawn0.step)⟩
          · rw [if_neg c11] at H
            have c11b0 : (a0 == 4) = false := beq_eq_false_iff_ne.mpr c11
            have c11b1 : (a0 != 4) = true := bne_iff_ne.mpr c11
            by_cases c13 : a0 = 5
            · rw [if_pos c13] at H
              have c13b0 : (a0 == 5) = true := beq_iff_eq.mpr c13
              have c13b1 : (a0 != 5) = false := bne_eq_false_iff_eq.mpr c13
              clear c13
              replace H := Option.bind_eq_some_iff.mp H
              obtain ⟨t136, A140, H⟩ := H
              replace H : (some t136) = some r := H
              have A14 := Aside0.mk A140
              clear A140
              obtain rfl := Option.some.inj H
              go_enter Tryz.func27, Tryz.ntmps27
              go_wp2_with (first | ((with_reducible refine gate_callee (f := 52) rfl ?_); refine goesL_ (some 29) rfl rfl Tryz.func52 (by kernel_rfl) rfl #[.string a1] rfl (by (try simp only [List.map_toArray, List.map_cons, List.map_nil]); first | done | rfl | (simp only [List.length_drop, List.length_take]; rfl)) ?_; (with_reducible refine (xansi_SetCursorColor.calls a1 t136 _ A14.out).mono ?_); rintro e w' ⟨rfl, ⟨nd, rfl⟩⟩; refine ⟨_, rfl, ?_⟩))
              go_ret
              exact ⟨by first | rfl | (simp; done) | (simp [*]; done), by repeat (first | exact Drawn0.refl _ | apply Drawn0.step)⟩
            · rw [if_neg c13] at H
              have c13b0 : (a0 == 5) = false := beq_eq_false_iff_ne.mpr c13
              have c13b1 : (a0 != 5) = true := bne_iff_ne.mpr c13
              by_cases c15 : a0 = 6
              · rw [if_pos c15] at H
                have c15b0 : (a0 == 6) = true := beq_iff_eq.mpr c15
                have c15b1 : (a0 != 6) = false := bne_eq_false_iff_eq.mpr c15
                clear c15
                replace H := Option.bind_eq_some_iff.mp H
                obtain ⟨t137, A160, H⟩ := H
                replace H : (some t137) = some r := H
                have A16 := Aside0.mk A160
                clear A160
                obtain rfl := Option.some.inj H
                go_enter Tryz.func27, Tryz.ntmps27
                go_wp2_with (first | ((with_reducible refine gate_callee (f := 53) rfl ?_); refine goesL_ (some 33) rfl rfl Tryz.func53 (by kernel_rfl) rfl #[.string a1] rfl (by (try simp only [List.map_toArray, List.map_cons, List.map_nil]); first | done | rfl | (simp only [List.length_drop, List.length_take]; rfl)) ?_; (with_reducible refine (xansi_SetPointerShape.calls a1 t137 _ A16.out).mono ?_); rintro e w' ⟨rfl, ⟨nd, rfl⟩⟩; refine ⟨_, rfl, ?_⟩))
                go_ret
                exact ⟨by first | rfl | (simp; done) | (simp [*]; done), by repeat (first | exact Drawn0.refl _ | apply Drawn0.step)⟩
              · rw [if_neg c15] at H
                have c15b0 : (a0 == 6) = false := beq_eq_false_iff_ne.mpr c15
                have c15b1 : (a0 != 6) = true := bne_iff_ne.mpr c15
                by_cases c17 : a0 = 7
                · rw [if_pos c17] at H
                  have c17b0 : (a0 == 7) = true := beq_iff_eq.mpr c17
                  have c17b1 : (a0 != 7) = false := bne_eq_false_iff_eq.mpr c17
                  clear c17
                  replace H := Option.bind_eq_some_iff.mp H
                  obtain ⟨t138, A180, H⟩ := H
                  replace H : (some t138) = some r := H
                  have A18 := Aside0.mk A180
                  clear A180
                  obtain rfl := Option.some.inj H
                  go_enter Tryz.func27, Tryz.ntmps27
                  go_wp2_with (first | ((with_reducible refine gate_callee (f := 54) rfl ?_); refine goesL_ (some 37) rfl rfl Tryz.func54 (by kernel_rfl) rfl #[.string a1] rfl (by (try simp only [List.map_toArray, List.map_cons, List.map_nil]); first | done | rfl | (simp only [List.length_drop, List.length_take]; rfl)) ?_; (with_reducible refine (xansi_Notify.calls a1 t138 _ A18.out).mono ?_); rintro e w' ⟨rfl, ⟨nd, rfl⟩⟩; refine ⟨_, rfl, ?_⟩))
                  go_ret
                  exact ⟨by first | rfl | (simp; done) | (simp [*]; done), by repeat (first | exact Drawn0.refl _ | apply Drawn0.step)⟩
                · rw [if_neg c17] at H
                  have c17b0 : (a0 == 7) = false := beq_eq_false_iff_ne.mpr c17
                  have c17b1 : (a0 != 7) = true := bne_iff_ne.mpr c17
                  by_cases c19 : a0 = 8
                  · rw [if_pos c19] at H
                    exact absurd H (by simp)
                  · rw [if_neg c19] at H
                    have c19b0 : (a0 == 8) = false := beq_eq_false_iff_ne.mpr c19
                    have c19b1 : (a0 != 8) = true := bne_iff_ne.mpr c19
                    by_cases c20 : a0 = 9
                    · rw [if_pos c20] at H
                      exact absurd H (by simp)
                    · rw [if_neg c20] at H
                      have c20b0 : (a0 == 9) = false := beq_eq_false_iff_ne.mpr c20
                      have c20b1 : (a0 != 9) = true := bne_iff_ne.mpr c20
                      by_cases c21 : a0 = 10
                      · rw [if_pos c21] at H
                        exact absurd H (by simp)
                      · rw [if_neg c21] at H
                        have c21b0 : (a0 == 10) = false := beq_eq_false_iff_ne.mpr c21
                        have c21b1 : (a0 != 10) = true := bne_iff_ne.mpr c21
                        by_cases c22 : a0 = 11
                        · rw [if_pos c22] at H
                          exact absurd H (by simp)
                        · rw [if_neg c22] at H
                          have c22b0 : (a0 == 11) = false := beq_eq_false_iff_ne.mpr c22
                          have c22b1 : (a0 != 11) = true := bne_iff_ne.mpr c22
                          by_cases c23 : a0 = 12
                          · rw [if_pos c23] at H
                            exact absurd H (by simp)
                          · rw [if_neg c23] at H
                            have c23b0 : (a0 == 12) = false := beq_eq_false_iff_ne.mpr c23
                            have c23b1 : (a0 != 12) = true := bne_iff_ne.mpr c23
                            obtain rfl := Option.some.inj H
                            go_enter Tryz.func27, Tryz.ntmps27
                            go_wp2
                            go_ret
                            exact ⟨by first | rfl | (simp; done) | (simp [*]; done), by repeat (first | exact Drawn0.refl _ | apply Drawn0.step)⟩
end Go.Proofs.YtjkjnhcnmjknmaaGreatDoor.Y
end
section
namespace Go.Proofs.YtjkjnhcnmjknmaaGreatDoor.Y
open Go.RowKit Go.Proofs.YtjkjnhcnmjknmaaGreatDoorW.PrintWords Go.Proofs.YtjkjnhcnmjknmaaGreatDoorW.PrintLast Go.Proofs.YtjkjnhcnmjknmaaGreatDoorW.PrintMore
attribute [local go_sem] max2_int min2_int max_two min_two max_three min_three max_four min_four   -- for this text's walks alone
set_option linter.unusedVariables false
set_option linter.unusedSimpArgs false
set_option maxHeartbeats 8000000 in
set_option maxRecDepth 100000 in
theorem spec_drawBehind.calls (k : Nat) (a0 : ByteArray) (a1 : Int) (r : ByteArray) (w : World) (h : spec_drawBehind.f k a0 a1 = some r) :
    Calls Tryz.prog 60 #[.string a0, .int .i64 a1] w fun e w' => e = .returned (.string r) ∧ Drawn0 w w' := by
  have H : (spec_drawBehind.l0 k a0 a1 (a0.size : Int) 0) = some r := h
  clear h
  have H' := Aside0.mk H
  clear H
  go_enter Tryz.func60, Tryz.ntmps60
  go_wp2
  go_loopg [1, 8] k (fun kq v1 v8 w' => ∃ (x1_1 : Int) (x8_1 : Int), v1 = .int .i64 x1_1 ∧ v8 = .int .i64 x8_1 ∧ Aside0 (spec_drawBehind.l0 kq a0 x1_1 (a0.size : Int) x8_1 = some r) ∧ Aside0 (kq ≤ k) ∧ Drawn0 w w')
  case atStart => exact ⟨(a1), (0), (by first | rfl | (simp; done) | (simp [*]; done)), (by first | rfl | (simp; done) | (simp [*]; done)), H', ⟨Nat.le_refl _⟩, by repeat (first | exact Drawn0.refl _ | apply Drawn0.step)⟩
  case round =>
    clear H'
    try clear p2
    obtain ⟨x1_1, x8_1, rfl, rfl, HA, HK1, ⟨m1, rfl⟩⟩ := hrel
    cases gk with
    | zero => exact absurd HA.out (by simp [spec_drawBehind.l0])
    | succ k1 =>
      have H := HA.out
      clear HA
      simp only [spec_drawBehind.l0] at H
      by_cases c3 : x8_1 < (a0.size : Int)
      · rw [if_pos c3] at H
        have c3b0 : decide (x8_1 < (a0.size : Int)) = true := decide_eq_true c3
        clear c3
        by_cases c4 : 0 ≤ x8_1
        · rw [if_pos c4] at H
          have c4b0 : decide (0 ≤ x8_1) = true := decide_eq_true c4
          clear c4
          by_cases c5 : x8_1 < (a0.size : Int)
          · rw [if_pos c5] at H
            have c5b0 : decide (x8_1 < (a0.size : Int)) = true := decide_eq_true c5
            clear c5
            by_cases c7 : (bt a0 x8_1) = 59
            · rw [if_pos c7] at H
              have c7b0 : ((bt a0 x8_1) == 59) = true := beq_iff_eq.mpr c7
              have c7b1 : ((bt a0 x8_1) != 59) = false := bne_eq_false_iff_eq.mpr c7
              clear c7
              by_cases c8 : (wrap64 (x1_1 - 1)) = 0
              · rw [if_pos c8] at H
                have c8b0 : ((wrap64 (x1_1 - 1)) == 0) = true := beq_iff_eq.mpr c8
                have c8b1 : ((wrap64 (x1_1 - 1)) != 0) = false := bne_eq_false_iff_eq.mpr c8
                clear c8
                obtain ⟨ji9, hji9⟩ : ∃ j_ : Int, (wrap64 (x8_1 + 1)) = j_ := ⟨_, rfl⟩
                replace H : (if 0 ≤ (ji9) then (if (ji9) ≤ (a0.size : Int) then (some (a0.extract ((ji9) : Int).toNat a0.size)) else (none)) else (none)) = some r := by first | (rw [hji9] at H; exact H) | (simp only [hji9] at H ⊢; exact H)
                have hji9w : (IntKind.i64.wrap (x8_1 + 1)) = ji9 := (i64_w _).trans hji9
                by_cases c10 : 0 ≤ (ji9)
                · rw [if_pos c10] at H
                  have c10b0 := eq_true c10
                  have c10b1 : decide (0 ≤ (ji9)) = true := decide_eq_true c10
                  clear c10
                  by_cases c11 : (ji9) ≤ (a0.size : Int)
                  · rw [if_pos c11] at H
                    have c11b0 := eq_true c11
                    have c11b1 : decide ((ji9) ≤ (a0.size : Int)) = true := decide_eq_true c11
                    clear c11
                    obtain rfl := Option.some.inj H
                    have p6 : 0 ≤ (x8_1 : Int) := of_decide_eq_true (by first | (with_reducible assumption) | assumption)
                    have q6 : x8_1 < (a0.size : Int) := of_decide_eq_true (by first | (with_reducible assumption) | assumption)
                    have hx6 := bt_at a0 x8_1
                    replace p6 := eq_true p6
                    replace q6 := eq_true q6
                    go_wp2
                    go_ret
                    exact ⟨by first | rfl | (simp; done) | (simp only [← hji9] <;> (first | rfl | simp)) | (simp [*]; done), by repeat (first | exact Drawn0.refl _ | apply Drawn0.step)⟩
                  · rw [if_neg c11] at H
                    exact absurd H (by simp)
                · rw [if_neg c10] at H
                  exact absurd H (by simp)
              · rw [if_neg c8] at H
                have c8b0 : ((wrap64 (x1_1 - 1)) == 0) = false := beq_eq_false_iff_ne.mpr c8
                have c8b1 : ((wrap64 (x1_1 - 1)) != 0) = true := bne_iff_ne.mpr c8
                have H' := Aside0.mk H
                clear H
                have p6 : 0 ≤ (x8_1 : Int) := of_decide_eq_true (by first | (with_reducible assumption) | assumption)
                have q6 : x8_1 < (a0.size : Int) := of_decide_eq_true (by first | (with_reducible assumption) | assumption)
                have hx6 := bt_at a0 x8_1
                replace p6 := eq_true p6
                replace q6 := eq_true q6
                go_wp2
                go_roundg k1
                case measure => have := HK1.out; omega
                case rel => exact ⟨(wrap64 (x1_1 - 1)), (wrap64 (x8_1 + 1)), (by first | rfl | (simp; done) | (simp [*]; done)), (by first | rfl | (simp; done) | (simp [*]; done)), H', ⟨by have := HK1.out; omega⟩, by repeat (first | exact Drawn0.refl _ | apply Drawn0.step)⟩
            · rw [if_neg c7] at H
              have c7b0 : ((bt a0 x8_1) == 59) = false := beq_eq_false_iff_ne.mpr c7
              have c7b1 : ((bt a0 x8_1) != 59) = true := bne_iff_ne.mpr c7
              have H' := Aside0.mk H
              clear H
              have p6 : 0 ≤ (x8_1 : Int) := of_decide_eq_true (by first | (with_reducible assumption) | assumption)
              have q6 : x8_1 < (a0.size : Int) := of_decide_eq_true (by first | (with_reducible assumption) | assumption)
              have hx6 := bt_at a0 x8_1
              replace p6 := eq_true p6
              replace q6 := eq_true q6
              go_wp2
              go_roundg k1
              case measure => have := HK1.out; omega
              case rel => exact ⟨(x1_1), (wrap64 (x8_1 + 1)), (by first | rfl | (simp; done) | (simp [*]; done)), (by first | rfl | (simp; done) | (simp [*]; done)), H', ⟨by have := HK1.out; omega⟩, by repeat (first | exact Drawn0.refl _ | apply Drawn0.step)⟩
          · rw [if_neg c5] at H
            exact absurd H (by simp)
        · rw [if_neg c4] at H
          exact absurd H (by simp)
      · rw [if_neg c3] at H
        have c3b0 : decide (x8_1 < (a0.size : Int)) = false := decide_eq_false c3
        clear c3
        obtain rfl := Option.some.inj H
        go_wp2
        go_ret
        exact ⟨by first | rfl | (simp; done) | (simp [*]; done), by repeat (first | exact Drawn0.refl _ | apply Drawn0.step)⟩
end Go.Proofs.YtjkjnhcnmjknmaaGreatDoor.Y
end
