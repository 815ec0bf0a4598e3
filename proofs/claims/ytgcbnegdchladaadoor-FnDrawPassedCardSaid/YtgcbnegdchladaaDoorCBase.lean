/- Steps of a walk for '[]byte(s)' (told as a call whose result is only read) and for 'make([]T, 0, n)'; the premise on Go's table of powers of ten. No conditions of its own. -/
-- Written by a program of this session (wip/tool/xprint.py, round the kit's print.py). Lean checks it.
-- Written by a program of this session (wip/tool/xprint.py, round the kit's print.py). Lean checks it.
-- Written by a program of this session (wip/tool/xprint.py, round the kit's print.py). Lean checks it.
import Derived.Test.YtgcbnegdchladaaDoorProg
import Derived.Test.YtgcbnegdchladaaDoorWMore
import Derived.Lib.AppendIntMem
import Derived.Lib.ConvBytes
import Derived.Below
import Derived.Deep.Draws
import Derived.Deep.AppendLies
import Derived.Maps.AppendAt
import Derived.OwnWalk
import Derived.Laws.BytesArg
import Derived.Laws.MakeOwn
import Derived.Laws.OwnMore
import Derived.Deep.OwnRows
import Derived.Tactics
import Derived.Laws.Slices
import Derived.WalkKit
import Derived.KernelRfl
import Derived.RowKit3
import Derived.Deep.LoopGhost
import Derived.Deep.QuietTactic
import Derived.BigQuiet
import Derived.WideLaws
import Derived.Deep.DeepCutAuto
import Derived.Deep.CutBlock
import Derived.Deep.RegionHeld3
import Derived.Laws.Rows
import Derived.Lib.AppendStr
import Derived.ArgAppend
import Derived.Laws.IdiomCopy
import Derived.OrdersHeld
import Derived.Laws.BitsLemmas
import Derived.RowKit
import Derived.Test.YtgcbnegdchladaaDoorWWords
import Derived.Test.YtgcbnegdchladaaDoorWLast
import Derived.Test.YtgcbnegdchladaaDoorWTab
import Derived.Test.YtgcbnegdchladaaDoorWFour
import Derived.Test.YtgcbnegdchladaaDoorWQPut
import Derived.Test.YtgcbnegdchladaaDoorWApart
import Derived.Test.YtgcbnegdchladaaDoorWArr
import Derived.Test.YtgcbnegdchladaaDoorWZeros
import Derived.Test.YtgcbnegdchladaaDoorWFoot
import Derived.Test.YtgcbnegdchladaaDoorWKept
import Derived.Test.YtgcbnegdchladaaDoorWShare
import Derived.Test.YtgcbnegdchladaaDoorWN
import Derived.Test.YtgcbnegdchladaaDoorWFootNe
import Derived.Test.YtgcbnegdchladaaDoorWAt
import Derived.Test.YtgcbnegdchladaaDoorWEqStruct
import Derived.Test.YtgcbnegdchladaaDoorWRepsOne
import Derived.Test.YtgcbnegdchladaaDoorWInv
import Derived.Test.YtgcbnegdchladaaDoorWInvWords
import Derived.Test.YtgcbnegdchladaaDoorWGuard
import Derived.Test.YtgcbnegdchladaaDoorWNEv
namespace Go.Proofs.YtgcbnegdchladaaDoorW.PrintWords
open Go.RowKit

/-- '[]byte(s)', as if a call: the bytes, if they fit. -/
def gosem_conv.f (s : ByteArray) : Option (List Int) := if s.size ≤ 140737488355328 then some (bytesOf s) else none

theorem conv_ev {P : Program} {ops : Array Oper} {rest : List Oper} {o : Oper} {a : Act} {Q : Exit → Act → World → Prop} {W : World} (T U E : TypeId) {x : Operand}
    (hgd : o.guard = none) (ho : o.op = .convert T U x) (hT : P.underlying T = some .string) (hU : P.underlying U = some (.slice E)) (hE : P.underlying E = some (.int .u8))
    (s : ByteArray) (hx : a.eval x = .string s) {r : List Int} (h : gosem_conv.f s = some r)
    (k : ∀ e w', (∃ v0_ : Value, e = Ending.returned v0_ ∧ Kd.V (Kd.int .u8) E w' W.heap.size (fun k_ => (W.heap.size ≤ k_)) v0_ r ∧ Below W.heap.size W w') → ∃ v, e = Ending.returned v ∧ wpList P ops Q rest (a.put o.dst v) w') :
    wpList P ops Q (o :: rest) a W := by
  unfold gosem_conv.f at h
  split at h
  · rename_i hs
    obtain rfl := Option.some.inj h
    have hlen : (bytesOf s).length = s.size := bytesOf_length s
    have hcap : s.size ≤ grownCap W s.size 0 E := grownCap_ge _ _ _ _
    have hF : Kd.F (Kd.int .u8) (Lib.bytesWorld W E s) (fun k_ => (W.heap.size ≤ k_)) (some ⟨W.heap.size, 0, none⟩) (bytesOf s).length (bytesOf s) := fun W' hW => by
      have hb : W'.heap[W.heap.size]? = (Lib.bytesWorld W E s).heap[W.heap.size]? := hW W.heap.size (Nat.le_refl _) (by rw [Lib.bytesWorld_size]; omega)
      obtain ⟨h1, h2, h3⟩ := bytes_reads W E s (by omega)
      rw [hlen]
      refine Kd.C_of_reads (d := (0 : Int)) ⟨h1, h2, fun hn => ?_⟩
      obtain ⟨ad, he, hc⟩ := h3 hn
      refine ⟨ad, he, fun j hj => ?_⟩
      injection he with he
      subst he
      rw [World.cell?_of_block (w := Lib.bytesWorld W E s) (by rw [add_plain]; exact hb)]
      exact hc j hj
    obtain ⟨v, hv, hk⟩ := k (.returned (.slice (some ⟨W.heap.size, 0, none⟩) (bytesOf s).length (grownCap W s.size 0 E))) (Lib.bytesWorld W E s) ⟨_, rfl, Kd.V_mk (by rw [hlen]; exact hcap) hF, bytes_below (Below.refl _ _) (Nat.le_refl _) E s⟩
    injection hv with hv
    subst hv
    refine Kd.event_run hgd ?_ hk
    rw [hlen]
    unfold execOp
    simp [ho, hx, print_bytes T U E hT hU hE s W]
  · cases h

/-- make([]T, 0, n): nothing yet. -/
theorem Kd.R_make0 {P : Program} {ops : Array Oper} {rest : List Oper} {o : Oper} {a : Act} {Q : Exit → Act → World → Prop} {α : Type} (d : Kd α) {w0 W : World} (base e : Nat) (hgd : o.guard = none) {N : Tmp} (_hd : o.dst = some N) (t : TypeId) (x y : Operand) (ho : o.op = .makeSlice t x y) (n : Int) (hx : a.eval x = .int .i64 0) (hy : a.eval y = .int .i64 n)
    (ht : P.underlying t = some (.slice e)) (z : Value) (bytes : Nat) (hinfo : (P.info? e).map (fun i => (i.zero, i.size, i.bytes)) = some (some z, d.sz, bytes)) (_hz : z.cells.size = d.sz) (_hs0 : 0 < d.sz) (hb0 : 0 < bytes)
    {ok okp : Nat → Prop} (_hok : ∀ k, okp k → ok k) (hfresh : ok W.heap.size) (h0 : 0 ≤ n) (hl : n.toNat * bytes ≤ 281474976710656) (HB : Below base w0 W) (hbase : base ≤ W.heap.size)
    (h : ∀ v1 w1, d.R e w1 base ok v1 [] → Below base w0 w1 → W.grownBy w1 none → (∃ b, v1.ownBlock = some b ∧ W.heap.size ≤ b) → wpList P ops Q rest (a.put o.dst v1) w1) : wpList P ops Q (o :: rest) a W := by
  obtain ⟨m, rfl⟩ := Int.eq_ofNat_of_zero_le h0
  simp only [Int.toNat_natCast] at hl
  obtain ⟨i0, hi, hzz⟩ := Option.map_eq_some_iff.1 hinfo
  simp only [Prod.mk.injEq] at hzz
  obtain ⟨hz0, hz1, hz2⟩ := hzz
  have hm : m ≤ 281474976710656 := Nat.le_trans (Nat.le_mul_of_pos_right _ hb0) hl
  have hr := run_make (P := P) W t e i0 z ht hi hz0 .i64 .i64 (0 : Int) (m : Int) (by omega) (by omega)
    (by
      have h3 : ((i0.bytes * m : Nat) : Int) ≤ 281474976710656 := by rw [hz2, Nat.mul_comm]; omega
      rwa [Int.natCast_mul] at h3) (by omega)
  simp only [Int.toNat_natCast, Int.toNat_zero] at hr
  rw [hz1] at hr
  refine Kd.event_run (v := .slice (some ⟨W.heap.size, 0, none⟩) 0 m) (w1 := W.alloc (.cells (madeCells z.cells (m * d.sz)) e)) hgd (by simp [execOp, ho, hx, hy, hr]) (h _ _ ⟨fun k hk => ?_, [], ?_, Reps.none _ _⟩ (HB.alloc hbase _) (World.grownBy_alloc W _ none) ⟨W.heap.size, by simp [Value.ownBlock], Nat.le_refl _⟩)
  · have : W.heap.size = k := by simpa [Value.ownBlock] using hk
    subst this
    exact hfresh
  · refine ⟨by simp, .inr ⟨W.heap.size, m, madeCells z.cells (m * d.sz), rfl, hbase, by simpa using heap_alloc_new W _, Nat.zero_le _, ?_, ?_, by simp⟩⟩
    · simp only [maxLen]; omega
    · simp [size_madeCells]

/-- Go's table of powers of ten is as its text lays it. -/
def XTab (w : World) : Prop := Lib.TabIs Tryd.prog w "internal/strconv.uint64pow10" .u64 Lib.pow10Tab
theorem XTab.below {w W : World} (h : XTab w) (hb : Below w.heap.size w W) : XTab W := Lib.tabBelow_of_tabIs h W hb

end Go.Proofs.YtgcbnegdchladaaDoorW.PrintWords
namespace Go.Proofs.YtgcbnegdchladaaDoor.Z
open Go.RowKit Go.Proofs.YtgcbnegdchladaaDoorW.PrintWords Go.Proofs.YtgcbnegdchladaaDoorW.PrintLast Go.Proofs.YtgcbnegdchladaaDoorW.PrintMore
attribute [local go_sem] max2_int min2_int max_two min_two max_three min_three max_four min_four   -- for this text's walks alone
set_option linter.unusedVariables false
set_option linter.unusedSimpArgs false



def errW : Option Int → Value
  | none => .nilIface
  | some c => .iface 0 (.int .i64 c)
theorem errW_none : errW none = .nilIface := rfl
theorem errW_some (c : Int) : errW (some c) = .iface 0 (.int .i64 c) := rfl

theorem info2 : (Tryd.prog.info? 2).map (fun i => (i.zero, i.size, i.bytes)) = some (some (.int .i64 0), 1, 8) := by kernel_rfl
-- the values' own types

end Go.Proofs.YtgcbnegdchladaaDoor.Z
namespace Go.Proofs.YtgcbnegdchladaaDoor.Z
open Go.RowKit Go.Proofs.YtgcbnegdchladaaDoorW.PrintWords Go.Proofs.YtgcbnegdchladaaDoorW.PrintLast Go.Proofs.YtgcbnegdchladaaDoorW.PrintMore
attribute [local go_sem] max2_int min2_int max_two min_two max_three min_three max_four min_four   -- for this text's walks alone
set_option linter.unusedVariables false
set_option linter.unusedSimpArgs false

/-! ### impl_ints: function 78 -/
def impl_ints.l0 : Nat → List Int → List Int → Int → Int → Option (List Int)
  | 0, _, _, _, _ => none
  | k + 1, x3, x6, x7, x8 => if x8 < x7 then (if 0 ≤ x8 then (if x8 < (x6.length : Int) then (if x3.length < 17592186044416 then (impl_ints.l0 k (x3 ++ [rd x6 x8]) x6 x7 (wrap64 (x8 + 1))) else (none)) else (none)) else (none)) else (some x3)
def impl_ints.f (k : Nat) (l0 : List Int) : Option (List Int) := impl_ints.l0 k ([] : List Int) l0 (l0.length : Int) 0
theorem impl_ints.mono_l : ∀ k, (∀ y0 y1 y2 y3, LeO (impl_ints.l0 k y0 y1 y2 y3) (impl_ints.l0 (k + 1) y0 y1 y2 y3))
  | 0 => fun _ _ _ _ r h => by simp [impl_ints.l0] at h
  | k + 1 => by
    have ih0 := impl_ints.mono_l k
    · intro y0 y1 y2 y3
      unfold impl_ints.l0
      repeat' first
      | (with_reducible exact ih0 _ _ _ _)
      | (with_reducible exact LeO.refl _)
      | (with_reducible exact LeO.none _)
      | (with_reducible refine LeO.ite ?_ ?_)
      | (with_reducible refine LeO.bind ?_ (fun _ => ?_))
      | exact ih0 _ _ _ _
      | exact LeO.none _
      | refine LeO.ite ?_ ?_
      | refine LeO.bind ?_ (fun _ => ?_)
theorem impl_ints.mono : ∀ a0 k, LeO (impl_ints.f k a0) (impl_ints.f (k + 1) a0) := by
  intro a0 k
  have ih0 := impl_ints.mono_l k
  unfold impl_ints.f
  repeat' first
      | (with_reducible exact ih0 _ _ _ _)
      | (with_reducible exact LeO.refl _)
      | (with_reducible exact LeO.none _)
      | (with_reducible refine LeO.ite ?_ ?_)
      | (with_reducible refine LeO.bind ?_ (fun _ => ?_))
      | exact ih0 _ _ _ _
      | exact LeO.none _
      | refine LeO.ite ?_ ?_
      | refine LeO.bind ?_ (fun _ => ?_)
set_option maxHeartbeats 8000000 in
set_option maxRecDepth 100000 in
theorem impl_ints.calls (k : Nat) (A0 : Option Addr) (c0 : Nat) (l0 : List Int) (r : List Int) (w : World) (hr0 : Kd.C (Kd.int .i64) w A0 l0.length l0) (hc0 : l0.length ≤ c0) (h : impl_ints.f k l0 = some r) :
    Calls Tryd.prog 78 #[.slice A0 l0.length c0] w fun e w' => ∃ v0_ : Value, e = .returned (v0_) ∧ Kd.R (Kd.int .i64) 2 w' w.heap.size (fun _ => True) v0_ r ∧ Below w.heap.size w w' := by
  have HR0 := Aside0.mk hr0
  have HC0 := Aside0.mk hc0
  clear hr0 hc0
  have HB := Aside0.mk (Below.refl w.heap.size w)
  have H : (impl_ints.l0 k ([] : List Int) l0 (l0.length : Int) 0) = some r := h
  clear h
  have H' := Aside0.mk H
  clear H
  go_enter Tryd.func78, Tryd.ntmps78
  go_wp2
  go_loopg [3, 8] k (fun kq v3 v8 w' => ∃ (x3_1 : List Int) (x8_1 : Int), v8 = .int .i64 x8_1 ∧ Aside0 (impl_ints.l0 kq x3_1 l0 (l0.length : Int) x8_1 = some r) ∧ Aside0 (kq ≤ k) ∧ Aside0 (Kd.R (Kd.int .i64) 2 w' w.heap.size (fun _ => True) v3 x3_1) ∧ Aside0 (Below w.heap.size w w'))
  case atStart => exact ⟨(([] : List Int)), (0), (by first | rfl | (simp; done) | (simp [*]; done)), H', ⟨Nat.le_refl _⟩, ⟨by first | exact Kd.R_nil _ _ _ _ _ | exact Kd.N_nil _ _ _ _ _ | exact Kd.V_nil _ _ _ _ _ | exact Kd.Q_nil _ _ _ _ _ | exact Kd.S_nil _ _ _ _ _⟩, ⟨by repeat (first | (with_reducible first | exact HB.out | apply below_alloc | apply pw_below_drewN | apply below_drew1) | exact HB.out)⟩⟩
  case round =>
    clear H'
    obtain ⟨x3_1, x8_1, rfl, HA, HK1, HO_3, HB⟩ := hrel
    cases gk with
    | zero => exact absurd HA.out (by simp [impl_ints.l0])
    | succ k1 =>
      have H := HA.out
      clear HA
      simp only [impl_ints.l0] at H
      by_cases c2 : x8_1 < (l0.length : Int)
      · rw [if_pos c2] at H
        have c2b0 : decide (x8_1 < (l0.length : Int)) = true := decide_eq_true c2
        clear c2
        by_cases c3 : 0 ≤ x8_1
        · rw [if_pos c3] at H
          have c3b0 : decide (0 ≤ x8_1) = true := decide_eq_true c3
          clear c3
          by_cases c4 : x8_1 < (l0.length : Int)
          · rw [if_pos c4] at H
            have c4b0 : decide (x8_1 < (l0.length : Int)) = true := decide_eq_true c4
            clear c4
            by_cases c5 : x3_1.length < 17592186044416
            · rw [if_pos c5] at H
              have LMc5 := Aside0.mk c5
              clear c5
              obtain ⟨y102, hy102⟩ : ∃ y_ : List Int, y_ = (x3_1 ++ [rd l0 x8_1]) := ⟨_, rfl⟩
              replace H : (impl_ints.l0 k1 y102 l0 (l0.length : Int) (wrap64 (x8_1 + 1))) = some r := by first | (rw [hy102]; with_reducible exact H) | (have H2_ := (Option.bind_some _ _).symm.trans H; rw [hy102]; with_reducible exact H2_) | (have H2_ := (Option.bind_some _ _).symm.trans H; with_reducible exact H2_) | with_reducible exact H | (rw [hy102]; exact H) | exact H
              have Ny102 := Aside0.mk hy102
              clear hy102
              have H' := Aside0.mk H
              clear H
              have p101 : 0 ≤ (x8_1 : Int) := of_decide_eq_true (by first | (with_reducible assumption) | assumption)
              have q101 : x8_1 < (l0.length : Int) := of_decide_eq_true (by first | (with_reducible assumption) | assumption)
              obtain ⟨ad101, e101, hx101_0⟩ := Kd.at_int HR0.out x8_1 p101 q101
              cases e101
              replace hx101_0 := (HB.out.cell (World.block_lt_of_cell? w _ hx101_0)).trans hx101_0
              replace p101 := eq_true p101
              replace q101 := eq_true q101
              go_wp2_with (first | ((with_reducible refine gate_builtin (b := .append) (xs := #[.tmp 12, .tmp 14]) rfl ?_); at_builtin; refine Kd.R_append (Kd.int .i64) (w0 := w) w.heap.size rfl (.tmp 12) (.tmp 14) 22 2 (.int .i64 0) 8 rfl Tryd.underlying22 info2 rfl (by decide) (by omega) u3 x3_1 (rd l0 x8_1) [.int .i64 (rd l0 x8_1)] (fun _ => True) (fun _ => False) rfl rfl ?aP (fun _ hk => hk.elim) ?aF ?aO ?aB ?aS ?aL ?_; (case aP => exact rfl); (case aB => exact (by repeat (first | (with_reducible first | exact HB.out | apply below_alloc | apply pw_below_drewN | apply below_drew1) | exact HB.out))); (case aF => exact (fun _ _ => trivial)); (case aO => exact (by (with_reducible repeat (first | apply Kd.R_alloc | apply Kd.R_drewN | apply Kd.R_drew)); exact HO_3.out)); (case aS => exact (below_size (by repeat (first | (with_reducible first | exact HB.out | apply below_alloc | apply pw_below_drewN | apply below_drew1) | exact HB.out)))); (case aL => have := LMc5.out; omega); intro v103 w6 ho hb hg hat; rw [← Ny102.out] at ho; have n0_ := Aside0.mk (hb); have n1_ := Aside0.mk (ho); clear HB; clear HO_3; have HB := n0_; have HO104 := n1_; clear n0_ n1_; clear ho hb hg hat))
              go_roundg k1
              case measure => have := HK1.out; omega
              case rel => exact ⟨(y102), (wrap64 (x8_1 + 1)), (by first | rfl | (simp; done) | (simp [*]; done)), H', ⟨by have := HK1.out; omega⟩, ⟨by (with_reducible repeat (first | apply Kd.R_alloc | apply Kd.R_drewN | apply Kd.R_drew)); exact HO104.out⟩, ⟨by repeat (first | (with_reducible first | exact HB.out | apply below_alloc | apply pw_below_drewN | apply below_drew1) | exact HB.out)⟩⟩
            · rw [if_neg c5] at H
              exact absurd H (by simp)
          · rw [if_neg c4] at H
            exact absurd H (by simp)
        · rw [if_neg c3] at H
          exact absurd H (by simp)
      · rw [if_neg c2] at H
        have c2b0 : decide (x8_1 < (l0.length : Int)) = false := decide_eq_false c2
        clear c2
        obtain rfl := Option.some.inj H
        go_wp2
        go_ret
        exact ⟨_, by first | rfl | (simp [errW_none, errW_some] <;> rfl) | (simp [*, errW_none, errW_some] <;> rfl), by (with_reducible repeat (first | apply Kd.R_alloc | apply Kd.R_drewN | apply Kd.R_drew)); exact HO_3.out, by repeat (first | (with_reducible first | exact HB.out | apply below_alloc | apply pw_below_drewN | apply below_drew1) | exact HB.out)⟩

-- NOT PRINTED: function 58 (impl_own)

end Go.Proofs.YtgcbnegdchladaaDoor.Z
namespace Go.Proofs.YtgcbnegdchladaaDoor.Z
open Go.RowKit Go.Proofs.YtgcbnegdchladaaDoorW.PrintWords Go.Proofs.YtgcbnegdchladaaDoorW.PrintLast Go.Proofs.YtgcbnegdchladaaDoorW.PrintMore
attribute [local go_sem] max2_int min2_int max_two min_two max_three min_three max_four min_four   -- for this text's walks alone
set_option linter.unusedVariables false
set_option linter.unusedSimpArgs false

end Go.Proofs.YtgcbnegdchladaaDoor.Z
