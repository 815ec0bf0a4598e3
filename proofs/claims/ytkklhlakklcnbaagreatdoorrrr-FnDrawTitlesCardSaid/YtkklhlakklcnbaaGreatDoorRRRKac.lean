/- Texts of this claim, joined: WMore XConv WTab WFour WFootNe WAt WEqStruct WRepsOne WInv WInvWords WGuard Y0 XPure XRaw Z0 Z1D. Of each, what the claim uses. -/
import Derived.Test.YtkklhlakklcnbaaGreatDoorRRRKaa
import Derived.Test.YtkklhlakklcnbaaGreatDoorRRRKab
import Derived.Test.YtkklhlakklcnbaaGreatDoorRRRProg
import Derived.Lib.AppendIntMem
import Derived.Lib.ConvBytes
import Derived.Laws.Runes
import Derived.Laws.StructEq
import Derived.Below
import Derived.Deep.Draws
import Derived.Deep.AppendLies
import Derived.Maps.AppendAt
import Derived.OwnWalk
import Derived.Laws.BytesArg
import Derived.Laws.MakeOwn
import Derived.Laws.OwnMore
import Derived.Deep.OwnRows
import Derived.Tactics
import Derived.Laws.Slices
import Derived.WalkKit
import Derived.KernelRfl
import Derived.RowKit3
import Derived.Deep.LoopGhost
import Derived.Deep.QuietTactic
import Derived.BigQuiet
import Derived.WideLaws
import Derived.Deep.DeepCutAuto
import Derived.Deep.CutBlock
import Derived.Deep.RegionHeld3
import Derived.Laws.Rows
import Derived.Lib.AppendStr
import Derived.ArgAppend
import Derived.Laws.IdiomCopy
import Derived.OrdersHeld
import Derived.Laws.BitsLemmas
import Derived.RowKit
section
namespace Go.Proofs.YtkklhlakklcnbaaGreatDoorRRRW.PrintMore
open Go.RowKit Go.Proofs.YtkklhlakklcnbaaGreatDoorRRRW.PrintWords
namespace Kd
open Go.Proofs.YtkklhlakklcnbaaGreatDoorRRRW.PrintWords.Kd
end Kd
namespace Kd
open Go.Proofs.YtkklhlakklcnbaaGreatDoorRRRW.PrintWords.Kd
section
variable {α : Type} {d : Kd α} {e base g N : Nat} {ok : Nat → Prop} {W w1 : World} {u v : Value} {xs : List α}
end
end Kd
/-- 'max' and 'min' of two whole numbers. -/
theorem max2_int (k k' : IntKind) (x y : Int) : Builtin.max2 (.int k x) (.int k' y) = pure (.int k (if x < y then y else x)) := by simp only [Builtin.max2, gt_iff_lt]
theorem min2_int (k k' : IntKind) (x y : Int) : Builtin.min2 (.int k x) (.int k' y) = pure (.int k (if y < x then y else x)) := by simp only [Builtin.min2]
theorem max_two (ats : Array TypeId) (ty : TypeId) (a b : Value) : Builtin.max_ ats ty #[a, b] = (Builtin.max2 a b >>= fun s => pure s) := by simp only [Builtin.max_, List.foldlM_cons, List.foldlM_nil]
theorem min_two (ats : Array TypeId) (ty : TypeId) (a b : Value) : Builtin.min_ ats ty #[a, b] = (Builtin.min2 a b >>= fun s => pure s) := by simp only [Builtin.min_, List.foldlM_cons, List.foldlM_nil]
theorem max_three (ats : Array TypeId) (ty : TypeId) (a b c : Value) : Builtin.max_ ats ty #[a, b, c] = (Builtin.max2 a b >>= fun s => Builtin.max2 s c >>= fun s => pure s) := by simp only [Builtin.max_, List.foldlM_cons, List.foldlM_nil]
theorem min_three (ats : Array TypeId) (ty : TypeId) (a b c : Value) : Builtin.min_ ats ty #[a, b, c] = (Builtin.min2 a b >>= fun s => Builtin.min2 s c >>= fun s => pure s) := by simp only [Builtin.min_, List.foldlM_cons, List.foldlM_nil]
theorem max_four (ats : Array TypeId) (ty : TypeId) (a b c d : Value) : Builtin.max_ ats ty #[a, b, c, d] = (Builtin.max2 a b >>= fun s => Builtin.max2 s c >>= fun s => Builtin.max2 s d >>= fun s => pure s) := by simp only [Builtin.max_, List.foldlM_cons, List.foldlM_nil]
theorem min_four (ats : Array TypeId) (ty : TypeId) (a b c d : Value) : Builtin.min_ ats ty #[a, b, c, d] = (Builtin.min2 a b >>= fun s => Builtin.min2 s c >>= fun s => Builtin.min2 s d >>= fun s => pure s) := by simp only [Builtin.min_, List.foldlM_cons, List.foldlM_nil]
end Go.Proofs.YtkklhlakklcnbaaGreatDoorRRRW.PrintMore
namespace Go.Proofs.YtkklhlakklcnbaaGreatDoorRRRW.PrintWords
open Go.RowKit
section
variable {P : Program} {ops : Array Oper} {rest : List Oper} {o : Oper} {a : Act} {Q : Exit → Act → World → Prop} {W : World}
/-- The operation is a call of this function (a cheap look ahead of a dear step). -/
theorem gate_callee {f : FuncId} {asx : Array Operand} {ts : Array TypeId} (_ho : o.op = .call { callee := .value (.func f), args := asx, argTypes := ts }) (h : wpList P ops Q (o :: rest) a W) : wpList P ops Q (o :: rest) a W := h
/-- The operation is a builtin over these places. -/
theorem gate_builtin {b : Builtin} {xs : Array Operand} {ts : Array TypeId} (_ho : o.op = .call { callee := .builtin b, args := xs, argTypes := ts }) (h : wpList P ops Q (o :: rest) a W) : wpList P ops Q (o :: rest) a W := h
end
/-- It says x = x, and that is its use: 'rw [drewN_self w]' fails where the world was not drawn, and the row behind it is skipped. -/
theorem drewN_self (w : World) (n : Nat) : w.drewN n = w.drewN n := rfl
namespace Kd
section
variable {α : Type} {d : Kd α} {e base : Nat} {ok : Nat → Prop} {W w1 : World} {v : Value} {xs : List α}
end
section
variable {α : Type} {d : Kd α} {e base g n cap : Nat} {ok oki okp : Nat → Prop} {W : World} {xs : List α} {i : Int} {c : List Value}
end
section
variable {α : Type} {d : Kd α} {e base b b' g N : Nat} {ok ok1 : Nat → Prop} {W W2 w1 : World} {u v : Value} {xs ys : List α} {S : Nat → Prop}
end
end Kd
end Go.Proofs.YtkklhlakklcnbaaGreatDoorRRRW.PrintWords
namespace Go.Proofs.YtkklhlakklcnbaaGreatDoorRRRW.PrintWords
open Go.RowKit
namespace Kd
/-- A row that is only read, told by its value: its form, its length, what it leads to (in ok). e and base say nothing; they make it asx the others are. -/
def V {α : Type} (d : Kd α) (_e : Nat) (W : World) (_base : Nat) (ok : Nat → Prop) (v : Value) (xs : List α) : Prop := ∃ A c, v = .slice A xs.length c ∧ xs.length ≤ c ∧ F d W ok A xs.length xs
section
variable {α β : Type} {d : Kd α} {e base base' n m c g N' lo hi : Nat} {ok ok' S : Nat → Prop} {w W w1 : World} {A : Option Addr} {ad : Addr} {u v v1 : Value} {xs : List α}
theorem V_map (h : V d e W base ok v xs) (hF : ∀ A, F d W ok A xs.length xs → F d w1 ok' A xs.length xs) : V d e w1 base' ok' v xs := by
  obtain ⟨A, c, hv, hl, hf⟩ := h
  exact ⟨A, c, hv, hl, hF A hf⟩
theorem V_mk (hl : xs.length ≤ c) (hf : F d W ok A xs.length xs) : V d e W base ok (.slice A xs.length c) xs := ⟨A, c, rfl, hl, hf⟩
theorem V_slice (h : V d e W base ok v xs) : ∃ A c, v = .slice A xs.length c := by
  obtain ⟨A, c, hv, _⟩ := h
  exact ⟨A, c, hv⟩
theorem V_at (h : V d e W base ok (.slice A n c) xs) : n = xs.length ∧ n ≤ c ∧ F d W ok A xs.length xs := by
  obtain ⟨A', c', hv, hl, hf⟩ := h
  injection hv with ha hn hc
  subst ha; subst hc
  exact ⟨hn, by rw [hn]; exact hl, hf⟩
theorem V_reads' (h : V d e W base ok (.slice A n c) xs) : n = xs.length ∧ n ≤ c ∧ d.C W A xs.length xs := ⟨(V_at h).1, (V_at h).2.1, F_now (V_at h).2.2⟩
theorem V_F (h : V d e W base ok (.slice A n c) xs) : F d W ok A n xs := by
  obtain ⟨hn, _, hf⟩ := V_at h
  rw [hn]
  exact hf
theorem V_nil (d : Kd α) (e : Nat) (W : World) (base : Nat) (ok : Nat → Prop) : V d e W base ok (.slice none 0 0) [] := ⟨none, 0, rfl, Nat.le_refl _, F_nil d W ok⟩
theorem V_mono (h : V d e W base ok v xs) (hok : ∀ k, ok k → ok' k) : V d e W base ok' v xs := V_map h (fun _ hf => F_mono hf hok)
theorem V_lower (h : V d e W base ok v xs) (_ : base' ≤ base) : V d e W base' ok v xs := h
theorem V_below (h : V d e W base ok v xs) (hb : Below W.heap.size W w1) : V d e w1 base ok v xs := V_map h (fun _ hf => F_below hf hb)
theorem V_alloc (h : V d e W base ok v xs) (o : Obj) : V d e (W.alloc o) base ok v xs := V_map h (fun _ hf => F_alloc hf o)
theorem V_drew (h : V d e W base ok v xs) : V d e W.drew base ok v xs := V_map h (fun _ hf => F_drew hf)
theorem V_drewN (h : V d e W base ok v xs) (m : Nat) : V d e (W.drewN m) base ok v xs := V_map h (fun _ hf => F_drewN hf m)
theorem V_far (h : V d e W base ok v xs) {p : Addr} (hok : ∀ k, ok k → k ≠ p.block) (u : Value) : V d e (W.setCell p u) base ok v xs := V_map h (fun _ hf => F_far hf hok u)
theorem V_elder' (h : V d e W base ok v xs) (hbase : ∀ k, u.ownBlock = some k → W.heap.size ≤ k) (hb : Below W.heap.size W w1) : V d e w1 base (fun k => ok k ∧ some k ≠ u.ownBlock) v xs := V_map h (fun _ hf => F_elder' hf hbase hb)
theorem V_elderB (h : V d e W base ok v xs) (a : Nat) (ha : W.heap.size ≤ a) : V d e W base (fun k => ok k ∧ k ≠ a) v xs := V_map h (fun _ hf => F_elderB hf a ha)
end
end Kd
end Go.Proofs.YtkklhlakklcnbaaGreatDoorRRRW.PrintWords
end
section
namespace Go.Proofs.YtkklhlakklcnbaaGreatDoorRRRW.PrintWords
open Go.RowKit
/-- '[]byte(s)', as if a call: the bytes, if they fit. -/
def gosem_conv.f (s : ByteArray) : Option (List Int) := if s.size ≤ 140737488355328 then some (bytesOf s) else none
theorem conv_ev {P : Program} {ops : Array Oper} {rest : List Oper} {o : Oper} {a : Act} {Q : Exit → Act → World → Prop} {W : World} (T U E : TypeId) {x : Operand}
    (hgd : o.guard = none) (ho : o.op = .convert T U x) (hT : P.underlying T = some .string) (hU : P.underlying U = some (.slice E)) (hE : P.underlying E = some (.int .u8))
    (s : ByteArray) (hx : a.eval x = .string s) {r : List Int} (h : gosem_conv.f s = some r)
    (k : ∀ e w', (∃ v0_ : Value, e = Ending.returned v0_ ∧ Kd.V (Kd.int .u8) E w' W.heap.size (fun k_ => (W.heap.size ≤ k_)) v0_ r ∧ Below W.heap.size W w') → ∃ v, e = Ending.returned v ∧ wpList P ops Q rest (a.put o.dst v) w') :
    wpList P ops Q (o :: rest) a W := by
  unfold gosem_conv.f at h
  split at h
  · rename_i hs
    obtain rfl := Option.some.inj h
    have hlen : (bytesOf s).length = s.size := bytesOf_length s
    have hcap : s.size ≤ grownCap W s.size 0 E := grownCap_ge _ _ _ _
    have hF : Kd.F (Kd.int .u8) (Lib.bytesWorld W E s) (fun k_ => (W.heap.size ≤ k_)) (some ⟨W.heap.size, 0, none⟩) (bytesOf s).length (bytesOf s) := fun W' hW => by
      have hb : W'.heap[W.heap.size]? = (Lib.bytesWorld W E s).heap[W.heap.size]? := hW W.heap.size (Nat.le_refl _) (by rw [Lib.bytesWorld_size]; omega)
      obtain ⟨h1, h2, h3⟩ := bytes_reads W E s (by omega)
      rw [hlen]
      refine Kd.C_of_reads (d := (0 : Int)) ⟨h1, h2, fun hn => ?_⟩
      obtain ⟨ad, he, hc⟩ := h3 hn
      refine ⟨ad, he, fun j hj => ?_⟩
      injection he with he
      subst he
      rw [World.cell?_of_block (w := Lib.bytesWorld W E s) (by rw [add_plain]; exact hb)]
      exact hc j hj
    obtain ⟨v, hv, hk⟩ := k (.returned (.slice (some ⟨W.heap.size, 0, none⟩) (bytesOf s).length (grownCap W s.size 0 E))) (Lib.bytesWorld W E s) ⟨_, rfl, Kd.V_mk (by rw [hlen]; exact hcap) hF, bytes_below (Below.refl _ _) (Nat.le_refl _) E s⟩
    injection hv with hv
    subst hv
    refine Kd.event_run hgd ?_ hk
    rw [hlen]
    unfold execOp
    simp [ho, hx, print_bytes T U E hT hU hE s W]
  · cases h
/-- Go's table of powers of ten is as its text lays it. -/
def XTab (w : World) : Prop := Lib.TabIs Tryz.prog w "internal/strconv.uint64pow10" .u64 Lib.pow10Tab
theorem XTab.below {w W : World} (h : XTab w) (hb : Below w.heap.size w W) : XTab W := Lib.tabBelow_of_tabIs h W hb
end Go.Proofs.YtkklhlakklcnbaaGreatDoorRRRW.PrintWords
end
section
/-! ### 50. A region's order in a table, made once a region: each step asks the table (numbers alone), not the operations -/
namespace Go.Proofs.YtkklhlakklcnbaaGreatDoorRRRW.PrintLast
open Go.Proofs.YtkklhlakklcnbaaGreatDoorRRRW.PrintWords (Aside0)
section
variable {md : Region.Mode} {ops : Array Oper} {T : Bool × List (List Nat × List Nat)} {l l' li lj lk : Array Bool} {ds : List Nat} {i j k : Nat}
end
end Go.Proofs.YtkklhlakklcnbaaGreatDoorRRRW.PrintLast
end
section
/-! ### 56. Four, five, six operations that may come up next, in any order -/
namespace Go.Proofs.YtkklhlakklcnbaaGreatDoorRRRW.PrintLast
section
variable {P : Program} {ops : Array Oper} {Q : Exit → Act → World → Prop} {md : Region.Mode} {S : World → Prop} {ds : List Nat} {T : Bool × List (List Nat × List Nat)}
end
end Go.Proofs.YtkklhlakklcnbaaGreatDoorRRRW.PrintLast
end
section
/-! ### 52. A row that stays read whatever happens to a block (a set of blocks) doesn't lie there -/
namespace Go.Proofs.YtkklhlakklcnbaaGreatDoorRRRW.PrintWords
open Go.RowKit
namespace Kd
section
variable {α : Type} {d : Kd α} {W : World} {g n : Nat} {S ok : Nat → Prop} {A : Option Addr} {ad : Addr} {xs : List α}
end
end Kd
end Go.Proofs.YtkklhlakklcnbaaGreatDoorRRRW.PrintWords
end
section
/-! ### 54. Behind orders that were drawn quietly: the same facts at the world's new name; a flat row's foot -/
namespace Go.Proofs.YtkklhlakklcnbaaGreatDoorRRRW.PrintWords
open Go.RowKit
section
variable {w w' u : World} {m B g : Nat} {o : Obj} {row : Option Nat} {S : Nat → Prop} {a : Addr} {v : Value}
theorem below_at (hq : w.drewN m = w') (h : Below B u w) : Below B u w' := by subst hq; exact pw_below_drewN h m
theorem blk_at (hq : w.drewN m = w') (h : w.heap[g]? = some o) : w'.heap[g]? = some o := by subst hq; exact h
end
namespace Kd
section
variable {α : Type} {d : Kd α} {e base n m : Nat} {ok : Nat → Prop} {w w' : World} {v : Value} {A : Option Addr} {xs : List α}
theorem N_at (hq : w.drewN m = w') (h : N d e w base ok v xs) : N d e w' base ok v xs := by subst hq; exact N_drewN h m
end
end Kd
end Go.Proofs.YtkklhlakklcnbaaGreatDoorRRRW.PrintWords
end
section
/-! ### 53. '==' of structs as_ one Bool -/
namespace Go.Proofs.YtkklhlakklcnbaaGreatDoorRRRW.PrintWords
open Go.RowKit
section
variable {P : Program} {d : Nat} {xs ys : Array Value} {f : Field} {fs : List Field} {a b : Value} {r s : Bool} {w : World}
end
end Go.Proofs.YtkklhlakklcnbaaGreatDoorRRRW.PrintWords
end
section
/-! ### 55. Reps told from the front, no append: for rows of one-cell elements and of wider ones -/
namespace Go.Proofs.YtkklhlakklcnbaaGreatDoorRRRW.PrintWords
/-- One cell an element. -/
theorem Reps.one {α : Type} {R : α → List Value → Prop} {ps : List α} {cs : List Value} {p : α} {v : Value} (hp : R p [v]) (h : Reps R 1 ps cs) : Reps R 1 (p :: ps) (v :: cs) := by
  refine ⟨by simp [h.1], fun j q hq => ?_⟩
  cases j with
  | zero =>
    simp only [List.getElem?_cons_zero, Option.some.injEq] at hq
    subst hq
    simpa using hp
  | succ j =>
    simp only [List.getElem?_cons_succ] at hq
    have h1 := h.2 j q hq
    simpa [Nat.mul_one] using h1
/-- More cells an element: told apart by the cells' list. -/
theorem Reps.front {α : Type} {R : α → List Value → Prop} {size : Nat} {ps : List α} {cs c all : List Value} {p : α} (hp : R p c) (hc : c.length = size) (h : Reps R size ps cs) (ha : c ++ cs = all) : Reps R size (p :: ps) all := by
  subst ha
  refine ⟨by rw [List.length_append, hc, h.1, List.length_cons, Nat.succ_mul, Nat.add_comm], fun j q hq => ?_⟩
  cases j with
  | zero =>
    simp only [List.getElem?_cons_zero, Option.some.injEq] at hq
    subst hq
    rw [Nat.zero_mul, List.drop_zero, List.take_append_of_le_length (by omega), List.take_of_length_le (by omega)]
    exact hp
  | succ j =>
    simp only [List.getElem?_cons_succ] at hq
    have h1 := h.2 j q hq
    rw [Nat.succ_mul, List.drop_append, List.drop_of_length_le (by rw [hc]; exact Nat.le_add_left _ _), List.nil_append, hc, Nat.add_sub_cancel]
    exact h1
theorem Reps.c2 {α : Type} {R : α → List Value → Prop} {ps : List α} {cs : List Value} {p : α} {va vb : Value} (hp : R p [va, vb]) (h : Reps R 2 ps cs) : Reps R 2 (p :: ps) (va :: vb :: cs) := Reps.front hp rfl h rfl
theorem Reps.c3 {α : Type} {R : α → List Value → Prop} {ps : List α} {cs : List Value} {p : α} {va vb vc : Value} (hp : R p [va, vb, vc]) (h : Reps R 3 ps cs) : Reps R 3 (p :: ps) (va :: vb :: vc :: cs) := Reps.front hp rfl h rfl
theorem Reps.c4 {α : Type} {R : α → List Value → Prop} {ps : List α} {cs : List Value} {p : α} {va vb vc vd : Value} (hp : R p [va, vb, vc, vd]) (h : Reps R 4 ps cs) : Reps R 4 (p :: ps) (va :: vb :: vc :: vd :: cs) := Reps.front hp rfl h rfl
theorem Reps.c5 {α : Type} {R : α → List Value → Prop} {ps : List α} {cs : List Value} {p : α} {va vb vc vd ve : Value} (hp : R p [va, vb, vc, vd, ve]) (h : Reps R 5 ps cs) : Reps R 5 (p :: ps) (va :: vb :: vc :: vd :: ve :: cs) := Reps.front hp rfl h rfl
theorem Reps.c6 {α : Type} {R : α → List Value → Prop} {ps : List α} {cs : List Value} {p : α} {va vb vc vd ve vf : Value} (hp : R p [va, vb, vc, vd, ve, vf]) (h : Reps R 6 ps cs) : Reps R 6 (p :: ps) (va :: vb :: vc :: vd :: ve :: vf :: cs) := Reps.front hp rfl h rfl
theorem Reps.c7 {α : Type} {R : α → List Value → Prop} {ps : List α} {cs : List Value} {p : α} {va vb vc vd ve vf vg : Value} (hp : R p [va, vb, vc, vd, ve, vf, vg]) (h : Reps R 7 ps cs) : Reps R 7 (p :: ps) (va :: vb :: vc :: vd :: ve :: vf :: vg :: cs) := Reps.front hp rfl h rfl
theorem Reps.c8 {α : Type} {R : α → List Value → Prop} {ps : List α} {cs : List Value} {p : α} {va vb vc vd ve vf vg vh : Value} (hp : R p [va, vb, vc, vd, ve, vf, vg, vh]) (h : Reps R 8 ps cs) : Reps R 8 (p :: ps) (va :: vb :: vc :: vd :: ve :: vf :: vg :: vh :: cs) := Reps.front hp rfl h rfl
theorem Reps.c9 {α : Type} {R : α → List Value → Prop} {ps : List α} {cs : List Value} {p : α} {va vb vc vd ve vf vg vh vi : Value} (hp : R p [va, vb, vc, vd, ve, vf, vg, vh, vi]) (h : Reps R 9 ps cs) : Reps R 9 (p :: ps) (va :: vb :: vc :: vd :: ve :: vf :: vg :: vh :: vi :: cs) := Reps.front hp rfl h rfl
theorem Reps.c10 {α : Type} {R : α → List Value → Prop} {ps : List α} {cs : List Value} {p : α} {va vb vc vd ve vf vg vh vi vj : Value} (hp : R p [va, vb, vc, vd, ve, vf, vg, vh, vi, vj]) (h : Reps R 10 ps cs) : Reps R 10 (p :: ps) (va :: vb :: vc :: vd :: ve :: vf :: vg :: vh :: vi :: vj :: cs) := Reps.front hp rfl h rfl
end Go.Proofs.YtkklhlakklcnbaaGreatDoorRRRW.PrintWords
end
section
/-! ### 57. A region of open order by ONE relation over what is listed so far: each operation is shown once, whatever came up before it -/
namespace Go.Proofs.YtkklhlakklcnbaaGreatDoorRRRW.PrintLast
/-- Number i is listed too. -/
def up (b : Nat → Bool) (i : Nat) : Nat → Bool := fun j => if j = i then true else b j
section
variable {P : Program} {ops : Array Oper} {Q : Exit → Act → World → Prop} {md : Region.Mode} {T : Bool × List (List Nat × List Nat)} {B : List Nat} {O : List Nat} {b : Nat → Bool} {i j n : Nat}
end
end Go.Proofs.YtkklhlakklcnbaaGreatDoorRRRW.PrintLast
end
section
namespace Go.Proofs.YtkklhlakklcnbaaGreatDoorRRRW.PrintWords
open Go.RowKit
end Go.Proofs.YtkklhlakklcnbaaGreatDoorRRRW.PrintWords
namespace Go.Proofs.YtkklhlakklcnbaaGreatDoorRRRW.PrintLast
section
variable {ops : Array Oper} {a : Act} {o og : Oper} {g : Nat} {t : Tmp} {u : Bool}
end
end Go.Proofs.YtkklhlakklcnbaaGreatDoorRRRW.PrintLast
end
section
/-! ### 58. A guarded operation whose guard is known to want it: the same goal without the guard -/
namespace Go.Proofs.YtkklhlakklcnbaaGreatDoorRRRW.PrintWords
open Go.RowKit
section
variable {P : Program} {ops : Array Oper} {rest : List Oper} {o : Oper} {a : Act} {Q : Exit → Act → World → Prop} {W : World}
/-- The gate takes the guard off (hw: 'by rfl', 'by kernel_rfl': the guard's slot holds what is wanted). -/
theorem gate_guard (hw : Region.wanted o (yielded ops a.tmps) = true) (h : wpList P ops Q ({ o with guard := none } :: rest) a W) : wpList P ops Q (o :: rest) a W := by
  have h1 : Region.wanted { o with guard := none } (yielded ops a.tmps) = true := rfl
  unfold wpList at h ⊢
  rw [if_pos h1] at h
  rw [if_pos hw]
  exact h
end
end Go.Proofs.YtkklhlakklcnbaaGreatDoorRRRW.PrintWords
end
section
namespace Go.Proofs.YtkklhlakklcnbaaGreatDoorRRR.Y
open Go.RowKit Go.Proofs.YtkklhlakklcnbaaGreatDoorRRRW.PrintWords Go.Proofs.YtkklhlakklcnbaaGreatDoorRRRW.PrintLast Go.Proofs.YtkklhlakklcnbaaGreatDoorRRRW.PrintMore
attribute [local go_sem] max2_int min2_int max_two min_two max_three min_three max_four min_four   -- for this text's walks alone
set_option linter.unusedVariables false
set_option linter.unusedSimpArgs false
def errW : Option Int → Value
  | none => .nilIface
  | some c => .iface 0 (.int .i64 c)
theorem errW_none : errW none = .nilIface := rfl
theorem errW_some (c : Int) : errW (some c) = .iface 0 (.int .i64 c) := rfl
theorem info2 : (Tryz.prog.info? 2).map (fun i => (i.zero, i.size, i.bytes)) = some (some (.int .i64 0), 1, 8) := by kernel_rfl
theorem info9 : (Tryz.prog.info? 9).map (fun i => (i.zero, i.size, i.bytes)) = some (some (.string ⟨#[]⟩), 1, 16) := by kernel_rfl
-- the values' own types
/-! #### struct type 74 -/
structure S74 where
  f0 : Int
  f1 : Int
  f2 : Int
  f3 : Int
  f4 : (List Int)
  f5 : (List Int)
def z74 : S74 := ⟨(0 : Int), (0 : Int), (0 : Int), (0 : Int), ([] : List Int), ([] : List Int)⟩
def k74 : Kd S74 := Kd.iso (Kd.pair (Kd.int .i64) (Kd.pair (Kd.int .i64) (Kd.pair (Kd.int .u8) (Kd.pair (Kd.int .i64) (Kd.pair (Kd.slice 2 (Kd.int .i64)) (Kd.slice 5 (Kd.int .u8))))))) (fun x : S74 => (x.f0, x.f1, x.f2, x.f3, x.f4, x.f5))
theorem k74_open {w : World} {x : S74} {cs : List Value} (h : k74.K w x cs) : ∃ A4 c4 A5 c5, cs = [.int .i64 x.f0, .int .i64 x.f1, .int .u8 x.f2, .int .i64 x.f3, .slice A4 x.f4.length c4, .slice A5 x.f5.length c5] ∧ x.f4.length ≤ c4 ∧ (Kd.int .i64).C w A4 x.f4.length x.f4 ∧ x.f5.length ≤ c5 ∧ (Kd.int .u8).C w A5 x.f5.length x.f5 := by
  obtain ⟨_, _, rfl, rfl, ⟨_, _, rfl, rfl, ⟨_, _, rfl, rfl, ⟨_, _, rfl, rfl, ⟨_, _, rfl, ⟨A4, c4, rfl, l4, g4⟩, ⟨A5, c5, rfl, l5, g5⟩⟩⟩⟩⟩⟩ := h
  exact ⟨A4, c4, A5, c5, rfl, l4, g4, l5, g5⟩
theorem k74_openM {w : World} {base : Nat} {ok : Nat → Prop} {x : S74} {cs : List Value} (h : k74.M w base ok x cs) : ∃ v4 v5, cs = [.int .i64 x.f0, .int .i64 x.f1, .int .u8 x.f2, .int .i64 x.f3, v4, v5] ∧ (Kd.int .i64).R 2 w base ok v4 x.f4 ∧ (Kd.int .u8).R 5 w base ok v5 x.f5 := by
  obtain ⟨_, _, rfl, rfl, ⟨_, _, rfl, rfl, ⟨_, _, rfl, rfl, ⟨_, _, rfl, rfl, ⟨_, _, rfl, ⟨v4, rfl, g4⟩, ⟨v5, rfl, g5⟩⟩⟩⟩⟩⟩ := h
  exact ⟨v4, v5, rfl, g4, g5⟩
theorem k74_mkM (w : World) (base : Nat) (ok : Nat → Prop) (x : S74) {v4 : Value} (g4 : (Kd.int .i64).R 2 w base ok v4 x.f4) {v5 : Value} (g5 : (Kd.int .u8).R 5 w base ok v5 x.f5) : k74.M w base ok x [.int .i64 x.f0, .int .i64 x.f1, .int .u8 x.f2, .int .i64 x.f3, v4, v5] := ⟨[.int .i64 x.f0], [.int .i64 x.f1, .int .u8 x.f2, .int .i64 x.f3, v4, v5], rfl, rfl, ⟨[.int .i64 x.f1], [.int .u8 x.f2, .int .i64 x.f3, v4, v5], rfl, rfl, ⟨[.int .u8 x.f2], [.int .i64 x.f3, v4, v5], rfl, rfl, ⟨[.int .i64 x.f3], [v4, v5], rfl, rfl, ⟨[v4], [v5], rfl, ⟨v4, rfl, g4⟩, ⟨v5, rfl, g5⟩⟩⟩⟩⟩⟩
theorem k74_openF {W : World} {ok : Nat → Prop} {x : S74} {cs : List Value} (h : Kd.FK k74 W ok x cs) : ∃ A4 c4 A5 c5, cs = [.int .i64 x.f0, .int .i64 x.f1, .int .u8 x.f2, .int .i64 x.f3, .slice A4 x.f4.length c4, .slice A5 x.f5.length c5] ∧ x.f4.length ≤ c4 ∧ Kd.F (Kd.int .i64) W ok A4 x.f4.length x.f4 ∧ x.f5.length ≤ c5 ∧ Kd.F (Kd.int .u8) W ok A5 x.f5.length x.f5 := by
  obtain ⟨A4, c4, A5, c5, rfl, l4, _, l5, _⟩ := k74_open (Kd.FK_now h)
  exact ⟨A4, c4, A5, c5, rfl, l4, (fun W' hW => by obtain ⟨A4_, c4_, A5_, c5_, he, l4_, g4_, l5_, g5_⟩ := k74_open (h W' hW); injection (Option.some.inj (show some (Value.slice A4 x.f4.length c4) = some (Value.slice A4_ x.f4.length c4_) from congrArg (fun l => l[4]?) he)) with ha_ _ _; rw [ha_]; exact g4_), l5, (fun W' hW => by obtain ⟨A4_, c4_, A5_, c5_, he, l4_, g4_, l5_, g5_⟩ := k74_open (h W' hW); injection (Option.some.inj (show some (Value.slice A5 x.f5.length c5) = some (Value.slice A5_ x.f5.length c5_) from congrArg (fun l => l[5]?) he)) with ha_ _ _; rw [ha_]; exact g5_)⟩
def rd_T74 (xs : List S74) (i : Int) : S74 := xs.getD i.toNat z74
theorem at_T74 {w : World} {A : Option Addr} {n : Nat} {xs : List S74} (h : Kd.C k74 w A n xs) (i : Int) (h0 : 0 ≤ i) (h1 : i < n) : ∃ ad A4 c4 A5 c5, A = some ad ∧ w.cell? (ad.add (i.toNat * 6)) = some (.int .i64 (rd_T74 xs i).f0) ∧ w.cell? ⟨(ad.add (i.toNat * 6)).block, (ad.add (i.toNat * 6)).off + 1, none⟩ = some (.int .i64 (rd_T74 xs i).f1) ∧ w.cell? ⟨(ad.add (i.toNat * 6)).block, (ad.add (i.toNat * 6)).off + 2, none⟩ = some (.int .u8 (rd_T74 xs i).f2) ∧ w.cell? ⟨(ad.add (i.toNat * 6)).block, (ad.add (i.toNat * 6)).off + 3, none⟩ = some (.int .i64 (rd_T74 xs i).f3) ∧ w.cell? ⟨(ad.add (i.toNat * 6)).block, (ad.add (i.toNat * 6)).off + 4, none⟩ = some (.slice A4 (rd_T74 xs i).f4.length c4) ∧ w.cell? ⟨(ad.add (i.toNat * 6)).block, (ad.add (i.toNat * 6)).off + 5, none⟩ = some (.slice A5 (rd_T74 xs i).f5.length c5) ∧ (rd_T74 xs i).f4.length ≤ c4 ∧ (Kd.int .i64).C w A4 (rd_T74 xs i).f4.length (rd_T74 xs i).f4 ∧ (rd_T74 xs i).f5.length ≤ c5 ∧ (Kd.int .u8).C w A5 (rd_T74 xs i).f5.length (rd_T74 xs i).f5 := by
  obtain ⟨ad, c, e, _, hK, hc0⟩ := Kd.C_get h z74 i h0 h1
  have hc : ∀ j u, c[j]? = some u → w.cell? (ad.add (i.toNat * 6 + j)) = some u := hc0
  obtain ⟨A4, c4, A5, c5, rfl, l4, g4, l5, g5⟩ := k74_open hK
  exact ⟨ad, A4, c4, A5, c5, e, hc 0 _ rfl, by rw [← add_field _ _ 1 (by omega)]; exact hc 1 _ rfl, by rw [← add_field _ _ 2 (by omega)]; exact hc 2 _ rfl, by rw [← add_field _ _ 3 (by omega)]; exact hc 3 _ rfl, by rw [← add_field _ _ 4 (by omega)]; exact hc 4 _ rfl, by rw [← add_field _ _ 5 (by omega)]; exact hc 5 _ rfl, l4, g4, l5, g5⟩
/-! #### struct type 76 -/
structure S76 where
  f0 : Int
  f1 : Int
  f2 : Int
  f3 : Int
  f4 : (List Int)
  f5 : (List Int)
def z76 : S76 := ⟨(0 : Int), (0 : Int), (0 : Int), (0 : Int), ([] : List Int), ([] : List Int)⟩
def k76 : Kd S76 := Kd.iso (Kd.pair (Kd.int .i64) (Kd.pair (Kd.int .i64) (Kd.pair (Kd.int .u8) (Kd.pair (Kd.int .i64) (Kd.pair (Kd.slice 2 (Kd.int .i64)) (Kd.slice 5 (Kd.int .u8))))))) (fun x : S76 => (x.f0, x.f1, x.f2, x.f3, x.f4, x.f5))
theorem k76_open {w : World} {x : S76} {cs : List Value} (h : k76.K w x cs) : ∃ A4 c4 A5 c5, cs = [.int .i64 x.f0, .int .i64 x.f1, .int .u8 x.f2, .int .i64 x.f3, .slice A4 x.f4.length c4, .slice A5 x.f5.length c5] ∧ x.f4.length ≤ c4 ∧ (Kd.int .i64).C w A4 x.f4.length x.f4 ∧ x.f5.length ≤ c5 ∧ (Kd.int .u8).C w A5 x.f5.length x.f5 := by
  obtain ⟨_, _, rfl, rfl, ⟨_, _, rfl, rfl, ⟨_, _, rfl, rfl, ⟨_, _, rfl, rfl, ⟨_, _, rfl, ⟨A4, c4, rfl, l4, g4⟩, ⟨A5, c5, rfl, l5, g5⟩⟩⟩⟩⟩⟩ := h
  exact ⟨A4, c4, A5, c5, rfl, l4, g4, l5, g5⟩
theorem k76_mk (w : World) (x : S76) {A4 : Option Addr} {c4 : Nat} (l4 : x.f4.length ≤ c4) (g4 : (Kd.int .i64).C w A4 x.f4.length x.f4) {A5 : Option Addr} {c5 : Nat} (l5 : x.f5.length ≤ c5) (g5 : (Kd.int .u8).C w A5 x.f5.length x.f5) : k76.K w x [.int .i64 x.f0, .int .i64 x.f1, .int .u8 x.f2, .int .i64 x.f3, .slice A4 x.f4.length c4, .slice A5 x.f5.length c5] := ⟨[.int .i64 x.f0], [.int .i64 x.f1, .int .u8 x.f2, .int .i64 x.f3, .slice A4 x.f4.length c4, .slice A5 x.f5.length c5], rfl, rfl, ⟨[.int .i64 x.f1], [.int .u8 x.f2, .int .i64 x.f3, .slice A4 x.f4.length c4, .slice A5 x.f5.length c5], rfl, rfl, ⟨[.int .u8 x.f2], [.int .i64 x.f3, .slice A4 x.f4.length c4, .slice A5 x.f5.length c5], rfl, rfl, ⟨[.int .i64 x.f3], [.slice A4 x.f4.length c4, .slice A5 x.f5.length c5], rfl, rfl, ⟨[.slice A4 x.f4.length c4], [.slice A5 x.f5.length c5], rfl, ⟨A4, c4, rfl, l4, g4⟩, ⟨A5, c5, rfl, l5, g5⟩⟩⟩⟩⟩⟩
theorem k76_mkF (W : World) (ok : Nat → Prop) (x : S76) {A4 : Option Addr} {c4 : Nat} (l4 : x.f4.length ≤ c4) (g4 : Kd.F (Kd.int .i64) W ok A4 x.f4.length x.f4) {A5 : Option Addr} {c5 : Nat} (l5 : x.f5.length ≤ c5) (g5 : Kd.F (Kd.int .u8) W ok A5 x.f5.length x.f5) : Kd.FK k76 W ok x [.int .i64 x.f0, .int .i64 x.f1, .int .u8 x.f2, .int .i64 x.f3, .slice A4 x.f4.length c4, .slice A5 x.f5.length c5] := fun W2 hW => k76_mk W2 x l4 (g4 W2 hW) l5 (g5 W2 hW)
def rd_T76 (xs : List S76) (i : Int) : S76 := xs.getD i.toNat z76
theorem at_T76 {w : World} {A : Option Addr} {n : Nat} {xs : List S76} (h : Kd.C k76 w A n xs) (i : Int) (h0 : 0 ≤ i) (h1 : i < n) : ∃ ad A4 c4 A5 c5, A = some ad ∧ w.cell? (ad.add (i.toNat * 6)) = some (.int .i64 (rd_T76 xs i).f0) ∧ w.cell? ⟨(ad.add (i.toNat * 6)).block, (ad.add (i.toNat * 6)).off + 1, none⟩ = some (.int .i64 (rd_T76 xs i).f1) ∧ w.cell? ⟨(ad.add (i.toNat * 6)).block, (ad.add (i.toNat * 6)).off + 2, none⟩ = some (.int .u8 (rd_T76 xs i).f2) ∧ w.cell? ⟨(ad.add (i.toNat * 6)).block, (ad.add (i.toNat * 6)).off + 3, none⟩ = some (.int .i64 (rd_T76 xs i).f3) ∧ w.cell? ⟨(ad.add (i.toNat * 6)).block, (ad.add (i.toNat * 6)).off + 4, none⟩ = some (.slice A4 (rd_T76 xs i).f4.length c4) ∧ w.cell? ⟨(ad.add (i.toNat * 6)).block, (ad.add (i.toNat * 6)).off + 5, none⟩ = some (.slice A5 (rd_T76 xs i).f5.length c5) ∧ (rd_T76 xs i).f4.length ≤ c4 ∧ (Kd.int .i64).C w A4 (rd_T76 xs i).f4.length (rd_T76 xs i).f4 ∧ (rd_T76 xs i).f5.length ≤ c5 ∧ (Kd.int .u8).C w A5 (rd_T76 xs i).f5.length (rd_T76 xs i).f5 := by
  obtain ⟨ad, c, e, _, hK, hc0⟩ := Kd.C_get h z76 i h0 h1
  have hc : ∀ j u, c[j]? = some u → w.cell? (ad.add (i.toNat * 6 + j)) = some u := hc0
  obtain ⟨A4, c4, A5, c5, rfl, l4, g4, l5, g5⟩ := k76_open hK
  exact ⟨ad, A4, c4, A5, c5, e, hc 0 _ rfl, by rw [← add_field _ _ 1 (by omega)]; exact hc 1 _ rfl, by rw [← add_field _ _ 2 (by omega)]; exact hc 2 _ rfl, by rw [← add_field _ _ 3 (by omega)]; exact hc 3 _ rfl, by rw [← add_field _ _ 4 (by omega)]; exact hc 4 _ rfl, by rw [← add_field _ _ 5 (by omega)]; exact hc 5 _ rfl, l4, g4, l5, g5⟩
/-! #### struct type 70 -/
structure S70 where
  f0 : Int
  f1 : ByteArray
def z70 : S70 := ⟨(0 : Int), (⟨#[]⟩ : ByteArray)⟩
def k70 : Kd S70 := Kd.iso (Kd.pair (Kd.int .u8) Kd.string) (fun x : S70 => (x.f0, x.f1))
theorem k70_open {w : World} {x : S70} {cs : List Value} (h : k70.K w x cs) : cs = [.int .u8 x.f0, .string x.f1] := by
  obtain ⟨_, _, rfl, rfl, rfl⟩ := h
  exact rfl
theorem k70_mk (w : World) (x : S70)  : k70.K w x [.int .u8 x.f0, .string x.f1] := ⟨[.int .u8 x.f0], [.string x.f1], rfl, rfl, rfl⟩
def rd_T70 (xs : List S70) (i : Int) : S70 := xs.getD i.toNat z70
theorem at_T70 {w : World} {A : Option Addr} {n : Nat} {xs : List S70} (h : Kd.C k70 w A n xs) (i : Int) (h0 : 0 ≤ i) (h1 : i < n) : ∃ ad , A = some ad ∧ w.cell? (ad.add (i.toNat * 2)) = some (.int .u8 (rd_T70 xs i).f0) ∧ w.cell? ⟨(ad.add (i.toNat * 2)).block, (ad.add (i.toNat * 2)).off + 1, none⟩ = some (.string (rd_T70 xs i).f1) := by
  obtain ⟨ad, c, e, _, hK, hc0⟩ := Kd.C_get h z70 i h0 h1
  have hc : ∀ j u, c[j]? = some u → w.cell? (ad.add (i.toNat * 2 + j)) = some u := hc0
  obtain rfl := k70_open hK
  exact ⟨ad, e, hc 0 _ rfl, by rw [← add_field _ _ 1 (by omega)]; exact hc 1 _ rfl⟩
end Go.Proofs.YtkklhlakklcnbaaGreatDoorRRR.Y
end
section
namespace Go.Proofs.YtkklhlakklcnbaaGreatDoorRRR.X
/-- What a handler is told. -/
structure Ev where
  kind : Int
  rune : Int
  byte : Int
  cmd : Int
  params : List Int
  data : List Int
deriving DecidableEq
/-- The value that says: no parameter, no command. -/
def Miss : Int := 2147483647
/-- Where the parser stands: ground, behind ESC, in a control sequence (1 entry, 2 intermediate, 3 parameters), in a device's one (4 entry, 6 parameters, 7 its string), in a system command, in an application's command. -/
inductive PS where
  | gr
  | esc
  | csi (k : Nat) (cmd : Int) (ps : List Int) (cur : Int)
  | dcs (k : Nat) (cmd : Int) (ps : List Int) (cur : Int)
  | dstr (cmd : Int) (ps : List Int) (cur : Int) (data : List Int)
  | osc (cmd : Int) (data : List Int)
  | apc (data : List Int)
deriving DecidableEq
/-- A digit behind a parameter. -/
def digit (cur : Int) (b : Nat) : Int := (if cur = Miss then 0 else cur) * 10 + ((b : Int) - 48)
/-- The parameters at the end: the last one counts if it is there, or if there are others. -/
def closed (ps : List Int) (cur : Int) : List Int := if ps = [] ∧ cur = Miss then [] else ps ++ [cur]
/-- The number at the head of a system command's data. -/
def strCmd : List Int → Int → Int
  | [], c => c
  | d :: r, c => if 48 ≤ d ∧ d ≤ 57 then strCmd r ((if c = Miss then 0 else c) * 10 + (d - 48)) else c
/-- How many digits stand at the head. -/
def heads : List Int → Nat
  | [] => 0
  | d :: r => if 48 ≤ d ∧ d ≤ 57 then heads r + 1 else 0
def evPrint (b : Nat) : Ev := ⟨0, b, 0, 0, [], []⟩
def evExec (b : Nat) : Ev := ⟨1, 0, b, 0, [], []⟩
def evCsi (cmd : Int) (ps : List Int) : Ev := ⟨2, 0, 0, cmd, ps, []⟩
def evEsc (b : Nat) : Ev := ⟨3, 0, 0, b, [], []⟩
def evDcs (cmd : Int) (ps data : List Int) : Ev := ⟨4, 0, 0, cmd, ps, data⟩
def evOsc (cmd : Int) (data : List Int) : Ev := ⟨5, 0, 0, cmd, [], data⟩
def evApc (data : List Int) : Ev := ⟨7, 0, 0, 0, [], data⟩
/-- One byte; none: a byte of which nothing is said. -/
def step : PS → Nat → Option (PS × List Ev)
  | .gr, b => if b = 27 then some (.esc, []) else if 32 ≤ b ∧ b ≤ 126 then some (.gr, [evPrint b]) else if b < 32 then some (.gr, [evExec b]) else none
  | .esc, b =>
    if b = 91 then some (.csi 1 0 [] Miss, [])
    else if b = 93 then some (.osc Miss [], [])
    else if b = 80 then some (.dcs 4 0 [] Miss, [])
    else if b = 95 then some (.apc [], [])
    else if b = 55 ∨ b = 56 ∨ b = 92 then some (.gr, [evEsc b])
    else none
  | .csi k cmd ps cur, b =>
    if 64 ≤ b ∧ b ≤ 126 then some (.gr, [evCsi (cmd + b) (closed ps cur)])
    else if 48 ≤ b ∧ b ≤ 57 ∧ k ≠ 2 then (if cur ≤ 100000 ∨ cur = Miss then some (.csi 3 cmd ps (digit cur b), []) else none)
    else if b = 59 ∧ k ≠ 2 then (if ps.length < 29 then some (.csi 3 cmd (ps ++ [cur]) Miss, []) else none)
    else if 60 ≤ b ∧ b ≤ 63 ∧ k = 1 then some (.csi 3 (b * 256) ps cur, [])
    else if 32 ≤ b ∧ b ≤ 47 ∧ k ≠ 2 then some (.csi 2 (cmd + b * 65536) ps cur, [])
    else none
  | .dcs _ cmd ps cur, b =>
    if 64 ≤ b ∧ b ≤ 126 then some (.dstr (cmd + b) ps cur [], [])
    else if 48 ≤ b ∧ b ≤ 57 then (if cur ≤ 100000 ∨ cur = Miss then some (.dcs 6 cmd ps (digit cur b), []) else none)
    else if b = 59 then (if ps.length < 29 then some (.dcs 6 cmd (ps ++ [cur]) Miss, []) else none)
    else none
  | .dstr cmd ps cur data, b =>
    if 32 ≤ b ∧ b ≤ 126 then (if data.length < 4096 then some (.dstr cmd ps cur (data ++ [(b : Int)]), []) else none)
    else if b = 27 then some (.esc, [evDcs cmd (closed ps cur) data])
    else none
  | .osc cmd data, b =>
    if 32 ≤ b ∧ b ≤ 126 then
      (if data.length < 4096 then
        (if b = 59 ∧ cmd = Miss then (if heads data ≤ 6 then some (.osc (strCmd data Miss) (data ++ [(b : Int)]), []) else none) else some (.osc cmd (data ++ [(b : Int)]), []))
      else none)
    else if b = 7 ∨ b = 27 then
      (if cmd = Miss then (if heads data ≤ 6 then some (if b = 7 then .gr else .esc, [evOsc (strCmd data Miss) data]) else none)
      else some (if b = 7 then .gr else .esc, [evOsc cmd data]))
    else none
  | .apc data, b =>
    if 32 ≤ b ∧ b ≤ 126 then (if data.length < 4096 then some (.apc (data ++ [(b : Int)]), []) else none)
    else if b = 27 then some (.esc, [evApc data])
    else none
/-- Bytes, one by one. -/
def run : PS → List Nat → Option (PS × List Ev)
  | s, [] => some (s, [])
  | s, b :: r => (step s b).bind fun x => (run x.1 r).map fun y => (y.1, x.2 ++ y.2)
theorem run_append (l m : List Nat) : ∀ s, run s (l ++ m) = (run s l).bind fun x => (run x.1 m).map fun y => (y.1, x.2 ++ y.2) := by
  induction l with
  | nil => intro s; simp [run]
  | cons b r ih =>
    intro s
    simp only [List.cons_append, run]
    cases h : step s b with
    | none => simp
    | some x =>
      simp only [Option.bind_some, ih]
      cases h2 : run x.1 r with
      | none => simp
      | some y =>
        simp only [Option.bind_some, Option.map_some]
        cases h3 : run y.1 m with
        | none => simp
        | some z => simp [List.append_assoc]
/-- A run is known piece by piece. -/
theorem run_of {s t u : PS} {l m : List Nat} {e f : List Ev} (h : run s l = some (t, e)) (k : run t m = some (u, f)) : run s (l ++ m) = some (u, e ++ f) := by
  rw [run_append, h]
  simp [k]
end Go.Proofs.YtkklhlakklcnbaaGreatDoorRRR.X
end
section
namespace Go.Proofs.YtkklhlakklcnbaaGreatDoorRRR.X
open Go.RowKit Go.Proofs.YtkklhlakklcnbaaGreatDoorRRRW.PrintWords Go.Proofs.YtkklhlakklcnbaaGreatDoorRRRW.PrintLast Go.Proofs.YtkklhlakklcnbaaGreatDoorRRRW.PrintMore
abbrev SEv := Y.S74
abbrev kEv : Kd SEv := Y.k74
def toS (e : Ev) : SEv := ⟨e.kind, e.rune, e.byte, e.cmd, e.params, e.data⟩
/-- Where things lie: the parser, its parameters, its data, the handlers' captured cell, the events' cell, the row of bytes that is read; blocks below B were there before the call, blocks from L0 on are new. -/
structure Loc where
  (B L0 P pp pd box out own : Nat)
/-- What the parser's block says, and the two rows. -/
structure RawSt where
  (st cmd plen dlen : Int)
  (pc dc : List Int)
def fnv (f : Nat) (L : Loc) : Value := .func (.func f) #[] #[.pointer (some ⟨L.box, 0, none⟩)]
def pcells (L : Loc) (r : RawSt) : Array Value :=
  #[fnv 118 L, fnv 119 L, fnv 120 L, fnv 122 L, fnv 123 L, fnv 124 L, fnv 125 L, fnv 126 L, fnv 127 L,
    .slice (some ⟨L.pp, 0, none⟩) 32 32, .slice (some ⟨L.pd, 0, none⟩) 4096 4096, .int .i64 r.dlen, .int .i64 r.plen, .int .i64 r.cmd, .int .u8 r.st]
def ints (k : IntKind) (l : List Int) : Array Value := (l.map (Value.int k)).toArray
structure Raw (w : World) (L : Loc) (r : RawSt) : Prop where
  hP : w.heap[L.P]? = some (.cells (pcells L r) 121 (0, 0))
  hpp : w.heap[L.pp]? = some (.cells (ints .i64 r.pc) 3 (0, 0))
  hpd : w.heap[L.pd]? = some (.cells (ints .u8 r.dc) 5 (0, 0))
  hbox : w.heap[L.box]? = some (.cells #[.pointer (some ⟨L.out, 0, none⟩)] 82 (0, 0))
  lpc : r.pc.length = 32
  ldc : r.dc.length = 4096
  bP : L.B ≤ L.P
  bpp : L.B ≤ L.pp
  bpd : L.B ≤ L.pd
  bout : L.B ≤ L.out
  bL : L.B ≤ L.L0
  tP : L.P < L.L0
  tpp : L.pp < L.L0
  tpd : L.pd < L.L0
  tbox : L.box < L.L0
  tout : L.out < L.L0
  size : L.L0 ≤ w.heap.size
/-- The events so far. -/
def Evs (w : World) (L : Loc) (evs : List Ev) : Prop :=
  ∃ v, w.heap[L.out]? = some (.cells #[v] 28 (0, 0)) ∧ Kd.S kEv 74 w L.L0 (fun k => L.L0 ≤ k) v (evs.map toS)
/-- All that the parser's methods keep: w0 is the world in which the call began. -/
structure Inv (w0 w : World) (L : Loc) (r : RawSt) (evs : List Ev) : Prop where
  raw : Raw w L r
  evs : Evs w L evs
  below : Below L.B w0 w
  own : ∀ j, j < L.L0 → j ≠ L.P → j ≠ L.pp → j ≠ L.pd → j ≠ L.out → w.heap[j]? = w0.heap[j]?
  olt : L.own < L.L0
  oP : L.own ≠ L.P
  opp : L.own ≠ L.pp
  opd : L.own ≠ L.pd
  oout : L.own ≠ L.out
/-- What a handler leaves alone: every block below L0 but the events' cell. -/
structure Frm (L : Loc) (w w' : World) : Prop where
  size : w.heap.size ≤ w'.heap.size
  keep : ∀ i, i < L.L0 → i ≠ L.out → w'.heap[i]? = w.heap[i]?
  below : Below L.B w w'
section
variable {w0 w w' : World} {L : Loc} {r : RawSt} {evs : List Ev}
theorem Raw.P_ne_pp (h : Raw w L r) : L.P ≠ L.pp := blk_ne h.hP h.hpp (by decide)
theorem Raw.P_ne_pd (h : Raw w L r) : L.P ≠ L.pd := blk_ne h.hP h.hpd (by decide)
theorem Raw.P_ne_box (h : Raw w L r) : L.P ≠ L.box := blk_ne h.hP h.hbox (by decide)
theorem Raw.pp_ne_pd (h : Raw w L r) : L.pp ≠ L.pd := blk_ne h.hpp h.hpd (by decide)
theorem Raw.pp_ne_box (h : Raw w L r) : L.pp ≠ L.box := blk_ne h.hpp h.hbox (by decide)
theorem Raw.pd_ne_box (h : Raw w L r) : L.pd ≠ L.box := blk_ne h.hpd h.hbox (by decide)
theorem Inv.P_ne_out (h : Inv w0 w L r evs) : L.P ≠ L.out := by
  obtain ⟨v, hv, _⟩ := h.evs
  exact blk_ne h.raw.hP hv (by decide)
theorem Inv.pp_ne_out (h : Inv w0 w L r evs) : L.pp ≠ L.out := by
  obtain ⟨v, hv, _⟩ := h.evs
  exact blk_ne h.raw.hpp hv (by decide)
theorem Inv.pd_ne_out (h : Inv w0 w L r evs) : L.pd ≠ L.out := by
  obtain ⟨v, hv, _⟩ := h.evs
  exact blk_ne h.raw.hpd hv (by decide)
theorem Inv.box_ne_out (h : Inv w0 w L r evs) : L.box ≠ L.out := by
  obtain ⟨v, hv, _⟩ := h.evs
  exact blk_ne h.raw.hbox hv (by decide)
theorem Raw.cell (h : Raw w L r) (i : Nat) : w.cell? ⟨L.P, i, none⟩ = (pcells L r)[i]? := blk_cell h.hP i
theorem Raw.frozen (h : Raw w L r) (i : Nat) : w.frozen? ⟨L.P, i, none⟩ = false := blk_frozen h.hP i
theorem Raw.pcell (h : Raw w L r) (i : Nat) (hi : i < 32) : w.cell? ⟨L.pp, i, none⟩ = some (.int .i64 (r.pc.getD i 0)) := by
  rw [blk_cell h.hpp i]
  simp [ints, List.getElem?_eq_getElem (show i < r.pc.length by rw [h.lpc]; exact hi)]
theorem Raw.pfrozen (h : Raw w L r) (i : Nat) : w.frozen? ⟨L.pp, i, none⟩ = false := blk_frozen h.hpp i
theorem Raw.dcell (h : Raw w L r) (i : Nat) (hi : i < 4096) : w.cell? ⟨L.pd, i, none⟩ = some (.int .u8 (r.dc.getD i 0)) := by
  rw [blk_cell h.hpd i]
  simp [ints, List.getElem?_eq_getElem (show i < r.dc.length by rw [h.ldc]; exact hi)]
theorem Raw.dfrozen (h : Raw w L r) (i : Nat) : w.frozen? ⟨L.pd, i, none⟩ = false := blk_frozen h.hpd i
/-- A store into the parser's own block. -/
theorem Raw.setP (h : Raw w L r) (i : Nat) (v : Value) {r' : RawSt} (hc : (pcells L r).setIfInBounds i v = pcells L r') (hpc : r'.pc = r.pc) (hdc : r'.dc = r.dc) : Raw (w.setCell ⟨L.P, i, none⟩ v) L r' :=
  { hP := by rw [← hc]; exact blk_set h.hP i v
    hpp := by rw [hpc]; exact blk_far h.hpp (p := ⟨L.P, i, none⟩) (Ne.symm h.P_ne_pp) v
    hpd := by rw [hdc]; exact blk_far h.hpd (p := ⟨L.P, i, none⟩) (Ne.symm h.P_ne_pd) v
    hbox := blk_far h.hbox (p := ⟨L.P, i, none⟩) (Ne.symm h.P_ne_box) v
    lpc := by rw [hpc]; exact h.lpc
    ldc := by rw [hdc]; exact h.ldc
    bP := h.bP, bpp := h.bpp, bpd := h.bpd, bout := h.bout, bL := h.bL, tP := h.tP, tpp := h.tpp, tpd := h.tpd, tbox := h.tbox, tout := h.tout
    size := by simpa [World.setCell] using h.size }
theorem ints_set (k : IntKind) (l : List Int) (i : Nat) (x : Int) : (ints k l).setIfInBounds i (.int k x) = ints k (l.set i x) := by
  simp [ints, List.map_set]
theorem Raw.setPP (h : Raw w L r) (i : Nat) (x : Int) : Raw (w.setCell ⟨L.pp, i, none⟩ (.int .i64 x)) L { r with pc := r.pc.set i x } :=
  { hP := blk_far h.hP (p := ⟨L.pp, i, none⟩) h.P_ne_pp _
    hpp := by rw [← ints_set]; exact blk_set h.hpp i _
    hpd := blk_far h.hpd (p := ⟨L.pp, i, none⟩) (Ne.symm h.pp_ne_pd) _
    hbox := blk_far h.hbox (p := ⟨L.pp, i, none⟩) (Ne.symm h.pp_ne_box) _
    lpc := by simpa using h.lpc
    ldc := h.ldc
    bP := h.bP, bpp := h.bpp, bpd := h.bpd, bout := h.bout, bL := h.bL, tP := h.tP, tpp := h.tpp, tpd := h.tpd, tbox := h.tbox, tout := h.tout
    size := by simpa [World.setCell] using h.size }
theorem Raw.setPD (h : Raw w L r) (i : Nat) (x : Int) : Raw (w.setCell ⟨L.pd, i, none⟩ (.int .u8 x)) L { r with dc := r.dc.set i x } :=
  { hP := blk_far h.hP (p := ⟨L.pd, i, none⟩) h.P_ne_pd _
    hpp := blk_far h.hpp (p := ⟨L.pd, i, none⟩) h.pp_ne_pd _
    hpd := by rw [← ints_set]; exact blk_set h.hpd i _
    hbox := blk_far h.hbox (p := ⟨L.pd, i, none⟩) (Ne.symm h.pd_ne_box) _
    lpc := h.lpc
    ldc := by simpa using h.ldc
    bP := h.bP, bpp := h.bpp, bpd := h.bpd, bout := h.bout, bL := h.bL, tP := h.tP, tpp := h.tpp, tpd := h.tpd, tbox := h.tbox, tout := h.tout
    size := by simpa [World.setCell] using h.size }
theorem Evs.far (h : Evs w L evs) {p : Addr} (hp : p.block < L.L0) (ho : L.out ≠ p.block) (v : Value) : Evs (w.setCell p v) L evs := by
  obtain ⟨x, hx, hS⟩ := h
  exact ⟨x, blk_far hx ho v, Kd.S_far hS (fun k hk e => by omega) v⟩
theorem Inv.setP (h : Inv w0 w L r evs) (i : Nat) (v : Value) {r' : RawSt} (hc : (pcells L r).setIfInBounds i v = pcells L r') (hpc : r'.pc = r.pc) (hdc : r'.dc = r.dc) : Inv w0 (w.setCell ⟨L.P, i, none⟩ v) L r' evs :=
  ⟨h.raw.setP i v hc hpc hdc, h.evs.far (p := ⟨L.P, i, none⟩) h.raw.tP (Ne.symm h.P_ne_out) v, h.below.setCell h.raw.bP v, fun j h1 h2 h3 h4 h5 => (Below.heap_setCell w ⟨L.P, i, none⟩ v _ h2).trans (h.own j h1 h2 h3 h4 h5), h.olt, h.oP, h.opp, h.opd, h.oout⟩
theorem Inv.setPP (h : Inv w0 w L r evs) (i : Nat) (x : Int) : Inv w0 (w.setCell ⟨L.pp, i, none⟩ (.int .i64 x)) L { r with pc := r.pc.set i x } evs :=
  ⟨h.raw.setPP i x, h.evs.far (p := ⟨L.pp, i, none⟩) h.raw.tpp (Ne.symm h.pp_ne_out) _, h.below.setCell h.raw.bpp _, fun j h1 h2 h3 h4 h5 => (Below.heap_setCell w ⟨L.pp, i, none⟩ _ _ h3).trans (h.own j h1 h2 h3 h4 h5), h.olt, h.oP, h.opp, h.opd, h.oout⟩
theorem Inv.setPD (h : Inv w0 w L r evs) (i : Nat) (x : Int) : Inv w0 (w.setCell ⟨L.pd, i, none⟩ (.int .u8 x)) L { r with dc := r.dc.set i x } evs :=
  ⟨h.raw.setPD i x, h.evs.far (p := ⟨L.pd, i, none⟩) h.raw.tpd (Ne.symm h.pd_ne_out) _, h.below.setCell h.raw.bpd _, fun j h1 h2 h3 h4 h5 => (Below.heap_setCell w ⟨L.pd, i, none⟩ _ _ h4).trans (h.own j h1 h2 h3 h4 h5), h.olt, h.oP, h.opp, h.opd, h.oout⟩
theorem Inv.setCmd (h : Inv w0 w L r evs) (x : Int) : Inv w0 (w.setCell ⟨L.P, 13, none⟩ (.int .i64 x)) L { r with cmd := x } evs := h.setP 13 _ (by rfl) rfl rfl
theorem Inv.setPlen (h : Inv w0 w L r evs) (x : Int) : Inv w0 (w.setCell ⟨L.P, 12, none⟩ (.int .i64 x)) L { r with plen := x } evs := h.setP 12 _ (by rfl) rfl rfl
theorem Inv.setDlen (h : Inv w0 w L r evs) (x : Int) : Inv w0 (w.setCell ⟨L.P, 11, none⟩ (.int .i64 x)) L { r with dlen := x } evs := h.setP 11 _ (by rfl) rfl rfl
theorem Inv.setSt (h : Inv w0 w L r evs) (x : Int) : Inv w0 (w.setCell ⟨L.P, 14, none⟩ (.int .u8 x)) L { r with st := x } evs := h.setP 14 _ (by rfl) rfl rfl
/-- Behind draws, new blocks. -/
theorem Inv.grow (h : Inv w0 w L r evs) (hb : Below w.heap.size w w') : Inv w0 w' L r evs :=
  have k := h.raw
  ⟨{ hP := blk_below k.hP hb, hpp := blk_below k.hpp hb, hpd := blk_below k.hpd hb, hbox := blk_below k.hbox hb, lpc := k.lpc, ldc := k.ldc, bP := k.bP, bpp := k.bpp, bpd := k.bpd, bout := k.bout, bL := k.bL, tP := k.tP, tpp := k.tpp, tpd := k.tpd, tbox := k.tbox, tout := k.tout, size := Nat.le_trans k.size hb.size },
   by obtain ⟨x, hx, hS⟩ := h.evs; exact ⟨x, blk_below hx hb, Kd.S_below hS hb⟩,
   h.below.trans (hb.mono (Nat.le_trans k.bL k.size)), fun j h1 h2 h3 h4 h5 => (hb.block _ (Nat.lt_of_lt_of_le h1 k.size)).trans (h.own j h1 h2 h3 h4 h5), h.olt, h.oP, h.opp, h.opd, h.oout⟩
/-- Behind a handler. -/
theorem Inv.told (h : Inv w0 w L r evs) (hf : Frm L w w') {evs' : List Ev} (he : Evs w' L evs') : Inv w0 w' L r evs' :=
  have k := h.raw
  ⟨{ hP := (hf.keep _ k.tP h.P_ne_out).trans k.hP, hpp := (hf.keep _ k.tpp h.pp_ne_out).trans k.hpp, hpd := (hf.keep _ k.tpd h.pd_ne_out).trans k.hpd, hbox := (hf.keep _ k.tbox h.box_ne_out).trans k.hbox, lpc := k.lpc, ldc := k.ldc, bP := k.bP, bpp := k.bpp, bpd := k.bpd, bout := k.bout, bL := k.bL, tP := k.tP, tpp := k.tpp, tpd := k.tpd, tbox := k.tbox, tout := k.tout, size := Nat.le_trans k.size hf.size },
   he, h.below.trans hf.below, fun j h1 h2 h3 h4 h5 => (hf.keep _ h1 h5).trans (h.own j h1 h2 h3 h4 h5), h.olt, h.oP, h.opp, h.opd, h.oout⟩
end
end Go.Proofs.YtkklhlakklcnbaaGreatDoorRRR.X
end
section
namespace Go.Proofs.YtkklhlakklcnbaaGreatDoorRRR.Z
open Go.RowKit Go.Proofs.YtkklhlakklcnbaaGreatDoorRRRW.PrintWords Go.Proofs.YtkklhlakklcnbaaGreatDoorRRRW.PrintLast Go.Proofs.YtkklhlakklcnbaaGreatDoorRRRW.PrintMore
attribute [local go_sem] max2_int min2_int max_two min_two max_three min_three max_four min_four   -- for this text's walks alone
set_option linter.unusedVariables false
set_option linter.unusedSimpArgs false
def errW : Option Int → Value
  | none => .nilIface
  | some c => .iface 0 (.int .i64 c)
theorem errW_none : errW none = .nilIface := rfl
theorem errW_some (c : Int) : errW (some c) = .iface 0 (.int .i64 c) := rfl
theorem info2 : (Tryz.prog.info? 2).map (fun i => (i.zero, i.size, i.bytes)) = some (some (.int .i64 0), 1, 8) := by kernel_rfl
-- the values' own types
end Go.Proofs.YtkklhlakklcnbaaGreatDoorRRR.Z
end
section
namespace Go.Proofs.YtkklhlakklcnbaaGreatDoorRRR.Z
open Go.RowKit Go.Proofs.YtkklhlakklcnbaaGreatDoorRRRW.PrintWords Go.Proofs.YtkklhlakklcnbaaGreatDoorRRRW.PrintLast Go.Proofs.YtkklhlakklcnbaaGreatDoorRRRW.PrintMore
attribute [local go_sem] max2_int min2_int max_two min_two max_three min_three max_four min_four   -- for this text's walks alone
set_option linter.unusedVariables false
set_option linter.unusedSimpArgs false
/-! ### impl_ints: function 121 -/
def impl_ints.l0 : Nat → List Int → List Int → Int → Int → Option (List Int)
  | 0, _, _, _, _ => none
  | k + 1, x3, x6, x7, x8 => if x8 < x7 then (if 0 ≤ x8 then (if x8 < (x6.length : Int) then (if x3.length < 17592186044416 then (impl_ints.l0 k (x3 ++ [rd x6 x8]) x6 x7 (wrap64 (x8 + 1))) else (none)) else (none)) else (none)) else (some x3)
def impl_ints.f (k : Nat) (l0 : List Int) : Option (List Int) := impl_ints.l0 k ([] : List Int) l0 (l0.length : Int) 0
theorem impl_ints.mono_l : ∀ k, (∀ y0 y1 y2 y3, LeO (impl_ints.l0 k y0 y1 y2 y3) (impl_ints.l0 (k + 1) y0 y1 y2 y3))
  | 0 => fun _ _ _ _ r h => by simp [impl_ints.l0] at h
  | k + 1 => by
    have ih0 := impl_ints.mono_l k
    · intro y0 y1 y2 y3
      unfold impl_ints.l0
      repeat' first
      | (with_reducible exact ih0 _ _ _ _)
      | (with_reducible exact LeO.refl _)
      | (with_reducible exact LeO.none _)
      | (with_reducible refine LeO.ite ?_ ?_)
      | (with_reducible refine LeO.bind ?_ (fun _ => ?_))
      | exact ih0 _ _ _ _
      | exact LeO.none _
      | refine LeO.ite ?_ ?_
      | refine LeO.bind ?_ (fun _ => ?_)
theorem impl_ints.mono : ∀ a0 k, LeO (impl_ints.f k a0) (impl_ints.f (k + 1) a0) := by
  intro a0 k
  have ih0 := impl_ints.mono_l k
  unfold impl_ints.f
  repeat' first
      | (with_reducible exact ih0 _ _ _ _)
      | (with_reducible exact LeO.refl _)
      | (with_reducible exact LeO.none _)
      | (with_reducible refine LeO.ite ?_ ?_)
      | (with_reducible refine LeO.bind ?_ (fun _ => ?_))
      | exact ih0 _ _ _ _
      | exact LeO.none _
      | refine LeO.ite ?_ ?_
      | refine LeO.bind ?_ (fun _ => ?_)
end Go.Proofs.YtkklhlakklcnbaaGreatDoorRRR.Z
end
