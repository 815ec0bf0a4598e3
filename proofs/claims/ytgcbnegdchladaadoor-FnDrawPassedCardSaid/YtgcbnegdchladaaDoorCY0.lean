-- Written by a program of this session (wip/tool/xprint.py, round the kit's print.py). Lean checks it.
import Derived.Test.YtgcbnegdchladaaDoorProg
import Derived.Below
import Derived.Deep.Draws
import Derived.Deep.AppendLies
import Derived.Maps.AppendAt
import Derived.OwnWalk
import Derived.Laws.BytesArg
import Derived.Laws.MakeOwn
import Derived.Laws.OwnMore
import Derived.Deep.OwnRows
import Derived.Tactics
import Derived.Lib.ConvBytes
import Derived.Laws.Slices
import Derived.WalkKit
import Derived.KernelRfl
import Derived.RowKit3
import Derived.Deep.LoopGhost
import Derived.Deep.QuietTactic
import Derived.BigQuiet
import Derived.WideLaws
import Derived.Deep.DeepCutAuto
import Derived.Deep.CutBlock
import Derived.Deep.RegionHeld3
import Derived.Laws.Rows
import Derived.Lib.AppendStr
import Derived.ArgAppend
import Derived.Laws.IdiomCopy
import Derived.OrdersHeld
import Derived.Laws.BitsLemmas
import Derived.RowKit
import Derived.Test.YtgcbnegdchladaaDoorCBase
import Derived.Test.YtgcbnegdchladaaDoorWWords
import Derived.Test.YtgcbnegdchladaaDoorWLast
import Derived.Test.YtgcbnegdchladaaDoorWTab
import Derived.Test.YtgcbnegdchladaaDoorWFour
import Derived.Test.YtgcbnegdchladaaDoorWQPut
import Derived.Test.YtgcbnegdchladaaDoorWApart
import Derived.Test.YtgcbnegdchladaaDoorWArr
import Derived.Test.YtgcbnegdchladaaDoorWZeros
import Derived.Test.YtgcbnegdchladaaDoorWFoot
import Derived.Test.YtgcbnegdchladaaDoorWKept
import Derived.Test.YtgcbnegdchladaaDoorWShare
import Derived.Test.YtgcbnegdchladaaDoorWN
import Derived.Test.YtgcbnegdchladaaDoorWFootNe
import Derived.Test.YtgcbnegdchladaaDoorWAt
import Derived.Test.YtgcbnegdchladaaDoorWEqStruct
import Derived.Test.YtgcbnegdchladaaDoorWRepsOne
import Derived.Test.YtgcbnegdchladaaDoorWInv
import Derived.Test.YtgcbnegdchladaaDoorWInvWords
import Derived.Test.YtgcbnegdchladaaDoorWGuard
import Derived.Test.YtgcbnegdchladaaDoorWNEv
import Derived.Test.YtgcbnegdchladaaDoorWMore
namespace Go.Proofs.YtgcbnegdchladaaDoor.Y
open Go.RowKit Go.Proofs.YtgcbnegdchladaaDoorW.PrintWords Go.Proofs.YtgcbnegdchladaaDoorW.PrintLast Go.Proofs.YtgcbnegdchladaaDoorW.PrintMore
attribute [local go_sem] max2_int min2_int max_two min_two max_three min_three max_four min_four   -- for this text's walks alone
set_option linter.unusedVariables false
set_option linter.unusedSimpArgs false



def errW : Option Int → Value
  | none => .nilIface
  | some c => .iface 0 (.int .i64 c)
theorem errW_none : errW none = .nilIface := rfl
theorem errW_some (c : Int) : errW (some c) = .iface 0 (.int .i64 c) := rfl

theorem info2 : (Tryd.prog.info? 2).map (fun i => (i.zero, i.size, i.bytes)) = some (some (.int .i64 0), 1, 8) := by kernel_rfl
theorem info5 : (Tryd.prog.info? 5).map (fun i => (i.zero, i.size, i.bytes)) = some (some (.int .u8 0), 1, 1) := by kernel_rfl
theorem info9 : (Tryd.prog.info? 9).map (fun i => (i.zero, i.size, i.bytes)) = some (some (.string ⟨#[]⟩), 1, 16) := by kernel_rfl
theorem info36 : (Tryd.prog.info? 36).map (fun i => (i.zero, i.size, i.bytes)) = some (some (.agg #[(.int .i64 0), (.int .i64 0), (.int .u8 0), (.int .i64 0), (.slice none 0 0), (.slice none 0 0)]), 6, 80) := by kernel_rfl
theorem info39 : (Tryd.prog.info? 39).map (fun i => (i.zero, i.size, i.bytes)) = some (some (.agg #[(.int .i64 0), (.int .i64 0), (.int .u8 0), (.int .i64 0), (.slice none 0 0), (.slice none 0 0)]), 6, 80) := by kernel_rfl
-- the values' own types
def rd_L3 (xs : List (List Int)) (i : Int) : (List Int) := xs.getD i.toNat ([] : List Int)
theorem at_L3 {w : World} {A : Option Addr} {n : Nat} {xs : List (List Int)} (h : Kd.C (Kd.slice 5 (Kd.int .u8)) w A n xs) (i : Int) (h0 : 0 ≤ i) (h1 : i < n) : ∃ ad A0 c0, A = some ad ∧ w.cell? (ad.add i.toNat) = some (.slice A0 (rd_L3 xs i).length c0) ∧ (rd_L3 xs i).length ≤ c0 ∧ (Kd.int .u8).C w A0 (rd_L3 xs i).length (rd_L3 xs i) := by
  obtain ⟨ad, c, e, _, hK, hc0⟩ := Kd.C_get h ([] : List Int) i h0 h1
  have hc : ∀ j u, c[j]? = some u → w.cell? (ad.add (i.toNat * 1 + j)) = some u := hc0
  obtain ⟨A0, c0, rfl, l0, g0⟩ := hK
  exact ⟨ad, A0, c0, e, by have hq := hc 0 _ rfl; rwa [Nat.mul_one, Nat.add_zero] at hq, l0, g0⟩

def rd_L4 (xs : List (List Int)) (i : Int) : (List Int) := xs.getD i.toNat ([] : List Int)
theorem at_L4 {w : World} {A : Option Addr} {n : Nat} {xs : List (List Int)} (h : Kd.C (Kd.slice 2 (Kd.int .i64)) w A n xs) (i : Int) (h0 : 0 ≤ i) (h1 : i < n) : ∃ ad A0 c0, A = some ad ∧ w.cell? (ad.add i.toNat) = some (.slice A0 (rd_L4 xs i).length c0) ∧ (rd_L4 xs i).length ≤ c0 ∧ (Kd.int .i64).C w A0 (rd_L4 xs i).length (rd_L4 xs i) := by
  obtain ⟨ad, c, e, _, hK, hc0⟩ := Kd.C_get h ([] : List Int) i h0 h1
  have hc : ∀ j u, c[j]? = some u → w.cell? (ad.add (i.toNat * 1 + j)) = some u := hc0
  obtain ⟨A0, c0, rfl, l0, g0⟩ := hK
  exact ⟨ad, A0, c0, e, by have hq := hc 0 _ rfl; rwa [Nat.mul_one, Nat.add_zero] at hq, l0, g0⟩

/-! #### struct type 36 -/
structure S36 where
  f0 : Int
  f1 : Int
  f2 : Int
  f3 : Int
  f4 : (List Int)
  f5 : (List Int)
def z36 : S36 := ⟨(0 : Int), (0 : Int), (0 : Int), (0 : Int), ([] : List Int), ([] : List Int)⟩
def k36 : Kd S36 := Kd.iso (Kd.pair (Kd.int .i64) (Kd.pair (Kd.int .i64) (Kd.pair (Kd.int .u8) (Kd.pair (Kd.int .i64) (Kd.pair (Kd.slice 2 (Kd.int .i64)) (Kd.slice 5 (Kd.int .u8))))))) (fun x : S36 => (x.f0, x.f1, x.f2, x.f3, x.f4, x.f5))
theorem k36_open {w : World} {x : S36} {cs : List Value} (h : k36.K w x cs) : ∃ A4 c4 A5 c5, cs = [.int .i64 x.f0, .int .i64 x.f1, .int .u8 x.f2, .int .i64 x.f3, .slice A4 x.f4.length c4, .slice A5 x.f5.length c5] ∧ x.f4.length ≤ c4 ∧ (Kd.int .i64).C w A4 x.f4.length x.f4 ∧ x.f5.length ≤ c5 ∧ (Kd.int .u8).C w A5 x.f5.length x.f5 := by
  obtain ⟨_, _, rfl, rfl, ⟨_, _, rfl, rfl, ⟨_, _, rfl, rfl, ⟨_, _, rfl, rfl, ⟨_, _, rfl, ⟨A4, c4, rfl, l4, g4⟩, ⟨A5, c5, rfl, l5, g5⟩⟩⟩⟩⟩⟩ := h
  exact ⟨A4, c4, A5, c5, rfl, l4, g4, l5, g5⟩
theorem k36_openM {w : World} {base : Nat} {ok : Nat → Prop} {x : S36} {cs : List Value} (h : k36.M w base ok x cs) : ∃ v4 v5, cs = [.int .i64 x.f0, .int .i64 x.f1, .int .u8 x.f2, .int .i64 x.f3, v4, v5] ∧ (Kd.int .i64).R 2 w base ok v4 x.f4 ∧ (Kd.int .u8).R 5 w base ok v5 x.f5 := by
  obtain ⟨_, _, rfl, rfl, ⟨_, _, rfl, rfl, ⟨_, _, rfl, rfl, ⟨_, _, rfl, rfl, ⟨_, _, rfl, ⟨v4, rfl, g4⟩, ⟨v5, rfl, g5⟩⟩⟩⟩⟩⟩ := h
  exact ⟨v4, v5, rfl, g4, g5⟩
theorem k36_mk (w : World) (x : S36) {A4 : Option Addr} {c4 : Nat} (l4 : x.f4.length ≤ c4) (g4 : (Kd.int .i64).C w A4 x.f4.length x.f4) {A5 : Option Addr} {c5 : Nat} (l5 : x.f5.length ≤ c5) (g5 : (Kd.int .u8).C w A5 x.f5.length x.f5) : k36.K w x [.int .i64 x.f0, .int .i64 x.f1, .int .u8 x.f2, .int .i64 x.f3, .slice A4 x.f4.length c4, .slice A5 x.f5.length c5] := ⟨[.int .i64 x.f0], [.int .i64 x.f1, .int .u8 x.f2, .int .i64 x.f3, .slice A4 x.f4.length c4, .slice A5 x.f5.length c5], rfl, rfl, ⟨[.int .i64 x.f1], [.int .u8 x.f2, .int .i64 x.f3, .slice A4 x.f4.length c4, .slice A5 x.f5.length c5], rfl, rfl, ⟨[.int .u8 x.f2], [.int .i64 x.f3, .slice A4 x.f4.length c4, .slice A5 x.f5.length c5], rfl, rfl, ⟨[.int .i64 x.f3], [.slice A4 x.f4.length c4, .slice A5 x.f5.length c5], rfl, rfl, ⟨[.slice A4 x.f4.length c4], [.slice A5 x.f5.length c5], rfl, ⟨A4, c4, rfl, l4, g4⟩, ⟨A5, c5, rfl, l5, g5⟩⟩⟩⟩⟩⟩
theorem k36_mkM (w : World) (base : Nat) (ok : Nat → Prop) (x : S36) {v4 : Value} (g4 : (Kd.int .i64).R 2 w base ok v4 x.f4) {v5 : Value} (g5 : (Kd.int .u8).R 5 w base ok v5 x.f5) : k36.M w base ok x [.int .i64 x.f0, .int .i64 x.f1, .int .u8 x.f2, .int .i64 x.f3, v4, v5] := ⟨[.int .i64 x.f0], [.int .i64 x.f1, .int .u8 x.f2, .int .i64 x.f3, v4, v5], rfl, rfl, ⟨[.int .i64 x.f1], [.int .u8 x.f2, .int .i64 x.f3, v4, v5], rfl, rfl, ⟨[.int .u8 x.f2], [.int .i64 x.f3, v4, v5], rfl, rfl, ⟨[.int .i64 x.f3], [v4, v5], rfl, rfl, ⟨[v4], [v5], rfl, ⟨v4, rfl, g4⟩, ⟨v5, rfl, g5⟩⟩⟩⟩⟩⟩
theorem k36_openF {W : World} {ok : Nat → Prop} {x : S36} {cs : List Value} (h : Kd.FK k36 W ok x cs) : ∃ A4 c4 A5 c5, cs = [.int .i64 x.f0, .int .i64 x.f1, .int .u8 x.f2, .int .i64 x.f3, .slice A4 x.f4.length c4, .slice A5 x.f5.length c5] ∧ x.f4.length ≤ c4 ∧ Kd.F (Kd.int .i64) W ok A4 x.f4.length x.f4 ∧ x.f5.length ≤ c5 ∧ Kd.F (Kd.int .u8) W ok A5 x.f5.length x.f5 := by
  obtain ⟨A4, c4, A5, c5, rfl, l4, _, l5, _⟩ := k36_open (Kd.FK_now h)
  exact ⟨A4, c4, A5, c5, rfl, l4, (fun W' hW => by obtain ⟨A4_, c4_, A5_, c5_, he, l4_, g4_, l5_, g5_⟩ := k36_open (h W' hW); injection (Option.some.inj (show some (Value.slice A4 x.f4.length c4) = some (Value.slice A4_ x.f4.length c4_) from congrArg (fun l => l[4]?) he)) with ha_ _ _; rw [ha_]; exact g4_), l5, (fun W' hW => by obtain ⟨A4_, c4_, A5_, c5_, he, l4_, g4_, l5_, g5_⟩ := k36_open (h W' hW); injection (Option.some.inj (show some (Value.slice A5 x.f5.length c5) = some (Value.slice A5_ x.f5.length c5_) from congrArg (fun l => l[5]?) he)) with ha_ _ _; rw [ha_]; exact g5_)⟩
theorem k36_mkF (W : World) (ok : Nat → Prop) (x : S36) {A4 : Option Addr} {c4 : Nat} (l4 : x.f4.length ≤ c4) (g4 : Kd.F (Kd.int .i64) W ok A4 x.f4.length x.f4) {A5 : Option Addr} {c5 : Nat} (l5 : x.f5.length ≤ c5) (g5 : Kd.F (Kd.int .u8) W ok A5 x.f5.length x.f5) : Kd.FK k36 W ok x [.int .i64 x.f0, .int .i64 x.f1, .int .u8 x.f2, .int .i64 x.f3, .slice A4 x.f4.length c4, .slice A5 x.f5.length c5] := fun W2 hW => k36_mk W2 x l4 (g4 W2 hW) l5 (g5 W2 hW)
def rd_T36 (xs : List S36) (i : Int) : S36 := xs.getD i.toNat z36
theorem at_T36 {w : World} {A : Option Addr} {n : Nat} {xs : List S36} (h : Kd.C k36 w A n xs) (i : Int) (h0 : 0 ≤ i) (h1 : i < n) : ∃ ad A4 c4 A5 c5, A = some ad ∧ w.cell? (ad.add (i.toNat * 6)) = some (.int .i64 (rd_T36 xs i).f0) ∧ w.cell? ⟨(ad.add (i.toNat * 6)).block, (ad.add (i.toNat * 6)).off + 1, none⟩ = some (.int .i64 (rd_T36 xs i).f1) ∧ w.cell? ⟨(ad.add (i.toNat * 6)).block, (ad.add (i.toNat * 6)).off + 2, none⟩ = some (.int .u8 (rd_T36 xs i).f2) ∧ w.cell? ⟨(ad.add (i.toNat * 6)).block, (ad.add (i.toNat * 6)).off + 3, none⟩ = some (.int .i64 (rd_T36 xs i).f3) ∧ w.cell? ⟨(ad.add (i.toNat * 6)).block, (ad.add (i.toNat * 6)).off + 4, none⟩ = some (.slice A4 (rd_T36 xs i).f4.length c4) ∧ w.cell? ⟨(ad.add (i.toNat * 6)).block, (ad.add (i.toNat * 6)).off + 5, none⟩ = some (.slice A5 (rd_T36 xs i).f5.length c5) ∧ (rd_T36 xs i).f4.length ≤ c4 ∧ (Kd.int .i64).C w A4 (rd_T36 xs i).f4.length (rd_T36 xs i).f4 ∧ (rd_T36 xs i).f5.length ≤ c5 ∧ (Kd.int .u8).C w A5 (rd_T36 xs i).f5.length (rd_T36 xs i).f5 := by
  obtain ⟨ad, c, e, _, hK, hc0⟩ := Kd.C_get h z36 i h0 h1
  have hc : ∀ j u, c[j]? = some u → w.cell? (ad.add (i.toNat * 6 + j)) = some u := hc0
  obtain ⟨A4, c4, A5, c5, rfl, l4, g4, l5, g5⟩ := k36_open hK
  exact ⟨ad, A4, c4, A5, c5, e, hc 0 _ rfl, by rw [← add_field _ _ 1 (by omega)]; exact hc 1 _ rfl, by rw [← add_field _ _ 2 (by omega)]; exact hc 2 _ rfl, by rw [← add_field _ _ 3 (by omega)]; exact hc 3 _ rfl, by rw [← add_field _ _ 4 (by omega)]; exact hc 4 _ rfl, by rw [← add_field _ _ 5 (by omega)]; exact hc 5 _ rfl, l4, g4, l5, g5⟩

def rd_L6 (xs : List (List S36)) (i : Int) : (List S36) := xs.getD i.toNat ([] : List S36)
theorem at_L6 {w : World} {A : Option Addr} {n : Nat} {xs : List (List S36)} (h : Kd.C (Kd.slice 36 k36) w A n xs) (i : Int) (h0 : 0 ≤ i) (h1 : i < n) : ∃ ad A0 c0, A = some ad ∧ w.cell? (ad.add i.toNat) = some (.slice A0 (rd_L6 xs i).length c0) ∧ (rd_L6 xs i).length ≤ c0 ∧ k36.C w A0 (rd_L6 xs i).length (rd_L6 xs i) := by
  obtain ⟨ad, c, e, _, hK, hc0⟩ := Kd.C_get h ([] : List S36) i h0 h1
  have hc : ∀ j u, c[j]? = some u → w.cell? (ad.add (i.toNat * 1 + j)) = some u := hc0
  obtain ⟨A0, c0, rfl, l0, g0⟩ := hK
  exact ⟨ad, A0, c0, e, by have hq := hc 0 _ rfl; rwa [Nat.mul_one, Nat.add_zero] at hq, l0, g0⟩

/-! #### struct type 39 -/
structure S39 where
  f0 : Int
  f1 : Int
  f2 : Int
  f3 : Int
  f4 : (List Int)
  f5 : (List Int)
def z39 : S39 := ⟨(0 : Int), (0 : Int), (0 : Int), (0 : Int), ([] : List Int), ([] : List Int)⟩
def k39 : Kd S39 := Kd.iso (Kd.pair (Kd.int .i64) (Kd.pair (Kd.int .i64) (Kd.pair (Kd.int .u8) (Kd.pair (Kd.int .i64) (Kd.pair (Kd.slice 2 (Kd.int .i64)) (Kd.slice 5 (Kd.int .u8))))))) (fun x : S39 => (x.f0, x.f1, x.f2, x.f3, x.f4, x.f5))
theorem k39_open {w : World} {x : S39} {cs : List Value} (h : k39.K w x cs) : ∃ A4 c4 A5 c5, cs = [.int .i64 x.f0, .int .i64 x.f1, .int .u8 x.f2, .int .i64 x.f3, .slice A4 x.f4.length c4, .slice A5 x.f5.length c5] ∧ x.f4.length ≤ c4 ∧ (Kd.int .i64).C w A4 x.f4.length x.f4 ∧ x.f5.length ≤ c5 ∧ (Kd.int .u8).C w A5 x.f5.length x.f5 := by
  obtain ⟨_, _, rfl, rfl, ⟨_, _, rfl, rfl, ⟨_, _, rfl, rfl, ⟨_, _, rfl, rfl, ⟨_, _, rfl, ⟨A4, c4, rfl, l4, g4⟩, ⟨A5, c5, rfl, l5, g5⟩⟩⟩⟩⟩⟩ := h
  exact ⟨A4, c4, A5, c5, rfl, l4, g4, l5, g5⟩
theorem k39_openM {w : World} {base : Nat} {ok : Nat → Prop} {x : S39} {cs : List Value} (h : k39.M w base ok x cs) : ∃ v4 v5, cs = [.int .i64 x.f0, .int .i64 x.f1, .int .u8 x.f2, .int .i64 x.f3, v4, v5] ∧ (Kd.int .i64).R 2 w base ok v4 x.f4 ∧ (Kd.int .u8).R 5 w base ok v5 x.f5 := by
  obtain ⟨_, _, rfl, rfl, ⟨_, _, rfl, rfl, ⟨_, _, rfl, rfl, ⟨_, _, rfl, rfl, ⟨_, _, rfl, ⟨v4, rfl, g4⟩, ⟨v5, rfl, g5⟩⟩⟩⟩⟩⟩ := h
  exact ⟨v4, v5, rfl, g4, g5⟩
theorem k39_mk (w : World) (x : S39) {A4 : Option Addr} {c4 : Nat} (l4 : x.f4.length ≤ c4) (g4 : (Kd.int .i64).C w A4 x.f4.length x.f4) {A5 : Option Addr} {c5 : Nat} (l5 : x.f5.length ≤ c5) (g5 : (Kd.int .u8).C w A5 x.f5.length x.f5) : k39.K w x [.int .i64 x.f0, .int .i64 x.f1, .int .u8 x.f2, .int .i64 x.f3, .slice A4 x.f4.length c4, .slice A5 x.f5.length c5] := ⟨[.int .i64 x.f0], [.int .i64 x.f1, .int .u8 x.f2, .int .i64 x.f3, .slice A4 x.f4.length c4, .slice A5 x.f5.length c5], rfl, rfl, ⟨[.int .i64 x.f1], [.int .u8 x.f2, .int .i64 x.f3, .slice A4 x.f4.length c4, .slice A5 x.f5.length c5], rfl, rfl, ⟨[.int .u8 x.f2], [.int .i64 x.f3, .slice A4 x.f4.length c4, .slice A5 x.f5.length c5], rfl, rfl, ⟨[.int .i64 x.f3], [.slice A4 x.f4.length c4, .slice A5 x.f5.length c5], rfl, rfl, ⟨[.slice A4 x.f4.length c4], [.slice A5 x.f5.length c5], rfl, ⟨A4, c4, rfl, l4, g4⟩, ⟨A5, c5, rfl, l5, g5⟩⟩⟩⟩⟩⟩
theorem k39_mkM (w : World) (base : Nat) (ok : Nat → Prop) (x : S39) {v4 : Value} (g4 : (Kd.int .i64).R 2 w base ok v4 x.f4) {v5 : Value} (g5 : (Kd.int .u8).R 5 w base ok v5 x.f5) : k39.M w base ok x [.int .i64 x.f0, .int .i64 x.f1, .int .u8 x.f2, .int .i64 x.f3, v4, v5] := ⟨[.int .i64 x.f0], [.int .i64 x.f1, .int .u8 x.f2, .int .i64 x.f3, v4, v5], rfl, rfl, ⟨[.int .i64 x.f1], [.int .u8 x.f2, .int .i64 x.f3, v4, v5], rfl, rfl, ⟨[.int .u8 x.f2], [.int .i64 x.f3, v4, v5], rfl, rfl, ⟨[.int .i64 x.f3], [v4, v5], rfl, rfl, ⟨[v4], [v5], rfl, ⟨v4, rfl, g4⟩, ⟨v5, rfl, g5⟩⟩⟩⟩⟩⟩
theorem k39_openF {W : World} {ok : Nat → Prop} {x : S39} {cs : List Value} (h : Kd.FK k39 W ok x cs) : ∃ A4 c4 A5 c5, cs = [.int .i64 x.f0, .int .i64 x.f1, .int .u8 x.f2, .int .i64 x.f3, .slice A4 x.f4.length c4, .slice A5 x.f5.length c5] ∧ x.f4.length ≤ c4 ∧ Kd.F (Kd.int .i64) W ok A4 x.f4.length x.f4 ∧ x.f5.length ≤ c5 ∧ Kd.F (Kd.int .u8) W ok A5 x.f5.length x.f5 := by
  obtain ⟨A4, c4, A5, c5, rfl, l4, _, l5, _⟩ := k39_open (Kd.FK_now h)
  exact ⟨A4, c4, A5, c5, rfl, l4, (fun W' hW => by obtain ⟨A4_, c4_, A5_, c5_, he, l4_, g4_, l5_, g5_⟩ := k39_open (h W' hW); injection (Option.some.inj (show some (Value.slice A4 x.f4.length c4) = some (Value.slice A4_ x.f4.length c4_) from congrArg (fun l => l[4]?) he)) with ha_ _ _; rw [ha_]; exact g4_), l5, (fun W' hW => by obtain ⟨A4_, c4_, A5_, c5_, he, l4_, g4_, l5_, g5_⟩ := k39_open (h W' hW); injection (Option.some.inj (show some (Value.slice A5 x.f5.length c5) = some (Value.slice A5_ x.f5.length c5_) from congrArg (fun l => l[5]?) he)) with ha_ _ _; rw [ha_]; exact g5_)⟩
theorem k39_mkF (W : World) (ok : Nat → Prop) (x : S39) {A4 : Option Addr} {c4 : Nat} (l4 : x.f4.length ≤ c4) (g4 : Kd.F (Kd.int .i64) W ok A4 x.f4.length x.f4) {A5 : Option Addr} {c5 : Nat} (l5 : x.f5.length ≤ c5) (g5 : Kd.F (Kd.int .u8) W ok A5 x.f5.length x.f5) : Kd.FK k39 W ok x [.int .i64 x.f0, .int .i64 x.f1, .int .u8 x.f2, .int .i64 x.f3, .slice A4 x.f4.length c4, .slice A5 x.f5.length c5] := fun W2 hW => k39_mk W2 x l4 (g4 W2 hW) l5 (g5 W2 hW)
def rd_T39 (xs : List S39) (i : Int) : S39 := xs.getD i.toNat z39
theorem at_T39 {w : World} {A : Option Addr} {n : Nat} {xs : List S39} (h : Kd.C k39 w A n xs) (i : Int) (h0 : 0 ≤ i) (h1 : i < n) : ∃ ad A4 c4 A5 c5, A = some ad ∧ w.cell? (ad.add (i.toNat * 6)) = some (.int .i64 (rd_T39 xs i).f0) ∧ w.cell? ⟨(ad.add (i.toNat * 6)).block, (ad.add (i.toNat * 6)).off + 1, none⟩ = some (.int .i64 (rd_T39 xs i).f1) ∧ w.cell? ⟨(ad.add (i.toNat * 6)).block, (ad.add (i.toNat * 6)).off + 2, none⟩ = some (.int .u8 (rd_T39 xs i).f2) ∧ w.cell? ⟨(ad.add (i.toNat * 6)).block, (ad.add (i.toNat * 6)).off + 3, none⟩ = some (.int .i64 (rd_T39 xs i).f3) ∧ w.cell? ⟨(ad.add (i.toNat * 6)).block, (ad.add (i.toNat * 6)).off + 4, none⟩ = some (.slice A4 (rd_T39 xs i).f4.length c4) ∧ w.cell? ⟨(ad.add (i.toNat * 6)).block, (ad.add (i.toNat * 6)).off + 5, none⟩ = some (.slice A5 (rd_T39 xs i).f5.length c5) ∧ (rd_T39 xs i).f4.length ≤ c4 ∧ (Kd.int .i64).C w A4 (rd_T39 xs i).f4.length (rd_T39 xs i).f4 ∧ (rd_T39 xs i).f5.length ≤ c5 ∧ (Kd.int .u8).C w A5 (rd_T39 xs i).f5.length (rd_T39 xs i).f5 := by
  obtain ⟨ad, c, e, _, hK, hc0⟩ := Kd.C_get h z39 i h0 h1
  have hc : ∀ j u, c[j]? = some u → w.cell? (ad.add (i.toNat * 6 + j)) = some u := hc0
  obtain ⟨A4, c4, A5, c5, rfl, l4, g4, l5, g5⟩ := k39_open hK
  exact ⟨ad, A4, c4, A5, c5, e, hc 0 _ rfl, by rw [← add_field _ _ 1 (by omega)]; exact hc 1 _ rfl, by rw [← add_field _ _ 2 (by omega)]; exact hc 2 _ rfl, by rw [← add_field _ _ 3 (by omega)]; exact hc 3 _ rfl, by rw [← add_field _ _ 4 (by omega)]; exact hc 4 _ rfl, by rw [← add_field _ _ 5 (by omega)]; exact hc 5 _ rfl, l4, g4, l5, g5⟩

/-! #### struct type 45 -/
structure S45 where
  f0 : Int
  f1 : Int
  f2 : Int
  f3 : Bool
def z45 : S45 := ⟨(0 : Int), (0 : Int), (0 : Int), false⟩
def k45 : Kd S45 := Kd.iso (Kd.pair (Kd.int .u8) (Kd.pair (Kd.int .i64) (Kd.pair (Kd.int .i64) Kd.bool))) (fun x : S45 => (x.f0, x.f1, x.f2, x.f3))
theorem k45_open {w : World} {x : S45} {cs : List Value} (h : k45.K w x cs) : cs = [.int .u8 x.f0, .int .i64 x.f1, .int .i64 x.f2, .bool x.f3] := by
  obtain ⟨_, _, rfl, rfl, ⟨_, _, rfl, rfl, ⟨_, _, rfl, rfl, rfl⟩⟩⟩ := h
  exact rfl
theorem k45_openM {w : World} {base : Nat} {ok : Nat → Prop} {x : S45} {cs : List Value} (h : k45.M w base ok x cs) : cs = [.int .u8 x.f0, .int .i64 x.f1, .int .i64 x.f2, .bool x.f3] := by
  obtain ⟨_, _, rfl, rfl, ⟨_, _, rfl, rfl, ⟨_, _, rfl, rfl, rfl⟩⟩⟩ := h
  exact rfl
theorem k45_mk (w : World) (x : S45)  : k45.K w x [.int .u8 x.f0, .int .i64 x.f1, .int .i64 x.f2, .bool x.f3] := ⟨[.int .u8 x.f0], [.int .i64 x.f1, .int .i64 x.f2, .bool x.f3], rfl, rfl, ⟨[.int .i64 x.f1], [.int .i64 x.f2, .bool x.f3], rfl, rfl, ⟨[.int .i64 x.f2], [.bool x.f3], rfl, rfl, rfl⟩⟩⟩
theorem k45_mkM (w : World) (base : Nat) (ok : Nat → Prop) (x : S45)  : k45.M w base ok x [.int .u8 x.f0, .int .i64 x.f1, .int .i64 x.f2, .bool x.f3] := ⟨[.int .u8 x.f0], [.int .i64 x.f1, .int .i64 x.f2, .bool x.f3], rfl, rfl, ⟨[.int .i64 x.f1], [.int .i64 x.f2, .bool x.f3], rfl, rfl, ⟨[.int .i64 x.f2], [.bool x.f3], rfl, rfl, rfl⟩⟩⟩
theorem k45_mkF (W : World) (ok : Nat → Prop) (x : S45) : Kd.FK k45 W ok x [.int .u8 x.f0, .int .i64 x.f1, .int .i64 x.f2, .bool x.f3] := fun W2 _ => k45_mk W2 x
def rd_T45 (xs : List S45) (i : Int) : S45 := xs.getD i.toNat z45
theorem at_T45 {w : World} {A : Option Addr} {n : Nat} {xs : List S45} (h : Kd.C k45 w A n xs) (i : Int) (h0 : 0 ≤ i) (h1 : i < n) : ∃ ad , A = some ad ∧ w.cell? (ad.add (i.toNat * 4)) = some (.int .u8 (rd_T45 xs i).f0) ∧ w.cell? ⟨(ad.add (i.toNat * 4)).block, (ad.add (i.toNat * 4)).off + 1, none⟩ = some (.int .i64 (rd_T45 xs i).f1) ∧ w.cell? ⟨(ad.add (i.toNat * 4)).block, (ad.add (i.toNat * 4)).off + 2, none⟩ = some (.int .i64 (rd_T45 xs i).f2) ∧ w.cell? ⟨(ad.add (i.toNat * 4)).block, (ad.add (i.toNat * 4)).off + 3, none⟩ = some (.bool (rd_T45 xs i).f3) := by
  obtain ⟨ad, c, e, _, hK, hc0⟩ := Kd.C_get h z45 i h0 h1
  have hc : ∀ j u, c[j]? = some u → w.cell? (ad.add (i.toNat * 4 + j)) = some u := hc0
  obtain rfl := k45_open hK
  exact ⟨ad, e, hc 0 _ rfl, by rw [← add_field _ _ 1 (by omega)]; exact hc 1 _ rfl, by rw [← add_field _ _ 2 (by omega)]; exact hc 2 _ rfl, by rw [← add_field _ _ 3 (by omega)]; exact hc 3 _ rfl⟩

end Go.Proofs.YtgcbnegdchladaaDoor.Y
