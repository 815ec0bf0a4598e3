/- Texts of this claim, joined: Y46D XLawKeys Y2 Y28 Y29 Y33 Y34 Y35. Of each, what the claim uses. -/
import Derived.Test.YtkklhlakklcnbaaDoorKaq
import Derived.Test.YtkklhlakklcnbaaDoorKac
section
namespace Go.Proofs.YtkklhlakklcnbaaDoor.Y
open Go.RowKit Go.Proofs.YtkklhlakklcnbaaDoorW.PrintWords Go.Proofs.YtkklhlakklcnbaaDoorW.PrintLast Go.Proofs.YtkklhlakklcnbaaDoorW.PrintMore
attribute [local go_sem] max2_int min2_int max_two min_two max_three min_three max_four min_four   -- for this text's walks alone
set_option linter.unusedVariables false
set_option linter.unusedSimpArgs false
/-! ### laws_FnDrawKeys: function 3 -/
mutual
def laws_FnDrawKeys.j0 : Nat → List Int → List Bool → Bool → Option (Bool)
  | 0, _, _, _ => none
  | k + 1, x0, x1, x22 => if x22 = true then (some true) else (if (x0.length : Int) < 1 then (laws_FnDrawKeys.j1 k x0 x1 true) else (if (x0.length : Int) > 10 then (laws_FnDrawKeys.j1 k x0 x1 true) else (laws_FnDrawKeys.j1 k x0 x1 ((x1.length : Int) != (x0.length : Int)))))
def laws_FnDrawKeys.j1 : Nat → List Int → List Bool → Bool → Option (Bool)
  | 0, _, _, _ => none
  | k + 1, x0, x1, x37 => if x37 = true then ((laws_drawAwake.f).bind fun t137 => (some t137)) else (laws_FnDrawKeys.l0 k x1 ([] : List Int) (⟨#[]⟩ : ByteArray) x0 (x0.length : Int) 0)
def laws_FnDrawKeys.l0 : Nat → List Bool → List Int → ByteArray → List Int → Int → Int → Option (Bool)
  | 0, _, _, _, _, _, _ => none
  | k + 1, x1, x5, x7, x39, x40, x41 => if x41 < x40 then (if 0 ≤ x41 then (if x41 < (x39.length : Int) then (if (rd x39 x41) < 1 then (laws_FnDrawKeys.j3 k x1 x5 x7 x41 (rd x39 x41) x39 x40 x41 true) else (laws_FnDrawKeys.j3 k x1 x5 x7 x41 (rd x39 x41) x39 x40 x41 (decide ((rd x39 x41) > 31)))) else (none)) else (none)) else ((gosem_conv.f x7).bind fun t149 => ((impl_Feed.f 32 4096 t149).bind fun t152 => (laws_FnDrawKeys.l1 k x5 ([] : List Int) t152 (t152.length : Int) 0)))
def laws_FnDrawKeys.j3 : Nat → List Bool → List Int → ByteArray → Int → Int → List Int → Int → Int → Bool → Option (Bool)
  | 0, _, _, _, _, _, _, _, _, _ => none
  | k + 1, x1, x5, x7, x8, x9, x39, x40, x41, x51 => if x51 = true then ((laws_drawAwake.f).bind fun t139 => (some t139)) else (if 0 ≤ x8 then (if x8 < (x1.length : Int) then (if rdOf false x1 x8 = true then (if 0 ≤ (mx 0 (wrap64 ((x5.length : Int) - x9))) then (if (mx 0 (wrap64 ((x5.length : Int) - x9))) ≤ (x5.length : Int) then ((impl_MakeNumber.f 27 x9).bind fun t144 => (if x7.size + t144.size ≤ 9223372036854775807 then (laws_FnDrawKeys.l0 k x1 (x5.take ((mx 0 (wrap64 ((x5.length : Int) - x9))) : Int).toNat) (x7 ++ t144) x39 x40 (wrap64 (x41 + 1))) else (none))) else (none)) else (none)) else (if x5.length < 17592186044416 then ((impl_MakeNumber.f 26 x9).bind fun t148 => (if x7.size + t148.size ≤ 9223372036854775807 then (laws_FnDrawKeys.l0 k x1 (x5 ++ [x9]) (x7 ++ t148) x39 x40 (wrap64 (x41 + 1))) else (none))) else (none))) else (none)) else (none))
def laws_FnDrawKeys.l1 : Nat → List Int → List Int → List (S30) → Int → Int → Option (Bool)
  | 0, _, _, _, _, _ => none
  | k + 1, x5, x6, x79, x80, x81 => if x81 < x80 then (if 0 ≤ x81 then (if x81 < (x79.length : Int) then ((spec_DrawNumbers.f k (([(⟨(rd_T30 x79 x81).f0, (rd_T30 x79 x81).f1, (rd_T30 x79 x81).f2, (rd_T30 x79 x81).f3, (rd_T30 x79 x81).f4, (rd_T30 x79 x81).f5⟩ : S33)] : List (S33)))).bind fun bt162 => (if bt162.2.2 = true then (laws_FnDrawKeys.j5 k x5 x6 bt162.1 bt162.2.1 x79 x80 x81 ((bt162.2.1.length : Int) != 1)) else (laws_FnDrawKeys.j5 k x5 x6 bt162.1 bt162.2.1 x79 x80 x81 true))) else (none)) else (none)) else ((spec_SameInts.f k x6 x5).bind fun t155 => (if t155 = true then ((laws_drawAwake.f).bind fun t156 => (some t156)) else (some false)))
def laws_FnDrawKeys.j5 : Nat → List Int → List Int → Int → List Int → List (S30) → Int → Int → Bool → Option (Bool)
  | 0, _, _, _, _, _, _, _, _ => none
  | k + 1, x5, x6, x12, x13, x79, x80, x81, x92 => if x92 = true then (some false) else ((impl_Pack.f 62 0 117).bind fun t167 => (if x12 = t167 then (if 0 < (x13.length : Int) then (if x6.length < 17592186044416 then (laws_FnDrawKeys.l1 k x5 (x6 ++ [rd x13 0]) x79 x80 (wrap64 (x81 + 1))) else (none)) else (none)) else ((impl_Pack.f 60 0 117).bind fun t172 => (if x12 = t172 then (if 0 < (x13.length : Int) then (if 0 ≤ (mx 0 (wrap64 ((x6.length : Int) - (rd x13 0)))) then (if (mx 0 (wrap64 ((x6.length : Int) - (rd x13 0)))) ≤ (x6.length : Int) then (laws_FnDrawKeys.l1 k x5 (x6.take ((mx 0 (wrap64 ((x6.length : Int) - (rd x13 0)))) : Int).toNat) x79 x80 (wrap64 (x81 + 1))) else (none)) else (none)) else (none)) else (some false)))))
end
def laws_FnDrawKeys.f (k : Nat) (l0 : List Int) (l1 : List Bool) : Option (Bool) := if (l0.length : Int) > 2147483647 then (laws_FnDrawKeys.j0 k l0 l1 true) else (laws_FnDrawKeys.j0 k l0 l1 (decide ((l1.length : Int) > 2147483647)))
theorem laws_FnDrawKeys.mono_l : ∀ k, (∀ y0 y1 y2, LeO (laws_FnDrawKeys.j0 k y0 y1 y2) (laws_FnDrawKeys.j0 (k + 1) y0 y1 y2)) ∧ (∀ y0 y1 y2, LeO (laws_FnDrawKeys.j1 k y0 y1 y2) (laws_FnDrawKeys.j1 (k + 1) y0 y1 y2)) ∧ (∀ y0 y1 y2 y3 y4 y5, LeO (laws_FnDrawKeys.l0 k y0 y1 y2 y3 y4 y5) (laws_FnDrawKeys.l0 (k + 1) y0 y1 y2 y3 y4 y5)) ∧ (∀ y0 y1 y2 y3 y4 y5 y6 y7 y8, LeO (laws_FnDrawKeys.j3 k y0 y1 y2 y3 y4 y5 y6 y7 y8) (laws_FnDrawKeys.j3 (k + 1) y0 y1 y2 y3 y4 y5 y6 y7 y8)) ∧ (∀ y0 y1 y2 y3 y4, LeO (laws_FnDrawKeys.l1 k y0 y1 y2 y3 y4) (laws_FnDrawKeys.l1 (k + 1) y0 y1 y2 y3 y4)) ∧ (∀ y0 y1 y2 y3 y4 y5 y6 y7, LeO (laws_FnDrawKeys.j5 k y0 y1 y2 y3 y4 y5 y6 y7) (laws_FnDrawKeys.j5 (k + 1) y0 y1 y2 y3 y4 y5 y6 y7))
  | 0 => ⟨fun _ _ _ r h => by simp [laws_FnDrawKeys.j0] at h, fun _ _ _ r h => by simp [laws_FnDrawKeys.j1] at h, fun _ _ _ _ _ _ r h => by simp [laws_FnDrawKeys.l0] at h, fun _ _ _ _ _ _ _ _ _ r h => by simp [laws_FnDrawKeys.j3] at h, fun _ _ _ _ _ r h => by simp [laws_FnDrawKeys.l1] at h, fun _ _ _ _ _ _ _ _ r h => by simp [laws_FnDrawKeys.j5] at h⟩
  | k + 1 => by
    obtain ⟨ih0, ih1, ih2, ih3, ih4, ih5⟩ := laws_FnDrawKeys.mono_l k
    refine ⟨?_, ?_, ?_, ?_, ?_, ?_⟩
    · intro y0 y1 y2
      unfold laws_FnDrawKeys.j0
      repeat' first
      | (with_reducible exact ih0 _ _ _)
      | (with_reducible exact ih1 _ _ _)
      | (with_reducible exact ih2 _ _ _ _ _ _)
      | (with_reducible exact ih3 _ _ _ _ _ _ _ _ _)
      | (with_reducible exact ih4 _ _ _ _ _)
      | (with_reducible exact ih5 _ _ _ _ _ _ _ _)
      | (with_reducible exact spec_DrawNumbers.mono _ _)
      | (with_reducible exact spec_SameInts.mono _ _ _)
      | (with_reducible exact LeO.refl _)
      | (with_reducible exact LeO.none _)
      | (with_reducible refine LeO.ite ?_ ?_)
      | (with_reducible refine LeO.bind ?_ (fun _ => ?_))
      | exact ih0 _ _ _
      | exact ih1 _ _ _
      | exact ih2 _ _ _ _ _ _
      | exact ih3 _ _ _ _ _ _ _ _ _
      | exact ih4 _ _ _ _ _
      | exact ih5 _ _ _ _ _ _ _ _
      | exact spec_DrawNumbers.mono _ _
      | exact spec_SameInts.mono _ _ _
      | exact LeO.none _
      | refine LeO.ite ?_ ?_
      | refine LeO.bind ?_ (fun _ => ?_)
    · intro y0 y1 y2
      unfold laws_FnDrawKeys.j1
      repeat' first
      | (with_reducible exact ih0 _ _ _)
      | (with_reducible exact ih1 _ _ _)
      | (with_reducible exact ih2 _ _ _ _ _ _)
      | (with_reducible exact ih3 _ _ _ _ _ _ _ _ _)
      | (with_reducible exact ih4 _ _ _ _ _)
      | (with_reducible exact ih5 _ _ _ _ _ _ _ _)
      | (with_reducible exact spec_DrawNumbers.mono _ _)
      | (with_reducible exact spec_SameInts.mono _ _ _)
      | (with_reducible exact LeO.refl _)
      | (with_reducible exact LeO.none _)
      | (with_reducible refine LeO.ite ?_ ?_)
      | (with_reducible refine LeO.bind ?_ (fun _ => ?_))
      | exact ih0 _ _ _
      | exact ih1 _ _ _
      | exact ih2 _ _ _ _ _ _
      | exact ih3 _ _ _ _ _ _ _ _ _
      | exact ih4 _ _ _ _ _
      | exact ih5 _ _ _ _ _ _ _ _
      | exact spec_DrawNumbers.mono _ _
      | exact spec_SameInts.mono _ _ _
      | exact LeO.none _
      | refine LeO.ite ?_ ?_
      | refine LeO.bind ?_ (fun _ => ?_)
    · intro y0 y1 y2 y3 y4 y5
      unfold laws_FnDrawKeys.l0
      repeat' first
      | (with_reducible exact ih0 _ _ _)
      | (with_reducible exact ih1 _ _ _)
      | (with_reducible exact ih2 _ _ _ _ _ _)
      | (with_reducible exact ih3 _ _ _ _ _ _ _ _ _)
      | (with_reducible exact ih4 _ _ _ _ _)
      | (with_reducible exact ih5 _ _ _ _ _ _ _ _)
      | (with_reducible exact spec_DrawNumbers.mono _ _)
      | (with_reducible exact spec_SameInts.mono _ _ _)
      | (with_reducible exact LeO.refl _)
      | (with_reducible exact LeO.none _)
      | (with_reducible refine LeO.ite ?_ ?_)
      | (with_reducible refine LeO.bind ?_ (fun _ => ?_))
      | exact ih0 _ _ _
      | exact ih1 _ _ _
      | exact ih2 _ _ _ _ _ _
      | exact ih3 _ _ _ _ _ _ _ _ _
      | exact ih4 _ _ _ _ _
      | exact ih5 _ _ _ _ _ _ _ _
      | exact spec_DrawNumbers.mono _ _
      | exact spec_SameInts.mono _ _ _
      | exact LeO.none _
      | refine LeO.ite ?_ ?_
      | refine LeO.bind ?_ (fun _ => ?_)
    · intro y0 y1 y2 y3 y4 y5 y6 y7 y8
      unfold laws_FnDrawKeys.j3
      repeat' first
      | (with_reducible exact ih0 _ _ _)
      | (with_reducible exact ih1 _ _ _)
      | (with_reducible exact ih2 _ _ _ _ _ _)
      | (with_reducible exact ih3 _ _ _ _ _ _ _ _ _)
      | (with_reducible exact ih4 _ _ _ _ _)
      | (with_reducible exact ih5 _ _ _ _ _ _ _ _)
      | (with_reducible exact spec_DrawNumbers.mono _ _)
      | (with_reducible exact spec_SameInts.mono _ _ _)
      | (with_reducible exact LeO.refl _)
      | (with_reducible exact LeO.none _)
      | (with_reducible refine LeO.ite ?_ ?_)
      | (with_reducible refine LeO.bind ?_ (fun _ => ?_))
      | exact ih0 _ _ _
      | exact ih1 _ _ _
      | exact ih2 _ _ _ _ _ _
      | exact ih3 _ _ _ _ _ _ _ _ _
      | exact ih4 _ _ _ _ _
      | exact ih5 _ _ _ _ _ _ _ _
      | exact spec_DrawNumbers.mono _ _
      | exact spec_SameInts.mono _ _ _
      | exact LeO.none _
      | refine LeO.ite ?_ ?_
      | refine LeO.bind ?_ (fun _ => ?_)
    · intro y0 y1 y2 y3 y4
      unfold laws_FnDrawKeys.l1
      repeat' first
      | (with_reducible exact ih0 _ _ _)
      | (with_reducible exact ih1 _ _ _)
      | (with_reducible exact ih2 _ _ _ _ _ _)
      | (with_reducible exact ih3 _ _ _ _ _ _ _ _ _)
      | (with_reducible exact ih4 _ _ _ _ _)
      | (with_reducible exact ih5 _ _ _ _ _ _ _ _)
      | (with_reducible exact spec_DrawNumbers.mono _ _)
      | (with_reducible exact spec_SameInts.mono _ _ _)
      | (with_reducible exact LeO.refl _)
      | (with_reducible exact LeO.none _)
      | (with_reducible refine LeO.ite ?_ ?_)
      | (with_reducible refine LeO.bind ?_ (fun _ => ?_))
      | exact ih0 _ _ _
      | exact ih1 _ _ _
      | exact ih2 _ _ _ _ _ _
      | exact ih3 _ _ _ _ _ _ _ _ _
      | exact ih4 _ _ _ _ _
      | exact ih5 _ _ _ _ _ _ _ _
      | exact spec_DrawNumbers.mono _ _
      | exact spec_SameInts.mono _ _ _
      | exact LeO.none _
      | refine LeO.ite ?_ ?_
      | refine LeO.bind ?_ (fun _ => ?_)
    · intro y0 y1 y2 y3 y4 y5 y6 y7
      unfold laws_FnDrawKeys.j5
      repeat' first
      | (with_reducible exact ih0 _ _ _)
      | (with_reducible exact ih1 _ _ _)
      | (with_reducible exact ih2 _ _ _ _ _ _)
      | (with_reducible exact ih3 _ _ _ _ _ _ _ _ _)
      | (with_reducible exact ih4 _ _ _ _ _)
      | (with_reducible exact ih5 _ _ _ _ _ _ _ _)
      | (with_reducible exact spec_DrawNumbers.mono _ _)
      | (with_reducible exact spec_SameInts.mono _ _ _)
      | (with_reducible exact LeO.refl _)
      | (with_reducible exact LeO.none _)
      | (with_reducible refine LeO.ite ?_ ?_)
      | (with_reducible refine LeO.bind ?_ (fun _ => ?_))
      | exact ih0 _ _ _
      | exact ih1 _ _ _
      | exact ih2 _ _ _ _ _ _
      | exact ih3 _ _ _ _ _ _ _ _ _
      | exact ih4 _ _ _ _ _
      | exact ih5 _ _ _ _ _ _ _ _
      | exact spec_DrawNumbers.mono _ _
      | exact spec_SameInts.mono _ _ _
      | exact LeO.none _
      | refine LeO.ite ?_ ?_
      | refine LeO.bind ?_ (fun _ => ?_)
theorem laws_FnDrawKeys.mono : ∀ a0 a1 k, LeO (laws_FnDrawKeys.f k a0 a1) (laws_FnDrawKeys.f (k + 1) a0 a1) := by
  intro a0 a1 k
  obtain ⟨ih0, ih1, ih2, ih3, ih4, ih5⟩ := laws_FnDrawKeys.mono_l k
  unfold laws_FnDrawKeys.f
  repeat' first
      | (with_reducible exact ih0 _ _ _)
      | (with_reducible exact ih1 _ _ _)
      | (with_reducible exact ih2 _ _ _ _ _ _)
      | (with_reducible exact ih3 _ _ _ _ _ _ _ _ _)
      | (with_reducible exact ih4 _ _ _ _ _)
      | (with_reducible exact ih5 _ _ _ _ _ _ _ _)
      | (with_reducible exact spec_DrawNumbers.mono _ _)
      | (with_reducible exact spec_SameInts.mono _ _ _)
      | (with_reducible exact LeO.refl _)
      | (with_reducible exact LeO.none _)
      | (with_reducible refine LeO.ite ?_ ?_)
      | (with_reducible refine LeO.bind ?_ (fun _ => ?_))
      | exact ih0 _ _ _
      | exact ih1 _ _ _
      | exact ih2 _ _ _ _ _ _
      | exact ih3 _ _ _ _ _ _ _ _ _
      | exact ih4 _ _ _ _ _
      | exact ih5 _ _ _ _ _ _ _ _
      | exact spec_DrawNumbers.mono _ _
      | exact spec_SameInts.mono _ _ _
      | exact LeO.none _
      | refine LeO.ite ?_ ?_
      | refine LeO.bind ?_ (fun _ => ?_)
theorem own_map (A : Option Addr) (n c : Nat) : (Value.slice A n c).ownBlock = A.map (fun a => a.block) := by cases A <;> rfl
end Go.Proofs.YtkklhlakklcnbaaDoor.Y
end
section
namespace Go.Proofs.YtkklhlakklcnbaaDoor.Y
open Go.RowKit Go.Proofs.YtkklhlakklcnbaaDoorW.PrintWords Go.Proofs.YtkklhlakklcnbaaDoorW.PrintLast Go.Proofs.YtkklhlakklcnbaaDoorW.PrintMore
abbrev KOp := Bool × Int
def keyStep (v : List Int) (o : KOp) : List Int := if o.1 then v.take (v.length - o.2.toNat) else v ++ [o.2]
def keyCmd (b : Bool) : Int := if b then 15477 else 15989
def keyEv (o : KOp) : X.Ev := X.evCsi (keyCmd o.1) [o.2]
def keyNo (b : Bool) : Int := if b then 27 else 26
def keyOk (b : Bool) (n : Nat) : Bool :=
  match impl_MakeNumber.f (keyNo b) n with
  | some t => decide (X.run .gr (X.nb t) = some (.gr, [keyEv (b, (n : Int))])) && decide (t.size ≤ 12)
  | none => false
theorem keys_ok : ([true, false].all fun b => (List.range 32).all fun n => n == 0 || keyOk b n) = true := by kernel_rfl
theorem key_text (b : Bool) (n : Nat) (h1 : 1 ≤ n) (h31 : n ≤ 31) : ∃ t, impl_MakeNumber.f (keyNo b) n = some t ∧ X.run .gr (X.nb t) = some (.gr, [keyEv (b, (n : Int))]) ∧ t.size ≤ 12 := by
  have h := List.all_eq_true.1 (List.all_eq_true.1 keys_ok b (by cases b <;> simp)) n (List.mem_range.2 (by omega))
  have h0 : (n == 0) = false := by simp; omega
  rw [h0, Bool.false_or] at h
  unfold keyOk at h
  split at h
  · rename_i t ht
    simp only [Bool.and_eq_true, decide_eq_true_eq] at h
    exact ⟨t, ht, h.1, h.2⟩
  · exact absurd h (by simp)
def KeyIn (o : KOp) : Prop := 1 ≤ o.2 ∧ o.2 ≤ 31
theorem keyFold_len (ops : List KOp) : ∀ v : List Int, (ops.foldl keyStep v).length ≤ v.length + ops.length := by
  induction ops with
  | nil => intro v; simp
  | cons o ops ih =>
    intro v
    have h1 : (keyStep v o).length ≤ v.length + 1 := by
      unfold keyStep
      split
      · rw [List.length_take]; omega
      · simp
    have := ih (keyStep v o)
    rw [List.foldl_cons, List.length_cons]
    omega
theorem mx_cut (a : Nat) (n : Int) (h1 : 1 ≤ n) (h2 : n ≤ 31) (ha : a ≤ 1000) : mx 0 (wrap64 ((a : Int) - n)) = ((a - n.toNat : Nat) : Int) := by
  rw [wrap64_of _ (by omega) (by omega)]
  unfold mx
  split <;> omega
theorem wup (i : Nat) (h : i < 1000000000000) : wrap64 ((i : Int) + 1) = ((i + 1 : Nat) : Int) := by rw [wrap64_of _ (by omega) (by omega)]; omega
theorem rdE_at2 {l : List S30} {a : S30} (i : Nat) (h : l[i]? = some a) : rd_T30 l (i : Int) = a := by
  obtain ⟨h1, h2⟩ := List.getElem?_eq_some_iff.1 h
  rw [rdT_at l i h1, h2]
theorem fold_up (ops : List KOp) (i : Nat) (hi : i < ops.length) : (ops.take (i + 1)).foldl keyStep [] = keyStep ((ops.take i).foldl keyStep []) ops[i] := by
  rw [List.take_succ_eq_append_getElem hi, List.foldl_append]
  rfl
theorem pack_push : impl_Pack.f 62 0 117 = some 15989 := by kernel_rfl
theorem pack_pop : impl_Pack.f 60 0 117 = some 15477 := by kernel_rfl
/-- What is read. -/
theorem keys_l1 (ops : List KOp) (hn : ops.length ≤ 10) (hin : ∀ o ∈ ops, KeyIn o) : ∀ (m i k : Nat), i + m = ops.length → 200 + 2 * m ≤ k →
    laws_FnDrawKeys.l1 k (ops.foldl keyStep []) ((ops.take i).foldl keyStep []) ((ops.map keyEv).map X.toS) (((ops.map keyEv).map X.toS).length : Int) (i : Int) = some true
  | 0, i, k + 1, h, hk => by
    have hL : ((ops.map keyEv).map X.toS).length = ops.length := by simp
    have hf := keyFold_len ops []
    simp only [List.length_nil] at hf
    rw [laws_FnDrawKeys.l1, if_neg (by rw [hL]; omega), List.take_of_length_le (by omega), same_f _ (by omega) k (by omega), Option.bind_some, if_pos rfl, awake, Option.bind_some]
  | m + 1, i, k + 2, h, hk => by
    have hi : i < ops.length := by omega
    have hL : ((ops.map keyEv).map X.toS).length = ops.length := by simp
    obtain ⟨n1, n31⟩ := hin _ (List.getElem_mem hi)
    have ih := keys_l1 ops hn hin m (i + 1) k (by omega) (by omega)
    rw [fold_up ops i hi] at ih
    have hf := keyFold_len (ops.take i) []
    rw [List.length_take, List.length_nil] at hf
    have hg : rd_T30 ((ops.map keyEv).map X.toS) (i : Int) = X.toS (keyEv ops[i]) := rdE_at2 i (by simp [hi])
    have hnum : spec_DrawNumbers.f (k + 1) [cv (X.toS (keyEv ops[i]))] = some ((cv (X.toS (keyEv ops[i]))).f3, (cv (X.toS (keyEv ops[i]))).f4, true) :=
      numbers_f _ rfl (by show [ops[i].2].length < _; simp) (fun p hp => by
        have : p = ops[i].2 := List.mem_singleton.1 hp
        omega) (k + 1) (by show [ops[i].2].length + 1 < _; simp; omega)
    rw [laws_FnDrawKeys.l1, if_pos (by rw [hL]; omega), if_pos (by omega), if_pos (by rw [hL]; omega), hg]
    have e0 : (⟨(X.toS (keyEv ops[i])).f0, (X.toS (keyEv ops[i])).f1, (X.toS (keyEv ops[i])).f2, (X.toS (keyEv ops[i])).f3, (X.toS (keyEv ops[i])).f4, (X.toS (keyEv ops[i])).f5⟩ : S33) = cv (X.toS (keyEv ops[i])) := rfl
    rw [e0, hnum, Option.bind_some]
    have e3 : (cv (X.toS (keyEv ops[i]))).f3 = keyCmd ops[i].1 := rfl
    have e4 : (cv (X.toS (keyEv ops[i]))).f4 = [ops[i].2] := rfl
    rw [e3, e4, if_pos rfl]
    have e5 : ((([ops[i].2] : List Int).length : Int) != 1) = false := by simp
    have e6 : rd [ops[i].2] 0 = ops[i].2 := rfl
    rw [e5, laws_FnDrawKeys.j5, if_neg (by simp), pack_push, Option.bind_some, wup i (by omega), e6]
    unfold keyStep at ih
    by_cases hb : ops[i].1 = true
    · have ec : keyCmd ops[i].1 = 15477 := by rw [hb]; rfl
      rw [if_pos hb] at ih
      rw [ec, if_neg (by omega), pack_pop, Option.bind_some, if_pos rfl, if_pos (by simp), mx_cut _ _ n1 n31 (by omega), if_pos (by omega), if_pos (by omega), Int.toNat_natCast]
      exact ih
    · have ec : keyCmd ops[i].1 = 15989 := by rw [Bool.eq_false_iff.2 hb]; rfl
      rw [if_neg hb] at ih
      rw [ec, if_pos rfl, if_pos (by simp), if_pos (by omega)]
      exact ih
theorem keys_l0 (l : List Int) (tk : List Bool) (hl : l.length ≤ 10) (ht : tk.length = l.length) : ∀ (m i k : Nat) (x7 : ByteArray), i + m = l.length → 400 + 2 * m ≤ k → (∀ o ∈ (tk.zip l).take i, KeyIn o) → X.run .gr (X.nb x7) = some (.gr, ((tk.zip l).take i).map keyEv) → x7.size ≤ 12 * i →
    laws_FnDrawKeys.l0 k tk (((tk.zip l).take i).foldl keyStep []) x7 l (l.length : Int) (i : Int) = some true
  | 0, i, k + 1, x7, h, hk, hin, hr, hs => by
    have hz : (tk.zip l).length = l.length := by rw [List.length_zip]; omega
    rw [List.take_of_length_le (by omega)] at hr hin ⊢
    rw [laws_FnDrawKeys.l0, if_neg (by omega), conv_f x7 (by omega), Option.bind_some, feed_f x7 (by omega) hr, Option.bind_some]
    exact keys_l1 (tk.zip l) (by omega) hin (tk.zip l).length 0 k (by omega) (by omega)
  | m + 1, i, k + 2, x7, h, hk, hin, hr, hs => by
    have hz : (tk.zip l).length = l.length := by rw [List.length_zip]; omega
    have hi : i < l.length := by omega
    have hi2 : i < (tk.zip l).length := by omega
    have hg : (tk.zip l)[i] = (tk[i], l[i]) := List.getElem_zip
    have hf := keyFold_len ((tk.zip l).take i) []
    rw [List.length_take, List.length_nil] at hf
    have hrd : rd l (i : Int) = l[i] := by simp [rd, hi]
    have hrb : rdOf false tk (i : Int) = tk[i] := by simp [rdOf, show i < tk.length by omega]
    rw [laws_FnDrawKeys.l0, if_pos (by omega), if_pos (by omega), if_pos (by omega), hrd]
    by_cases h1 : l[i] < 1
    · rw [if_pos h1, laws_FnDrawKeys.j3, if_pos rfl, awake, Option.bind_some]
    rw [if_neg h1]
    by_cases h2 : l[i] > 31
    · rw [decide_eq_true h2, laws_FnDrawKeys.j3, if_pos rfl, awake, Option.bind_some]
    rw [decide_eq_false h2, laws_FnDrawKeys.j3, if_neg (by simp), if_pos (by omega), if_pos (by omega), hrb, wup i (by omega)]
    obtain ⟨t, q1, q2, q3⟩ := key_text tk[i] l[i].toNat (by omega) (by omega)
    rw [Int.toNat_of_nonneg (by omega)] at q1 q2
    have e3 : (tk.zip l).take (i + 1) = (tk.zip l).take i ++ [(tk[i], l[i])] := by rw [List.take_succ_eq_append_getElem hi2, hg]
    have ih := keys_l0 l tk hl ht m (i + 1) k (x7 ++ t) (by omega) (by omega) (by
      rw [e3]
      intro o ho
      rcases List.mem_append.1 ho with ho | ho
      · exact hin o ho
      · rw [List.mem_singleton.1 ho]
        exact ⟨by show 1 ≤ l[i]; omega, by show l[i] ≤ 31; omega⟩) (by
      rw [e3, X.nb_append, List.map_append]
      exact X.run_of hr q2) (by rw [ByteArray.size_append]; omega)
    rw [fold_up _ i hi2, hg] at ih
    by_cases hb : tk[i] = true
    · have ek : impl_MakeNumber.f 27 l[i] = some t := by rw [← q1, hb]; rfl
      rw [if_pos hb, mx_cut _ _ (by omega) (by omega) (by omega), if_pos (by omega), if_pos (by omega), ek, Option.bind_some, if_pos (by omega), Int.toNat_natCast]
      unfold keyStep at ih
      rw [if_pos hb] at ih
      exact ih
    · have ek : impl_MakeNumber.f 26 l[i] = some t := by rw [← q1, Bool.eq_false_iff.2 hb]; rfl
      rw [if_neg hb, if_pos (by omega), ek, Option.bind_some, if_pos (by omega)]
      unfold keyStep at ih
      rw [if_neg hb] at ih
      exact ih
theorem FnDrawKeys_true (l : List Int) (_ : l.length ≤ maxLen) (_ : ∀ a ∈ l, (Lit.int .i64 a).wf = true) (tk : List Bool) (_ : tk.length ≤ maxLen) (_ : ∀ a ∈ tk, True) : laws_FnDrawKeys.f 1000 l tk = some true := by
  have bad : laws_FnDrawKeys.j0 1000 l tk true = some true := by rw [laws_FnDrawKeys.j0, if_pos rfl]
  have bad1 : laws_FnDrawKeys.j1 999 l tk true = some true := by rw [laws_FnDrawKeys.j1, if_pos rfl, awake, Option.bind_some]
  unfold laws_FnDrawKeys.f
  by_cases h1 : (l.length : Int) > 2147483647
  · rw [if_pos h1, bad]
  rw [if_neg h1]
  by_cases h2 : (tk.length : Int) > 2147483647
  · rw [decide_eq_true h2, bad]
  rw [decide_eq_false h2, laws_FnDrawKeys.j0, if_neg (by simp)]
  by_cases h3 : (l.length : Int) < 1
  · rw [if_pos h3, bad1]
  rw [if_neg h3]
  by_cases h4 : (l.length : Int) > 10
  · rw [if_pos h4, bad1]
  rw [if_neg h4]
  by_cases h5 : ((tk.length : Int) != (l.length : Int)) = true
  · rw [h5, bad1]
  rw [Bool.eq_false_iff.2 h5, laws_FnDrawKeys.j1, if_neg (by simp)]
  have h6 : tk.length = l.length := by
    have := Bool.eq_false_iff.2 h5
    rw [bne_eq_false_iff_eq] at this
    omega
  exact keys_l0 l tk (by omega) h6 l.length 0 998 ⟨#[]⟩ (by omega) (by omega) (by simp) (by rfl) (by decide)
end Go.Proofs.YtkklhlakklcnbaaDoor.Y
end
section
namespace Go.Proofs.YtkklhlakklcnbaaDoor.Y
open Go.RowKit Go.Proofs.YtkklhlakklcnbaaDoorW.PrintWords Go.Proofs.YtkklhlakklcnbaaDoorW.PrintLast Go.Proofs.YtkklhlakklcnbaaDoorW.PrintMore
attribute [local go_sem] max2_int min2_int max_two min_two max_three min_three max_four min_four   -- for this text's walks alone
set_option linter.unusedVariables false
set_option linter.unusedSimpArgs false
set_option maxHeartbeats 8000000 in
set_option maxRecDepth 100000 in
theorem xansi_CursorUp.calls (a0 : Int) (r : ByteArray) (w : World) (hT : XTab w) (h : xansi_CursorUp.f a0 = some r) :
    Calls Tryd.prog 10 #[.int .i64 a0] w fun e w' => e = .returned (.string r) ∧ Below w.heap.size w w' := by
  have HT := Aside0.mk hT
  clear hT
  have HB := Aside0.mk (Below.refl w.heap.size w)
  have H : (if a0 > 1 then ((strconv_Itoa.f a0).bind fun t101 => (if 2 + t101.size ≤ 9223372036854775807 then (if 2 + t101.size + 1 ≤ 9223372036854775807 then (some (((⟨#[27, 91]⟩ : ByteArray) ++ t101) ++ (⟨#[65]⟩ : ByteArray))) else (none)) else (none))) else (if 2 + 0 ≤ 9223372036854775807 then (if 2 + 0 + 1 ≤ 9223372036854775807 then (some (((⟨#[27, 91]⟩ : ByteArray) ++ (⟨#[]⟩ : ByteArray)) ++ (⟨#[65]⟩ : ByteArray))) else (none)) else (none))) = some r := h
  clear h
  by_cases c2 : a0 > 1
  · rw [if_pos c2] at H
    have c2b0 : decide (1 < a0) = true := decide_eq_true c2
    clear c2
    replace H := Option.bind_eq_some_iff.mp H
    obtain ⟨t101, A30, H⟩ := H
    replace H : (if 2 + t101.size ≤ 9223372036854775807 then (if 2 + t101.size + 1 ≤ 9223372036854775807 then (some (((⟨#[27, 91]⟩ : ByteArray) ++ t101) ++ (⟨#[65]⟩ : ByteArray))) else (none)) else (none)) = some r := H
    have A3 := Aside0.mk A30
    clear A30
    by_cases c4 : 2 + t101.size ≤ 9223372036854775807
    · rw [if_pos c4] at H
      have c4b0 := eq_true c4
      have c4b1 : decide (2 + t101.size ≤ 9223372036854775807) = true := decide_eq_true c4
      try have c4b2 : (9223372036854775807 < 2 + t101.size) = False := eq_false (Nat.not_lt.2 c4)
      by_cases c5 : 2 + t101.size + 1 ≤ 9223372036854775807
      · rw [if_pos c5] at H
        have c5b0 := eq_true c5
        have c5b1 : decide (2 + t101.size + 1 ≤ 9223372036854775807) = true := decide_eq_true c5
        try have c5b2 : (9223372036854775807 < 2 + t101.size + 1) = False := eq_false (Nat.not_lt.2 c5)
        obtain rfl := Option.some.inj H
        go_enter Tryd.func10, Tryd.ntmps10
        go_wp2_with (first | ((with_reducible refine gate_callee (f := 50) rfl ?_); refine goesL_ (some 7) rfl rfl Tryd.func50 (by kernel_rfl) rfl #[.int .i64 a0] rfl (by (try simp only [List.map_toArray, List.map_cons, List.map_nil]); first | done | rfl | (simp only [List.length_drop, List.length_take]; rfl)) ?_; (with_reducible refine (strconv_Itoa.calls a0 t101 _ ?side1 A3.out).mono ?_); (case side1 => exact XTab.below HT.out (by repeat (first | (with_reducible first | exact HB.out | apply below_alloc | apply pw_below_drewN | apply below_drew1) | exact HB.out))); rintro e w6 ⟨rfl, hb⟩; refine ⟨_, rfl, ?_⟩; have n0_ := Aside0.mk (below_step (by repeat (first | (with_reducible first | exact HB.out | apply below_alloc | apply pw_below_drewN | apply below_drew1) | exact HB.out)) hb); clear HB; have HB := n0_; clear n0_; (try clear hb); (try clear hb2); (try clear hk); (try clear hi)))
        go_ret
        exact ⟨by first | rfl | (simp [errW_none, errW_some] <;> rfl) | (simp [*, errW_none, errW_some] <;> rfl), by repeat (first | (with_reducible first | exact HB.out | apply below_alloc | apply pw_below_drewN | apply below_drew1) | exact HB.out)⟩
      · rw [if_neg c5] at H
        exact absurd H (by simp)
    · rw [if_neg c4] at H
      exact absurd H (by simp)
  · rw [if_neg c2] at H
    have c2b0 : decide (1 < a0) = false := decide_eq_false c2
    clear c2
    by_cases c7 : 2 + 0 ≤ 9223372036854775807
    · rw [if_pos c7] at H
      have c7b0 := eq_true c7
      have c7b1 : decide (2 + 0 ≤ 9223372036854775807) = true := decide_eq_true c7
      try have c7b2 : (9223372036854775807 < 2 + 0) = False := eq_false (Nat.not_lt.2 c7)
      by_cases c8 : 2 + 0 + 1 ≤ 9223372036854775807
      · rw [if_pos c8] at H
        have c8b0 := eq_true c8
        have c8b1 : decide (2 + 0 + 1 ≤ 9223372036854775807) = true := decide_eq_true c8
        try have c8b2 : (9223372036854775807 < 2 + 0 + 1) = False := eq_false (Nat.not_lt.2 c8)
        obtain rfl := Option.some.inj H
        go_enter Tryd.func10, Tryd.ntmps10
        go_wp2
        go_ret
        exact ⟨by first | rfl | (simp [errW_none, errW_some] <;> rfl) | (simp [*, errW_none, errW_some] <;> rfl), by repeat (first | (with_reducible first | exact HB.out | apply below_alloc | apply pw_below_drewN | apply below_drew1) | exact HB.out)⟩
      · rw [if_neg c8] at H
        exact absurd H (by simp)
    · rw [if_neg c7] at H
      exact absurd H (by simp)
end Go.Proofs.YtkklhlakklcnbaaDoor.Y
end
section
namespace Go.Proofs.YtkklhlakklcnbaaDoor.Y
open Go.RowKit Go.Proofs.YtkklhlakklcnbaaDoorW.PrintWords Go.Proofs.YtkklhlakklcnbaaDoorW.PrintLast Go.Proofs.YtkklhlakklcnbaaDoorW.PrintMore
attribute [local go_sem] max2_int min2_int max_two min_two max_three min_three max_four min_four   -- for this text's walks alone
set_option linter.unusedVariables false
set_option linter.unusedSimpArgs false
set_option maxHeartbeats 8000000 in
set_option maxRecDepth 100000 in
theorem xansi_PushKittyKeyboard.calls (a0 : Int) (r : ByteArray) (w : World) (hT : XTab w) (h : xansi_PushKittyKeyboard.f a0 = some r) :
    Calls Tryd.prog 36 #[.int .i64 a0] w fun e w' => e = .returned (.string r) ∧ Below w.heap.size w w' := by
  have HT := Aside0.mk hT
  clear hT
  have HB := Aside0.mk (Below.refl w.heap.size w)
  have H : (if a0 > 0 then ((strconv_Itoa.f a0).bind fun t102 => (if 3 + t102.size ≤ 9223372036854775807 then (if 3 + t102.size + 1 ≤ 9223372036854775807 then (some (((⟨#[27, 91, 62]⟩ : ByteArray) ++ t102) ++ (⟨#[117]⟩ : ByteArray))) else (none)) else (none))) else (if 3 + 0 ≤ 9223372036854775807 then (if 3 + 0 + 1 ≤ 9223372036854775807 then (some (((⟨#[27, 91, 62]⟩ : ByteArray) ++ (⟨#[]⟩ : ByteArray)) ++ (⟨#[117]⟩ : ByteArray))) else (none)) else (none))) = some r := h
  clear h
  by_cases c2 : a0 > 0
  · rw [if_pos c2] at H
    have c2b0 : decide (0 < a0) = true := decide_eq_true c2
    clear c2
    replace H := Option.bind_eq_some_iff.mp H
    obtain ⟨t102, A30, H⟩ := H
    replace H : (if 3 + t102.size ≤ 9223372036854775807 then (if 3 + t102.size + 1 ≤ 9223372036854775807 then (some (((⟨#[27, 91, 62]⟩ : ByteArray) ++ t102) ++ (⟨#[117]⟩ : ByteArray))) else (none)) else (none)) = some r := H
    have A3 := Aside0.mk A30
    clear A30
    by_cases c4 : 3 + t102.size ≤ 9223372036854775807
    · rw [if_pos c4] at H
      have c4b0 := eq_true c4
      have c4b1 : decide (3 + t102.size ≤ 9223372036854775807) = true := decide_eq_true c4
      try have c4b2 : (9223372036854775807 < 3 + t102.size) = False := eq_false (Nat.not_lt.2 c4)
      by_cases c5 : 3 + t102.size + 1 ≤ 9223372036854775807
      · rw [if_pos c5] at H
        have c5b0 := eq_true c5
        have c5b1 : decide (3 + t102.size + 1 ≤ 9223372036854775807) = true := decide_eq_true c5
        try have c5b2 : (9223372036854775807 < 3 + t102.size + 1) = False := eq_false (Nat.not_lt.2 c5)
        obtain rfl := Option.some.inj H
        go_enter Tryd.func36, Tryd.ntmps36
        go_wp2_with (first | ((with_reducible refine gate_callee (f := 50) rfl ?_); refine goesL_ (some 7) rfl rfl Tryd.func50 (by kernel_rfl) rfl #[.int .i64 a0] rfl (by (try simp only [List.map_toArray, List.map_cons, List.map_nil]); first | done | rfl | (simp only [List.length_drop, List.length_take]; rfl)) ?_; (with_reducible refine (strconv_Itoa.calls a0 t102 _ ?side1 A3.out).mono ?_); (case side1 => exact XTab.below HT.out (by repeat (first | (with_reducible first | exact HB.out | apply below_alloc | apply pw_below_drewN | apply below_drew1) | exact HB.out))); rintro e w6 ⟨rfl, hb⟩; refine ⟨_, rfl, ?_⟩; have n0_ := Aside0.mk (below_step (by repeat (first | (with_reducible first | exact HB.out | apply below_alloc | apply pw_below_drewN | apply below_drew1) | exact HB.out)) hb); clear HB; have HB := n0_; clear n0_; (try clear hb); (try clear hb2); (try clear hk); (try clear hi)))
        go_ret
        exact ⟨by first | rfl | (simp [errW_none, errW_some] <;> rfl) | (simp [*, errW_none, errW_some] <;> rfl), by repeat (first | (with_reducible first | exact HB.out | apply below_alloc | apply pw_below_drewN | apply below_drew1) | exact HB.out)⟩
      · rw [if_neg c5] at H
        exact absurd H (by simp)
    · rw [if_neg c4] at H
      exact absurd H (by simp)
  · rw [if_neg c2] at H
    have c2b0 : decide (0 < a0) = false := decide_eq_false c2
    clear c2
    by_cases c7 : 3 + 0 ≤ 9223372036854775807
    · rw [if_pos c7] at H
      have c7b0 := eq_true c7
      have c7b1 : decide (3 + 0 ≤ 9223372036854775807) = true := decide_eq_true c7
      try have c7b2 : (9223372036854775807 < 3 + 0) = False := eq_false (Nat.not_lt.2 c7)
      by_cases c8 : 3 + 0 + 1 ≤ 9223372036854775807
      · rw [if_pos c8] at H
        have c8b0 := eq_true c8
        have c8b1 : decide (3 + 0 + 1 ≤ 9223372036854775807) = true := decide_eq_true c8
        try have c8b2 : (9223372036854775807 < 3 + 0 + 1) = False := eq_false (Nat.not_lt.2 c8)
        obtain rfl := Option.some.inj H
        go_enter Tryd.func36, Tryd.ntmps36
        go_wp2
        go_ret
        exact ⟨by first | rfl | (simp [errW_none, errW_some] <;> rfl) | (simp [*, errW_none, errW_some] <;> rfl), by repeat (first | (with_reducible first | exact HB.out | apply below_alloc | apply pw_below_drewN | apply below_drew1) | exact HB.out)⟩
      · rw [if_neg c8] at H
        exact absurd H (by simp)
    · rw [if_neg c7] at H
      exact absurd H (by simp)
end Go.Proofs.YtkklhlakklcnbaaDoor.Y
end
section
namespace Go.Proofs.YtkklhlakklcnbaaDoor.Y
open Go.RowKit Go.Proofs.YtkklhlakklcnbaaDoorW.PrintWords Go.Proofs.YtkklhlakklcnbaaDoorW.PrintLast Go.Proofs.YtkklhlakklcnbaaDoorW.PrintMore
attribute [local go_sem] max2_int min2_int max_two min_two max_three min_three max_four min_four   -- for this text's walks alone
set_option linter.unusedVariables false
set_option linter.unusedSimpArgs false
set_option maxHeartbeats 8000000 in
set_option maxRecDepth 100000 in
theorem xansi_PopKittyKeyboard.calls (a0 : Int) (r : ByteArray) (w : World) (hT : XTab w) (h : xansi_PopKittyKeyboard.f a0 = some r) :
    Calls Tryd.prog 37 #[.int .i64 a0] w fun e w' => e = .returned (.string r) ∧ Below w.heap.size w w' := by
  have HT := Aside0.mk hT
  clear hT
  have HB := Aside0.mk (Below.refl w.heap.size w)
  have H : (if a0 > 0 then ((strconv_Itoa.f a0).bind fun t103 => (if 3 + t103.size ≤ 9223372036854775807 then (if 3 + t103.size + 1 ≤ 9223372036854775807 then (some (((⟨#[27, 91, 60]⟩ : ByteArray) ++ t103) ++ (⟨#[117]⟩ : ByteArray))) else (none)) else (none))) else (if 3 + 0 ≤ 9223372036854775807 then (if 3 + 0 + 1 ≤ 9223372036854775807 then (some (((⟨#[27, 91, 60]⟩ : ByteArray) ++ (⟨#[]⟩ : ByteArray)) ++ (⟨#[117]⟩ : ByteArray))) else (none)) else (none))) = some r := h
  clear h
  by_cases c2 : a0 > 0
  · rw [if_pos c2] at H
    have c2b0 : decide (0 < a0) = true := decide_eq_true c2
    clear c2
    replace H := Option.bind_eq_some_iff.mp H
    obtain ⟨t103, A30, H⟩ := H
    replace H : (if 3 + t103.size ≤ 9223372036854775807 then (if 3 + t103.size + 1 ≤ 9223372036854775807 then (some (((⟨#[27, 91, 60]⟩ : ByteArray) ++ t103) ++ (⟨#[117]⟩ : ByteArray))) else (none)) else (none)) = some r := H
    have A3 := Aside0.mk A30
    clear A30
    by_cases c4 : 3 + t103.size ≤ 9223372036854775807
    · rw [if_pos c4] at H
      have c4b0 := eq_true c4
      have c4b1 : decide (3 + t103.size ≤ 9223372036854775807) = true := decide_eq_true c4
      try have c4b2 : (9223372036854775807 < 3 + t103.size) = False := eq_false (Nat.not_lt.2 c4)
      by_cases c5 : 3 + t103.size + 1 ≤ 9223372036854775807
      · rw [if_pos c5] at H
        have c5b0 := eq_true c5
        have c5b1 : decide (3 + t103.size + 1 ≤ 9223372036854775807) = true := decide_eq_true c5
        try have c5b2 : (9223372036854775807 < 3 + t103.size + 1) = False := eq_false (Nat.not_lt.2 c5)
        obtain rfl := Option.some.inj H
        go_enter Tryd.func37, Tryd.ntmps37
        go_wp2_with (first | ((with_reducible refine gate_callee (f := 50) rfl ?_); refine goesL_ (some 7) rfl rfl Tryd.func50 (by kernel_rfl) rfl #[.int .i64 a0] rfl (by (try simp only [List.map_toArray, List.map_cons, List.map_nil]); first | done | rfl | (simp only [List.length_drop, List.length_take]; rfl)) ?_; (with_reducible refine (strconv_Itoa.calls a0 t103 _ ?side1 A3.out).mono ?_); (case side1 => exact XTab.below HT.out (by repeat (first | (with_reducible first | exact HB.out | apply below_alloc | apply pw_below_drewN | apply below_drew1) | exact HB.out))); rintro e w6 ⟨rfl, hb⟩; refine ⟨_, rfl, ?_⟩; have n0_ := Aside0.mk (below_step (by repeat (first | (with_reducible first | exact HB.out | apply below_alloc | apply pw_below_drewN | apply below_drew1) | exact HB.out)) hb); clear HB; have HB := n0_; clear n0_; (try clear hb); (try clear hb2); (try clear hk); (try clear hi)))
        go_ret
        exact ⟨by first | rfl | (simp [errW_none, errW_some] <;> rfl) | (simp [*, errW_none, errW_some] <;> rfl), by repeat (first | (with_reducible first | exact HB.out | apply below_alloc | apply pw_below_drewN | apply below_drew1) | exact HB.out)⟩
      · rw [if_neg c5] at H
        exact absurd H (by simp)
    · rw [if_neg c4] at H
      exact absurd H (by simp)
  · rw [if_neg c2] at H
    have c2b0 : decide (0 < a0) = false := decide_eq_false c2
    clear c2
    by_cases c7 : 3 + 0 ≤ 9223372036854775807
    · rw [if_pos c7] at H
      have c7b0 := eq_true c7
      have c7b1 : decide (3 + 0 ≤ 9223372036854775807) = true := decide_eq_true c7
      try have c7b2 : (9223372036854775807 < 3 + 0) = False := eq_false (Nat.not_lt.2 c7)
      by_cases c8 : 3 + 0 + 1 ≤ 9223372036854775807
      · rw [if_pos c8] at H
        have c8b0 := eq_true c8
        have c8b1 : decide (3 + 0 + 1 ≤ 9223372036854775807) = true := decide_eq_true c8
        try have c8b2 : (9223372036854775807 < 3 + 0 + 1) = False := eq_false (Nat.not_lt.2 c8)
        obtain rfl := Option.some.inj H
        go_enter Tryd.func37, Tryd.ntmps37
        go_wp2
        go_ret
        exact ⟨by first | rfl | (simp [errW_none, errW_some] <;> rfl) | (simp [*, errW_none, errW_some] <;> rfl), by repeat (first | (with_reducible first | exact HB.out | apply below_alloc | apply pw_below_drewN | apply below_drew1) | exact HB.out)⟩
      · rw [if_neg c8] at H
        exact absurd H (by simp)
    · rw [if_neg c7] at H
      exact absurd H (by simp)
end Go.Proofs.YtkklhlakklcnbaaDoor.Y
end
section
namespace Go.Proofs.YtkklhlakklcnbaaDoor.Y
open Go.RowKit Go.Proofs.YtkklhlakklcnbaaDoorW.PrintWords Go.Proofs.YtkklhlakklcnbaaDoorW.PrintLast Go.Proofs.YtkklhlakklcnbaaDoorW.PrintMore
attribute [local go_sem] max2_int min2_int max_two min_two max_three min_three max_four min_four   -- for this text's walks alone
set_option linter.unusedVariables false
set_option linter.unusedSimpArgs false
set_option maxHeartbeats 8000000 in
set_option maxRecDepth 100000 in
theorem xansi_SetProgressBar.calls (a0 : Int) (r : ByteArray) (w : World) (hT : XTab w) (h : xansi_SetProgressBar.f a0 = some r) :
    Calls Tryd.prog 41 #[.int .i64 a0] w fun e w' => e = .returned (.string r) ∧ Below w.heap.size w w' := by
  have HT := Aside0.mk hT
  clear hT
  have HB := Aside0.mk (Below.refl w.heap.size w)
  have H : ((strconv_Itoa.f (mn (mx 0 a0) 100)).bind fun t104 => (if 8 + t104.size ≤ 9223372036854775807 then (if 8 + t104.size + 1 ≤ 9223372036854775807 then (some (((⟨#[27, 93, 57, 59, 52, 59, 49, 59]⟩ : ByteArray) ++ t104) ++ (⟨#[7]⟩ : ByteArray))) else (none)) else (none))) = some r := h
  clear h
  obtain ⟨ji2, hji2⟩ : ∃ j_ : Int, (mx 0 a0) = j_ := ⟨_, rfl⟩
  replace H : ((strconv_Itoa.f (mn (ji2) 100)).bind fun t104 => (if 8 + t104.size ≤ 9223372036854775807 then (if 8 + t104.size + 1 ≤ 9223372036854775807 then (some (((⟨#[27, 93, 57, 59, 52, 59, 49, 59]⟩ : ByteArray) ++ t104) ++ (⟨#[7]⟩ : ByteArray))) else (none)) else (none))) = some r := by first | (rw [hji2] at H; exact H) | (simp only [hji2] at H ⊢; exact H)
  (try (have hji2l : 0 ≤ ji2 := by (rw [← hji2]; unfold mx; (repeat' split) <;> omega)))
  (try (have hji2m : 0 ≤ ji2 := by omega))
  have hji2_ : (if 0 < a0 then a0 else 0) = ji2 := hji2
  obtain ⟨ji3, hji3⟩ : ∃ j_ : Int, (mn (ji2) 100) = j_ := ⟨_, rfl⟩
  replace H : ((strconv_Itoa.f (ji3)).bind fun t104 => (if 8 + t104.size ≤ 9223372036854775807 then (if 8 + t104.size + 1 ≤ 9223372036854775807 then (some (((⟨#[27, 93, 57, 59, 52, 59, 49, 59]⟩ : ByteArray) ++ t104) ++ (⟨#[7]⟩ : ByteArray))) else (none)) else (none))) = some r := by first | (rw [hji3] at H; exact H) | (simp only [hji3] at H ⊢; exact H)
  have hji3_ : (if 100 < (ji2) then 100 else (ji2)) = ji3 := hji3
  replace H := Option.bind_eq_some_iff.mp H
  obtain ⟨t104, A40, H⟩ := H
  replace H : (if 8 + t104.size ≤ 9223372036854775807 then (if 8 + t104.size + 1 ≤ 9223372036854775807 then (some (((⟨#[27, 93, 57, 59, 52, 59, 49, 59]⟩ : ByteArray) ++ t104) ++ (⟨#[7]⟩ : ByteArray))) else (none)) else (none)) = some r := H
  have A4 := Aside0.mk A40
  clear A40
  by_cases c5 : 8 + t104.size ≤ 9223372036854775807
  · rw [if_pos c5] at H
    have c5b0 := eq_true c5
    have c5b1 : decide (8 + t104.size ≤ 9223372036854775807) = true := decide_eq_true c5
    try have c5b2 : (9223372036854775807 < 8 + t104.size) = False := eq_false (Nat.not_lt.2 c5)
    by_cases c6 : 8 + t104.size + 1 ≤ 9223372036854775807
    · rw [if_pos c6] at H
      have c6b0 := eq_true c6
      have c6b1 : decide (8 + t104.size + 1 ≤ 9223372036854775807) = true := decide_eq_true c6
      try have c6b2 : (9223372036854775807 < 8 + t104.size + 1) = False := eq_false (Nat.not_lt.2 c6)
      obtain rfl := Option.some.inj H
      go_enter Tryd.func41, Tryd.ntmps41
      go_wp2_with (first | ((with_reducible refine gate_callee (f := 50) rfl ?_); refine goesL_ (some 6) rfl rfl Tryd.func50 (by kernel_rfl) rfl #[.int .i64 ji3] rfl (by (try simp only [List.map_toArray, List.map_cons, List.map_nil]); first | done | (simp only [hji3]; rfl) | rfl | (simp only [List.length_drop, List.length_take]; rfl)) ?_; (with_reducible refine (strconv_Itoa.calls ji3 t104 _ ?side1 A4.out).mono ?_); (case side1 => exact XTab.below HT.out (by repeat (first | (with_reducible first | exact HB.out | apply below_alloc | apply pw_below_drewN | apply below_drew1) | exact HB.out))); rintro e w7 ⟨rfl, hb⟩; refine ⟨_, rfl, ?_⟩; have n0_ := Aside0.mk (below_step (by repeat (first | (with_reducible first | exact HB.out | apply below_alloc | apply pw_below_drewN | apply below_drew1) | exact HB.out)) hb); clear HB; have HB := n0_; clear n0_; (try clear hb); (try clear hb2); (try clear hk); (try clear hi)))
      go_ret
      exact ⟨by first | rfl | (simp [errW_none, errW_some] <;> rfl) | (simp only [← hji2, ← hji3]; first | rfl | (simp [errW_none, errW_some] <;> rfl)) | (simp [*, errW_none, errW_some] <;> rfl), by repeat (first | (with_reducible first | exact HB.out | apply below_alloc | apply pw_below_drewN | apply below_drew1) | exact HB.out)⟩
    · rw [if_neg c6] at H
      exact absurd H (by simp)
  · rw [if_neg c5] at H
    exact absurd H (by simp)
end Go.Proofs.YtkklhlakklcnbaaDoor.Y
end
section
namespace Go.Proofs.YtkklhlakklcnbaaDoor.Y
open Go.RowKit Go.Proofs.YtkklhlakklcnbaaDoorW.PrintWords Go.Proofs.YtkklhlakklcnbaaDoorW.PrintLast Go.Proofs.YtkklhlakklcnbaaDoorW.PrintMore
attribute [local go_sem] max2_int min2_int max_two min_two max_three min_three max_four min_four   -- for this text's walks alone
set_option linter.unusedVariables false
set_option linter.unusedSimpArgs false
set_option maxHeartbeats 8000000 in
set_option maxRecDepth 100000 in
theorem xansi_SetErrorProgressBar.calls (a0 : Int) (r : ByteArray) (w : World) (hT : XTab w) (h : xansi_SetErrorProgressBar.f a0 = some r) :
    Calls Tryd.prog 42 #[.int .i64 a0] w fun e w' => e = .returned (.string r) ∧ Below w.heap.size w w' := by
  have HT := Aside0.mk hT
  clear hT
  have HB := Aside0.mk (Below.refl w.heap.size w)
  have H : ((strconv_Itoa.f (mn (mx 0 a0) 100)).bind fun t105 => (if 8 + t105.size ≤ 9223372036854775807 then (if 8 + t105.size + 1 ≤ 9223372036854775807 then (some (((⟨#[27, 93, 57, 59, 52, 59, 50, 59]⟩ : ByteArray) ++ t105) ++ (⟨#[7]⟩ : ByteArray))) else (none)) else (none))) = some r := h
  clear h
  obtain ⟨ji2, hji2⟩ : ∃ j_ : Int, (mx 0 a0) = j_ := ⟨_, rfl⟩
  replace H : ((strconv_Itoa.f (mn (ji2) 100)).bind fun t105 => (if 8 + t105.size ≤ 9223372036854775807 then (if 8 + t105.size + 1 ≤ 9223372036854775807 then (some (((⟨#[27, 93, 57, 59, 52, 59, 50, 59]⟩ : ByteArray) ++ t105) ++ (⟨#[7]⟩ : ByteArray))) else (none)) else (none))) = some r := by first | (rw [hji2] at H; exact H) | (simp only [hji2] at H ⊢; exact H)
  (try (have hji2l : 0 ≤ ji2 := by (rw [← hji2]; unfold mx; (repeat' split) <;> omega)))
  (try (have hji2m : 0 ≤ ji2 := by omega))
  have hji2_ : (if 0 < a0 then a0 else 0) = ji2 := hji2
  obtain ⟨ji3, hji3⟩ : ∃ j_ : Int, (mn (ji2) 100) = j_ := ⟨_, rfl⟩
  replace H : ((strconv_Itoa.f (ji3)).bind fun t105 => (if 8 + t105.size ≤ 9223372036854775807 then (if 8 + t105.size + 1 ≤ 9223372036854775807 then (some (((⟨#[27, 93, 57, 59, 52, 59, 50, 59]⟩ : ByteArray) ++ t105) ++ (⟨#[7]⟩ : ByteArray))) else (none)) else (none))) = some r := by first | (rw [hji3] at H; exact H) | (simp only [hji3] at H ⊢; exact H)
  have hji3_ : (if 100 < (ji2) then 100 else (ji2)) = ji3 := hji3
  replace H := Option.bind_eq_some_iff.mp H
  obtain ⟨t105, A40, H⟩ := H
  replace H : (if 8 + t105.size ≤ 9223372036854775807 then (if 8 + t105.size + 1 ≤ 9223372036854775807 then (some (((⟨#[27, 93, 57, 59, 52, 59, 50, 59]⟩ : ByteArray) ++ t105) ++ (⟨#[7]⟩ : ByteArray))) else (none)) else (none)) = some r := H
  have A4 := Aside0.mk A40
  clear A40
  by_cases c5 : 8 + t105.size ≤ 9223372036854775807
  · rw [if_pos c5] at H
    have c5b0 := eq_true c5
    have c5b1 : decide (8 + t105.size ≤ 9223372036854775807) = true := decide_eq_true c5
    try have c5b2 : (9223372036854775807 < 8 + t105.size) = False := eq_false (Nat.not_lt.2 c5)
    by_cases c6 : 8 + t105.size + 1 ≤ 9223372036854775807
    · rw [if_pos c6] at H
      have c6b0 := eq_true c6
      have c6b1 : decide (8 + t105.size + 1 ≤ 9223372036854775807) = true := decide_eq_true c6
      try have c6b2 : (9223372036854775807 < 8 + t105.size + 1) = False := eq_false (Nat.not_lt.2 c6)
      obtain rfl := Option.some.inj H
      go_enter Tryd.func42, Tryd.ntmps42
      go_wp2_with (first | ((with_reducible refine gate_callee (f := 50) rfl ?_); refine goesL_ (some 6) rfl rfl Tryd.func50 (by kernel_rfl) rfl #[.int .i64 ji3] rfl (by (try simp only [List.map_toArray, List.map_cons, List.map_nil]); first | done | (simp only [hji3]; rfl) | rfl | (simp only [List.length_drop, List.length_take]; rfl)) ?_; (with_reducible refine (strconv_Itoa.calls ji3 t105 _ ?side1 A4.out).mono ?_); (case side1 => exact XTab.below HT.out (by repeat (first | (with_reducible first | exact HB.out | apply below_alloc | apply pw_below_drewN | apply below_drew1) | exact HB.out))); rintro e w7 ⟨rfl, hb⟩; refine ⟨_, rfl, ?_⟩; have n0_ := Aside0.mk (below_step (by repeat (first | (with_reducible first | exact HB.out | apply below_alloc | apply pw_below_drewN | apply below_drew1) | exact HB.out)) hb); clear HB; have HB := n0_; clear n0_; (try clear hb); (try clear hb2); (try clear hk); (try clear hi)))
      go_ret
      exact ⟨by first | rfl | (simp [errW_none, errW_some] <;> rfl) | (simp only [← hji2, ← hji3]; first | rfl | (simp [errW_none, errW_some] <;> rfl)) | (simp [*, errW_none, errW_some] <;> rfl), by repeat (first | (with_reducible first | exact HB.out | apply below_alloc | apply pw_below_drewN | apply below_drew1) | exact HB.out)⟩
    · rw [if_neg c6] at H
      exact absurd H (by simp)
  · rw [if_neg c5] at H
    exact absurd H (by simp)
end Go.Proofs.YtkklhlakklcnbaaDoor.Y
end
section
namespace Go.Proofs.YtkklhlakklcnbaaDoor.Y
open Go.RowKit Go.Proofs.YtkklhlakklcnbaaDoorW.PrintWords Go.Proofs.YtkklhlakklcnbaaDoorW.PrintLast Go.Proofs.YtkklhlakklcnbaaDoorW.PrintMore
attribute [local go_sem] max2_int min2_int max_two min_two max_three min_three max_four min_four   -- for this text's walks alone
set_option linter.unusedVariables false
set_option linter.unusedSimpArgs false
set_option maxHeartbeats 8000000 in
set_option maxRecDepth 100000 in
theorem xansi_SetWarningProgressBar.calls (a0 : Int) (r : ByteArray) (w : World) (hT : XTab w) (h : xansi_SetWarningProgressBar.f a0 = some r) :
    Calls Tryd.prog 43 #[.int .i64 a0] w fun e w' => e = .returned (.string r) ∧ Below w.heap.size w w' := by
  have HT := Aside0.mk hT
  clear hT
  have HB := Aside0.mk (Below.refl w.heap.size w)
  have H : ((strconv_Itoa.f (mn (mx 0 a0) 100)).bind fun t106 => (if 8 + t106.size ≤ 9223372036854775807 then (if 8 + t106.size + 1 ≤ 9223372036854775807 then (some (((⟨#[27, 93, 57, 59, 52, 59, 52, 59]⟩ : ByteArray) ++ t106) ++ (⟨#[7]⟩ : ByteArray))) else (none)) else (none))) = some r := h
  clear h
  obtain ⟨ji2, hji2⟩ : ∃ j_ : Int, (mx 0 a0) = j_ := ⟨_, rfl⟩
  replace H : ((strconv_Itoa.f (mn (ji2) 100)).bind fun t106 => (if 8 + t106.size ≤ 9223372036854775807 then (if 8 + t106.size + 1 ≤ 9223372036854775807 then (some (((⟨#[27, 93, 57, 59, 52, 59, 52, 59]⟩ : ByteArray) ++ t106) ++ (⟨#[7]⟩ : ByteArray))) else (none)) else (none))) = some r := by first | (rw [hji2] at H; exact H) | (simp only [hji2] at H ⊢; exact H)
  (try (have hji2l : 0 ≤ ji2 := by (rw [← hji2]; unfold mx; (repeat' split) <;> omega)))
  (try (have hji2m : 0 ≤ ji2 := by omega))
  have hji2_ : (if 0 < a0 then a0 else 0) = ji2 := hji2
  obtain ⟨ji3, hji3⟩ : ∃ j_ : Int, (mn (ji2) 100) = j_ := ⟨_, rfl⟩
  replace H : ((strconv_Itoa.f (ji3)).bind fun t106 => (if 8 + t106.size ≤ 9223372036854775807 then (if 8 + t106.size + 1 ≤ 9223372036854775807 then (some (((⟨#[27, 93, 57, 59, 52, 59, 52, 59]⟩ : ByteArray) ++ t106) ++ (⟨#[7]⟩ : ByteArray))) else (none)) else (none))) = some r := by first | (rw [hji3] at H; exact H) | (simp only [hji3] at H ⊢; exact H)
  have hji3_ : (if 100 < (ji2) then 100 else (ji2)) = ji3 := hji3
  replace H := Option.bind_eq_some_iff.mp H
  obtain ⟨t106, A40, H⟩ := H
  replace H : (if 8 + t106.size ≤ 9223372036854775807 then (if 8 + t106.size + 1 ≤ 9223372036854775807 then (some (((⟨#[27, 93, 57, 59, 52, 59, 52, 59]⟩ : ByteArray) ++ t106) ++ (⟨#[7]⟩ : ByteArray))) else (none)) else (none)) = some r := H
  have A4 := Aside0.mk A40
  clear A40
  by_cases c5 : 8 + t106.size ≤ 9223372036854775807
  · rw [if_pos c5] at H
    have c5b0 := eq_true c5
    have c5b1 : decide (8 + t106.size ≤ 9223372036854775807) = true := decide_eq_true c5
    try have c5b2 : (9223372036854775807 < 8 + t106.size) = False := eq_false (Nat.not_lt.2 c5)
    by_cases c6 : 8 + t106.size + 1 ≤ 9223372036854775807
    · rw [if_pos c6] at H
      have c6b0 := eq_true c6
      have c6b1 : decide (8 + t106.size + 1 ≤ 9223372036854775807) = true := decide_eq_true c6
      try have c6b2 : (9223372036854775807 < 8 + t106.size + 1) = False := eq_false (Nat.not_lt.2 c6)
      obtain rfl := Option.some.inj H
      go_enter Tryd.func43, Tryd.ntmps43
      go_wp2_with (first | ((with_reducible refine gate_callee (f := 50) rfl ?_); refine goesL_ (some 6) rfl rfl Tryd.func50 (by kernel_rfl) rfl #[.int .i64 ji3] rfl (by (try simp only [List.map_toArray, List.map_cons, List.map_nil]); first | done | (simp only [hji3]; rfl) | rfl | (simp only [List.length_drop, List.length_take]; rfl)) ?_; (with_reducible refine (strconv_Itoa.calls ji3 t106 _ ?side1 A4.out).mono ?_); (case side1 => exact XTab.below HT.out (by repeat (first | (with_reducible first | exact HB.out | apply below_alloc | apply pw_below_drewN | apply below_drew1) | exact HB.out))); rintro e w7 ⟨rfl, hb⟩; refine ⟨_, rfl, ?_⟩; have n0_ := Aside0.mk (below_step (by repeat (first | (with_reducible first | exact HB.out | apply below_alloc | apply pw_below_drewN | apply below_drew1) | exact HB.out)) hb); clear HB; have HB := n0_; clear n0_; (try clear hb); (try clear hb2); (try clear hk); (try clear hi)))
      go_ret
      exact ⟨by first | rfl | (simp [errW_none, errW_some] <;> rfl) | (simp only [← hji2, ← hji3]; first | rfl | (simp [errW_none, errW_some] <;> rfl)) | (simp [*, errW_none, errW_some] <;> rfl), by repeat (first | (with_reducible first | exact HB.out | apply below_alloc | apply pw_below_drewN | apply below_drew1) | exact HB.out)⟩
    · rw [if_neg c6] at H
      exact absurd H (by simp)
  · rw [if_neg c5] at H
    exact absurd H (by simp)
end Go.Proofs.YtkklhlakklcnbaaDoor.Y
end
