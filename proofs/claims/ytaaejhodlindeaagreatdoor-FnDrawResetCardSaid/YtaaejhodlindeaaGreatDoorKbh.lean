/- Texts of this claim, joined: Y30D XLawPrefix. Of each, what the claim uses. -/
import Derived.Test.YtaaejhodlindeaaGreatDoorKac
import Derived.Test.YtaaejhodlindeaaGreatDoorKat
import Derived.Test.YtaaejhodlindeaaGreatDoorKav
import Derived.Test.YtaaejhodlindeaaGreatDoorKaq
import Derived.Test.YtaaejhodlindeaaGreatDoorKax
section
namespace Go.Proofs.YtaaejhodlindeaaGreatDoor.Y
open Go.RowKit Go.Proofs.YtaaejhodlindeaaGreatDoorW.PrintWords Go.Proofs.YtaaejhodlindeaaGreatDoorW.PrintLast Go.Proofs.YtaaejhodlindeaaGreatDoorW.PrintMore
attribute [local go_sem] max2_int min2_int max_two min_two max_three min_three max_four min_four   -- for this text's walks alone
set_option linter.unusedVariables false
set_option linter.unusedSimpArgs false
/-! ### laws_FnDrawPrefix: function 8 -/
def laws_FnDrawPrefix.l0 : Nat → Int → List (S83) → List (S83) → Int → Int → List (S42) → Int → Int → Option (Bool)
  | 0, _, _, _, _, _, _, _, _ => none
  | k + 1, x6, x7, x8, x9, x10, x35, x36, x37 => if x37 < x36 then (if 0 ≤ x37 then (if x37 < (x35.length : Int) then ((laws_drawMade.f k ((rd_T42 x35 x37).f0) ((rd_T42 x35 x37).f1) ((rd_T42 x35 x37).f2) ((rd_T42 x35 x37).f3) ((rd_T42 x35 x37).f4)).bind fun t268 => (if ((rd_T42 x35 x37).f0) = 60 then (laws_FnDrawPrefix.l0 k x6 x7 x8 (wrap64 (x9 + (t268.size : Int))) (wrap64 (x10 + (mn (mx (wrap64 (x6 - x9)) 0) (t268.size : Int)))) x35 x36 (wrap64 (x37 + 1))) else (if (wrap64 (x9 + (t268.size : Int))) ≤ x6 then (laws_FnDrawPrefix.l0 k x6 x7 x8 (wrap64 (x9 + (t268.size : Int))) (wrap64 (x10 + 1)) x35 x36 (wrap64 (x37 + 1))) else (laws_FnDrawPrefix.l0 k x6 x7 x8 (wrap64 (x9 + (t268.size : Int))) x10 x35 x36 (wrap64 (x37 + 1)))))) else (none)) else (none)) else (if (x8.length : Int) = x10 then (if x10 ≤ (x7.length : Int) then ((laws_drawEvents.f k x8).bind fun t269 => (if 0 ≤ x10 then ((laws_drawEvents.f k (x7.take (x10 : Int).toNat)).bind fun t277 => ((spec_SameEvents.f t269 t277).bind fun t280 => (if t280 = true then ((laws_drawAwake.f).bind fun t281 => (some t281)) else (some false)))) else (none))) else (some false)) else (some false))
def laws_FnDrawPrefix.f (k : Nat) (l0 : List (S42)) (a1 : Int) : Option (Bool) := (laws_zzFits3.f k l0).bind fun t249 => (if t249 = true then ((spec_IsDrawPlan.f k l0).bind fun t250 => (if t250 = true then ((laws_drawText.f k l0).bind fun t252 => (if (wrap64 ((t252.length : Int) + 1)) = 0 then (none) else ((impl_Feed.f 32 4096 t252).bind fun t255 => (if 0 ≤ (Int.tmod (wrap64 (a1)) (wrap64 ((t252.length : Int) + 1))) then (if (Int.tmod (wrap64 (a1)) (wrap64 ((t252.length : Int) + 1))) ≤ (t252.length : Int) then ((impl_Feed.f 32 4096 (t252.take ((Int.tmod (wrap64 (a1)) (wrap64 ((t252.length : Int) + 1))) : Int).toNat)).bind fun t263 => (laws_FnDrawPrefix.l0 k (Int.tmod (wrap64 (a1)) (wrap64 ((t252.length : Int) + 1))) t255 t263 0 0 l0 (l0.length : Int) 0)) else (none)) else (none))))) else ((laws_drawAwake.f).bind fun t251 => (some t251)))) else (some true))
theorem laws_FnDrawPrefix.mono_l : ∀ k, (∀ y0 y1 y2 y3 y4 y5 y6 y7, LeO (laws_FnDrawPrefix.l0 k y0 y1 y2 y3 y4 y5 y6 y7) (laws_FnDrawPrefix.l0 (k + 1) y0 y1 y2 y3 y4 y5 y6 y7))
  | 0 => fun _ _ _ _ _ _ _ _ r h => by simp [laws_FnDrawPrefix.l0] at h
  | k + 1 => by
    have ih0 := laws_FnDrawPrefix.mono_l k
    · intro y0 y1 y2 y3 y4 y5 y6 y7
      unfold laws_FnDrawPrefix.l0
      repeat' first
      | (with_reducible exact ih0 _ _ _ _ _ _ _ _)
      | (with_reducible exact laws_drawEvents.mono _ _)
      | (with_reducible exact laws_drawMade.mono _ _ _ _ _ _)
      | (with_reducible exact laws_drawText.mono _ _)
      | (with_reducible exact laws_zzFits3.mono _ _)
      | (with_reducible exact spec_IsDrawPlan.mono _ _)
      | (with_reducible exact LeO.refl _)
      | (with_reducible exact LeO.none _)
      | (with_reducible refine LeO.ite ?_ ?_)
      | (with_reducible refine LeO.bind ?_ (fun _ => ?_))
      | exact ih0 _ _ _ _ _ _ _ _
      | exact laws_drawEvents.mono _ _
      | exact laws_drawMade.mono _ _ _ _ _ _
      | exact laws_drawText.mono _ _
      | exact laws_zzFits3.mono _ _
      | exact spec_IsDrawPlan.mono _ _
      | exact LeO.none _
      | refine LeO.ite ?_ ?_
      | refine LeO.bind ?_ (fun _ => ?_)
theorem laws_FnDrawPrefix.mono : ∀ a0 a1 k, LeO (laws_FnDrawPrefix.f k a0 a1) (laws_FnDrawPrefix.f (k + 1) a0 a1) := by
  intro a0 a1 k
  have ih0 := laws_FnDrawPrefix.mono_l k
  unfold laws_FnDrawPrefix.f
  repeat' first
      | (with_reducible exact ih0 _ _ _ _ _ _ _ _)
      | (with_reducible exact laws_drawEvents.mono _ _)
      | (with_reducible exact laws_drawMade.mono _ _ _ _ _ _)
      | (with_reducible exact laws_drawText.mono _ _)
      | (with_reducible exact laws_zzFits3.mono _ _)
      | (with_reducible exact spec_IsDrawPlan.mono _ _)
      | (with_reducible exact LeO.refl _)
      | (with_reducible exact LeO.none _)
      | (with_reducible refine LeO.ite ?_ ?_)
      | (with_reducible refine LeO.bind ?_ (fun _ => ?_))
      | exact ih0 _ _ _ _ _ _ _ _
      | exact laws_drawEvents.mono _ _
      | exact laws_drawMade.mono _ _ _ _ _ _
      | exact laws_drawText.mono _ _
      | exact laws_zzFits3.mono _ _
      | exact spec_IsDrawPlan.mono _ _
      | exact LeO.none _
      | refine LeO.ite ?_ ?_
      | refine LeO.bind ?_ (fun _ => ?_)
def laws_FnDrawPrefix.T20 : Bool × List (List Nat × List Nat) := (true, [([], []), ([0], [0]), ([], []), ([1, 2], [1, 2]), ([3], [3]), ([4], [4]), ([4], [4]), ([6, 4], [4, 6]), ([5, 7, 4], [4, 5, 7]), ([4, 8], [4, 8]), ([9, 4], [9]), ([10], [10]), ([11, 10, 10], [10, 11]), ([10], [10]), ([10], [10]), ([13, 14, 10], [10, 13, 14]), ([15, 12, 10], [10, 15]), ([12, 16, 16, 10], [10, 12, 16]), ([10, 17], [10, 17]), ([18, 17], [18]), ([19, 19], [19]), ([19, 20], [19, 20]), ([21, 20, 0, 1, 2, 3, 4, 5, 6, 7, 8, 9, 10, 11, 12, 13, 14, 15, 16, 17, 18, 19, 20, 21], [21])])
def laws_FnDrawPrefix.B20 : List Nat := [0, 1, 0, 7, 15, 31, 31, 95, 255, 511, 1023, 2047, 4095, 2047, 2047, 26623, 65535, 131071, 262143, 524287, 1048575, 2097151, 4194303]
theorem laws_FnDrawPrefix.tab20 : rtab .any (opsOf Tryz.f8 20) = laws_FnDrawPrefix.T20 := by kernel_rfl
theorem laws_FnDrawPrefix.bits20 : waitsOk laws_FnDrawPrefix.T20.2 laws_FnDrawPrefix.B20 = true := by kernel_rfl
end Go.Proofs.YtaaejhodlindeaaGreatDoor.Y
end
section
namespace Go.Proofs.YtaaejhodlindeaaGreatDoor.Y
open Go.RowKit Go.Proofs.YtaaejhodlindeaaGreatDoorW.PrintWords Go.Proofs.YtaaejhodlindeaaGreatDoorW.PrintLast Go.Proofs.YtaaejhodlindeaaGreatDoorW.PrintMore
set_option linter.unusedSimpArgs false
set_option linter.unusedVariables false
/-- A run's beginning is a run, and tells the first events. -/
theorem run_start {s t : X.PS} {l m : List Nat} {e : List X.Ev} (h : X.run s (l ++ m) = some (t, e)) : ∃ u f g, X.run s l = some (u, f) ∧ e = f ++ g := by
  rw [X.run_append] at h
  obtain ⟨⟨u, f⟩, h1, h2⟩ := Option.bind_eq_some_iff.1 h
  obtain ⟨⟨v, g⟩, h3, h4⟩ := Option.map_eq_some_iff.1 h2
  simp only [Prod.mk.injEq] at h4
  exact ⟨u, f, g, h1, h4.2.symm⟩
/-- How many events a part tells that is cut at j. -/
def cutN (o : Op) (z j : Nat) : Nat := if o.f0 = 60 then min j z else if z ≤ j then 1 else 0
theorem cut_run {o : Op} {t : ByteArray} {evs : List X.Ev} (h : MadeAs o t evs) (j : Nat) : ∃ s, X.run .gr ((X.nb t).take j) = some (s, evs.take (cutN o t.size j)) ∧ (t.size ≤ j → s = .gr ∧ cutN o t.size j = evs.length) ∧ cutN o t.size j ≤ evs.length := by
  have hnl : (X.nb t).length = t.size := X.nb_len t
  rcases h with ⟨h60, rfl, rfl, hp⟩ | ⟨h60, e, rfl, ho⟩
  · have hdl := data_length o.f3
    refine ⟨.gr, ?_, fun hz => ⟨rfl, ?_⟩, ?_⟩
    · have e1 : (X.nb o.f3).take j = (o.f3.data.toList.take j).map UInt8.toNat := by simp [X.nb]
      rw [e1, text_run _ (fun b hb => hp.1 b (List.mem_of_mem_take hb))]
      have e2 : (charEvs o.f3).take (cutN o o.f3.size j) = (o.f3.data.toList.take j).map fun b => X.evPrint b.toNat := by
        unfold cutN charEvs
        rw [if_pos h60, ← List.map_take]
        congr 1
        by_cases hj : j ≤ o.f3.size
        · rw [Nat.min_eq_left hj]
        · rw [Nat.min_eq_right (by omega), List.take_of_length_le (by omega), List.take_of_length_le (by omega)]
      rw [e2]
    · unfold cutN charEvs
      rw [if_pos h60, List.length_map]
      omega
    · unfold cutN charEvs
      rw [if_pos h60, List.length_map]
      omega
  · by_cases hz : t.size ≤ j
    · refine ⟨.gr, ?_, fun _ => ⟨rfl, ?_⟩, ?_⟩
      · rw [List.take_of_length_le (by omega), ho.run]
        unfold cutN
        rw [if_neg h60, if_pos hz]
        rfl
      · unfold cutN
        rw [if_neg h60, if_pos hz]
        rfl
      · unfold cutN
        rw [if_neg h60, if_pos hz]
        simp
    · obtain ⟨s, hs⟩ := ho.cut
      have e1 : (X.nb t).dropLast = (X.nb t).take j ++ ((X.nb t).dropLast).drop j := by
        have := List.take_append_drop j (X.nb t).dropLast
        have e2 : (X.nb t).dropLast.take j = (X.nb t).take j := by
          rw [List.dropLast_eq_take, List.take_take]
          congr 1
          omega
        rw [e2] at this
        exact this.symm
      rw [e1] at hs
      obtain ⟨u, f, g, h1, h2⟩ := run_start hs
      have hf : f = [] := by
        cases f with
        | nil => rfl
        | cons a r => cases h2
      subst hf
      have hc : cutN o t.size j = 0 := by
        unfold cutN
        rw [if_neg h60, if_neg hz]
      rw [hc]
      exact ⟨u, by simpa using h1, fun h => absurd h hz, by omega⟩
def textsTo (ps : List (ByteArray × List X.Ev)) (i : Nat) : List Nat := ((ps.take i).map fun p => X.nb p.1).flatten
def evsTo (ps : List (ByteArray × List X.Ev)) (i : Nat) : List X.Ev := ((ps.take i).map (·.2)).flatten
theorem textsTo_succ (ps : List (ByteArray × List X.Ev)) (i : Nat) (h : i < ps.length) : textsTo ps (i + 1) = textsTo ps i ++ X.nb ps[i].1 := by
  unfold textsTo
  rw [List.take_succ_eq_append_getElem h, List.map_append, List.flatten_append]
  simp only [List.map_cons, List.map_nil, List.flatten_cons, List.flatten_nil, List.append_nil]
theorem evsTo_succ (ps : List (ByteArray × List X.Ev)) (i : Nat) (h : i < ps.length) : evsTo ps (i + 1) = evsTo ps i ++ ps[i].2 := by
  unfold evsTo
  rw [List.take_succ_eq_append_getElem h, List.map_append, List.flatten_append]
  simp only [List.map_cons, List.map_nil, List.flatten_cons, List.flatten_nil, List.append_nil]
/-- Where the count stands behind i operations. -/
def Stands (ps : List (ByteArray × List X.Ev)) (n i L : Nat) : Prop :=
  ∃ s, X.run .gr ((textsTo ps i).take n) = some (s, (evsTo ps i).take L) ∧ L ≤ (evsTo ps i).length ∧ ((textsTo ps i).length ≤ n → s = .gr ∧ L = (evsTo ps i).length)
theorem stands_next {l : List Op} {ps : List (ByteArray × List X.Ev)} (h : Made l ps) {n i L : Nat} (hi : i < l.length) (hip : i < ps.length) (hs : Stands ps n i L) :
    Stands ps n (i + 1) (L + (if (textsTo ps i).length ≤ n then cutN l[i] ps[i].1.size (n - (textsTo ps i).length) else 0)) := by
  obtain ⟨s, h1, h2, h3⟩ := hs
  have hm := (h.2 i ps[i] hi (List.getElem?_eq_getElem hip)).2
  have hz : (X.nb ps[i].1).length = ps[i].1.size := X.nb_len _
  have hpos := (madeAs_size hm).2
  unfold Stands
  rw [textsTo_succ ps i hip, evsTo_succ ps i hip]
  by_cases hn : (textsTo ps i).length ≤ n
  · rw [if_pos hn]
    obtain ⟨rfl, hL⟩ := h3 hn
    rw [List.take_of_length_le hn, hL, List.take_length] at h1
    obtain ⟨u, c1, c2, c3⟩ := cut_run hm (n - (textsTo ps i).length)
    refine ⟨u, ?_, by rw [List.length_append]; omega, fun hall => ?_⟩
    · have e1 : (textsTo ps i ++ X.nb ps[i].1).take n = textsTo ps i ++ (X.nb ps[i].1).take (n - (textsTo ps i).length) := by
        rw [List.take_append, List.take_of_length_le hn]
      have e2 : (evsTo ps i ++ ps[i].2).take (L + cutN l[i] ps[i].1.size (n - (textsTo ps i).length)) = evsTo ps i ++ ps[i].2.take (cutN l[i] ps[i].1.size (n - (textsTo ps i).length)) := by
        rw [List.take_append, List.take_of_length_le (by omega)]
        congr 2
        omega
      rw [e1, e2]
      exact X.run_of h1 c1
    · rw [List.length_append] at hall
      obtain ⟨d1, d2⟩ := c2 (by omega)
      exact ⟨d1, by rw [List.length_append]; omega⟩
  · rw [if_neg hn, Nat.add_zero]
    refine ⟨s, ?_, by rw [List.length_append]; omega, fun hall => ?_⟩
    · rw [List.take_append_of_le_length (by omega), List.take_append_of_le_length (by omega)]
      exact h1
    · rw [List.length_append] at hall
      omega
theorem mn_mx (n A z : Nat) : mn (mx ((n : Int) - (A : Int)) 0) (z : Int) = ((if A ≤ n then min (n - A) z else 0 : Nat) : Int) := by
  unfold mn mx
  repeat' split
  all_goals omega
theorem cut_le (n A z : Nat) (hz : z ≤ 100) : (if A ≤ n then min (n - A) z else 0) ≤ 100 := by split <;> omega
theorem prefix_l0 (l : List Op) (hl : l.length ≤ 20) (ps : List (ByteArray × List X.Ev)) (h : Made l ps) (T : List Nat) (evs E : List X.Ev) (s : X.PS) (n : Nat) (hT : T = (ps.map fun p => X.nb p.1).flatten) (hev : evs = (ps.map (·.2)).flatten) (hTl : T.length ≤ 2000) (hn : n ≤ T.length)
    (hE : X.run .gr (T.take n) = some (s, E)) (hfit : ∀ e ∈ evs, EvFit e) (hfew : evs.length ≤ 400) : ∀ (m i k L : Nat), i + m = l.length → 1000 + m ≤ k → Stands ps n i L →
    laws_FnDrawPrefix.l0 k (n : Int) (evs.map X.toS) (E.map X.toS) ((textsTo ps i).length : Int) (L : Int) l (l.length : Int) (i : Int) = some true
  | 0, i, k + 1, L, hi, hk, hs => by
    have hpl := h.1
    obtain ⟨s2, q1, q2, _⟩ := hs
    have e1 : textsTo ps i = T := by unfold textsTo; rw [hT, List.take_of_length_le (by omega)]
    have e2 : evsTo ps i = evs := by unfold evsTo; rw [hev, List.take_of_length_le (by omega)]
    rw [e1, e2, hE] at q1
    rw [e2] at q2
    simp only [Option.some.injEq, Prod.mk.injEq] at q1
    obtain ⟨_, rfl⟩ := q1
    have hfe : ∀ e ∈ evs.take L, EvFit e := fun e he => hfit e (List.mem_of_mem_take he)
    rw [laws_FnDrawPrefix.l0, if_neg (by omega), if_pos (by rw [List.length_map, List.length_take]; omega), if_pos (by rw [List.length_map]; omega), drawEvents_f _ (by rw [List.length_map, List.length_take]; omega) k (by rw [List.length_map, List.length_take]; omega), Option.bind_some, if_pos (by omega), Int.toNat_natCast, ← List.map_take,
      drawEvents_f _ (by rw [List.length_map, List.length_take]; omega) k (by rw [List.length_map, List.length_take]; omega), Option.bind_some, same_evs _ hfe, Option.bind_some, if_pos rfl, awake, Option.bind_some]
  | m + 1, i, k + 1, L, hi, hk, hs => by
    have hpl := h.1
    have hil : i < l.length := by omega
    have hip : i < ps.length := by omega
    obtain ⟨q1, q2⟩ := h.2 i ps[i] hil (List.getElem?_eq_getElem hip)
    obtain ⟨z1, z2⟩ := madeAs_size q2
    have hz : (X.nb ps[i].1).length = ps[i].1.size := X.nb_len _
    have hnext := stands_next h hil hip hs
    have hL : L ≤ 400 := by
      obtain ⟨_, _, g2, _⟩ := hs
      have hle : (evsTo ps i).length ≤ evs.length := by
        have : evs = evsTo ps i ++ ((ps.drop i).map (·.2)).flatten := by
          rw [hev]
          unfold evsTo
          rw [← List.flatten_append, ← List.map_append, List.take_append_drop]
        rw [this, List.length_append]
        omega
      omega
    have hA : (textsTo ps i).length ≤ 2000 := by
      have : T = textsTo ps i ++ ((ps.drop i).map fun p => X.nb p.1).flatten := by
        rw [hT]
        unfold textsTo
        rw [← List.flatten_append, ← List.map_append, List.take_append_drop]
      have := congrArg List.length this
      rw [List.length_append] at this
      omega
    have hw : wrap64 (((textsTo ps i).length : Int) + (ps[i].1.size : Int)) = ((textsTo ps (i + 1)).length : Int) := by
      rw [wrap64_of _ (by omega) (by omega), textsTo_succ ps i hip, List.length_append]
      omega
    have ih := fun L2 (h2 : Stands ps n (i + 1) L2) => prefix_l0 l hl ps h T evs E s n hT hev hTl hn hE hfit hfew m (i + 1) k L2 (by omega) (by omega) h2
    have hA1 : (textsTo ps (i + 1)).length = (textsTo ps i).length + ps[i].1.size := by rw [textsTo_succ ps i hip, List.length_append, hz]
    rw [laws_FnDrawPrefix.l0, if_pos (by omega), if_pos (by omega), if_pos (by omega), rdO_at l i hil, q1 k (by omega), Option.bind_some, hw, wrap_up i (by omega)]
    by_cases h60 : l[i].f0 = 60
    · rw [if_pos h60]
      have e : wrap64 ((L : Int) + mn (mx (wrap64 ((n : Int) - ((textsTo ps i).length : Int))) 0) (ps[i].1.size : Int)) = ((L + (if (textsTo ps i).length ≤ n then cutN l[i] ps[i].1.size (n - (textsTo ps i).length) else 0) : Nat) : Int) := by
        rw [wrap64_of ((n : Int) - ((textsTo ps i).length : Int)) (by omega) (by omega), mn_mx]
        unfold cutN
        rw [if_pos h60]
        have := cut_le n (textsTo ps i).length ps[i].1.size z1
        rw [wrap64_of _ (by omega) (by omega)]
        omega
      rw [e]
      exact ih _ hnext
    · rw [if_neg h60]
      by_cases c : ((textsTo ps (i + 1)).length : Int) ≤ (n : Int)
      · rw [if_pos c, wrap64_of ((L : Int) + 1) (by omega) (by omega)]
        have e : L + (if (textsTo ps i).length ≤ n then cutN l[i] ps[i].1.size (n - (textsTo ps i).length) else 0) = L + 1 := by
          unfold cutN
          rw [if_pos (by omega), if_neg h60, if_pos (by omega)]
        rw [e] at hnext
        exact ih _ hnext
      · rw [if_neg c]
        have e : L + (if (textsTo ps i).length ≤ n then cutN l[i] ps[i].1.size (n - (textsTo ps i).length) else 0) = L := by
          unfold cutN
          rw [if_neg h60]
          split
          · rw [if_neg (by omega)]; rfl
          · rfl
        rw [e] at hnext
        exact ih _ hnext
theorem prefix_law (l : List Op) (a1 : Int) (h0 : 0 ≤ a1) (h1 : a1 ≤ 65535) (k : Nat) (hk : 7000000000 ≤ k) : laws_FnDrawPrefix.f k l a1 = some true := by
  unfold laws_FnDrawPrefix.f
  obtain ⟨a, q1, q2⟩ := fits_f l k (by omega)
  rw [q1, Option.bind_some]
  cases a with
  | false => rw [if_neg (by simp)]
  | true =>
    rw [if_pos rfl]
    obtain ⟨b, r1, r2⟩ := plan_f l (q2 rfl) k (by omega)
    rw [r1, Option.bind_some]
    cases b with
    | false => rw [if_neg (by simp), awake, Option.bind_some]
    | true =>
      have hR := r2 rfl
      obtain ⟨ps, T, m0, m1, m2, m3, m4, m5, m6⟩ := plan_run l hR
      have hl20 := hR.2.2
      have e1 : (ints T).length = T.length := by simp [ints]
      obtain ⟨n, hn, hn2⟩ : ∃ n : Nat, Int.tmod (wrap64 a1) (wrap64 (((ints T).length : Int) + 1)) = (n : Int) ∧ n ≤ T.length := by
        rw [e1, wrap64_of a1 (by omega) (by omega), wrap64_of _ (by omega) (by omega), Int.tmod_eq_emod_of_nonneg h0]
        refine ⟨(a1 % ((T.length : Int) + 1)).toNat, ?_, ?_⟩
        · have := Int.emod_nonneg a1 (show ((T.length : Int) + 1) ≠ 0 by omega)
          omega
        · have := Int.emod_lt_of_pos a1 (show (0 : Int) < (T.length : Int) + 1 by omega)
          have := Int.emod_nonneg a1 (show ((T.length : Int) + 1) ≠ 0 by omega)
          omega
      have hw : wrap64 (((ints T).length : Int) + 1) ≠ 0 := by rw [e1, wrap64_of _ (by omega) (by omega)]; omega
      obtain ⟨u, f, g, g1, g2⟩ := run_start (l := T.take n) (m := T.drop n) (by rw [List.take_append_drop]; exact m4)
      have e2 : (ints T).take ((n : Int)).toNat = ints (T.take n) := by simp [ints]
      rw [if_pos rfl, m1 k (by omega), Option.bind_some, if_neg hw, feed_l T (by omega) m4, Option.bind_some, hn, if_pos (by omega), if_pos (by rw [e1]; omega), e2, feed_l (T.take n) (by rw [List.length_take]; omega) g1, Option.bind_some]
      have := prefix_l0 l hR.2.2 ps m0 T _ f u n m2 rfl (by omega) hn2 g1 m5 m6 l.length 0 k 0 (by omega) (by omega) ⟨.gr, by simp [textsTo, evsTo, X.run], by simp, fun _ => ⟨rfl, by simp [evsTo]⟩⟩
      simpa [textsTo] using this
theorem FnDrawPrefix_true {Q : Op → Prop} (l : List Op) (_ : l.length ≤ maxLen) (_ : ∀ a ∈ l, Q a) (a1 : Int) (hw : (Lit.int .u16 a1).wf = true) : laws_FnDrawPrefix.f 7000000000 l a1 = some true := by
  have h : 0 ≤ a1 ∧ a1 ≤ 65535 := by simpa [Lit.wf, IntKind.min, IntKind.max, IntKind.signed, IntKind.bits] using hw
  exact prefix_law l a1 h.1 h.2 _ (Nat.le_refl _)
end Go.Proofs.YtaaejhodlindeaaGreatDoor.Y
end
