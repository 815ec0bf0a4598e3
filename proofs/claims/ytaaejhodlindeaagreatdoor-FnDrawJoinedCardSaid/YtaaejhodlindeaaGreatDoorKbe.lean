/- Texts of this claim, joined: Y29D XLawJoined. Of each, what the claim uses. -/
import Derived.Test.YtaaejhodlindeaaGreatDoorKac
import Derived.Test.YtaaejhodlindeaaGreatDoorKat
import Derived.Test.YtaaejhodlindeaaGreatDoorKav
import Derived.Test.YtaaejhodlindeaaGreatDoorKaq
import Derived.Test.YtaaejhodlindeaaGreatDoorKax
section
namespace Go.Proofs.YtaaejhodlindeaaGreatDoor.Y
open Go.RowKit Go.Proofs.YtaaejhodlindeaaGreatDoorW.PrintWords Go.Proofs.YtaaejhodlindeaaGreatDoorW.PrintLast Go.Proofs.YtaaejhodlindeaaGreatDoorW.PrintMore
attribute [local go_sem] max2_int min2_int max_two min_two max_three min_three max_four min_four   -- for this text's walks alone
set_option linter.unusedVariables false
set_option linter.unusedSimpArgs false
/-! ### laws_FnDrawJoined: function 5 -/
mutual
def laws_FnDrawJoined.j0 : Nat → List (S42) → List (S42) → Bool → Option (Bool)
  | 0, _, _, _ => none
  | k + 1, x0, x1, x16 => if x16 = true then (some true) else ((spec_IsDrawPlan.f k x0).bind fun t211 => (if t211 = true then ((spec_IsDrawPlan.f k x1).bind fun t212 => (laws_FnDrawJoined.j1 k x0 x1 (!t212))) else (laws_FnDrawJoined.j1 k x0 x1 true)))
def laws_FnDrawJoined.j1 : Nat → List (S42) → List (S42) → Bool → Option (Bool)
  | 0, _, _, _ => none
  | k + 1, x0, x1, x24 => if x24 = true then ((laws_drawAwake.f).bind fun t213 => (some t213)) else ((laws_drawText.f k x0).bind fun t214 => ((laws_drawText.f k x1).bind fun t217 => ((some (([] : List Int) : List Int)).bind fun y220 => (if y220.length + t214.length < 140737488355328 then ((some (y220 ++ t214 : List Int)).bind fun y223 => (if y223.length + t217.length < 140737488355328 then ((impl_Feed.f 32 4096 (y223 ++ t217)).bind fun t229 => ((impl_Feed.f 32 4096 t214).bind fun t232 => ((impl_Feed.f 32 4096 t217).bind fun t235 => (if t232.length + t235.length < 1759218604441 then ((laws_drawEvents.f k t229).bind fun t241 => ((laws_drawEvents.f k (t232 ++ t235)).bind fun t244 => ((spec_SameEvents.f t241 t244).bind fun t247 => (if t247 = true then ((laws_drawAwake.f).bind fun t248 => (some t248)) else (some false))))) else (none))))) else (none))) else (none)))))
end
def laws_FnDrawJoined.f (k : Nat) (l0 : List (S42)) (l1 : List (S42)) : Option (Bool) := (laws_zzFits3.f k l0).bind fun t209 => (if t209 = true then ((laws_zzFits3.f k l1).bind fun t210 => (laws_FnDrawJoined.j0 k l0 l1 (!t210))) else (laws_FnDrawJoined.j0 k l0 l1 true))
theorem laws_FnDrawJoined.mono_l : ∀ k, (∀ y0 y1 y2, LeO (laws_FnDrawJoined.j0 k y0 y1 y2) (laws_FnDrawJoined.j0 (k + 1) y0 y1 y2)) ∧ (∀ y0 y1 y2, LeO (laws_FnDrawJoined.j1 k y0 y1 y2) (laws_FnDrawJoined.j1 (k + 1) y0 y1 y2))
  | 0 => ⟨fun _ _ _ r h => by simp [laws_FnDrawJoined.j0] at h, fun _ _ _ r h => by simp [laws_FnDrawJoined.j1] at h⟩
  | k + 1 => by
    obtain ⟨ih0, ih1⟩ := laws_FnDrawJoined.mono_l k
    refine ⟨?_, ?_⟩
    · intro y0 y1 y2
      unfold laws_FnDrawJoined.j0
      repeat' first
      | (with_reducible exact ih0 _ _ _)
      | (with_reducible exact ih1 _ _ _)
      | (with_reducible exact laws_drawEvents.mono _ _)
      | (with_reducible exact laws_drawText.mono _ _)
      | (with_reducible exact laws_zzFits3.mono _ _)
      | (with_reducible exact spec_IsDrawPlan.mono _ _)
      | (with_reducible exact LeO.refl _)
      | (with_reducible exact LeO.none _)
      | (with_reducible refine LeO.ite ?_ ?_)
      | (with_reducible refine LeO.bind ?_ (fun _ => ?_))
      | exact ih0 _ _ _
      | exact ih1 _ _ _
      | exact laws_drawEvents.mono _ _
      | exact laws_drawText.mono _ _
      | exact laws_zzFits3.mono _ _
      | exact spec_IsDrawPlan.mono _ _
      | exact LeO.none _
      | refine LeO.ite ?_ ?_
      | refine LeO.bind ?_ (fun _ => ?_)
    · intro y0 y1 y2
      unfold laws_FnDrawJoined.j1
      repeat' first
      | (with_reducible exact ih0 _ _ _)
      | (with_reducible exact ih1 _ _ _)
      | (with_reducible exact laws_drawEvents.mono _ _)
      | (with_reducible exact laws_drawText.mono _ _)
      | (with_reducible exact laws_zzFits3.mono _ _)
      | (with_reducible exact spec_IsDrawPlan.mono _ _)
      | (with_reducible exact LeO.refl _)
      | (with_reducible exact LeO.none _)
      | (with_reducible refine LeO.ite ?_ ?_)
      | (with_reducible refine LeO.bind ?_ (fun _ => ?_))
      | exact ih0 _ _ _
      | exact ih1 _ _ _
      | exact laws_drawEvents.mono _ _
      | exact laws_drawText.mono _ _
      | exact laws_zzFits3.mono _ _
      | exact spec_IsDrawPlan.mono _ _
      | exact LeO.none _
      | refine LeO.ite ?_ ?_
      | refine LeO.bind ?_ (fun _ => ?_)
theorem laws_FnDrawJoined.mono : ∀ a0 a1 k, LeO (laws_FnDrawJoined.f k a0 a1) (laws_FnDrawJoined.f (k + 1) a0 a1) := by
  intro a0 a1 k
  obtain ⟨ih0, ih1⟩ := laws_FnDrawJoined.mono_l k
  unfold laws_FnDrawJoined.f
  repeat' first
      | (with_reducible exact ih0 _ _ _)
      | (with_reducible exact ih1 _ _ _)
      | (with_reducible exact laws_drawEvents.mono _ _)
      | (with_reducible exact laws_drawText.mono _ _)
      | (with_reducible exact laws_zzFits3.mono _ _)
      | (with_reducible exact spec_IsDrawPlan.mono _ _)
      | (with_reducible exact LeO.refl _)
      | (with_reducible exact LeO.none _)
      | (with_reducible refine LeO.ite ?_ ?_)
      | (with_reducible refine LeO.bind ?_ (fun _ => ?_))
      | exact ih0 _ _ _
      | exact ih1 _ _ _
      | exact laws_drawEvents.mono _ _
      | exact laws_drawText.mono _ _
      | exact laws_zzFits3.mono _ _
      | exact spec_IsDrawPlan.mono _ _
      | exact LeO.none _
      | refine LeO.ite ?_ ?_
      | refine LeO.bind ?_ (fun _ => ?_)
end Go.Proofs.YtaaejhodlindeaaGreatDoor.Y
end
section
namespace Go.Proofs.YtaaejhodlindeaaGreatDoor.Y
open Go.RowKit Go.Proofs.YtaaejhodlindeaaGreatDoorW.PrintWords Go.Proofs.YtaaejhodlindeaaGreatDoorW.PrintLast Go.Proofs.YtaaejhodlindeaaGreatDoorW.PrintMore
theorem joined_j1 (l m : List Op) (hl : RightPlan l) (hm : RightPlan m) (k : Nat) (hk : 1000 ≤ k) : laws_FnDrawJoined.j1 k l m false = some true := by
  obtain ⟨k, rfl⟩ : ∃ k', k = k' + 1 := ⟨k - 1, by omega⟩
  obtain ⟨ps, A, _, a1, _, a3, a4, a5, a6⟩ := plan_run l hl
  obtain ⟨qs, B, _, b1, _, b3, b4, b5, b6⟩ := plan_run m hm
  generalize (ps.map (·.2)).flatten = ea at a4 a5 a6
  generalize (qs.map (·.2)).flatten = eb at b4 b5 b6
  have hab : ([] : List Int) ++ ints A ++ ints B = ints (A ++ B) := by simp [ints]
  have e1 : (ints A).length = A.length := by simp [ints]
  have e2 : (ints B).length = B.length := by simp [ints]
  rw [laws_FnDrawJoined.j1, if_neg (by simp), a1 k (by omega), Option.bind_some, b1 k (by omega), Option.bind_some, Option.bind_some, if_pos (by rw [e1]; simp; omega), Option.bind_some, if_pos (by rw [List.length_append, e1, e2]; simp; omega), hab,
    feed_l (A ++ B) (by rw [List.length_append]; omega) (X.run_of a4 b4), Option.bind_some, feed_l A (by omega) a4, Option.bind_some, feed_l B (by omega) b4, Option.bind_some, if_pos (by simp only [List.length_map]; omega), ← List.map_append,
    drawEvents_f _ (by rw [List.length_map, List.length_append]; omega) k (by rw [List.length_map, List.length_append]; omega), Option.bind_some, Option.bind_some, same_evs _ (fun e he => by
      rcases List.mem_append.1 he with he | he
      · exact a5 e he
      · exact b5 e he), Option.bind_some, if_pos rfl, awake, Option.bind_some]
theorem joined_j0 (l m : List Op) (hl : Fits l) (hm : Fits m) (k : Nat) (hk : 7000000000 ≤ k) : laws_FnDrawJoined.j0 k l m false = some true := by
  obtain ⟨k, rfl⟩ : ∃ k', k = k' + 2 := ⟨k - 2, by omega⟩
  have out : laws_FnDrawJoined.j1 (k + 1) l m true = some true := by rw [laws_FnDrawJoined.j1, if_pos rfl, awake, Option.bind_some]
  obtain ⟨a, a1, a2⟩ := plan_f l hl (k + 1) (by omega)
  obtain ⟨b, b1, b2⟩ := plan_f m hm (k + 1) (by omega)
  rw [laws_FnDrawJoined.j0, if_neg (by simp), a1, Option.bind_some]
  cases a with
  | false => rw [if_neg (by simp), out]
  | true =>
    rw [if_pos rfl, b1, Option.bind_some]
    cases b with
    | false => exact out
    | true => exact joined_j1 l m (a2 rfl) (b2 rfl) (k + 1) (by omega)
theorem joined (l m : List Op) (k : Nat) (hk : 7000000000 ≤ k) : laws_FnDrawJoined.f k l m = some true := by
  have out : laws_FnDrawJoined.j0 k l m true = some true := by
    obtain ⟨k, rfl⟩ : ∃ k', k = k' + 1 := ⟨k - 1, by omega⟩
    rw [laws_FnDrawJoined.j0, if_pos rfl]
  unfold laws_FnDrawJoined.f
  obtain ⟨a, a1, a2⟩ := fits_f l k (by omega)
  obtain ⟨b, b1, b2⟩ := fits_f m k (by omega)
  rw [a1, Option.bind_some]
  cases a with
  | false => rw [if_neg (by simp), out]
  | true =>
    rw [if_pos rfl, b1, Option.bind_some]
    cases b with
    | false => exact out
    | true => exact joined_j0 l m (a2 rfl) (b2 rfl) k hk
theorem FnDrawJoined_true {Q R : Op → Prop} (l : List Op) (_ : l.length ≤ maxLen) (_ : ∀ a ∈ l, Q a) (m : List Op) (_ : m.length ≤ maxLen) (_ : ∀ a ∈ m, R a) : laws_FnDrawJoined.f 7000000000 l m = some true := joined l m _ (Nat.le_refl _)
end Go.Proofs.YtaaejhodlindeaaGreatDoor.Y
end
