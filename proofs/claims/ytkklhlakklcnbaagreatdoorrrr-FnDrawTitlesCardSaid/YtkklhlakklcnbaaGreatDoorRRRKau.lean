/- Texts of this claim, joined: Y33D Y34D Y35D Y36D Y37D Y38D Y44D Y47D XLawTitles Y28 Y29. Of each, what the claim uses. -/
import Derived.Test.YtkklhlakklcnbaaGreatDoorRRRKac
import Derived.Test.YtkklhlakklcnbaaGreatDoorRRRKat
import Derived.Test.YtkklhlakklcnbaaGreatDoorRRRKaq
section
namespace Go.Proofs.YtkklhlakklcnbaaGreatDoorRRR.Y
open Go.RowKit Go.Proofs.YtkklhlakklcnbaaGreatDoorRRRW.PrintWords Go.Proofs.YtkklhlakklcnbaaGreatDoorRRRW.PrintLast Go.Proofs.YtkklhlakklcnbaaGreatDoorRRRW.PrintMore
attribute [local go_sem] max2_int min2_int max_two min_two max_three min_three max_four min_four   -- for this text's walks alone
set_option linter.unusedVariables false
set_option linter.unusedSimpArgs false
/-! ### xansi_SetIconNameWindowTitle: function 101 -/
def xansi_SetIconNameWindowTitle.f (a0 : ByteArray) : Option (ByteArray) := if 4 + a0.size ≤ 9223372036854775807 then (if 4 + a0.size + 1 ≤ 9223372036854775807 then (some (((⟨#[27, 93, 48, 59]⟩ : ByteArray) ++ a0) ++ (⟨#[7]⟩ : ByteArray))) else (none)) else (none)
end Go.Proofs.YtkklhlakklcnbaaGreatDoorRRR.Y
end
section
namespace Go.Proofs.YtkklhlakklcnbaaGreatDoorRRR.Y
open Go.RowKit Go.Proofs.YtkklhlakklcnbaaGreatDoorRRRW.PrintWords Go.Proofs.YtkklhlakklcnbaaGreatDoorRRRW.PrintLast Go.Proofs.YtkklhlakklcnbaaGreatDoorRRRW.PrintMore
attribute [local go_sem] max2_int min2_int max_two min_two max_three min_three max_four min_four   -- for this text's walks alone
set_option linter.unusedVariables false
set_option linter.unusedSimpArgs false
/-! ### xansi_SetForegroundColor: function 102 -/
def xansi_SetForegroundColor.f (a0 : ByteArray) : Option (ByteArray) := if 5 + a0.size ≤ 9223372036854775807 then (if 5 + a0.size + 1 ≤ 9223372036854775807 then (some (((⟨#[27, 93, 49, 48, 59]⟩ : ByteArray) ++ a0) ++ (⟨#[7]⟩ : ByteArray))) else (none)) else (none)
end Go.Proofs.YtkklhlakklcnbaaGreatDoorRRR.Y
end
section
namespace Go.Proofs.YtkklhlakklcnbaaGreatDoorRRR.Y
open Go.RowKit Go.Proofs.YtkklhlakklcnbaaGreatDoorRRRW.PrintWords Go.Proofs.YtkklhlakklcnbaaGreatDoorRRRW.PrintLast Go.Proofs.YtkklhlakklcnbaaGreatDoorRRRW.PrintMore
attribute [local go_sem] max2_int min2_int max_two min_two max_three min_three max_four min_four   -- for this text's walks alone
set_option linter.unusedVariables false
set_option linter.unusedSimpArgs false
/-! ### xansi_SetBackgroundColor: function 103 -/
def xansi_SetBackgroundColor.f (a0 : ByteArray) : Option (ByteArray) := if 5 + a0.size ≤ 9223372036854775807 then (if 5 + a0.size + 1 ≤ 9223372036854775807 then (some (((⟨#[27, 93, 49, 49, 59]⟩ : ByteArray) ++ a0) ++ (⟨#[7]⟩ : ByteArray))) else (none)) else (none)
end Go.Proofs.YtkklhlakklcnbaaGreatDoorRRR.Y
end
section
namespace Go.Proofs.YtkklhlakklcnbaaGreatDoorRRR.Y
open Go.RowKit Go.Proofs.YtkklhlakklcnbaaGreatDoorRRRW.PrintWords Go.Proofs.YtkklhlakklcnbaaGreatDoorRRRW.PrintLast Go.Proofs.YtkklhlakklcnbaaGreatDoorRRRW.PrintMore
attribute [local go_sem] max2_int min2_int max_two min_two max_three min_three max_four min_four   -- for this text's walks alone
set_option linter.unusedVariables false
set_option linter.unusedSimpArgs false
/-! ### xansi_SetCursorColor: function 104 -/
def xansi_SetCursorColor.f (a0 : ByteArray) : Option (ByteArray) := if 5 + a0.size ≤ 9223372036854775807 then (if 5 + a0.size + 1 ≤ 9223372036854775807 then (some (((⟨#[27, 93, 49, 50, 59]⟩ : ByteArray) ++ a0) ++ (⟨#[7]⟩ : ByteArray))) else (none)) else (none)
end Go.Proofs.YtkklhlakklcnbaaGreatDoorRRR.Y
end
section
namespace Go.Proofs.YtkklhlakklcnbaaGreatDoorRRR.Y
open Go.RowKit Go.Proofs.YtkklhlakklcnbaaGreatDoorRRRW.PrintWords Go.Proofs.YtkklhlakklcnbaaGreatDoorRRRW.PrintLast Go.Proofs.YtkklhlakklcnbaaGreatDoorRRRW.PrintMore
attribute [local go_sem] max2_int min2_int max_two min_two max_three min_three max_four min_four   -- for this text's walks alone
set_option linter.unusedVariables false
set_option linter.unusedSimpArgs false
/-! ### xansi_SetPointerShape: function 105 -/
def xansi_SetPointerShape.f (a0 : ByteArray) : Option (ByteArray) := if 5 + a0.size ≤ 9223372036854775807 then (if 5 + a0.size + 1 ≤ 9223372036854775807 then (some (((⟨#[27, 93, 50, 50, 59]⟩ : ByteArray) ++ a0) ++ (⟨#[7]⟩ : ByteArray))) else (none)) else (none)
end Go.Proofs.YtkklhlakklcnbaaGreatDoorRRR.Y
end
section
namespace Go.Proofs.YtkklhlakklcnbaaGreatDoorRRR.Y
open Go.RowKit Go.Proofs.YtkklhlakklcnbaaGreatDoorRRRW.PrintWords Go.Proofs.YtkklhlakklcnbaaGreatDoorRRRW.PrintLast Go.Proofs.YtkklhlakklcnbaaGreatDoorRRRW.PrintMore
attribute [local go_sem] max2_int min2_int max_two min_two max_three min_three max_four min_four   -- for this text's walks alone
set_option linter.unusedVariables false
set_option linter.unusedSimpArgs false
/-! ### xansi_Notify: function 106 -/
def xansi_Notify.f (a0 : ByteArray) : Option (ByteArray) := if 4 + a0.size ≤ 9223372036854775807 then (if 4 + a0.size + 1 ≤ 9223372036854775807 then (some (((⟨#[27, 93, 57, 59]⟩ : ByteArray) ++ a0) ++ (⟨#[7]⟩ : ByteArray))) else (none)) else (none)
end Go.Proofs.YtkklhlakklcnbaaGreatDoorRRR.Y
end
section
namespace Go.Proofs.YtkklhlakklcnbaaGreatDoorRRR.Y
open Go.RowKit Go.Proofs.YtkklhlakklcnbaaGreatDoorRRRW.PrintWords Go.Proofs.YtkklhlakklcnbaaGreatDoorRRRW.PrintLast Go.Proofs.YtkklhlakklcnbaaGreatDoorRRRW.PrintMore
attribute [local go_sem] max2_int min2_int max_two min_two max_three min_three max_four min_four   -- for this text's walks alone
set_option linter.unusedVariables false
set_option linter.unusedSimpArgs false
/-! ### impl_MakeText: function 34 -/
def impl_MakeText.f (a0 : Int) (a1 : ByteArray) : Option (ByteArray) := if a0 = 0 then ((xansi_SetWindowTitle.f a1).bind fun t213 => (some t213)) else (if a0 = 1 then ((xansi_SetIconName.f a1).bind fun t214 => (some t214)) else (if a0 = 2 then ((xansi_SetIconNameWindowTitle.f a1).bind fun t215 => (some t215)) else (if a0 = 3 then ((xansi_SetForegroundColor.f a1).bind fun t216 => (some t216)) else (if a0 = 4 then ((xansi_SetBackgroundColor.f a1).bind fun t217 => (some t217)) else (if a0 = 5 then ((xansi_SetCursorColor.f a1).bind fun t218 => (some t218)) else (if a0 = 6 then ((xansi_SetPointerShape.f a1).bind fun t219 => (some t219)) else (if a0 = 7 then ((xansi_Notify.f a1).bind fun t220 => (some t220)) else (if a0 = 8 then (none) else (if a0 = 9 then (none) else (if a0 = 10 then (none) else (if a0 = 11 then (none) else (if a0 = 12 then (none) else (some (⟨#[]⟩ : ByteArray))))))))))))))
end Go.Proofs.YtkklhlakklcnbaaGreatDoorRRR.Y
end
section
namespace Go.Proofs.YtkklhlakklcnbaaGreatDoorRRR.Y
open Go.RowKit Go.Proofs.YtkklhlakklcnbaaGreatDoorRRRW.PrintWords Go.Proofs.YtkklhlakklcnbaaGreatDoorRRRW.PrintLast Go.Proofs.YtkklhlakklcnbaaGreatDoorRRRW.PrintMore
attribute [local go_sem] max2_int min2_int max_two min_two max_three min_three max_four min_four   -- for this text's walks alone
set_option linter.unusedVariables false
set_option linter.unusedSimpArgs false
/-! ### laws_FnDrawTitles: function 11 -/
mutual
def laws_FnDrawTitles.l0 : Nat → List (S70) → ByteArray → ByteArray → ByteArray → List (S70) → Int → Int → Option (Bool)
  | 0, _, _, _, _, _, _, _ => none
  | k + 1, x0, x3, x4, x5, x16, x17, x18 => if x18 < x17 then (if 0 ≤ x18 then (if x18 < (x16.length : Int) then (if ((rd_T70 x16 x18).f0) > 2 then (laws_FnDrawTitles.j1 k x0 x3 x4 x5 x16 x17 x18 true ((rd_T70 x16 x18).f0) ((rd_T70 x16 x18).f1)) else ((spec_DrawWord.f k ((rd_T70 x16 x18).f1) 20).bind fun t232 => (laws_FnDrawTitles.j1 k x0 x3 x4 x5 x16 x17 x18 (!t232) ((rd_T70 x16 x18).f0) ((rd_T70 x16 x18).f1)))) else (none)) else (none)) else (if (x0.length : Int) < 1 then (laws_FnDrawTitles.j2 k x3 x4 x5 true) else (laws_FnDrawTitles.j2 k x3 x4 x5 (decide ((x0.length : Int) > 8))))
def laws_FnDrawTitles.j1 : Nat → List (S70) → ByteArray → ByteArray → ByteArray → List (S70) → Int → Int → Bool → Int → ByteArray → Option (Bool)
  | 0, _, _, _, _, _, _, _, _, _, _ => none
  | k + 1, x0, x3, x4, x5, x16, x17, x18, x30, x232000, x232001 => if x30 = true then ((laws_drawAwake.f).bind fun t233 => (some t233)) else ((impl_MakeText.f (wrap64 (x232000)) x232001).bind fun t234 => (if x5.size + t234.size ≤ 9223372036854775807 then (if x232000 = 1 then (if x232000 = 0 then (laws_FnDrawTitles.l0 k x0 x3 x4 (x5 ++ t234) x16 x17 (wrap64 (x18 + 1))) else (laws_FnDrawTitles.l0 k x0 x3 x232001 (x5 ++ t234) x16 x17 (wrap64 (x18 + 1)))) else (if x232000 = 0 then (laws_FnDrawTitles.l0 k x0 x232001 x4 (x5 ++ t234) x16 x17 (wrap64 (x18 + 1))) else (laws_FnDrawTitles.l0 k x0 x232001 x232001 (x5 ++ t234) x16 x17 (wrap64 (x18 + 1))))) else (none)))
def laws_FnDrawTitles.j2 : Nat → ByteArray → ByteArray → ByteArray → Bool → Option (Bool)
  | 0, _, _, _, _ => none
  | k + 1, x3, x4, x5, x58 => if x58 = true then ((laws_drawAwake.f).bind fun t235 => (some t235)) else ((gosem_conv.f x5).bind fun t236 => ((impl_Feed.f 32 4096 t236).bind fun t239 => (laws_FnDrawTitles.l1 k x3 x4 (⟨#[]⟩ : ByteArray) (⟨#[]⟩ : ByteArray) t239 (t239.length : Int) 0)))
def laws_FnDrawTitles.l1 : Nat → ByteArray → ByteArray → ByteArray → ByteArray → List (S74) → Int → Int → Option (Bool)
  | 0, _, _, _, _, _, _, _ => none
  | k + 1, x3, x4, x8, x9, x62, x63, x64 => if x64 < x63 then (if 0 ≤ x64 then (if x64 < (x62.length : Int) then ((spec_DrawTold.f k (([(⟨(rd_T74 x62 x64).f0, (rd_T74 x62 x64).f1, (rd_T74 x62 x64).f2, (rd_T74 x62 x64).f3, (rd_T74 x62 x64).f4, (rd_T74 x62 x64).f5⟩ : S76)] : List (S76))) (([0, 1, 2] : List Int))).bind fun t251 => (if 0 < (t251.length : Int) then (if 2 < (t251.length : Int) then (if (rdOf ByteArray.empty t251 0).size + (rdOf ByteArray.empty t251 2).size ≤ 9223372036854775807 then (if ((rdOf ByteArray.empty t251 0) ++ (rdOf ByteArray.empty t251 2)).toList = ([] : List UInt8) then (if 1 < (t251.length : Int) then (if (rdOf ByteArray.empty t251 0).size + (rdOf ByteArray.empty t251 1).size ≤ 9223372036854775807 then (if ((rdOf ByteArray.empty t251 0) ++ (rdOf ByteArray.empty t251 1)).toList = ([] : List UInt8) then (laws_FnDrawTitles.l1 k x3 x4 x8 x9 x62 x63 (wrap64 (x64 + 1))) else (laws_FnDrawTitles.l1 k x3 x4 x8 ((rdOf ByteArray.empty t251 0) ++ (rdOf ByteArray.empty t251 1)) x62 x63 (wrap64 (x64 + 1)))) else (none)) else (none)) else (if 1 < (t251.length : Int) then (if (rdOf ByteArray.empty t251 0).size + (rdOf ByteArray.empty t251 1).size ≤ 9223372036854775807 then (if ((rdOf ByteArray.empty t251 0) ++ (rdOf ByteArray.empty t251 1)).toList = ([] : List UInt8) then (laws_FnDrawTitles.l1 k x3 x4 ((rdOf ByteArray.empty t251 0) ++ (rdOf ByteArray.empty t251 2)) x9 x62 x63 (wrap64 (x64 + 1))) else (laws_FnDrawTitles.l1 k x3 x4 ((rdOf ByteArray.empty t251 0) ++ (rdOf ByteArray.empty t251 2)) ((rdOf ByteArray.empty t251 0) ++ (rdOf ByteArray.empty t251 1)) x62 x63 (wrap64 (x64 + 1)))) else (none)) else (none))) else (none)) else (none)) else (none))) else (none)) else (none)) else (if x8.toList = x3.toList then (if x9.toList = x4.toList then ((laws_drawAwake.f).bind fun t242 => (some t242)) else (some false)) else (some false))
end
def laws_FnDrawTitles.f (k : Nat) (l0 : List (S70)) : Option (Bool) := (laws_zzFits7.f k l0).bind fun t229 => (if t229 = true then (laws_FnDrawTitles.l0 k l0 (⟨#[]⟩ : ByteArray) (⟨#[]⟩ : ByteArray) (⟨#[]⟩ : ByteArray) l0 (l0.length : Int) 0) else (some true))
theorem laws_FnDrawTitles.mono_l : ∀ k, (∀ y0 y1 y2 y3 y4 y5 y6, LeO (laws_FnDrawTitles.l0 k y0 y1 y2 y3 y4 y5 y6) (laws_FnDrawTitles.l0 (k + 1) y0 y1 y2 y3 y4 y5 y6)) ∧ (∀ y0 y1 y2 y3 y4 y5 y6 y7 y8 y9, LeO (laws_FnDrawTitles.j1 k y0 y1 y2 y3 y4 y5 y6 y7 y8 y9) (laws_FnDrawTitles.j1 (k + 1) y0 y1 y2 y3 y4 y5 y6 y7 y8 y9)) ∧ (∀ y0 y1 y2 y3, LeO (laws_FnDrawTitles.j2 k y0 y1 y2 y3) (laws_FnDrawTitles.j2 (k + 1) y0 y1 y2 y3)) ∧ (∀ y0 y1 y2 y3 y4 y5 y6, LeO (laws_FnDrawTitles.l1 k y0 y1 y2 y3 y4 y5 y6) (laws_FnDrawTitles.l1 (k + 1) y0 y1 y2 y3 y4 y5 y6))
  | 0 => ⟨fun _ _ _ _ _ _ _ r h => by simp [laws_FnDrawTitles.l0] at h, fun _ _ _ _ _ _ _ _ _ _ r h => by simp [laws_FnDrawTitles.j1] at h, fun _ _ _ _ r h => by simp [laws_FnDrawTitles.j2] at h, fun _ _ _ _ _ _ _ r h => by simp [laws_FnDrawTitles.l1] at h⟩
  | k + 1 => by
    obtain ⟨ih0, ih1, ih2, ih3⟩ := laws_FnDrawTitles.mono_l k
    refine ⟨?_, ?_, ?_, ?_⟩
    · intro y0 y1 y2 y3 y4 y5 y6
      unfold laws_FnDrawTitles.l0
      repeat' first
      | (with_reducible exact ih0 _ _ _ _ _ _ _)
      | (with_reducible exact ih1 _ _ _ _ _ _ _ _ _ _)
      | (with_reducible exact ih2 _ _ _ _)
      | (with_reducible exact ih3 _ _ _ _ _ _ _)
      | (with_reducible exact laws_zzFits7.mono _ _)
      | (with_reducible exact spec_DrawTold.mono _ _ _)
      | (with_reducible exact spec_DrawWord.mono _ _ _)
      | (with_reducible exact LeO.refl _)
      | (with_reducible exact LeO.none _)
      | (with_reducible refine LeO.ite ?_ ?_)
      | (with_reducible refine LeO.bind ?_ (fun _ => ?_))
      | exact ih0 _ _ _ _ _ _ _
      | exact ih1 _ _ _ _ _ _ _ _ _ _
      | exact ih2 _ _ _ _
      | exact ih3 _ _ _ _ _ _ _
      | exact laws_zzFits7.mono _ _
      | exact spec_DrawTold.mono _ _ _
      | exact spec_DrawWord.mono _ _ _
      | exact LeO.none _
      | refine LeO.ite ?_ ?_
      | refine LeO.bind ?_ (fun _ => ?_)
    · intro y0 y1 y2 y3 y4 y5 y6 y7 y8 y9
      unfold laws_FnDrawTitles.j1
      repeat' first
      | (with_reducible exact ih0 _ _ _ _ _ _ _)
      | (with_reducible exact ih1 _ _ _ _ _ _ _ _ _ _)
      | (with_reducible exact ih2 _ _ _ _)
      | (with_reducible exact ih3 _ _ _ _ _ _ _)
      | (with_reducible exact laws_zzFits7.mono _ _)
      | (with_reducible exact spec_DrawTold.mono _ _ _)
      | (with_reducible exact spec_DrawWord.mono _ _ _)
      | (with_reducible exact LeO.refl _)
      | (with_reducible exact LeO.none _)
      | (with_reducible refine LeO.ite ?_ ?_)
      | (with_reducible refine LeO.bind ?_ (fun _ => ?_))
      | exact ih0 _ _ _ _ _ _ _
      | exact ih1 _ _ _ _ _ _ _ _ _ _
      | exact ih2 _ _ _ _
      | exact ih3 _ _ _ _ _ _ _
      | exact laws_zzFits7.mono _ _
      | exact spec_DrawTold.mono _ _ _
      | exact spec_DrawWord.mono _ _ _
      | exact LeO.none _
      | refine LeO.ite ?_ ?_
      | refine LeO.bind ?_ (fun _ => ?_)
    · intro y0 y1 y2 y3
      unfold laws_FnDrawTitles.j2
      repeat' first
      | (with_reducible exact ih0 _ _ _ _ _ _ _)
      | (with_reducible exact ih1 _ _ _ _ _ _ _ _ _ _)
      | (with_reducible exact ih2 _ _ _ _)
      | (with_reducible exact ih3 _ _ _ _ _ _ _)
      | (with_reducible exact laws_zzFits7.mono _ _)
      | (with_reducible exact spec_DrawTold.mono _ _ _)
      | (with_reducible exact spec_DrawWord.mono _ _ _)
      | (with_reducible exact LeO.refl _)
      | (with_reducible exact LeO.none _)
      | (with_reducible refine LeO.ite ?_ ?_)
      | (with_reducible refine LeO.bind ?_ (fun _ => ?_))
      | exact ih0 _ _ _ _ _ _ _
      | exact ih1 _ _ _ _ _ _ _ _ _ _
      | exact ih2 _ _ _ _
      | exact ih3 _ _ _ _ _ _ _
      | exact laws_zzFits7.mono _ _
      | exact spec_DrawTold.mono _ _ _
      | exact spec_DrawWord.mono _ _ _
      | exact LeO.none _
      | refine LeO.ite ?_ ?_
      | refine LeO.bind ?_ (fun _ => ?_)
    · intro y0 y1 y2 y3 y4 y5 y6
      unfold laws_FnDrawTitles.l1
      repeat' first
      | (with_reducible exact ih0 _ _ _ _ _ _ _)
      | (with_reducible exact ih1 _ _ _ _ _ _ _ _ _ _)
      | (with_reducible exact ih2 _ _ _ _)
      | (with_reducible exact ih3 _ _ _ _ _ _ _)
      | (with_reducible exact laws_zzFits7.mono _ _)
      | (with_reducible exact spec_DrawTold.mono _ _ _)
      | (with_reducible exact spec_DrawWord.mono _ _ _)
      | (with_reducible exact LeO.refl _)
      | (with_reducible exact LeO.none _)
      | (with_reducible refine LeO.ite ?_ ?_)
      | (with_reducible refine LeO.bind ?_ (fun _ => ?_))
      | exact ih0 _ _ _ _ _ _ _
      | exact ih1 _ _ _ _ _ _ _ _ _ _
      | exact ih2 _ _ _ _
      | exact ih3 _ _ _ _ _ _ _
      | exact laws_zzFits7.mono _ _
      | exact spec_DrawTold.mono _ _ _
      | exact spec_DrawWord.mono _ _ _
      | exact LeO.none _
      | refine LeO.ite ?_ ?_
      | refine LeO.bind ?_ (fun _ => ?_)
theorem laws_FnDrawTitles.mono : ∀ a0 k, LeO (laws_FnDrawTitles.f k a0) (laws_FnDrawTitles.f (k + 1) a0) := by
  intro a0 k
  obtain ⟨ih0, ih1, ih2, ih3⟩ := laws_FnDrawTitles.mono_l k
  unfold laws_FnDrawTitles.f
  repeat' first
      | (with_reducible exact ih0 _ _ _ _ _ _ _)
      | (with_reducible exact ih1 _ _ _ _ _ _ _ _ _ _)
      | (with_reducible exact ih2 _ _ _ _)
      | (with_reducible exact ih3 _ _ _ _ _ _ _)
      | (with_reducible exact laws_zzFits7.mono _ _)
      | (with_reducible exact spec_DrawTold.mono _ _ _)
      | (with_reducible exact spec_DrawWord.mono _ _ _)
      | (with_reducible exact LeO.refl _)
      | (with_reducible exact LeO.none _)
      | (with_reducible refine LeO.ite ?_ ?_)
      | (with_reducible refine LeO.bind ?_ (fun _ => ?_))
      | exact ih0 _ _ _ _ _ _ _
      | exact ih1 _ _ _ _ _ _ _ _ _ _
      | exact ih2 _ _ _ _
      | exact ih3 _ _ _ _ _ _ _
      | exact laws_zzFits7.mono _ _
      | exact spec_DrawTold.mono _ _ _
      | exact spec_DrawWord.mono _ _ _
      | exact LeO.none _
      | refine LeO.ite ?_ ?_
      | refine LeO.bind ?_ (fun _ => ?_)
end Go.Proofs.YtkklhlakklcnbaaGreatDoorRRR.Y
end
section
namespace Go.Proofs.YtkklhlakklcnbaaGreatDoorRRR.Y
open Go.RowKit Go.Proofs.YtkklhlakklcnbaaGreatDoorRRRW.PrintWords Go.Proofs.YtkklhlakklcnbaaGreatDoorRRRW.PrintLast Go.Proofs.YtkklhlakklcnbaaGreatDoorRRRW.PrintMore
def TitIn (m : Ti) : Prop := (m.f0 = 0 ∨ m.f0 = 1 ∨ m.f0 = 2) ∧ WText 20 m.f1
def titC (w : Int) : Int := if w = 0 then 2 else if w = 1 then 1 else 0
def titP (w : Int) : List UInt8 := if w = 0 then [50] else if w = 1 then [49] else [48]
def evTit (m : Ti) : X.Ev := evText (titC m.f0) (titP m.f0) m.f1
theorem nb3t (a b : ByteArray) (s : ByteArray) : X.nb ((a ++ s) ++ b) = X.nb a ++ nn s.data.toList ++ X.nb b := by
  rw [X.nb_append, X.nb_append]
  rfl
theorem tit_text (m : Ti) (h : TitIn m) : ∃ t, impl_MakeText.f (wrap64 m.f0) m.f1 = some t ∧ X.run .gr (X.nb t) = some (.gr, [evTit m]) ∧ t.size ≤ 30 := by
  obtain ⟨h0, hw⟩ := h
  have h20 := hw.2.2
  have hz : ∀ a b : ByteArray, a.size = 4 → b.size = 1 → ((a ++ m.f1) ++ b).size ≤ 30 := fun a b ha hb => by
    rw [ByteArray.size_append, ByteArray.size_append]
    omega
  unfold impl_MakeText.f
  rcases h0 with h0 | h0 | h0
  · refine ⟨((⟨#[27, 93, 50, 59]⟩ : ByteArray) ++ m.f1) ++ (⟨#[7]⟩ : ByteArray), ?_, ?_, hz _ _ rfl rfl⟩
    · rw [h0, show wrap64 0 = 0 by unfold wrap64; omega, if_pos rfl]
      unfold xansi_SetWindowTitle.f
      rw [if_pos (by omega), if_pos (by omega), Option.bind_some]
    · unfold evTit titP titC
      rw [h0, if_pos rfl, if_pos rfl]
      exact evText_run _ (by decide) _ rfl (by decide) m.f1 hw _ (nb3t _ _ _)
  · refine ⟨((⟨#[27, 93, 49, 59]⟩ : ByteArray) ++ m.f1) ++ (⟨#[7]⟩ : ByteArray), ?_, ?_, hz _ _ rfl rfl⟩
    · rw [h0, show wrap64 1 = 1 by unfold wrap64; omega, if_neg (by omega), if_pos rfl]
      unfold xansi_SetIconName.f
      rw [if_pos (by omega), if_pos (by omega), Option.bind_some]
    · unfold evTit titP titC
      rw [h0, if_neg (by omega), if_pos rfl, if_neg (by omega), if_pos rfl]
      exact evText_run _ (by decide) _ rfl (by decide) m.f1 hw _ (nb3t _ _ _)
  · refine ⟨((⟨#[27, 93, 48, 59]⟩ : ByteArray) ++ m.f1) ++ (⟨#[7]⟩ : ByteArray), ?_, ?_, hz _ _ rfl rfl⟩
    · rw [h0, show wrap64 2 = 2 by unfold wrap64; omega, if_neg (by omega), if_neg (by omega), if_pos rfl]
      unfold xansi_SetIconNameWindowTitle.f
      rw [if_pos (by omega), if_pos (by omega), Option.bind_some]
    · unfold evTit titP titC
      rw [h0, if_neg (by omega), if_neg (by omega), if_neg (by omega), if_neg (by omega)]
      exact evText_run _ (by decide) _ rfl (by decide) m.f1 hw _ (nb3t _ _ _)
theorem tit_told (m : Ti) (h : TitIn m) : (cv (X.toS (evTit m))).f0 = 5 ∧ (cv (X.toS (evTit m))).f3 = titC m.f0 ∧ spec_drawBehind.f 10 (strOfNums (cv (X.toS (evTit m))).f5) 1 = some m.f1 := by
  obtain ⟨h0, hw⟩ := h
  have h20 := hw.2.2
  refine evText_told _ _ ?_ ?_ m.f1 (by omega)
  · rcases h0 with h0 | h0 | h0 <;> rw [h0] <;> decide
  · rcases h0 with h0 | h0 | h0 <;> rw [h0] <;> decide
/-- What one title leaves: the window's, the icon's. -/
def titStep (v : ByteArray × ByteArray) (m : Ti) : ByteArray × ByteArray := if m.f0 = 1 then (v.1, m.f1) else if m.f0 = 0 then (m.f1, v.2) else (m.f1, m.f1)
def titAll (l : List Ti) : ByteArray × ByteArray := l.foldl titStep (⟨#[]⟩, ⟨#[]⟩)
theorem tit_up (l : List Ti) (i : Nat) (hi : i < l.length) : titAll (l.take (i + 1)) = titStep (titAll (l.take i)) l[i] := by
  unfold titAll
  rw [List.take_succ_eq_append_getElem hi, List.foldl_append]
  rfl
theorem app_nil (t : ByteArray) : t ++ (⟨#[]⟩ : ByteArray) = t := by
  apply ByteArray.ext
  simp [ByteArray.data_append]
theorem nil_app (t : ByteArray) : (⟨#[]⟩ : ByteArray) ++ t = t := by
  apply ByteArray.ext
  simp [ByteArray.data_append]
theorem full_ne {n : Nat} {t : ByteArray} (h : WText n t) : ¬ t.toList = [] := fun e => by
  rw [ByteArray.toList_eq] at e
  have : t.data.toList.length = t.size := data_length t
  rw [e] at this
  have h1 := h.2.1
  simp at this
  omega
theorem rdE_at3 {l : List S74} {a : S74} (i : Nat) (h : l[i]? = some a) : rd_T74 l (i : Int) = a := by
  obtain ⟨h1, h2⟩ := List.getElem?_eq_some_iff.1 h
  rw [rdT_at l i h1, h2]
/-- What is read, event by event. -/
theorem tit_l1 (l : List Ti) (hn : l.length ≤ 8) (hin : ∀ m ∈ l, TitIn m) : ∀ (m i k : Nat), i + m = l.length → 200 + m ≤ k →
    laws_FnDrawTitles.l1 k (titAll l).1 (titAll l).2 (titAll (l.take i)).1 (titAll (l.take i)).2 ((l.map evTit).map X.toS) (((l.map evTit).map X.toS).length : Int) (i : Int) = some true
  | 0, i, k + 1, h, hk => by
    have hL : ((l.map evTit).map X.toS).length = l.length := by simp
    rw [laws_FnDrawTitles.l1, if_neg (by rw [hL]; omega), List.take_of_length_le (by omega), if_pos rfl, if_pos rfl, awake, Option.bind_some]
  | m + 1, i, k + 1, h, hk => by
    have hi : i < l.length := by omega
    have hL : ((l.map evTit).map X.toS).length = l.length := by simp
    have hm := hin _ (List.getElem_mem hi)
    have ih := tit_l1 l hn hin m (i + 1) k (by omega) (by omega)
    rw [tit_up l i hi] at ih
    have hg : rd_T74 ((l.map evTit).map X.toS) (i : Int) = X.toS (evTit l[i]) := rdE_at3 i (by simp [hi])
    have hT := told_f (fun m : Ti => cv (X.toS (evTit m))) (fun m : Ti => titC m.f0) (fun m : Ti => m.f1) 10 [0, 1, 2] (by decide) [l[i]] (by simp) (fun a ha => by rw [List.mem_singleton.1 ha]; exact tit_told _ hm) k (by simp only [List.length_cons, List.length_nil]; omega)
    have e0 : (⟨(X.toS (evTit l[i])).f0, (X.toS (evTit l[i])).f1, (X.toS (evTit l[i])).f2, (X.toS (evTit l[i])).f3, (X.toS (evTit l[i])).f4, (X.toS (evTit l[i])).f5⟩ : SEv) = cv (X.toS (evTit l[i])) := rfl
    have e1 : [l[i]].map (fun m : Ti => cv (X.toS (evTit m))) = [cv (X.toS (evTit l[i]))] := rfl
    rw [e1] at hT
    rw [laws_FnDrawTitles.l1, if_pos (by rw [hL]; omega), if_pos (by omega), if_pos (by rw [hL]; omega), hg, e0, hT, Option.bind_some, wup i (by omega)]
    obtain ⟨h0, hw⟩ := hm
    have h20 := hw.2.2
    have hne := full_ne hw
    unfold titStep at ih
    generalize titAll (l.take i) = v at ih ⊢
    generalize titAll l = V at ih ⊢
    generalize l[i] = a at *
    have hz : (⟨#[]⟩ : ByteArray).size = 0 := rfl
    have hzl : (⟨#[]⟩ : ByteArray).toList = ([] : List UInt8) := by rw [ByteArray.toList_eq]
    rcases h0 with h0 | h0 | h0
    · have e2 : List.foldl (fun v m => tell [0, 1, 2] (titC m.f0) m.f1 v) (List.replicate ([0, 1, 2] : List Int).length ⟨#[]⟩) [a] = [⟨#[]⟩, ⟨#[]⟩, a.f1] := by simp [tell, titC, h0, List.replicate]
      rw [if_neg (by omega), if_pos h0] at ih
      rw [e2]
      have r0 : rdOf ByteArray.empty [(⟨#[]⟩ : ByteArray), ⟨#[]⟩, a.f1] 0 = ⟨#[]⟩ := rfl
      have r1 : rdOf ByteArray.empty [(⟨#[]⟩ : ByteArray), ⟨#[]⟩, a.f1] 1 = ⟨#[]⟩ := rfl
      have r2 : rdOf ByteArray.empty [(⟨#[]⟩ : ByteArray), ⟨#[]⟩, a.f1] 2 = a.f1 := rfl
      rw [r0, r1, r2, nil_app, nil_app, if_pos (by simp), if_pos (by simp), if_pos (by omega), if_neg hne, if_pos (by simp), if_pos (by omega), if_pos hzl]
      exact ih
    · have e2 : List.foldl (fun v m => tell [0, 1, 2] (titC m.f0) m.f1 v) (List.replicate ([0, 1, 2] : List Int).length ⟨#[]⟩) [a] = [⟨#[]⟩, a.f1, ⟨#[]⟩] := by simp [tell, titC, h0, List.replicate]
      rw [if_pos h0] at ih
      rw [e2]
      have r0 : rdOf ByteArray.empty [(⟨#[]⟩ : ByteArray), a.f1, ⟨#[]⟩] 0 = ⟨#[]⟩ := rfl
      have r1 : rdOf ByteArray.empty [(⟨#[]⟩ : ByteArray), a.f1, ⟨#[]⟩] 1 = a.f1 := rfl
      have r2 : rdOf ByteArray.empty [(⟨#[]⟩ : ByteArray), a.f1, ⟨#[]⟩] 2 = ⟨#[]⟩ := rfl
      rw [r0, r1, r2, nil_app, nil_app, if_pos (by simp), if_pos (by simp), if_pos (by omega), if_pos hzl, if_pos (by simp), if_pos (by omega), if_neg hne]
      exact ih
    · have e2 : List.foldl (fun v m => tell [0, 1, 2] (titC m.f0) m.f1 v) (List.replicate ([0, 1, 2] : List Int).length ⟨#[]⟩) [a] = [a.f1, ⟨#[]⟩, ⟨#[]⟩] := by simp [tell, titC, h0, List.replicate]
      rw [if_neg (by omega), if_neg (by omega)] at ih
      rw [e2]
      have r0 : rdOf ByteArray.empty [a.f1, (⟨#[]⟩ : ByteArray), ⟨#[]⟩] 0 = a.f1 := rfl
      have r1 : rdOf ByteArray.empty [a.f1, (⟨#[]⟩ : ByteArray), ⟨#[]⟩] 1 = ⟨#[]⟩ := rfl
      have r2 : rdOf ByteArray.empty [a.f1, (⟨#[]⟩ : ByteArray), ⟨#[]⟩] 2 = ⟨#[]⟩ := rfl
      rw [r0, r1, r2, app_nil, if_pos (by simp), if_pos (by simp), if_pos (by omega), if_neg hne, if_pos (by simp), if_pos (by omega), if_neg hne]
      exact ih
theorem tit_end (l : List Ti) (hin : ∀ m ∈ l, TitIn m) (x5 : ByteArray) (i k : Nat) (hi : l.length ≤ i) (hk : 1000 ≤ k) (hs : x5.size ≤ 100000000000) (hr : X.run .gr (X.nb x5) = some (.gr, l.map evTit)) :
    laws_FnDrawTitles.l0 k l (titAll l).1 (titAll l).2 x5 l (l.length : Int) (i : Int) = some true := by
  obtain ⟨k, rfl⟩ : ∃ k', k = k' + 2 := ⟨k - 2, by omega⟩
  rw [laws_FnDrawTitles.l0, if_neg (by omega)]
  by_cases h1 : (l.length : Int) < 1
  · rw [if_pos h1, laws_FnDrawTitles.j2, if_pos rfl, awake, Option.bind_some]
  rw [if_neg h1]
  by_cases h8 : (l.length : Int) > 8
  · rw [decide_eq_true h8, laws_FnDrawTitles.j2, if_pos rfl, awake, Option.bind_some]
  rw [decide_eq_false h8, laws_FnDrawTitles.j2, if_neg (by simp), conv_f x5 hs, Option.bind_some, feed_f x5 hs hr, Option.bind_some]
  exact tit_l1 l (by omega) hin l.length 0 k (by omega) (by omega)
theorem tit_loop (l : List Ti) (hok : ∀ m ∈ l, 0 ≤ m.f0 ∧ m.f0 ≤ 255) (hf : TiFits l) : ∀ (m i k : Nat) (x5 : ByteArray), i + m = l.length → 3000000000 + 2 * m ≤ k → (∀ e ∈ l.take i, TitIn e) → X.run .gr (X.nb x5) = some (.gr, (l.take i).map evTit) → x5.size ≤ 30 * i →
    laws_FnDrawTitles.l0 k l (titAll (l.take i)).1 (titAll (l.take i)).2 x5 l (l.length : Int) (i : Int) = some true
  | 0, i, k, x5, h, hk, hin, hr, hs => by
    have := hf.1
    rw [List.take_of_length_le (by omega)] at hr hin ⊢
    exact tit_end l hin x5 i k (by omega) (by omega) (by omega) hr
  | m + 1, i, k + 2, x5, h, hk, hin, hr, hs => by
    have hl := hf.1
    have hi : i < l.length := by omega
    obtain ⟨b0, b1⟩ := hok _ (List.getElem_mem hi)
    have hz := hf.2 _ (List.getElem_mem hi)
    rw [laws_FnDrawTitles.l0, if_pos (by omega), if_pos (by omega), if_pos (by omega), rdTi_at l i hi]
    by_cases h1 : l[i].f0 > 2
    · rw [if_pos h1, laws_FnDrawTitles.j1, if_pos rfl, awake, Option.bind_some]
    obtain ⟨b, e1, e2⟩ := word_f 20 (by omega) l[i].f1 hz (k + 1) (by omega)
    rw [if_neg h1, show (20 : Int) = ((20 : Nat) : Int) by rfl, e1, Option.bind_some]
    cases b with
    | false => rw [laws_FnDrawTitles.j1, if_pos (by simp), awake, Option.bind_some]
    | true =>
      have htit : TitIn l[i] := ⟨by omega, e2 rfl⟩
      obtain ⟨t, q1, q2, q3⟩ := tit_text l[i] htit
      have e3 : l.take (i + 1) = l.take i ++ [l[i]] := List.take_succ_eq_append_getElem hi
      have ih := tit_loop l hok hf m (i + 1) k (x5 ++ t) (by omega) (by omega) (by
        rw [e3]
        intro e he
        rcases List.mem_append.1 he with he | he
        · exact hin e he
        · rw [List.mem_singleton.1 he]
          exact htit) (by
        rw [e3, X.nb_append, List.map_append]
        exact X.run_of hr q2) (by rw [ByteArray.size_append]; omega)
      rw [tit_up l i hi] at ih
      rw [laws_FnDrawTitles.j1, if_neg (by simp), q1, Option.bind_some, if_pos (by omega), wup i (by omega)]
      unfold titStep at ih
      rcases htit.1 with h0 | h0 | h0
      · rw [if_neg (by omega), if_pos h0] at ih
        rw [if_neg (by omega), if_pos h0]
        exact ih
      · rw [if_pos h0] at ih
        rw [if_pos h0, if_neg (by omega)]
        exact ih
      · rw [if_neg (by omega), if_neg (by omega)] at ih
        rw [if_neg (by omega), if_neg (by omega)]
        exact ih
theorem FnDrawTitles_true (l : List Ti) (_ : l.length ≤ maxLen) (hq : ∀ a ∈ l, ((Lit.int .u8 a.f0).wf = true ∧ a.f1.size ≤ maxLen)) : laws_FnDrawTitles.f 8000000000 l = some true := by
  have hok : ∀ m ∈ l, 0 ≤ m.f0 ∧ m.f0 ≤ 255 := fun m hm => by
    have := (hq m hm).1
    simpa [Lit.wf, IntKind.min, IntKind.max, IntKind.signed, IntKind.bits] using this
  unfold laws_FnDrawTitles.f
  obtain ⟨b, e1, e2⟩ := fitsTi_f l 8000000000 (by omega)
  rw [e1, Option.bind_some]
  cases b with
  | false => rw [if_neg (by simp)]
  | true =>
    have hf := e2 rfl
    have := hf.1
    rw [if_pos rfl]
    exact tit_loop l hok hf l.length 0 _ ⟨#[]⟩ (by omega) (by omega) (by simp) (by rfl) (by decide)
end Go.Proofs.YtkklhlakklcnbaaGreatDoorRRR.Y
end
section
namespace Go.Proofs.YtkklhlakklcnbaaGreatDoorRRR.Y
open Go.RowKit Go.Proofs.YtkklhlakklcnbaaGreatDoorRRRW.PrintWords Go.Proofs.YtkklhlakklcnbaaGreatDoorRRRW.PrintLast Go.Proofs.YtkklhlakklcnbaaGreatDoorRRRW.PrintMore
attribute [local go_sem] max2_int min2_int max_two min_two max_three min_three max_four min_four   -- for this text's walks alone
set_option linter.unusedVariables false
set_option linter.unusedSimpArgs false
set_option maxHeartbeats 8000000 in
set_option maxRecDepth 100000 in
theorem laws_zzFits8.calls (a0_0 : Int) (a0_1 : ByteArray) (r : Bool) (w : World) (h : laws_zzFits8.f a0_0 a0_1 = some r) :
    Calls Tryz.prog 98 #[.agg #[.int .u8 a0_0, .string a0_1]] w fun e w' => e = .returned (.bool r) ∧ Below w.heap.size w w' := by
  have hu70 := Tryz.underlying70
  have HB := Aside0.mk (Below.refl w.heap.size w)
  have H : (if (a0_1.size : Int) > 2147483647 then (some false) else (some true)) = some r := h
  clear h
  by_cases c2 : (a0_1.size : Int) > 2147483647
  · rw [if_pos c2] at H
    have c2b0 : decide (2147483647 < (a0_1.size : Int)) = true := decide_eq_true c2
    have c2b1 : decide (2147483647 < a0_1.size) = true := decide_eq_true (by omega)
    clear c2
    obtain rfl := Option.some.inj H
    go_enter Tryz.func98, Tryz.ntmps98
    go_wp2_with (first | ((with_reducible refine gate_dst (N := 1) rfl ?_); refine box_event ?hg (N := 1) ?hd (cs := #[.int .u8 a0_0, .string a0_1]) (t := 70) ?hr ?_; (case hd => rfl); (case hg => rfl); (case hr => first | (go_simp; done) | (go_simp; rfl)); intro gb209 hg w3 hbox hb; have n0_ := Aside0.mk (below_step (by repeat (first | (with_reducible first | exact HB.out | apply below_alloc | apply pw_below_drewN | apply below_drew1) | exact HB.out)) hb); have n1_ := Aside0.mk (hbox); have n2_ := Aside0.mk ((by rw [hg]; exact (below_size (by repeat (first | (with_reducible first | exact HB.out | apply below_alloc | apply pw_below_drewN | apply below_drew1) | exact HB.out))) : w.heap.size ≤ gb209)); have n3_ := Aside0.mk ((by rw [hg]; exact (below_size (by repeat (first | (with_reducible first | exact HB.out | apply below_alloc | apply pw_below_drewN | apply below_drew1) | exact HB.out))) : w.heap.size ≤ gb209)); clear HB; have HB := n0_; have BK209 := n1_; have GW209 := n2_; have GE209 := n3_; clear n0_ n1_ n2_ n3_; clear hb hbox hg; have hcz4_0 : w3.cell? ⟨gb209, 0, none⟩ = some (.int .u8 a0_0) := (blk_cell BK209.out 0).trans rfl; have hcz4_1 : w3.cell? ⟨gb209, 1, none⟩ = some (.string a0_1) := (blk_cell BK209.out 1).trans rfl; have hfz4_0 := blk_frozen BK209.out 0; have hfz4_1 := blk_frozen BK209.out 1))
    go_ret
    exact ⟨by first | rfl | (simp [errW_none, errW_some] <;> rfl) | (simp [*, errW_none, errW_some] <;> rfl), by repeat (first | (with_reducible first | exact HB.out | apply below_alloc | apply pw_below_drewN | apply below_drew1 | refine below_set ?_ GE209.out) | exact HB.out)⟩
  · rw [if_neg c2] at H
    have c2b0 : decide (2147483647 < (a0_1.size : Int)) = false := decide_eq_false c2
    have c2b1 : decide (2147483647 < a0_1.size) = false := decide_eq_false (by omega)
    clear c2
    obtain rfl := Option.some.inj H
    go_enter Tryz.func98, Tryz.ntmps98
    go_wp2_with (first | ((with_reducible refine gate_dst (N := 1) rfl ?_); refine box_event ?hg (N := 1) ?hd (cs := #[.int .u8 a0_0, .string a0_1]) (t := 70) ?hr ?_; (case hd => rfl); (case hg => rfl); (case hr => first | (go_simp; done) | (go_simp; rfl)); intro gb209 hg w5 hbox hb; have n0_ := Aside0.mk (below_step (by repeat (first | (with_reducible first | exact HB.out | apply below_alloc | apply pw_below_drewN | apply below_drew1) | exact HB.out)) hb); have n1_ := Aside0.mk (hbox); have n2_ := Aside0.mk ((by rw [hg]; exact (below_size (by repeat (first | (with_reducible first | exact HB.out | apply below_alloc | apply pw_below_drewN | apply below_drew1) | exact HB.out))) : w.heap.size ≤ gb209)); have n3_ := Aside0.mk ((by rw [hg]; exact (below_size (by repeat (first | (with_reducible first | exact HB.out | apply below_alloc | apply pw_below_drewN | apply below_drew1) | exact HB.out))) : w.heap.size ≤ gb209)); clear HB; have HB := n0_; have BK209 := n1_; have GW209 := n2_; have GE209 := n3_; clear n0_ n1_ n2_ n3_; clear hb hbox hg; have hcz6_0 : w5.cell? ⟨gb209, 0, none⟩ = some (.int .u8 a0_0) := (blk_cell BK209.out 0).trans rfl; have hcz6_1 : w5.cell? ⟨gb209, 1, none⟩ = some (.string a0_1) := (blk_cell BK209.out 1).trans rfl; have hfz6_0 := blk_frozen BK209.out 0; have hfz6_1 := blk_frozen BK209.out 1))
    go_ret
    exact ⟨by first | rfl | (simp [errW_none, errW_some] <;> rfl) | (simp [*, errW_none, errW_some] <;> rfl), by repeat (first | (with_reducible first | exact HB.out | apply below_alloc | apply pw_below_drewN | apply below_drew1 | refine below_set ?_ GE209.out) | exact HB.out)⟩
end Go.Proofs.YtkklhlakklcnbaaGreatDoorRRR.Y
end
section
namespace Go.Proofs.YtkklhlakklcnbaaGreatDoorRRR.Y
open Go.RowKit Go.Proofs.YtkklhlakklcnbaaGreatDoorRRRW.PrintWords Go.Proofs.YtkklhlakklcnbaaGreatDoorRRRW.PrintLast Go.Proofs.YtkklhlakklcnbaaGreatDoorRRRW.PrintMore
attribute [local go_sem] max2_int min2_int max_two min_two max_three min_three max_four min_four   -- for this text's walks alone
set_option linter.unusedVariables false
set_option linter.unusedSimpArgs false
set_option maxHeartbeats 8000000 in
set_option maxRecDepth 100000 in
theorem laws_zzFits7.calls (k : Nat) (A0 : Option Addr) (c0 : Nat) (l0 : List (S70)) (r : Bool) (w : World) (hr0 : Kd.C k70 w A0 l0.length l0) (hc0 : l0.length ≤ c0) (h : laws_zzFits7.f k l0 = some r) :
    Calls Tryz.prog 32 #[.slice A0 l0.length c0] w fun e w' => e = .returned (.bool r) ∧ Below w.heap.size w w' := by
  have hu70 := Tryz.underlying70
  have HR0 := Aside0.mk hr0
  have HC0 := Aside0.mk hc0
  clear hr0 hc0
  have HB := Aside0.mk (Below.refl w.heap.size w)
  have H : (if (l0.length : Int) > 2147483647 then (some false) else (laws_zzFits7.l0 k l0 (l0.length : Int) 0)) = some r := h
  clear h
  by_cases c2 : (l0.length : Int) > 2147483647
  · rw [if_pos c2] at H
    have c2b0 : decide (2147483647 < (l0.length : Int)) = true := decide_eq_true c2
    have c2b1 : decide (2147483647 < l0.length) = true := decide_eq_true (by omega)
    clear c2
    obtain rfl := Option.some.inj H
    go_enter Tryz.func32, Tryz.ntmps32
    go_wp2
    go_ret
    exact ⟨by first | rfl | (simp [errW_none, errW_some] <;> rfl) | (simp [*, errW_none, errW_some] <;> rfl), by repeat (first | (with_reducible first | exact HB.out | apply below_alloc | apply pw_below_drewN | apply below_drew1) | exact HB.out)⟩
  · rw [if_neg c2] at H
    have c2b0 : decide (2147483647 < (l0.length : Int)) = false := decide_eq_false c2
    have c2b1 : decide (2147483647 < l0.length) = false := decide_eq_false (by omega)
    clear c2
    have H' := Aside0.mk H
    clear H
    go_enter Tryz.func32, Tryz.ntmps32
    go_wp2
    go_loopg [10] k (fun kq v10 w' => ∃ (x10_1 : Int), v10 = .int .i64 x10_1 ∧ Aside0 (laws_zzFits7.l0 kq l0 (l0.length : Int) x10_1 = some r) ∧ Aside0 (kq ≤ k) ∧ Aside0 (Below w.heap.size w w'))
    case atStart => exact ⟨(0), (by first | rfl | (simp; done) | (simp [*]; done)), H', ⟨Nat.le_refl _⟩, ⟨by repeat (first | (with_reducible first | exact HB.out | apply below_alloc | apply pw_below_drewN | apply below_drew1) | exact HB.out)⟩⟩
    case round =>
      clear H'
      try clear c2
      try clear c2b0
      try clear c2b1
      try clear p2
      obtain ⟨x10_1, rfl, HA, HK1, HB⟩ := hrel
      cases gk with
      | zero => exact absurd HA.out (by simp [laws_zzFits7.l0])
      | succ k1 =>
        have H := HA.out
        clear HA
        simp only [laws_zzFits7.l0] at H
        by_cases c3 : x10_1 < (l0.length : Int)
        · rw [if_pos c3] at H
          have c3b0 : decide (x10_1 < (l0.length : Int)) = true := decide_eq_true c3
          clear c3
          by_cases c4 : 0 ≤ x10_1
          · rw [if_pos c4] at H
            have c4b0 : decide (0 ≤ x10_1) = true := decide_eq_true c4
            clear c4
            by_cases c5 : x10_1 < (l0.length : Int)
            · rw [if_pos c5] at H
              have c5b0 : decide (x10_1 < (l0.length : Int)) = true := decide_eq_true c5
              clear c5
              replace H := Option.bind_eq_some_iff.mp H
              obtain ⟨t212, A60, H⟩ := H
              replace H : (if t212 = true then (laws_zzFits7.l0 k1 l0 (l0.length : Int) (wrap64 (x10_1 + 1))) else (some false)) = some r := H
              have A6 := Aside0.mk A60
              clear A60
              by_cases c7 : t212 = true
              · subst c7
                have H1 : (laws_zzFits7.l0 k1 l0 (l0.length : Int) (wrap64 (x10_1 + 1))) = some r := by rw [if_pos rfl] at H; exact H
                clear H
                have H := H1
                clear H1
                have H' := Aside0.mk H
                clear H
                have p210 : 0 ≤ (x10_1 : Int) := of_decide_eq_true (by first | (with_reducible assumption) | assumption)
                have q210 : x10_1 < (l0.length : Int) := of_decide_eq_true (by first | (with_reducible assumption) | assumption)
                obtain ⟨ad210, e210, hx210_0, hx210_1⟩ := at_T70 HR0.out x10_1 p210 q210
                cases e210
                replace hx210_0 := (HB.out.cell (World.block_lt_of_cell? w _ hx210_0)).trans hx210_0
                replace hx210_1 := (HB.out.cell (World.block_lt_of_cell? w _ hx210_1)).trans hx210_1
                replace p210 := eq_true p210
                replace q210 := eq_true q210
                go_wp2_with (first | ((with_reducible refine gate_dst (N := 4) rfl ?_); refine box_event ?hg (N := 4) ?hd (cs := #[.int .u8 0, .string (⟨#[]⟩ : ByteArray)]) (t := 70) ?hr ?_; (case hd => rfl); (case hg => rfl); (case hr => first | (go_simp; done) | (go_simp; rfl)); intro gb211 hg w8 hbox hb; have n0_ := Aside0.mk (below_step (by repeat (first | (with_reducible first | exact HB.out | apply below_alloc | apply pw_below_drewN | apply below_drew1) | exact HB.out)) hb); have n1_ := Aside0.mk (hbox); have n2_ := Aside0.mk ((by rw [hg]; exact (below_size (by repeat (first | (with_reducible first | exact HB.out | apply below_alloc | apply pw_below_drewN | apply below_drew1) | exact HB.out))) : w.heap.size ≤ gb211)); have n3_ := Aside0.mk ((by rw [hg]; exact (below_size (by repeat (first | (with_reducible first | exact HB.out | apply below_alloc | apply pw_below_drewN | apply below_drew1) | exact HB.out))) : w.heap.size ≤ gb211)); clear HB; have HB := n0_; have BK211 := n1_; have GW211 := n2_; have GE211 := n3_; clear n0_ n1_ n2_ n3_; clear hb hbox hg; have hcz9_0 : w8.cell? ⟨gb211, 0, none⟩ = some (.int .u8 0) := (blk_cell BK211.out 0).trans rfl; have hcz9_1 : w8.cell? ⟨gb211, 1, none⟩ = some (.string (⟨#[]⟩ : ByteArray)) := (blk_cell BK211.out 1).trans rfl; have hfz9_0 := blk_frozen BK211.out 0; have hfz9_1 := blk_frozen BK211.out 1) | ((with_reducible refine gate_callee (f := 98) rfl ?_); refine goesL_ (some 15) rfl rfl Tryz.func98 (by kernel_rfl) rfl #[.agg #[.int .u8 ((rd_T70 l0 x10_1).f0), .string ((rd_T70 l0 x10_1).f1)]] rfl (by (try simp only [List.map_toArray, List.map_cons, List.map_nil]); first | done | rfl | (simp only [List.length_drop, List.length_take]; rfl)) ?_; (with_reducible refine (laws_zzFits8.calls ((rd_T70 l0 x10_1).f0) ((rd_T70 l0 x10_1).f1) true _ A6.out).mono ?_); rintro e w10 ⟨rfl, hb⟩; refine ⟨_, rfl, ?_⟩; have n0_ := Aside0.mk (blk_below (g := gb211) (o := .cells #[.int .u8 ((rd_T70 l0 x10_1).f0), .string ((rd_T70 l0 x10_1).f1)] 70 (0, 0)) (by (with_reducible repeat (first | refine blk_drewN ?_ _ | refine blk_drew ?_ | refine blk_alloc ?_ _)); refine blk_put (cs := #[.int .u8 ((rd_T70 l0 x10_1).f0), .string (⟨#[]⟩ : ByteArray)]) ?_ 1 _ rfl; (with_reducible repeat (first | refine blk_drewN ?_ _ | refine blk_drew ?_ | refine blk_alloc ?_ _)); refine blk_put (cs := #[.int .u8 0, .string (⟨#[]⟩ : ByteArray)]) ?_ 0 _ rfl; (with_reducible repeat (first | refine blk_drewN ?_ _ | refine blk_drew ?_ | refine blk_alloc ?_ _)); exact BK211.out) hb); have n1_ := Aside0.mk (below_step (by repeat (first | (with_reducible first | exact HB.out | apply below_alloc | apply pw_below_drewN | apply below_drew1 | refine below_set ?_ GE211.out) | exact HB.out)) hb); clear BK211; clear HB; have BK211 := n0_; have HB := n1_; clear n0_ n1_; (try clear hb); (try clear hb2); (try clear hk); (try clear hi)))
                go_roundg k1
                case measure => have := HK1.out; omega
                case rel => exact ⟨(wrap64 (x10_1 + 1)), (by first | rfl | (simp; done) | (simp [*]; done)), H', ⟨by have := HK1.out; omega⟩, ⟨by repeat (first | (with_reducible first | exact HB.out | apply below_alloc | apply pw_below_drewN | apply below_drew1 | refine below_set ?_ GE211.out) | exact HB.out)⟩⟩
              · replace c7 := Bool.eq_false_iff.mpr c7
                subst c7
                have H1 : (some false) = some r := by rw [if_neg (show ¬ (false = true) by decide)] at H; exact H
                clear H
                have H := H1
                clear H1
                obtain rfl := Option.some.inj H
                have p210 : 0 ≤ (x10_1 : Int) := of_decide_eq_true (by first | (with_reducible assumption) | assumption)
                have q210 : x10_1 < (l0.length : Int) := of_decide_eq_true (by first | (with_reducible assumption) | assumption)
                obtain ⟨ad210, e210, hx210_0, hx210_1⟩ := at_T70 HR0.out x10_1 p210 q210
                cases e210
                replace hx210_0 := (HB.out.cell (World.block_lt_of_cell? w _ hx210_0)).trans hx210_0
                replace hx210_1 := (HB.out.cell (World.block_lt_of_cell? w _ hx210_1)).trans hx210_1
                replace p210 := eq_true p210
                replace q210 := eq_true q210
                go_wp2_with (first | ((with_reducible refine gate_dst (N := 4) rfl ?_); refine box_event ?hg (N := 4) ?hd (cs := #[.int .u8 0, .string (⟨#[]⟩ : ByteArray)]) (t := 70) ?hr ?_; (case hd => rfl); (case hg => rfl); (case hr => first | (go_simp; done) | (go_simp; rfl)); intro gb211 hg w11 hbox hb; have n0_ := Aside0.mk (below_step (by repeat (first | (with_reducible first | exact HB.out | apply below_alloc | apply pw_below_drewN | apply below_drew1) | exact HB.out)) hb); have n1_ := Aside0.mk (hbox); have n2_ := Aside0.mk ((by rw [hg]; exact (below_size (by repeat (first | (with_reducible first | exact HB.out | apply below_alloc | apply pw_below_drewN | apply below_drew1) | exact HB.out))) : w.heap.size ≤ gb211)); have n3_ := Aside0.mk ((by rw [hg]; exact (below_size (by repeat (first | (with_reducible first | exact HB.out | apply below_alloc | apply pw_below_drewN | apply below_drew1) | exact HB.out))) : w.heap.size ≤ gb211)); clear HB; have HB := n0_; have BK211 := n1_; have GW211 := n2_; have GE211 := n3_; clear n0_ n1_ n2_ n3_; clear hb hbox hg; have hcz12_0 : w11.cell? ⟨gb211, 0, none⟩ = some (.int .u8 0) := (blk_cell BK211.out 0).trans rfl; have hcz12_1 : w11.cell? ⟨gb211, 1, none⟩ = some (.string (⟨#[]⟩ : ByteArray)) := (blk_cell BK211.out 1).trans rfl; have hfz12_0 := blk_frozen BK211.out 0; have hfz12_1 := blk_frozen BK211.out 1) | ((with_reducible refine gate_callee (f := 98) rfl ?_); refine goesL_ (some 15) rfl rfl Tryz.func98 (by kernel_rfl) rfl #[.agg #[.int .u8 ((rd_T70 l0 x10_1).f0), .string ((rd_T70 l0 x10_1).f1)]] rfl (by (try simp only [List.map_toArray, List.map_cons, List.map_nil]); first | done | rfl | (simp only [List.length_drop, List.length_take]; rfl)) ?_; (with_reducible refine (laws_zzFits8.calls ((rd_T70 l0 x10_1).f0) ((rd_T70 l0 x10_1).f1) false _ A6.out).mono ?_); rintro e w13 ⟨rfl, hb⟩; refine ⟨_, rfl, ?_⟩; have n0_ := Aside0.mk (blk_below (g := gb211) (o := .cells #[.int .u8 ((rd_T70 l0 x10_1).f0), .string ((rd_T70 l0 x10_1).f1)] 70 (0, 0)) (by (with_reducible repeat (first | refine blk_drewN ?_ _ | refine blk_drew ?_ | refine blk_alloc ?_ _)); refine blk_put (cs := #[.int .u8 ((rd_T70 l0 x10_1).f0), .string (⟨#[]⟩ : ByteArray)]) ?_ 1 _ rfl; (with_reducible repeat (first | refine blk_drewN ?_ _ | refine blk_drew ?_ | refine blk_alloc ?_ _)); refine blk_put (cs := #[.int .u8 0, .string (⟨#[]⟩ : ByteArray)]) ?_ 0 _ rfl; (with_reducible repeat (first | refine blk_drewN ?_ _ | refine blk_drew ?_ | refine blk_alloc ?_ _)); exact BK211.out) hb); have n1_ := Aside0.mk (below_step (by repeat (first | (with_reducible first | exact HB.out | apply below_alloc | apply pw_below_drewN | apply below_drew1 | refine below_set ?_ GE211.out) | exact HB.out)) hb); clear BK211; clear HB; have BK211 := n0_; have HB := n1_; clear n0_ n1_; (try clear hb); (try clear hb2); (try clear hk); (try clear hi)))
                go_ret
                exact ⟨by first | rfl | (simp [errW_none, errW_some] <;> rfl) | (simp [*, errW_none, errW_some] <;> rfl), by repeat (first | (with_reducible first | exact HB.out | apply below_alloc | apply pw_below_drewN | apply below_drew1 | refine below_set ?_ GE211.out) | exact HB.out)⟩
            · rw [if_neg c5] at H
              exact absurd H (by simp)
          · rw [if_neg c4] at H
            exact absurd H (by simp)
        · rw [if_neg c3] at H
          have c3b0 : decide (x10_1 < (l0.length : Int)) = false := decide_eq_false c3
          clear c3
          obtain rfl := Option.some.inj H
          go_wp2
          go_ret
          exact ⟨by first | rfl | (simp [errW_none, errW_some] <;> rfl) | (simp [*, errW_none, errW_some] <;> rfl), by repeat (first | (with_reducible first | exact HB.out | apply below_alloc | apply pw_below_drewN | apply below_drew1) | exact HB.out)⟩
end Go.Proofs.YtkklhlakklcnbaaGreatDoorRRR.Y
end
