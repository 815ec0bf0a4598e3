/- Texts of this claim, joined: XLawColors Y41. Of each, what the claim uses. -/
import Derived.Test.YtjkjnhcnmjknmaaGreatDoorKat
import Derived.Test.YtjkjnhcnmjknmaaGreatDoorKac
section
namespace Go.Proofs.YtjkjnhcnmjknmaaGreatDoor.Y
open Go.RowKit Go.Proofs.YtjkjnhcnmjknmaaGreatDoorW.PrintWords Go.Proofs.YtjkjnhcnmjknmaaGreatDoorW.PrintLast Go.Proofs.YtjkjnhcnmjknmaaGreatDoorW.PrintMore
def ColIn (m : Ti) : Prop := (m.f0 = 0 ∨ m.f0 = 1 ∨ m.f0 = 2) ∧ WText 20 m.f1
def colP (w : Int) : List UInt8 := if w = 0 then [49, 48] else if w = 1 then [49, 49] else [49, 50]
def evCol (m : Ti) : X.Ev := evText (10 + m.f0) (colP m.f0) m.f1
theorem nb3 (a b : ByteArray) (s : ByteArray) : X.nb ((a ++ s) ++ b) = X.nb a ++ nn s.data.toList ++ X.nb b := by
  rw [X.nb_append, X.nb_append]
  rfl
theorem col_text (m : Ti) (h : ColIn m) : ∃ t, impl_MakeText.f (wrap64 (wrap64 m.f0 + 3)) m.f1 = some t ∧ X.run .gr (X.nb t) = some (.gr, [evCol m]) ∧ t.size ≤ 30 := by
  obtain ⟨h0, hw⟩ := h
  have h20 := hw.2.2
  have hz : ∀ a b : ByteArray, a.size = 5 → b.size = 1 → ((a ++ m.f1) ++ b).size ≤ 30 := fun a b ha hb => by
    rw [ByteArray.size_append, ByteArray.size_append]
    omega
  unfold impl_MakeText.f
  rcases h0 with h0 | h0 | h0
  · refine ⟨((⟨#[27, 93, 49, 48, 59]⟩ : ByteArray) ++ m.f1) ++ (⟨#[7]⟩ : ByteArray), ?_, ?_, hz _ _ rfl rfl⟩
    · rw [h0, show wrap64 (wrap64 0 + 3) = 3 by unfold wrap64; omega, if_neg (by omega), if_neg (by omega), if_neg (by omega), if_pos rfl]
      unfold xansi_SetForegroundColor.f
      rw [if_pos (by omega), if_pos (by omega), Option.bind_some]
    · unfold evCol colP
      rw [h0, if_pos rfl]
      exact evText_run _ (by decide) _ rfl (by decide) m.f1 hw _ (nb3 _ _ _)
  · refine ⟨((⟨#[27, 93, 49, 49, 59]⟩ : ByteArray) ++ m.f1) ++ (⟨#[7]⟩ : ByteArray), ?_, ?_, hz _ _ rfl rfl⟩
    · rw [h0, show wrap64 (wrap64 1 + 3) = 4 by unfold wrap64; omega, if_neg (by omega), if_neg (by omega), if_neg (by omega), if_neg (by omega), if_pos rfl]
      unfold xansi_SetBackgroundColor.f
      rw [if_pos (by omega), if_pos (by omega), Option.bind_some]
    · unfold evCol colP
      rw [h0, if_neg (by omega), if_pos rfl]
      exact evText_run _ (by decide) _ rfl (by decide) m.f1 hw _ (nb3 _ _ _)
  · refine ⟨((⟨#[27, 93, 49, 50, 59]⟩ : ByteArray) ++ m.f1) ++ (⟨#[7]⟩ : ByteArray), ?_, ?_, hz _ _ rfl rfl⟩
    · rw [h0, show wrap64 (wrap64 2 + 3) = 5 by unfold wrap64; omega, if_neg (by omega), if_neg (by omega), if_neg (by omega), if_neg (by omega), if_neg (by omega), if_pos rfl]
      unfold xansi_SetCursorColor.f
      rw [if_pos (by omega), if_pos (by omega), Option.bind_some]
    · unfold evCol colP
      rw [h0, if_neg (by omega), if_neg (by omega)]
      exact evText_run _ (by decide) _ rfl (by decide) m.f1 hw _ (nb3 _ _ _)
theorem col_told (m : Ti) (h : ColIn m) : (cv (X.toS (evCol m))).f0 = 5 ∧ (cv (X.toS (evCol m))).f3 = 10 + m.f0 ∧ spec_drawBehind.f 10 (strOfNums (cv (X.toS (evCol m))).f5) 1 = some m.f1 := by
  obtain ⟨h0, hw⟩ := h
  have h20 := hw.2.2
  refine evText_told _ _ ?_ ?_ m.f1 (by omega)
  · rcases h0 with h0 | h0 | h0 <;> rw [h0] <;> decide
  · rcases h0 with h0 | h0 | h0 <;> rw [h0] <;> decide
/-- What is kept, and what is told. -/
def keep (v : List ByteArray) (m : Ti) : List ByteArray := v.set m.f0.toNat m.f1
theorem keep_len (v : List ByteArray) (m : Ti) : (keep v m).length = v.length := by simp [keep]
theorem keep_tell (l : List Ti) : ∀ v : List ByteArray, v.length = 3 → (∀ m ∈ l, ColIn m) → l.foldl (fun v a => tell [10, 11, 12] (10 + a.f0) a.f1 v) v = l.foldl keep v ∧ (l.foldl keep v).length = 3 := by
  induction l with
  | nil => intro v hv _; exact ⟨rfl, hv⟩
  | cons m l ih =>
    intro v hv h
    have h1 : tell [10, 11, 12] (10 + m.f0) m.f1 v = keep v m := by
      match v, hv with
      | [a, b, c], _ => rcases (h m (by simp)).1 with h0 | h0 | h0 <;> simp [tell, keep, h0]
    rw [List.foldl_cons, List.foldl_cons, h1]
    exact ih (keep v m) (by rw [keep_len, hv]) (fun a ha => h a (List.mem_cons_of_mem _ ha))
theorem col_end (l : List Ti) (hin : ∀ m ∈ l, ColIn m) (x4 : ByteArray) (i k : Nat) (hi : l.length ≤ i) (hk : 1000 ≤ k) (hs : x4.size ≤ 100000000000) (hr : X.run .gr (X.nb x4) = some (.gr, l.map evCol)) :
    laws_FnDrawColors.l0 k l (l.foldl keep (List.replicate 3 ⟨#[]⟩)) x4 l (l.length : Int) (i : Int) = some true := by
  obtain ⟨k, rfl⟩ : ∃ k', k = k' + 2 := ⟨k - 2, by omega⟩
  rw [laws_FnDrawColors.l0, if_neg (by omega)]
  by_cases h1 : (l.length : Int) < 1
  · rw [if_pos h1, laws_FnDrawColors.j2, if_pos rfl, awake, Option.bind_some]
  rw [if_neg h1]
  by_cases h8 : (l.length : Int) > 8
  · rw [decide_eq_true h8, laws_FnDrawColors.j2, if_pos rfl, awake, Option.bind_some]
  obtain ⟨q1, q2⟩ := keep_tell l (List.replicate 3 ⟨#[]⟩) (by simp) hin
  have hT := told_f (fun m : Ti => cv (X.toS (evCol m))) (fun m : Ti => 10 + m.f0) (fun m : Ti => m.f1) 10 [10, 11, 12] (by decide) l (by omega) (fun m hm => col_told m (hin m hm)) k (by simp only [List.length_cons, List.length_nil]; omega)
  have hT2 : spec_DrawTold.f k (l.map (fun m : Ti => cv (X.toS (evCol m)))) [10, 11, 12] = some (l.foldl keep (List.replicate 3 ⟨#[]⟩)) := by rw [hT]; exact congrArg some q1
  rw [decide_eq_false h8, laws_FnDrawColors.j2, if_neg (by simp), conv_f x4 hs, Option.bind_some, feed_f x4 hs hr, Option.bind_some, drawEvents_f _ (by simp; omega) k (by simp; omega), Option.bind_some, List.map_map, List.map_map]
  have e1 : ((cv ∘ X.toS) ∘ evCol) = (fun m : Ti => cv (X.toS (evCol m))) := rfl
  rw [e1, hT2, Option.bind_some]
  generalize l.foldl keep (List.replicate 3 ⟨#[]⟩) = v at q2 ⊢
  rw [if_pos (by omega), if_pos (by omega), if_pos rfl, if_pos (by omega), if_pos (by omega), if_pos rfl, if_pos (by omega), if_pos (by omega), if_pos rfl, awake, Option.bind_some]
theorem col_loop (l : List Ti) (hok : ∀ m ∈ l, 0 ≤ m.f0 ∧ m.f0 ≤ 255) (hf : TiFits l) : ∀ (m i k : Nat) (x4 : ByteArray), i + m = l.length → 3000000000 + 2 * m ≤ k → (∀ e ∈ l.take i, ColIn e) → X.run .gr (X.nb x4) = some (.gr, (l.take i).map evCol) → x4.size ≤ 30 * i →
    laws_FnDrawColors.l0 k l ((l.take i).foldl keep (List.replicate 3 ⟨#[]⟩)) x4 l (l.length : Int) (i : Int) = some true
  | 0, i, k, x4, h, hk, hin, hr, hs => by
    have := hf.1
    rw [List.take_of_length_le (by omega)] at hr hin ⊢
    exact col_end l hin x4 i k (by omega) (by omega) (by omega) hr
  | m + 1, i, k + 2, x4, h, hk, hin, hr, hs => by
    have hl := hf.1
    have hi : i < l.length := by omega
    obtain ⟨b0, b1⟩ := hok _ (List.getElem_mem hi)
    have hz := hf.2 _ (List.getElem_mem hi)
    rw [laws_FnDrawColors.l0, if_pos (by omega), if_pos (by omega), if_pos (by omega), rdTi_at l i hi]
    by_cases h1 : l[i].f0 > 2
    · rw [if_pos h1, laws_FnDrawColors.j1, if_pos rfl, awake, Option.bind_some]
    obtain ⟨b, e1, e2⟩ := word_f 20 (by omega) l[i].f1 hz (k + 1) (by omega)
    rw [if_neg h1, show (20 : Int) = ((20 : Nat) : Int) by rfl, e1, Option.bind_some]
    cases b with
    | false => rw [laws_FnDrawColors.j1, if_pos (by simp), awake, Option.bind_some]
    | true =>
      have hcol : ColIn l[i] := ⟨by omega, e2 rfl⟩
      obtain ⟨t, q1, q2, q3⟩ := col_text l[i] hcol
      have q4 : (List.foldl keep (List.replicate 3 ⟨#[]⟩) (l.take i)).length = 3 := (keep_tell (l.take i) _ (by simp) hin).2
      have e3 : l.take (i + 1) = l.take i ++ [l[i]] := List.take_succ_eq_append_getElem hi
      have e4 : ((l.take i).foldl keep (List.replicate 3 ⟨#[]⟩)).set l[i].f0.toNat l[i].f1 = (l.take (i + 1)).foldl keep (List.replicate 3 ⟨#[]⟩) := by
        rw [e3, List.foldl_append]
        rfl
      rw [laws_FnDrawColors.j1, if_neg (by simp), q1, Option.bind_some, if_pos (by omega), if_pos (by omega), if_pos (by omega), wup i (by omega), e4]
      refine col_loop l hok hf m (i + 1) k (x4 ++ t) (by omega) (by omega) ?_ ?_ (by rw [ByteArray.size_append]; omega)
      · rw [e3]
        intro e he
        rcases List.mem_append.1 he with he | he
        · exact hin e he
        · rw [List.mem_singleton.1 he]
          exact hcol
      · rw [e3, X.nb_append, List.map_append]
        exact X.run_of hr q2
theorem FnDrawColors_true (l : List Ti) (_ : l.length ≤ maxLen) (hq : ∀ a ∈ l, ((Lit.int .u8 a.f0).wf = true ∧ a.f1.size ≤ maxLen)) : laws_FnDrawColors.f 8000000000 l = some true := by
  have hok : ∀ m ∈ l, 0 ≤ m.f0 ∧ m.f0 ≤ 255 := fun m hm => by
    have := (hq m hm).1
    simpa [Lit.wf, IntKind.min, IntKind.max, IntKind.signed, IntKind.bits] using this
  unfold laws_FnDrawColors.f
  obtain ⟨b, e1, e2⟩ := fitsTi_f l 8000000000 (by omega)
  rw [e1, Option.bind_some]
  cases b with
  | false => rw [if_neg (by simp)]
  | true =>
    have hf := e2 rfl
    have := hf.1
    rw [if_pos rfl, if_pos (by omega)]
    exact col_loop l hok hf l.length 0 _ ⟨#[]⟩ (by omega) (by omega) (by simp) (by rfl) (by decide)
end Go.Proofs.YtjkjnhcnmjknmaaGreatDoor.Y
end
section
namespace Go.Proofs.YtjkjnhcnmjknmaaGreatDoor.Y
open Go.RowKit Go.Proofs.YtjkjnhcnmjknmaaGreatDoorW.PrintWords Go.Proofs.YtjkjnhcnmjknmaaGreatDoorW.PrintLast Go.Proofs.YtjkjnhcnmjknmaaGreatDoorW.PrintMore
attribute [local go_sem] max2_int min2_int max_two min_two max_three min_three max_four min_four   -- for this text's walks alone
set_option linter.unusedVariables false
set_option linter.unusedSimpArgs false
set_option maxHeartbeats 8000000 in
set_option maxRecDepth 100000 in
theorem spec_DrawWord.calls (k : Nat) (a0 : ByteArray) (a1 : Int) (r : Bool) (w : World) (h : spec_DrawWord.f k a0 a1 = some r) :
    Calls Tryz.prog 22 #[.string a0, .int .i64 a1] w fun e w' => e = .returned (.bool r) ∧ Drawn0 w w' := by
  have H : (spec_DrawWord.l0 k a0 a1 (a0.size : Int) 0) = some r := h
  clear h
  have H' := Aside0.mk H
  clear H
  go_enter Tryz.func22, Tryz.ntmps22
  go_wp2
  go_loopg [10] k (fun kq v10 w' => ∃ (x10_1 : Int), v10 = .int .i64 x10_1 ∧ Aside0 (spec_DrawWord.l0 kq a0 a1 (a0.size : Int) x10_1 = some r) ∧ Aside0 (kq ≤ k) ∧ Drawn0 w w')
  case atStart => exact ⟨(0), (by first | rfl | (simp; done) | (simp [*]; done)), H', ⟨Nat.le_refl _⟩, by repeat (first | exact Drawn0.refl _ | apply Drawn0.step)⟩
  case round =>
    clear H'
    try clear c2
    try clear p2
    obtain ⟨x10_1, rfl, HA, HK1, ⟨m1, rfl⟩⟩ := hrel
    cases gk with
    | zero => exact absurd HA.out (by simp [spec_DrawWord.l0])
    | succ k1 =>
      have H := HA.out
      clear HA
      simp only [spec_DrawWord.l0] at H
      by_cases c3 : x10_1 < (a0.size : Int)
      · rw [if_pos c3] at H
        have c3b0 : decide (x10_1 < (a0.size : Int)) = true := decide_eq_true c3
        clear c3
        by_cases c4 : 0 ≤ x10_1
        · rw [if_pos c4] at H
          have c4b0 : decide (0 ≤ x10_1) = true := decide_eq_true c4
          clear c4
          by_cases c5 : x10_1 < (a0.size : Int)
          · rw [if_pos c5] at H
            have c5b0 : decide (x10_1 < (a0.size : Int)) = true := decide_eq_true c5
            clear c5
            by_cases c7 : 97 ≤ (bt a0 x10_1)
            · rw [if_pos c7] at H
              have c7b0 : decide (97 ≤ (bt a0 x10_1)) = true := decide_eq_true c7
              clear c7
              by_cases c8 : (bt a0 x10_1) ≤ 122
              · rw [if_pos c8] at H
                have c8b0 : decide ((bt a0 x10_1) ≤ 122) = true := decide_eq_true c8
                clear c8
                have H' := Aside0.mk H
                clear H
                have p6 : 0 ≤ (x10_1 : Int) := of_decide_eq_true (by first | (with_reducible assumption) | assumption)
                have q6 : x10_1 < (a0.size : Int) := of_decide_eq_true (by first | (with_reducible assumption) | assumption)
                have hx6 := bt_at a0 x10_1
                replace p6 := eq_true p6
                replace q6 := eq_true q6
                go_wp2
                go_roundg k1
                case measure => have := HK1.out; omega
                case rel => exact ⟨(wrap64 (x10_1 + 1)), (by first | rfl | (simp; done) | (simp [*]; done)), H', ⟨by have := HK1.out; omega⟩, by repeat (first | exact Drawn0.refl _ | apply Drawn0.step)⟩
              · rw [if_neg c8] at H
                have c8b0 : decide ((bt a0 x10_1) ≤ 122) = false := decide_eq_false c8
                clear c8
                by_cases c9 : 65 ≤ (bt a0 x10_1)
                · rw [if_pos c9] at H
                  have c9b0 : decide (65 ≤ (bt a0 x10_1)) = true := decide_eq_true c9
                  clear c9
                  by_cases c10 : ((bt a0 x10_1) ≤ 90)
                  · rw [if_pos c10] at H
                    have c10b0 : decide ((bt a0 x10_1) ≤ 90) = true := decide_eq_true c10
                    clear c10
                    have H' := Aside0.mk H
                    clear H
                    have p6 : 0 ≤ (x10_1 : Int) := of_decide_eq_true (by first | (with_reducible assumption) | assumption)
                    have q6 : x10_1 < (a0.size : Int) := of_decide_eq_true (by first | (with_reducible assumption) | assumption)
                    have hx6 := bt_at a0 x10_1
                    replace p6 := eq_true p6
                    replace q6 := eq_true q6
                    go_wp2
                    go_roundg k1
                    case measure => have := HK1.out; omega
                    case rel => exact ⟨(wrap64 (x10_1 + 1)), (by first | rfl | (simp; done) | (simp [*]; done)), H', ⟨by have := HK1.out; omega⟩, by repeat (first | exact Drawn0.refl _ | apply Drawn0.step)⟩
                  · rw [if_neg c10] at H
                    have c10b0 : decide ((bt a0 x10_1) ≤ 90) = false := decide_eq_false c10
                    clear c10
                    by_cases c11 : x10_1 = 0
                    · rw [if_pos c11] at H
                      have c11b0 : (x10_1 == 0) = true := beq_iff_eq.mpr c11
                      have c11b1 : (x10_1 != 0) = false := bne_eq_false_iff_eq.mpr c11
                      clear c11
                      obtain rfl := Option.some.inj H
                      have p6 : 0 ≤ (x10_1 : Int) := of_decide_eq_true (by first | (with_reducible assumption) | assumption)
                      have q6 : x10_1 < (a0.size : Int) := of_decide_eq_true (by first | (with_reducible assumption) | assumption)
                      have hx6 := bt_at a0 x10_1
                      replace p6 := eq_true p6
                      replace q6 := eq_true q6
                      go_wp2
                      go_ret
                      exact ⟨by first | rfl | (simp; done) | (simp [*]; done), by repeat (first | exact Drawn0.refl _ | apply Drawn0.step)⟩
                    · rw [if_neg c11] at H
                      have c11b0 : (x10_1 == 0) = false := beq_eq_false_iff_ne.mpr c11
                      have c11b1 : (x10_1 != 0) = true := bne_iff_ne.mpr c11
                      by_cases c12 : (bt a0 x10_1) < 48
                      · rw [if_pos c12] at H
                        have c12b0 : decide ((bt a0 x10_1) < 48) = true := decide_eq_true c12
                        clear c12
                        by_cases c13 : (bt a0 x10_1) = 32
                        · rw [if_pos c13] at H
                          have c13b0 : ((bt a0 x10_1) == 32) = true := beq_iff_eq.mpr c13
                          have c13b1 : ((bt a0 x10_1) != 32) = false := bne_eq_false_iff_eq.mpr c13
                          clear c13
                          have H' := Aside0.mk H
                          clear H
                          have p6 : 0 ≤ (x10_1 : Int) := of_decide_eq_true (by first | (with_reducible assumption) | assumption)
                          have q6 : x10_1 < (a0.size : Int) := of_decide_eq_true (by first | (with_reducible assumption) | assumption)
                          have hx6 := bt_at a0 x10_1
                          replace p6 := eq_true p6
                          replace q6 := eq_true q6
                          go_wp2
                          go_roundg k1
                          case measure => have := HK1.out; omega
                          case rel => exact ⟨(wrap64 (x10_1 + 1)), (by first | rfl | (simp; done) | (simp [*]; done)), H', ⟨by have := HK1.out; omega⟩, by repeat (first | exact Drawn0.refl _ | apply Drawn0.step)⟩
                        · rw [if_neg c13] at H
                          have c13b0 : ((bt a0 x10_1) == 32) = false := beq_eq_false_iff_ne.mpr c13
                          have c13b1 : ((bt a0 x10_1) != 32) = true := bne_iff_ne.mpr c13
                          by_cases c14 : (bt a0 x10_1) = 46
                          · rw [if_pos c14] at H
                            have c14b0 : ((bt a0 x10_1) == 46) = true := beq_iff_eq.mpr c14
                            have c14b1 : ((bt a0 x10_1) != 46) = false := bne_eq_false_iff_eq.mpr c14
                            clear c14
                            have H' := Aside0.mk H
                            clear H
                            have p6 : 0 ≤ (x10_1 : Int) := of_decide_eq_true (by first | (with_reducible assumption) | assumption)
                            have q6 : x10_1 < (a0.size : Int) := of_decide_eq_true (by first | (with_reducible assumption) | assumption)
                            have hx6 := bt_at a0 x10_1
                            replace p6 := eq_true p6
                            replace q6 := eq_true q6
                            go_wp2
                            go_roundg k1
                            case measure => have := HK1.out; omega
                            case rel => exact ⟨(wrap64 (x10_1 + 1)), (by first | rfl | (simp; done) | (simp [*]; done)), H', ⟨by have := HK1.out; omega⟩, by repeat (first | exact Drawn0.refl _ | apply Drawn0.step)⟩
                          · rw [if_neg c14] at H
                            have c14b0 : ((bt a0 x10_1) == 46) = false := beq_eq_false_iff_ne.mpr c14
                            have c14b1 : ((bt a0 x10_1) != 46) = true := bne_iff_ne.mpr c14
                            obtain rfl := Option.some.inj H
                            have p6 : 0 ≤ (x10_1 : Int) := of_decide_eq_true (by first | (with_reducible assumption) | assumption)
                            have q6 : x10_1 < (a0.size : Int) := of_decide_eq_true (by first | (with_reducible assumption) | assumption)
                            have hx6 := bt_at a0 x10_1
                            replace p6 := eq_true p6
                            replace q6 := eq_true q6
                            go_wp2
                            go_ret
                            exact ⟨by first | rfl | (simp; done) | (simp [*]; done), by repeat (first | exact Drawn0.refl _ | apply Drawn0.step)⟩
                      · rw [if_neg c12] at H
                        have c12b0 : decide ((bt a0 x10_1) < 48) = false := decide_eq_false c12
                        clear c12
                        by_cases c15 : (bt a0 x10_1) > 57
                        · rw [if_pos c15] at H
                          have c15b0 : decide (57 < (bt a0 x10_1)) = true := decide_eq_true c15
                          clear c15
                          by_cases c16 : (bt a0 x10_1) = 32
                          · rw [if_pos c16] at H
                            have c16b0 : ((bt a0 x10_1) == 32) = true := beq_iff_eq.mpr c16
                            have c16b1 : ((bt a0 x10_1) != 32) = false := bne_eq_false_iff_eq.mpr c16
                            clear c16
                            have H' := Aside0.mk H
                            clear H
                            have p6 : 0 ≤ (x10_1 : Int) := of_decide_eq_true (by first | (with_reducible assumption) | assumption)
                            have q6 : x10_1 < (a0.size : Int) := of_decide_eq_true (by first | (with_reducible assumption) | assumption)
                            have hx6 := bt_at a0 x10_1
                            replace p6 := eq_true p6
                            replace q6 := eq_true q6
                            go_wp2
                            go_roundg k1
                            case measure => have := HK1.out; omega
                            case rel => exact ⟨(wrap64 (x10_1 + 1)), (by first | rfl | (simp; done) | (simp [*]; done)), H', ⟨by have := HK1.out; omega⟩, by repeat (first | exact Drawn0.refl _ | apply Drawn0.step)⟩
                          · rw [if_neg c16] at H
                            have c16b0 : ((bt a0 x10_1) == 32) = false := beq_eq_false_iff_ne.mpr c16
                            have c16b1 : ((bt a0 x10_1) != 32) = true := bne_iff_ne.mpr c16
                            by_cases c17 : (bt a0 x10_1) = 46
                            · rw [if_pos c17] at H
                              have c17b0 : ((bt a0 x10_1) == 46) = true := beq_iff_eq.mpr c17
                              have c17b1 : ((bt a0 x10_1) != 46) = false := bne_eq_false_iff_eq.mpr c17
                              clear c17
                              have H' := Aside0.mk H
                              clear H
                              have p6 : 0 ≤ (x10_1 : Int) := of_decide_eq_true (by first | (with_reducible assumption) | assumption)
                              have q6 : x10_1 < (a0.size : Int) := of_decide_eq_true (by first | (with_reducible assumption) | assumption)
                              have hx6 := bt_at a0 x10_1
                              replace p6 := eq_true p6
                              replace q6 := eq_true q6
                              go_wp2
                              go_roundg k1
                              case measure => have := HK1.out; omega
                              case rel => exact ⟨(wrap64 (x10_1 + 1)), (by first | rfl | (simp; done) | (simp [*]; done)), H', ⟨by have := HK1.out; omega⟩, by repeat (first | exact Drawn0.refl _ | apply Drawn0.step)⟩
                            · rw [if_neg c17] at H
                              have c17b0 : ((bt a0 x10_1) == 46) = false := beq_eq_false_iff_ne.mpr c17
                              have c17b1 : ((bt a0 x10_1) != 46) = true := bne_iff_ne.mpr c17
                              obtain rfl := Option.some.inj H
                              have p6 : 0 ≤ (x10_1 : Int) := of_decide_eq_true (by first | (with_reducible assumption) | assumption)
                              have q6 : x10_1 < (a0.size : Int) := of_decide_eq_true (by first | (with_reducible assumption) | assumption)
                              have hx6 := bt_at a0 x10_1
                              replace p6 := eq_true p6
                              replace q6 := eq_true q6
                              go_wp2
                              go_ret
                              exact ⟨by first | rfl | (simp; done) | (simp [*]; done), by repeat (first | exact Drawn0.refl _ | apply Drawn0.step)⟩
                        · rw [if_neg c15] at H
                          have c15b0 : decide (57 < (bt a0 x10_1)) = false := decide_eq_false c15
                          clear c15
                          have H' := Aside0.mk H
                          clear H
                          have p6 : 0 ≤ (x10_1 : Int) := of_decide_eq_true (by first | (with_reducible assumption) | assumption)
                          have q6 : x10_1 < (a0.size : Int) := of_decide_eq_true (by first | (with_reducible assumption) | assumption)
                          have hx6 := bt_at a0 x10_1
                          replace p6 := eq_true p6
                          replace q6 := eq_true q6
                          go_wp2
                          go_roundg k1
                          case measure => have := HK1.out; omega
                          case rel => exact ⟨(wrap64 (x10_1 + 1)), (by first | rfl | (simp; done) | (simp [*]; done)), H', ⟨by have := HK1.out; omega⟩, by repeat (first | exact Drawn0.refl _ | apply Drawn0.step)⟩
                · rw [if_neg c9] at H
                  have c9b0 : decide (65 ≤ (bt a0 x10_1)) = false := decide_eq_false c9
                  clear c9
                  by_cases c18 : x10_1 = 0
                  · rw [if_pos c18] at H
                    have c18b0 : (x10_1 == 0) = true := beq_iff_eq.mpr c18
                    have c18b1 : (x10_1 != 0) = false := bne_eq_false_iff_eq.mpr c18
                    clear c18
                    obtain rfl := Option.some.inj H
                    have p6 : 0 ≤ (x10_1 : Int) := of_decide_eq_true (by first | (with_reducible assumption) | assumption)
                    have q6 : x10_1 < (a0.size : Int) := of_decide_eq_true (by first | (with_reducible assumption) | assumption)
                    have hx6 := bt_at a0 x10_1
                    replace p6 := eq_true p6
                    replace q6 := eq_true q6
                    go_wp2
                    go_ret
                    exact ⟨by first | rfl | (simp; done) | (simp [*]; done), by repeat (first | exact Drawn0.refl _ | apply Drawn0.step)⟩
                  · rw [if_neg c18] at H
                    have c18b0 : (x10_1 == 0) = false := beq_eq_false_iff_ne.mpr c18
                    have c18b1 : (x10_1 != 0) = true := bne_iff_ne.mpr c18
                    by_cases c19 : (bt a0 x10_1) < 48
                    · rw [if_pos c19] at H
                      have c19b0 : decide ((bt a0 x10_1) < 48) = true := decide_eq_true c19
                      clear c19
                      by_cases c20 : (bt a0 x10_1) = 32
                      · rw [if_pos c20] at H
                        have c20b0 : ((bt a0 x10_1) == 32) = true := beq_iff_eq.mpr c20
                        have c20b1 : ((bt a0 x10_1) != 32) = false := bne_eq_false_iff_eq.mpr c20
                        clear c20
                        have H' := Aside0.mk H
                        clear H
                        have p6 : 0 ≤ (x10_1 : Int) := of_decide_eq_true (by first | (with_reducible assumption) | assumption)
                        have q6 : x10_1 < (a0.size : Int) := of_decide_eq_true (by first | (with_reducible assumption) | assumption)
                        have hx6 := bt_at a0 x10_1
                        replace p6 := eq_true p6
                        replace q6 := eq_true q6
                        go_wp2
                        go_roundg k1
                        case measure => have := HK1.out; omega
                        case rel => exact ⟨(wrap64 (x10_1 + 1)), (by first | rfl | (simp; done) | (simp [*]; done)), H', ⟨by have := HK1.out; omega⟩, by repeat (first | exact Drawn0.refl _ | apply Drawn0.step)⟩
                      · rw [if_neg c20] at H
                        have c20b0 : ((bt a0 x10_1) == 32) = false := beq_eq_false_iff_ne.mpr c20
                        have c20b1 : ((bt a0 x10_1) != 32) = true := bne_iff_ne.mpr c20
                        by_cases c21 : (bt a0 x10_1) = 46
                        · rw [if_pos c21] at H
                          have c21b0 : ((bt a0 x10_1) == 46) = true := beq_iff_eq.mpr c21
                          have c21b1 : ((bt a0 x10_1) != 46) = false := bne_eq_false_iff_eq.mpr c21
                          clear c21
                          have H' := Aside0.mk H
                          clear H
                          have p6 : 0 ≤ (x10_1 : Int) := of_decide_eq_true (by first | (with_reducible assumption) | assumption)
                          have q6 : x10_1 < (a0.size : Int) := of_decide_eq_true (by first | (with_reducible assumption) | assumption)
                          have hx6 := bt_at a0 x10_1
                          replace p6 := eq_true p6
                          replace q6 := eq_true q6
                          go_wp2
                          go_roundg k1
                          case measure => have := HK1.out; omega
                          case rel => exact ⟨(wrap64 (x10_1 + 1)), (by first | rfl | (simp; done) | (simp [*]; done)), H', ⟨by have := HK1.out; omega⟩, by repeat (first | exact Drawn0.refl _ | apply Drawn0.step)⟩
                        · rw [if_neg c21] at H
                          have c21b0 : ((bt a0 x10_1) == 46) = false := beq_eq_false_iff_ne.mpr c21
                          have c21b1 : ((bt a0 x10_1) != 46) = true := bne_iff_ne.mpr c21
                          obtain rfl := Option.some.inj H
                          have p6 : 0 ≤ (x10_1 : Int) := of_decide_eq_true (by first | (with_reducible assumption) | assumption)
                          have q6 : x10_1 < (a0.size : Int) := of_decide_eq_true (by first | (with_reducible assumption) | assumption)
                          have hx6 := bt_at a0 x10_1
                          replace p6 := eq_true p6
                          replace q6 := eq_true q6
                          go_wp2
                          go_ret
                          exact ⟨by first | rfl | (simp; done) | (simp [*]; done), by repeat (first | exact Drawn0.refl _ | apply Drawn0.step)⟩
                    · rw [if_neg c19] at H
                      have c19b0 : decide ((bt a0 x10_1) < 48) = false := decide_eq_false c19
                      clear c19
                      by_cases c22 : (bt a0 x10_1) > 57
                      · rw [if_pos c22] at H
                        have c22b0 : decide (57 < (bt a0 x10_1)) = true := decide_eq_true c22
                        clear c22
                        by_cases c23 : (bt a0 x10_1) = 32
                        · rw [if_pos c23] at H
                          have c23b0 : ((bt a0 x10_1) == 32) = true := beq_iff_eq.mpr c23
                          have c23b1 : ((bt a0 x10_1) != 32) = false := bne_eq_false_iff_eq.mpr c23
                          clear c23
                          have H' := Aside0.mk H
                          clear H
                          have p6 : 0 ≤ (x10_1 : Int) := of_decide_eq_true (by first | (with_reducible assumption) | assumption)
                          have q6 : x10_1 < (a0.size : Int) := of_decide_eq_true (by first | (with_reducible assumption) | assumption)
                          have hx6 := bt_at a0 x10_1
                          replace p6 := eq_true p6
                          replace q6 := eq_true q6
                          go_wp2
                          go_roundg k1
                          case measure => have := HK1.out; omega
                          case rel => exact ⟨(wrap64 (x10_1 + 1)), (by first | rfl | (simp; done) | (simp [*]; done)), H', ⟨by have := HK1.out; omega⟩, by repeat (first | exact Drawn0.refl _ | apply Drawn0.step)⟩
                        · rw [if_neg c23] at H
                          have c23b0 : ((bt a0 x10_1) == 32) = false := beq_eq_false_iff_ne.mpr c23
                          have c23b1 : ((bt a0 x10_1) != 32) = true := bne_iff_ne.mpr c23
                          by_cases c24 : (bt a0 x10_1) = 46
                          · rw [if_pos c24] at H
                            have c24b0 : ((bt a0 x10_1) == 46) = true := beq_iff_eq.mpr c24
                            have c24b1 : ((bt a0 x10_1) != 46) = false := bne_eq_false_iff_eq.mpr c24
                            clear c24
                            have H' := Aside0.mk H
                            clear H
                            have p6 : 0 ≤ (x10_1 : Int) := of_decide_eq_true (by first | (with_reducible assumption) | assumption)
                            have q6 : x10_1 < (a0.size : Int) := of_decide_eq_true (by first | (with_reducible assumption) | assumption)
                            have hx6 := bt_at a0 x10_1
                            replace p6 := eq_true p6
                            replace q6 := eq_true q6
                            go_wp2
                            go_roundg k1
                            case measure => have := HK1.out; omega
                            case rel => exact ⟨(wrap64 (x10_1 + 1)), (by first | rfl | (simp; done) | (simp [*]; done)), H', ⟨by have := HK1.out; omega⟩, by repeat (first | exact Drawn0.refl _ | apply Drawn0.step)⟩
                          · rw [if_neg c24] at H
                            have c24b0 : ((bt a0 x10_1) == 46) = false := beq_eq_false_iff_ne.mpr c24
                            have c24b1 : ((bt a0 x10_1) != 46) = true := bne_iff_ne.mpr c24
                            obtain rfl := Option.some.inj H
                            have p6 : 0 ≤ (x10_1 : Int) := of_decide_eq_true (by first | (with_reducible assumption) | assumption)
                            have q6 : x10_1 < (a0.size : Int) := of_decide_eq_true (by first | (with_reducible assumption) | assumption)
                            have hx6 := bt_at a0 x10_1
                            replace p6 := eq_true p6
                            replace q6 := eq_true q6
                            go_wp2
                            go_ret
                            exact ⟨by first | rfl | (simp; done) | (simp [*]; done), by repeat (first | exact Drawn0.refl _ | apply Drawn0.step)⟩
                      · rw [if_neg c22] at H
                        have c22b0 : decide (57 < (bt a0 x10_1)) = false := decide_eq_false c22
                        clear c22
                        have H' := Aside0.mk H
                        clear H
                        have p6 : 0 ≤ (x10_1 : Int) := of_decide_eq_true (by first | (with_reducible assumption) | assumption)
                        have q6 : x10_1 < (a0.size : Int) := of_decide_eq_true (by first | (with_reducible assumption) | assumption)
                        have hx6 := bt_at a0 x10_1
                        replace p6 := eq_true p6
                        replace q6 := eq_true q6
                        go_wp2
                        go_roundg k1
                        case measure => have := HK1.out; omega
                        case rel => exact ⟨(wrap64 (x10_1 + 1)), (by first | rfl | (simp; done) | (simp [*]; done)), H', ⟨by have := HK1.out; omega⟩, by repeat (first | exact Drawn0.refl _ | apply Drawn0.step)⟩
            · rw [if_neg c7] at H
              have c7b0 : decide (97 ≤ (bt a0 x10_1)) = false := decide_eq_false c7
              clear c7
              by_cases c25 : 65 ≤ (bt a0 x10_1)
              · rw [if_pos c25] at H
                have c25b0 : decide (65 ≤ (bt a0 x10_1)) = true := decide_eq_true c25
                clear c25
                by_cases c26 : ((bt a0 x10_1) ≤ 90)
                · rw [if_pos c26] at H
                  have c26b0 : decide ((bt a0 x10_1) ≤ 90) = true := decide_eq_true c26
                  clear c26
                  have H' := Aside0.mk H
                  clear H
                  have p6 : 0 ≤ (x10_1 : Int) := of_decide_eq_true (by first | (with_reducible assumption) | assumption)
                  have q6 : x10_1 < (a0.size : Int) := of_decide_eq_true (by first | (with_reducible assumption) | assumption)
                  have hx6 := bt_at a0 x10_1
                  replace p6 := eq_true p6
                  replace q6 := eq_true q6
                  go_wp2
                  go_roundg k1
                  case measure => have := HK1.out; omega
                  case rel => exact ⟨(wrap64 (x10_1 + 1)), (by first | rfl | (simp; done) | (simp [*]; done)), H', ⟨by have := HK1.out; omega⟩, by repeat (first | exact Drawn0.refl _ | apply Drawn0.step)⟩
                · rw [if_neg c26] at H
                  have c26b0 : decide ((bt a0 x10_1) ≤ 90) = false := decide_eq_false c26
                  clear c26
                  by_cases c27 : x10_1 = 0
                  · rw [if_pos c27] at H
                    have c27b0 : (x10_1 == 0) = true := beq_iff_eq.mpr c27
                    have c27b1 : (x10_1 != 0) = false := bne_eq_false_iff_eq.mpr c27
                    clear c27
                    obtain rfl := Option.some.inj H
                    have p6 : 0 ≤ (x10_1 : Int) := of_decide_eq_true (by first | (with_reducible assumption) | assumption)
                    have q6 : x10_1 < (a0.size : Int) := of_decide_eq_true (by first | (with_reducible assumption) | assumption)
                    have hx6 := bt_at a0 x10_1
                    replace p6 := eq_true p6
                    replace q6 := eq_true q6
                    go_wp2
                    go_ret
                    exact ⟨by first | rfl | (simp; done) | (simp [*]; done), by repeat (first | exact Drawn0.refl _ | apply Drawn0.step)⟩
                  · rw [if_neg c27] at H
                    have c27b0 : (x10_1 == 0) = false := beq_eq_false_iff_ne.mpr c27
                    have c27b1 : (x10_1 != 0) = true := bne_iff_ne.mpr c27
                    by_cases c28 : (bt a0 x10_1) < 48
                    · rw [if_pos c28] at H
                      have c28b0 : decide ((bt a0 x10_1) < 48) = true := decide_eq_true c28
                      clear c28
                      by_cases c29 : (bt a0 x10_1) = 32
                      · rw [if_pos c29] at H
                        have c29b0 : ((bt a0 x10_1) == 32) = true := beq_iff_eq.mpr c29
                        have c29b1 : ((bt a0 x10_1) != 32) = false := bne_eq_false_iff_eq.mpr c29
                        clear c29
                        have H' := Aside0.mk H
                        clear H
                        have p6 : 0 ≤ (x10_1 : Int) := of_decide_eq_true (by first | (with_reducible assumption) | assumption)
                        have q6 : x10_1 < (a0.size : Int) := of_decide_eq_true (by first | (with_reducible assumption) | assumption)
                        have hx6 := bt_at a0 x10_1
                        replace p6 := eq_true p6
                        replace q6 := eq_true q6
                        go_wp2
                        go_roundg k1
                        case measure => have := HK1.out; omega
                        case rel => exact ⟨(wrap64 (x10_1 + 1)), (by first | rfl | (simp; done) | (simp [*]; done)), H', ⟨by have := HK1.out; omega⟩, by repeat (first | exact Drawn0.refl _ | apply Drawn0.step)⟩
                      · rw [if_neg c29] at H
                        have c29b0 : ((bt a0 x10_1) == 32) = false := beq_eq_false_iff_ne.mpr c29
                        have c29b1 : ((bt a0 x10_1) != 32) = true := bne_iff_ne.mpr c29
                        by_cases c30 : (bt a0 x10_1) = 46
                        · rw [if_pos c30] at H
                          have c30b0 : ((bt a0 x10_1) == 46) = true := beq_iff_eq.mpr c30
                          have c30b1 : ((bt a0 x10_1) != 46) = false := bne_eq_false_iff_eq.mpr c30
                          clear c30
                          have H' := Aside0.mk H
                          clear H
                          have p6 : 0 ≤ (x10_1 : Int) := of_decide_eq_true (by first | (with_reducible assumption) | assumption)
                          have q6 : x10_1 < (a0.size : Int) := of_decide_eq_true (by first | (with_reducible assumption) | assumption)
                          have hx6 := bt_at a0 x10_1
                          replace p6 := eq_true p6
                          replace q6 := eq_true q6
                          go_wp2
                          go_roundg k1
                          case measure => have := HK1.out; omega
                          case rel => exact ⟨(wrap64 (x10_1 + 1)), (by first | rfl | (simp; done) | (simp [*]; done)), H', ⟨by have := HK1.out; omega⟩, by repeat (first | exact Drawn0.refl _ | apply Drawn0.step)⟩
                        · rw [if_neg c30] at H
                          have c30b0 : ((bt a0 x10_1) == 46) = false := beq_eq_false_iff_ne.mpr c30
                          have c30b1 : ((bt a0 x10_1) != 46) = true := bne_iff_ne.mpr c30
                          obtain rfl := Option.some.inj H
                          have p6 : 0 ≤ (x10_1 : Int) := of_decide_eq_true (by first | (with_reducible assumption) | assumption)
                          have q6 : x10_1 < (a0.size : Int) := of_decide_eq_true (by first | (with_reducible assumption) | assumption)
                          have hx6 := bt_at a0 x10_1
                          replace p6 := eq_true p6
                          replace q6 := eq_true q6
                          go_wp2
                          go_ret
                          exact ⟨by first | rfl | (simp; done) | (simp [*]; done), by repeat (first | exact Drawn0.refl _ | apply Drawn0.step)⟩
                    · rw [if_neg c28] at H
                      have c28b0 : decide ((bt a0 x10_1) < 48) = false := decide_eq_false c28
                      clear c28
                      by_cases c31 : (bt a0 x10_1) > 57
                      · rw [if_pos c31] at H
                        have c31b0 : decide (57 < (bt a0 x10_1)) = true := decide_eq_true c31
                        clear c31
                        by_cases c32 : (bt a0 x10_1) = 32
                        · rw [if_pos c32] at H
                          have c32b0 : ((bt a0 x10_1) == 32) = true := beq_iff_eq.mpr c32
                          have c32b1 : ((bt a0 x10_1) != 32) = false := bne_eq_false_iff_eq.mpr c32
                          clear c32
                          have H' := Aside0.mk H
                          clear H
                          have p6 : 0 ≤ (x10_1 : Int) := of_decide_eq_true (by first | (with_reducible assumption) | assumption)
                          have q6 : x10_1 < (a0.size : Int) := of_decide_eq_true (by first | (with_reducible assumption) | assumption)
                          have hx6 := bt_at a0 x10_1
                          replace p6 := eq_true p6
                          replace q6 := eq_true q6
                          go_wp2
                          go_roundg k1
                          case measure => have := HK1.out; omega
                          case rel => exact ⟨(wrap64 (x10_1 + 1)), (by first | rfl | (simp; done) | (simp [*]; done)), H', ⟨by have := HK1.out; omega⟩, by repeat (first | exact Drawn0.refl _ | apply Drawn0.step)⟩
                        · rw [if_neg c32] at H
                          have c32b0 : ((bt a0 x10_1) == 32) = false := beq_eq_false_iff_ne.mpr c32
                          have c32b1 : ((bt a0 x10_1) != 32) = true := bne_iff_ne.mpr c32
                          by_cases c33 : (bt a0 x10_1) = 46
                          · rw [if_pos c33] at H
                            have c33b0 : ((bt a0 x10_1) == 46) = true := beq_iff_eq.mpr c33
                            have c33b1 : ((bt a0 x10_1) != 46) = false := bne_eq_false_iff_eq.mpr c33
                            clear c33
                            have H' := Aside0.mk H
                            clear H
                            have p6 : 0 ≤ (x10_1 : Int) := of_decide_eq_true (by first | (with_reducible assumption) | assumption)
                            have q6 : x10_1 < (a0.size : Int) := of_decide_eq_true (by first | (with_reducible assumption) | assumption)
                            have hx6 := bt_at a0 x10_1
                            replace p6 := eq_true p6
                            replace q6 := eq_true q6
                            go_wp2
                            go_roundg k1
                            case measure => have := HK1.out; omega
                            case rel => exact ⟨(wrap64 (x10_1 + 1)), (by first | rfl | (simp; done) | (simp [*]; done)), H', ⟨by have := HK1.out; omega⟩, by repeat (first | exact Drawn0.refl _ | apply Drawn0.step)⟩
                          · rw [if_neg c33] at H
                            have c33b0 : ((bt a0 x10_1) == 46) = false := beq_eq_false_iff_ne.mpr c33
                            have c33b1 : ((bt a0 x10_1) != 46) = true := bne_iff_ne.mpr c33
                            obtain rfl := Option.some.inj H
                            have p6 : 0 ≤ (x10_1 : Int) := of_decide_eq_true (by first | (with_reducible assumption) | assumption)
                            have q6 : x10_1 < (a0.size : Int) := of_decide_eq_true (by first | (with_reducible assumption) | assumption)
                            have hx6 := bt_at a0 x10_1
                            replace p6 := eq_true p6
                            replace q6 := eq_true q6
                            go_wp2
                            go_ret
                            exact ⟨by first | rfl | (simp; done) | (simp [*]; done), by repeat (first | exact Drawn0.refl _ | apply Drawn0.step)⟩
                      · rw [if_neg c31] at H
                        have c31b0 : decide (57 < (bt a0 x10_1)) = false := decide_eq_false c31
                        clear c31
                        have H' := Aside0.mk H
                        clear H
                        have p6 : 0 ≤ (x10_1 : Int) := of_decide_eq_true (by first | (with_reducible assumption) | assumption)
                        have q6 : x10_1 < (a0.size : Int) := of_decide_eq_true (by first | (with_reducible assumption) | assumption)
                        have hx6 := bt_at a0 x10_1
                        replace p6 := eq_true p6
                        replace q6 := eq_true q6
                        go_wp2
                        go_roundg k1
                        case measure => have := HK1.out; omega
                        case rel => exact ⟨(wrap64 (x10_1 + 1)), (by first | rfl | (simp; done) | (simp [*]; done)), H', ⟨by have := HK1.out; omega⟩, by repeat (first | exact Drawn0.refl _ | apply Drawn0.step)⟩
              · rw [if_neg c25] at H
                have c25b0 : decide (65 ≤ (bt a0 x10_1)) = false := decide_eq_false c25
                clear c25
                by_cases c34 : x10_1 = 0
                · rw [if_pos c34] at H
                  have c34b0 : (x10_1 == 0) = true := beq_iff_eq.mpr c34
                  have c34b1 : (x10_1 != 0) = false := bne_eq_false_iff_eq.mpr c34
                  clear c34
                  obtain rfl := Option.some.inj H
                  have p6 : 0 ≤ (x10_1 : Int) := of_decide_eq_true (by first | (with_reducible assumption) | assumption)
                  have q6 : x10_1 < (a0.size : Int) := of_decide_eq_true (by first | (with_reducible assumption) | assumption)
                  have hx6 := bt_at a0 x10_1
                  replace p6 := eq_true p6
                  replace q6 := eq_true q6
                  go_wp2
                  go_ret
                  exact ⟨by first | rfl | (simp; done) | (simp [*]; done), by repeat (first | exact Drawn0.refl _ | apply Drawn0.step)⟩
                · rw [if_neg c34] at H
                  have c34b0 : (x10_1 == 0) = false := beq_eq_false_iff_ne.mpr c34
                  have c34b1 : (x10_1 != 0) = true := bne_iff_ne.mpr c34
                  by_cases c35 : (bt a0 x10_1) < 48
                  · rw [if_pos c35] at H
                    have c35b0 : decide ((bt a0 x10_1) < 48) = true := decide_eq_true c35
                    clear c35
                    by_cases c36 : (bt a0 x10_1) = 32
                    · rw [if_pos c36] at H
                      have c36b0 : ((bt a0 x10_1) == 32) = true := beq_iff_eq.mpr c36
                      have c36b1 : ((bt a0 x10_1) != 32) = false := bne_eq_false_iff_eq.mpr c36
                      clear c36
                      have H' := Aside0.mk H
                      clear H
                      have p6 : 0 ≤ (x10_1 : Int) := of_decide_eq_true (by first | (with_reducible assumption) | assumption)
                      have q6 : x10_1 < (a0.size : Int) := of_decide_eq_true (by first | (with_reducible assumption) | assumption)
                      have hx6 := bt_at a0 x10_1
                      replace p6 := eq_true p6
                      replace q6 := eq_true q6
                      go_wp2
                      go_roundg k1
                      case measure => have := HK1.out; omega
                      case rel => exact ⟨(wrap64 (x10_1 + 1)), (by first | rfl | (simp; done) | (simp [*]; done)), H', ⟨by have := HK1.out; omega⟩, by repeat (first | exact Drawn0.refl _ | apply Drawn0.step)⟩
                    · rw [if_neg c36] at H
                      have c36b0 : ((bt a0 x10_1) == 32) = false := beq_eq_false_iff_ne.mpr c36
                      have c36b1 : ((bt a0 x10_1) != 32) = true := bne_iff_ne.mpr c36
                      by_cases c37 : (bt a0 x10_1) = 46
                      · rw [if_pos c37] at H
                        have c37b0 : ((bt a0 x10_1) == 46) = true := beq_iff_eq.mpr c37
                        have c37b1 : ((bt a0 x10_1) != 46) = false := bne_eq_false_iff_eq.mpr c37
                        clear c37
                        have H' := Aside0.mk H
                        clear H
                        have p6 : 0 ≤ (x10_1 : Int) := of_decide_eq_true (by first | (with_reducible assumption) | assumption)
                        have q6 : x10_1 < (a0.size : Int) := of_decide_eq_true (by first | (with_reducible assumption) | assumption)
                        have hx6 := bt_at a0 x10_1
                        replace p6 := eq_true p6
                        replace q6 := eq_true q6
                        go_wp2
                        go_roundg k1
                        case measure => have := HK1.out; omega
                        case rel => exact ⟨(wrap64 (x10_1 + 1)), (by first | rfl | (simp; done) | (simp [*]; done)), H', ⟨by have := HK1.out; omega⟩, by repeat (first | exact Drawn0.refl _ | apply Drawn0.step)⟩
                      · rw [if_neg c37] at H
                        have c37b0 : ((bt a0 x10_1) == 46) = false := beq_eq_false_iff_ne.mpr c37
                        have c37b1 : ((bt a0 x10_1) != 46) = true := bne_iff_ne.mpr c37
                        obtain rfl := Option.some.inj H
                        have p6 : 0 ≤ (x10_1 : Int) := of_decide_eq_true (by first | (with_reducible assumption) | assumption)
                        have q6 : x10_1 < (a0.size : Int) := of_decide_eq_true (by first | (with_reducible assumption) | assumption)
                        have hx6 := bt_at a0 x10_1
                        replace p6 := eq_true p6
                        replace q6 := eq_true q6
                        go_wp2
                        go_ret
                        exact ⟨by first | rfl | (simp; done) | (simp [*]; done), by repeat (first | exact Drawn0.refl _ | apply Drawn0.step)⟩
                  · rw [if_neg c35] at H
                    have c35b0 : decide ((bt a0 x10_1) < 48) = false := decide_eq_false c35
                    clear c35
                    by_cases c38 : (bt a0 x10_1) > 57
                    · rw [if_pos c38] at H
                      have c38b0 : decide (57 < (bt a0 x10_1)) = true := decide_eq_true c38
                      clear c38
                      by_cases c39 : (bt a0 x10_1) = 32
                      · rw [if_pos c39] at H
                        have c39b0 : ((bt a0 x10_1) == 32) = true := beq_iff_eq.mpr c39
                        have c39b1 : ((bt a0 x10_1) != 32) = false := bne_eq_false_iff_eq.mpr c39
                        clear c39
                        have H' := Aside0.mk H
                        clear H
                        have p6 : 0 ≤ (x10_1 : Int) := of_decide_eq_true (by first | (with_reducible assumption) | assumption)
                        have q6 : x10_1 < (a0.size : Int) := of_decide_eq_true (by first | (with_reducible assumption) | assumption)
                        have hx6 := bt_at a0 x10_1
                        replace p6 := eq_true p6
                        replace q6 := eq_true q6
                        go_wp2
                        go_roundg k1
                        case measure => have := HK1.out; omega
                        case rel => exact ⟨(wrap64 (x10_1 + 1)), (by first | rfl | (simp; done) | (simp [*]; done)), H', ⟨by have := HK1.out; omega⟩, by repeat (first | exact Drawn0.refl _ | apply Drawn0.step)⟩
                      · rw [if_neg c39] at H
                        have c39b0 : ((bt a0 x10_1) == 32) = false := beq_eq_false_iff_ne.mpr c39
                        have c39b1 : ((bt a0 x10_1) != 32) = true := bne_iff_ne.mpr c39
                        by_cases c40 : (bt a0 x10_1) = 46
                        · rw [if_pos c40] at H
                          have c40b0 : ((bt a0 x10_1) == 46) = true := beq_iff_eq.mpr c40
                          have c40b1 : ((bt a0 x10_1) != 46) = false := bne_eq_false_iff_eq.mpr c40
                          clear c40
                          have H' := Aside0.mk H
                          clear H
                          have p6 : 0 ≤ (x10_1 : Int) := of_decide_eq_true (by first | (with_reducible assumption) | assumption)
                          have q6 : x10_1 < (a0.size : Int) := of_decide_eq_true (by first | (with_reducible assumption) | assumption)
                          have hx6 := bt_at a0 x10_1
                          replace p6 := eq_true p6
                          replace q6 := eq_true q6
                          go_wp2
                          go_roundg k1
                          case measure => have := HK1.out; omega
                          case rel => exact ⟨(wrap64 (x10_1 + 1)), (by first | rfl | (simp; done) | (simp [*]; done)), H', ⟨by have := HK1.out; omega⟩, by repeat (first | exact Drawn0.refl _ | apply Drawn0.step)⟩
                        · rw [if_neg c40] at H
                          have c40b0 : ((bt a0 x10_1) == 46) = false := beq_eq_false_iff_ne.mpr c40
                          have c40b1 : ((bt a0 x10_1) != 46) = true := bne_iff_ne.mpr c40
                          obtain rfl := Option.some.inj H
                          have p6 : 0 ≤ (x10_1 : Int) := of_decide_eq_true (by first | (with_reducible assumption) | assumption)
                          have q6 : x10_1 < (a0.size : Int) := of_decide_eq_true (by first | (with_reducible assumption) | assumption)
                          have hx6 := bt_at a0 x10_1
                          replace p6 := eq_true p6
                          replace q6 := eq_true q6
                          go_wp2
                          go_ret
                          exact ⟨by first | rfl | (simp; done) | (simp [*]; done), by repeat (first | exact Drawn0.refl _ | apply Drawn0.step)⟩
                    · rw [if_neg c38] at H
                      have c38b0 : decide (57 < (bt a0 x10_1)) = false := decide_eq_false c38
                      clear c38
                      have H' := Aside0.mk H
                      clear H
                      have p6 : 0 ≤ (x10_1 : Int) := of_decide_eq_true (by first | (with_reducible assumption) | assumption)
                      have q6 : x10_1 < (a0.size : Int) := of_decide_eq_true (by first | (with_reducible assumption) | assumption)
                      have hx6 := bt_at a0 x10_1
                      replace p6 := eq_true p6
                      replace q6 := eq_true q6
                      go_wp2
                      go_roundg k1
                      case measure => have := HK1.out; omega
                      case rel => exact ⟨(wrap64 (x10_1 + 1)), (by first | rfl | (simp; done) | (simp [*]; done)), H', ⟨by have := HK1.out; omega⟩, by repeat (first | exact Drawn0.refl _ | apply Drawn0.step)⟩
          · rw [if_neg c5] at H
            exact absurd H (by simp)
        · rw [if_neg c4] at H
          exact absurd H (by simp)
      · rw [if_neg c3] at H
        have c3b0 : decide (x10_1 < (a0.size : Int)) = false := decide_eq_false c3
        clear c3
        by_cases c41 : (a0.size : Int) ≥ 1
        · rw [if_pos c41] at H
          have c41b0 : decide (1 ≤ (a0.size : Int)) = true := decide_eq_true c41
          have c41b1 : decide (1 ≤ a0.size) = true := decide_eq_true (by omega)
          clear c41
          obtain rfl := Option.some.inj H
          go_wp2
          go_ret
          exact ⟨by first | rfl | (simp; done) | (simp [*]; done), by repeat (first | exact Drawn0.refl _ | apply Drawn0.step)⟩
        · rw [if_neg c41] at H
          have c41b0 : decide (1 ≤ (a0.size : Int)) = false := decide_eq_false c41
          have c41b1 : decide (1 ≤ a0.size) = false := decide_eq_false (by omega)
          clear c41
          obtain rfl := Option.some.inj H
          go_wp2
          go_ret
          exact ⟨by first | rfl | (simp; done) | (simp [*]; done), by repeat (first | exact Drawn0.refl _ | apply Drawn0.step)⟩
end Go.Proofs.YtjkjnhcnmjknmaaGreatDoor.Y
end
