/- The plain law of FnDrawMouse: whatever the list is, the print's function says true. -/
import Derived.Test.YtgcbnegdchladaaDoorCHelp
import Derived.Test.YtgcbnegdchladaaDoorCPbMous
namespace Go.Proofs.YtgcbnegdchladaaDoor.Y
open Go.RowKit Go.Proofs.YtgcbnegdchladaaDoorW.PrintWords Go.Proofs.YtgcbnegdchladaaDoorW.PrintLast Go.Proofs.YtgcbnegdchladaaDoorW.PrintMore

def finalB (r : Bool) : Nat := if r then 109 else 77
def mouseEv (b x y : Nat) (r : Bool) : X.Ev := X.evCsi ((15360 + finalB r : Nat) : Int) [(b : Int), ((x + 1 : Nat) : Int), ((y + 1 : Nat) : Int)]

theorem mouse_run (b x y : Nat) (r : Bool) (hb : b ≤ 255) (hx : x ≤ 9999) (hy : y ≤ 9999) :
    X.run .gr ([27, 91, 60] ++ X.digs b ++ [59] ++ X.digs (x + 1) ++ [59] ++ X.digs (y + 1) ++ [finalB r]) = some (.gr, [mouseEv b x y r]) := by
  have hm : ∀ n : Nat, n ≤ 10000 → ¬ ((n : Int) = X.Miss) := fun n h => by unfold X.Miss; omega
  have h1 : X.run .gr [27, 91, 60] = some (.csi 3 15360 [] X.Miss, []) := by rfl
  have h2 := X.run_of h1 (X.run_digs 3 (by decide) 15360 [] b (by omega))
  have h3 : X.run (.csi 3 15360 [] (b : Int)) [59] = some (.csi 3 15360 [(b : Int)] X.Miss, []) := by
    simp [X.run, X.step]
  have h4 := X.run_of h2 h3
  have h5 := X.run_of h4 (X.run_digs 3 (by decide) 15360 [(b : Int)] (x + 1) (by omega))
  have h6 : X.run (.csi 3 15360 [(b : Int)] ((x + 1 : Nat) : Int)) [59] = some (.csi 3 15360 [(b : Int), ((x + 1 : Nat) : Int)] X.Miss, []) := by
    simp [X.run, X.step]
  have h7 := X.run_of h5 h6
  have h8 := X.run_of h7 (X.run_digs 3 (by decide) 15360 [(b : Int), ((x + 1 : Nat) : Int)] (y + 1) (by omega))
  have h9 : X.run (.csi 3 15360 [(b : Int), ((x + 1 : Nat) : Int)] ((y + 1 : Nat) : Int)) [finalB r] = some (.gr, [mouseEv b x y r]) := by
    cases r <;> simp [X.run, X.step, finalB, mouseEv, X.closed]
  have h10 := X.run_of h8 h9
  simpa using h10

theorem enc_final (r : Bool) : Utf8.encode ((finalB r : Nat) : Int) = ⟨#[UInt8.ofNat (finalB r)]⟩ := by cases r <;> rfl

theorem mouse_text (b x y : Nat) (r : Bool) (hb : b ≤ 255) (hx : x ≤ 9999) (hy : y ≤ 9999) (k : Nat) (hk : 2 ≤ k) :
    ∃ t, impl_MouseSgr.f k (b : Int) (x : Int) (y : Int) r = some t ∧ X.run .gr (X.nb t) = some (.gr, [mouseEv b x y r]) ∧ t.size ≤ 20 := by
  obtain ⟨k, rfl⟩ : ∃ k', k = k' + 2 := ⟨k - 2, by omega⟩
  obtain ⟨t1, a1, a2, a3⟩ := X.itoa_text b (by omega)
  obtain ⟨t2, b1, b2, b3⟩ := X.itoa_text (x + 1) (by omega)
  obtain ⟨t3, c1, c2, c3⟩ := X.itoa_text (y + 1) (by omega)
  replace a3 : t1.size ≤ 3 := by rw [a3]; exact X.digs_pow 2 b (by omega)
  replace b3 : t2.size ≤ 5 := by rw [b3]; exact X.digs_pow 4 (x + 1) (by omega)
  replace c3 : t3.size ≤ 5 := by rw [c3]; exact X.digs_pow 4 (y + 1) (by omega)
  have hw1 : wrap64 ((b : Nat) : Int) = (b : Int) := wrap64_of _ (by omega) (by omega)
  have hw2 : wrap64 ((x : Int) + 1) = ((x + 1 : Nat) : Int) := by rw [wrap64_of _ (by omega) (by omega)]; omega
  have hw3 : wrap64 ((y : Int) + 1) = ((y + 1 : Nat) : Int) := by rw [wrap64_of _ (by omega) (by omega)]; omega
  have hf : (Utf8.encode ((finalB r : Nat) : Int)).size = 1 := by cases r <;> rfl
  have main : ∀ c : Int, c = ((finalB r : Nat) : Int) → xansi_MouseSgr.j0 (k + 2) (b : Int) (x : Int) (y : Int) c = some (((((((⟨#[27, 91, 60]⟩ : ByteArray) ++ t1) ++ (⟨#[59]⟩ : ByteArray)) ++ t2) ++ (⟨#[59]⟩ : ByteArray)) ++ t3) ++ (Utf8.encode c)) := by
    rintro c rfl
    rw [xansi_MouseSgr.j0, if_neg (by omega), xansi_MouseSgr.j1, if_neg (by omega), hw1, a1, Option.bind_some, if_pos (by omega), if_pos (by omega), hw2, b1, Option.bind_some, if_pos (by omega), if_pos (by omega), hw3, c1, Option.bind_some, if_pos (by omega), if_pos (by omega)]
  refine ⟨((((((⟨#[27, 91, 60]⟩ : ByteArray) ++ t1) ++ (⟨#[59]⟩ : ByteArray)) ++ t2) ++ (⟨#[59]⟩ : ByteArray)) ++ t3) ++ (Utf8.encode ((finalB r : Nat) : Int)), ?_, ?_, ?_⟩
  · unfold impl_MouseSgr.f xansi_MouseSgr.f
    cases r
    · rw [if_neg (by simp), main 77 rfl, Option.bind_some]; rfl
    · rw [if_pos rfl, main 109 rfl, Option.bind_some]; rfl
  · rw [enc_final]
    simp only [X.nb_append, a2, b2, c2]
    have := mouse_run b x y r hb hx hy
    have e1 : X.nb ⟨#[27, 91, 60]⟩ = [27, 91, 60] := rfl
    have e2 : X.nb ⟨#[59]⟩ = [59] := rfl
    have e3 : X.nb ⟨#[UInt8.ofNat (finalB r)]⟩ = [finalB r] := by cases r <;> rfl
    rw [e1, e2, e3]
    exact this
  · simp only [ByteArray.size_append, hf]
    have e1 : (⟨#[27, 91, 60]⟩ : ByteArray).size = 3 := rfl
    have e2 : (⟨#[59]⟩ : ByteArray).size = 1 := rfl
    omega

abbrev Mo := S45
/-- What the mouse's row holds, being what its type can. -/
def MoOk (m : Mo) : Prop := 0 ≤ m.f0 ∧ m.f0 ≤ 255
def MoIn (m : Mo) : Prop := (0 ≤ m.f1 ∧ m.f1 ≤ 9999) ∧ 0 ≤ m.f2 ∧ m.f2 ≤ 9999
def evOf (m : Mo) : X.Ev := mouseEv m.f0.toNat m.f1.toNat m.f2.toNat m.f3
theorem rdM_at (l : List Mo) (i : Nat) (h : i < l.length) : rd_T45 l (i : Int) = l[i] := by
  simp [rd_T45, h]
theorem pack_final (r : Bool) : impl_Pack.f 60 0 ((finalB r : Nat) : Int) = some (((15360 + finalB r : Nat) : Int)) := by cases r <;> kernel_rfl

/-- Held against what was told. -/
theorem mouse_check (l : List Mo) (hok : ∀ m ∈ l, MoOk m) (hin : ∀ m ∈ l, MoIn m) (hl : l.length ≤ 8) : ∀ (m i k : Nat), i + m = l.length → 100 + 2 * m ≤ k →
    laws_FnDrawMouse.l1 k ((l.map evOf).map X.toS) l (l.length : Int) (i : Int) = some true
  | 0, i, k + 1, h, hk => by
    rw [laws_FnDrawMouse.l1, if_neg (by omega), awake, Option.bind_some]
  | m + 1, i, k + 2, h, hk => by
    have hi : i < l.length := by omega
    obtain ⟨⟨x0, x1⟩, y0, y1⟩ := hin _ (List.getElem_mem hi)
    obtain ⟨b0, b1⟩ := hok _ (List.getElem_mem hi)
    have ih := mouse_check l hok hin hl m (i + 1) k (by omega) (by omega)
    have body : ∀ c : Int, c = ((finalB l[i].f3 : Nat) : Int) → laws_FnDrawMouse.j4 (k + 1) ((l.map evOf).map X.toS) (i : Int) c l (l.length : Int) (i : Int) l[i].f0 l[i].f1 l[i].f2 l[i].f3 = some true := by
      rintro c rfl
      have hw : wrap64 ((i : Int) + 1) = ((i + 1 : Nat) : Int) := by rw [wrap64_of _ (by omega) (by omega)]; omega
      have hL : ((l.map evOf).map X.toS).length = l.length := by simp
      have hs : (((l.map evOf).map X.toS).take (i + 1)).drop i = [X.toS (evOf l[i])] := by
        apply List.ext_getElem
        · simp; omega
        · intro j h1 h2
          have hj : j = 0 := by simp at h2; omega
          subst hj
          simp
      have e3 : (cv (X.toS (evOf l[i]))).f3 = ((15360 + finalB l[i].f3 : Nat) : Int) := rfl
      have e4 : (cv (X.toS (evOf l[i]))).f4 = [((l[i].f0.toNat : Nat) : Int), ((l[i].f1.toNat + 1 : Nat) : Int), ((l[i].f2.toNat + 1 : Nat) : Int)] := rfl
      have hnum : spec_DrawNumbers.f k [cv (X.toS (evOf l[i]))] = some ((cv (X.toS (evOf l[i]))).f3, (cv (X.toS (evOf l[i]))).f4, true) := numbers_f _ rfl (by rw [e4]; simp) (by rw [e4]; simp; omega) k (by rw [e4]; simp; omega)
      have q1 : wrap64 l[i].f0 = ((l[i].f0.toNat : Nat) : Int) := by rw [wrap64_of _ (by omega) (by omega)]; omega
      have q2 : wrap64 (l[i].f1 + 1) = ((l[i].f1.toNat + 1 : Nat) : Int) := by rw [wrap64_of _ (by omega) (by omega)]; omega
      have q3 : wrap64 (l[i].f2 + 1) = ((l[i].f2.toNat + 1 : Nat) : Int) := by rw [wrap64_of _ (by omega) (by omega)]; omega
      rw [laws_FnDrawMouse.j4, if_pos (by omega), hw, if_pos (by omega), if_pos (by rw [hL]; omega), Int.toNat_natCast, Int.toNat_natCast, hs, drawEvents_f _ (by simp) k (by simp; omega), Option.bind_some, List.map_cons, List.map_nil, hnum, Option.bind_some]
      simp only [if_pos]
      rw [pack_final, Option.bind_some, e3, if_pos rfl, e4, q1, q2, q3, same_f _ (by simp) k (by simp; omega), Option.bind_some, if_pos rfl]
      exact ih
    rw [laws_FnDrawMouse.l1, if_pos (by omega), if_pos (by omega), if_pos (by omega), rdM_at l i hi]
    by_cases hr : l[i].f3 = true
    · rw [if_pos hr]; exact body 109 (by rw [hr]; rfl)
    · rw [if_neg hr]; exact body 77 (by rw [Bool.eq_false_iff.2 hr]; rfl)

theorem mouse_end (l : List Mo) (hok : ∀ m ∈ l, MoOk m) (hin : ∀ m ∈ l, MoIn m) (x3 : ByteArray) (i k : Nat) (hi : l.length ≤ i) (hk : 200 ≤ k) (hbig : x3.size ≤ 100000000000)
    (hr : X.run .gr (X.nb x3) = some (.gr, l.map evOf)) : laws_FnDrawMouse.l0 k l x3 l (l.length : Int) (i : Int) = some true := by
  obtain ⟨k, rfl⟩ : ∃ k', k = k' + 2 := ⟨k - 2, by omega⟩
  rw [laws_FnDrawMouse.l0, if_neg (by omega), conv_f x3 hbig, Option.bind_some, feed_f x3 hbig hr, Option.bind_some]
  by_cases h1 : (l.length : Int) < 1
  · rw [if_pos h1, laws_FnDrawMouse.j2, if_pos rfl, awake, Option.bind_some]
  · rw [if_neg h1]
    by_cases h8 : (l.length : Int) > 8
    · rw [decide_eq_true h8, laws_FnDrawMouse.j2, if_pos rfl, awake, Option.bind_some]
    · rw [decide_eq_false h8, laws_FnDrawMouse.j2, if_neg (by simp), if_pos (by simp)]
      exact mouse_check l hok hin (by omega) l.length 0 k (by omega) (by omega)

theorem mouse_loop (l : List Mo) (hok : ∀ m ∈ l, MoOk m) (hl : l.length ≤ 2147483647) : ∀ (m i k : Nat) (x3 : ByteArray), i + m = l.length → 210 + 3 * m ≤ k → (∀ e ∈ l.take i, MoIn e) → X.run .gr (X.nb x3) = some (.gr, (l.take i).map evOf) → x3.size ≤ 20 * i →
    laws_FnDrawMouse.l0 k l x3 l (l.length : Int) (i : Int) = some true
  | 0, i, k, x3, h, hk, hin, hr, hs => by
    rw [List.take_of_length_le (by omega)] at hr hin
    exact mouse_end l hok hin x3 i k (by omega) (by omega) (by omega) hr
  | m + 1, i, k + 3, x3, h, hk, hin, hr, hs => by
    have hi : i < l.length := by omega
    obtain ⟨b0, b1⟩ := hok _ (List.getElem_mem hi)
    rw [laws_FnDrawMouse.l0, if_pos (by omega), if_pos (by omega), if_pos (by omega), rdM_at l i hi]
    by_cases h1 : l[i].f1 < 0
    · rw [if_pos h1, laws_FnDrawMouse.j1, if_pos rfl, awake, Option.bind_some]
    rw [if_neg h1]
    by_cases h2 : l[i].f1 > 9999
    · rw [if_pos h2, laws_FnDrawMouse.j1, if_pos rfl, awake, Option.bind_some]
    rw [if_neg h2]
    by_cases h3 : l[i].f2 < 0
    · rw [if_pos h3, laws_FnDrawMouse.j1, if_pos rfl, awake, Option.bind_some]
    rw [if_neg h3]
    by_cases h4 : l[i].f2 > 9999
    · rw [decide_eq_true h4, laws_FnDrawMouse.j1, if_pos rfl, awake, Option.bind_some]
    rw [decide_eq_false h4, laws_FnDrawMouse.j1, if_neg (by simp)]
    obtain ⟨t, q1, q2, q3⟩ := mouse_text l[i].f0.toNat l[i].f1.toNat l[i].f2.toNat l[i].f3 (by omega) (by omega) (by omega) (k + 1) (by omega)
    rw [Int.toNat_of_nonneg b0, Int.toNat_of_nonneg (by omega), Int.toNat_of_nonneg (by omega)] at q1
    rw [q1, Option.bind_some, if_pos (by omega), wrap64_of _ (by omega) (by omega)]
    have e3 : l.take (i + 1) = l.take i ++ [l[i]] := List.take_succ_eq_append_getElem hi
    refine mouse_loop l hok hl m (i + 1) (k + 1) (x3 ++ t) (by omega) (by omega) ?_ ?_ (by rw [ByteArray.size_append]; omega)
    · rw [e3]
      intro e he
      rcases List.mem_append.1 he with he | he
      · exact hin e he
      · rw [List.mem_singleton.1 he]
        exact ⟨⟨by omega, by omega⟩, by omega, by omega⟩
    · rw [e3, X.nb_append, List.map_append]
      exact X.run_of hr q2

theorem FnDrawMouse_true (l : List Mo) (_ : l.length ≤ maxLen) (hq : ∀ a ∈ l, ((Lit.int .u8 a.f0).wf = true ∧ (Lit.int .i64 a.f1).wf = true ∧ (Lit.int .i64 a.f2).wf = true ∧ True)) : laws_FnDrawMouse.f (300 + 3 * l.length) l = some true := by
  have hok : ∀ m ∈ l, MoOk m := fun m hm => by
    have := (hq m hm).1
    simpa [MoOk, Lit.wf, IntKind.min, IntKind.max, IntKind.signed, IntKind.bits] using this
  unfold laws_FnDrawMouse.f
  by_cases hl : (l.length : Int) > 2147483647
  · rw [if_pos hl]
  · rw [if_neg hl]
    exact mouse_loop l hok (by omega) l.length 0 _ ⟨#[]⟩ (by omega) (by omega) (by simp) (by rfl) (by decide)
end Go.Proofs.YtgcbnegdchladaaDoor.Y
