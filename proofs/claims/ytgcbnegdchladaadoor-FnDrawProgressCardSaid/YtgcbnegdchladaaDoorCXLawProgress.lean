/- The plain law of FnDrawProgress: whatever the list is, the print's function says true. The pieces (three kinds, 101 numbers) are evaluated by the kernel. -/
import Derived.Test.YtgcbnegdchladaaDoorCHelp
namespace Go.Proofs.YtgcbnegdchladaaDoor.Y
open Go.RowKit Go.Proofs.YtgcbnegdchladaaDoorW.PrintWords Go.Proofs.YtgcbnegdchladaaDoorW.PrintLast Go.Proofs.YtgcbnegdchladaaDoorW.PrintMore

def kindB : Nat → ByteArray
  | 0 => ⟨#[49]⟩ | 1 => ⟨#[50]⟩ | _ => ⟨#[52]⟩
def wantB (j : Nat) (d : ByteArray) : ByteArray := (((⟨#[52, 59]⟩ : ByteArray) ++ kindB j) ++ (⟨#[59]⟩ : ByteArray)) ++ d
def pieceOk (j n : Nat) : Bool :=
  match impl_MakeNumber.f (31 + j) n, spec_Digits.f 10 n with
  | some t, some d =>
    match X.run .gr (X.nb t) with
    | some (s, [e]) => decide (s = .gr) && decide (e.kind = 5) && decide (e.cmd = 9) && decide (t.size ≤ 12) && decide (d.size ≤ 3) && decide ((spec_drawBehind.f 60 (strOfNums e.data) 1).map (·.toList) = some (wantB j d).toList)
    | _ => false
  | _, _ => false
theorem pieces : ((List.range 3).all fun j => (List.range 101).all fun n => pieceOk j n) = true := by kernel_rfl

theorem piece (j n : Nat) (hj : j < 3) (hn : n ≤ 100) : ∃ t d e b, impl_MakeNumber.f (31 + j) n = some t ∧ spec_Digits.f 10 n = some d ∧ X.run .gr (X.nb t) = some (.gr, [e]) ∧ e.kind = 5 ∧ e.cmd = 9 ∧ t.size ≤ 12 ∧ d.size ≤ 3 ∧ spec_drawBehind.f 60 (strOfNums e.data) 1 = some b ∧ b.toList = (wantB j d).toList := by
  have h := List.all_eq_true.1 (List.all_eq_true.1 pieces j (List.mem_range.2 hj)) n (List.mem_range.2 (by omega))
  unfold pieceOk at h
  split at h
  · rename_i t d ht hd
    split at h
    · rename_i s e hr
      simp only [Bool.and_eq_true, decide_eq_true_eq] at h
      obtain ⟨⟨⟨⟨⟨h1, h2⟩, h3⟩, h4⟩, h5⟩, h6⟩ := h
      obtain ⟨b, hb, hb2⟩ := Option.map_eq_some_iff.1 h6
      subst h1
      exact ⟨t, d, e, b, ht, hd, hr, h2, h3, h4, h5, hb, hb2⟩
    · exact absurd h (by simp)
  · exact absurd h (by simp)

/-- The events told: the last one is what is kept. -/
theorem told_l0 (evs : List X.Ev) (hl : evs.length < 1000) (hev : ∀ e ∈ evs, e.kind = 5 ∧ e.cmd = 9 ∧ ∃ b, spec_drawBehind.f 60 (strOfNums e.data) 1 = some b) :
    ∀ (m i k : Nat) (x : ByteArray), i + m = evs.length → 70 + 3 * m ≤ k →
      ∃ y, spec_DrawTold.l0 k [9] [x] ((evs.map X.toS).map cv) (((evs.map X.toS).map cv).length : Int) (i : Int) = some [y] ∧
        (m = 0 ∧ y = x ∨ ∃ e, evs.getLast? = some e ∧ spec_drawBehind.f 60 (strOfNums e.data) 1 = some y)
  | 0, i, k + 1, x, h, hk => by
    have e1 : ¬ ((i : Int) < (((evs.map X.toS).map cv).length : Int)) := by simp; omega
    exact ⟨x, by rw [spec_DrawTold.l0, if_neg e1], Or.inl ⟨rfl, rfl⟩⟩
  | m + 1, i, k + 3, x, h, hk => by
    have hi : i < evs.length := by omega
    have hL : ((evs.map X.toS).map cv).length = evs.length := by simp
    have e1 : ((i : Int) < (((evs.map X.toS).map cv).length : Int)) := by rw [hL]; omega
    obtain ⟨h5, h9, b, hb⟩ := hev evs[i] (List.getElem_mem hi)
    have hg : rd_T39 ((evs.map X.toS).map cv) (i : Int) = cv (X.toS evs[i]) := by
      rw [rdU_at _ i (by rw [hL]; exact hi)]
      simp
    have hb' : spec_drawBehind.f (k + 1) (strOfNums (cv (X.toS evs[i])).f5) 1 = some b := lift (spec_drawBehind.mono _ _) (by omega) hb
    obtain ⟨y, hy, hy2⟩ := told_l0 evs hl hev m (i + 1) k b (by omega) (by omega)
    refine ⟨y, ?_, Or.inr ?_⟩
    · rw [spec_DrawTold.l0, if_pos e1, if_pos (by omega), if_pos e1, hg, spec_DrawTold.l1]
      have f0 : (cv (X.toS evs[i])).f0 = 5 := h5
      have f3 : (cv (X.toS evs[i])).f3 = 9 := h9
      rw [f0, f3]
      simp only [rd, hb', List.length_cons, List.length_nil]
      simp [wrap64_of, spec_DrawTold.l1]
      rw [wrap64_of _ (by omega) (by omega)]
      simpa using hy
    · rcases hy2 with ⟨hm, rfl⟩ | hy2
      · refine ⟨evs[i], ?_, hb⟩
        rw [List.getLast?_eq_getElem?, show evs.length - 1 = i by omega, List.getElem?_eq_getElem hi]
      · exact hy2

def Told (e : X.Ev) : Prop := e.kind = 5 ∧ e.cmd = 9 ∧ ∃ b, spec_drawBehind.f 60 (strOfNums e.data) 1 = some b
def LastIs (evs : List X.Ev) (x : ByteArray) : Prop := ∃ e y, evs.getLast? = some e ∧ spec_drawBehind.f 60 (strOfNums e.data) 1 = some y ∧ y.toList = x.toList

theorem prog_end (l : List Int) (x3 x4 : ByteArray) (evs : List X.Ev) (i k : Nat) (hi : l.length ≤ i) (hk : 200 ≤ k) (hs : x3.size ≤ 1000) (hn : evs.length ≤ 10) (hr : X.run .gr (X.nb x3) = some (.gr, evs)) (hev : ∀ e ∈ evs, Told e) (hlast : LastIs evs x4) :
    laws_FnDrawProgress.l0 k x3 x4 l (l.length : Int) (i : Int) = some true := by
  obtain ⟨k, rfl⟩ : ∃ k', k = k' + 1 := ⟨k - 1, by omega⟩
  have e1 : ¬ ((i : Int) < (l.length : Int)) := by omega
  obtain ⟨e, y, h1, h2, h3⟩ := hlast
  have hne : evs ≠ [] := fun e => by rw [e] at h1; simp at h1
  have hpos := List.length_pos_iff.2 hne
  obtain ⟨z, hz, hz2⟩ := told_l0 evs (by omega) hev evs.length 0 k ⟨#[]⟩ (by omega) (by omega)
  have hzy : z = y := by
    rcases hz2 with ⟨h, _⟩ | ⟨e', g1, g2⟩
    · omega
    · rw [h1] at g1
      obtain rfl := Option.some.inj g1
      rw [h2] at g2
      exact (Option.some.inj g2).symm
  subst hzy
  have hT : spec_DrawTold.f k ((evs.map X.toS).map cv) [9] = some [z] := by
    unfold spec_DrawTold.f
    simpa using hz
  rw [laws_FnDrawProgress.l0, if_neg e1, conv_f x3 (by omega), Option.bind_some, feed_f x3 (by omega) hr, Option.bind_some, drawEvents_f _ (by simp; omega) k (by simp; omega), Option.bind_some, hT, Option.bind_some]
  simp only [rdOf, List.length_cons, List.length_nil]
  simp [h3, awake]

theorem prog_loop (l : List Int) (hl : l.length ≤ 6) : ∀ (m i k : Nat) (x3 x4 : ByteArray) (evs : List X.Ev), i + m = l.length → 210 + 3 * m ≤ k → X.run .gr (X.nb x3) = some (.gr, evs) → (∀ e ∈ evs, Told e) → evs.length = i → x3.size ≤ 12 * i → (m = 0 → LastIs evs x4) →
    laws_FnDrawProgress.l0 k x3 x4 l (l.length : Int) (i : Int) = some true
  | 0, i, k, x3, x4, evs, h, hk, hr, hev, hn, hs, hlast => prog_end l x3 x4 evs i k (by omega) (by omega) (by omega) (by omega) hr hev (hlast rfl)
  | m + 1, i, k + 2, x3, x4, evs, h, hk, hr, hev, hn, hs, _ => by
    have hi : i < l.length := by omega
    have e1 : (i : Int) < (l.length : Int) := by omega
    rw [laws_FnDrawProgress.l0, if_pos e1, if_pos (by omega), if_pos e1]
    have hrd : rd l (i : Int) = l[i] := by simp [rd, hi]
    rw [hrd]
    generalize l[i] = n
    by_cases h0 : n < 0
    · rw [if_pos h0, laws_FnDrawProgress.j2, if_pos rfl, awake]
      rfl
    · rw [if_neg h0]
      by_cases h1 : n > 100
      · rw [decide_eq_true h1, laws_FnDrawProgress.j2, if_pos rfl, awake]
        rfl
      · rw [decide_eq_false h1, laws_FnDrawProgress.j2, if_neg (by simp)]
        obtain ⟨nn, rfl⟩ := Int.eq_ofNat_of_zero_le (show 0 ≤ n by omega)
        have hj : Int.tmod (i : Int) 3 = ((i % 3 : Nat) : Int) := by rw [Int.tmod_eq_emod_of_nonneg (by omega)]; omega
        have hj3 : i % 3 < 3 := Nat.mod_lt _ (by decide)
        generalize i % 3 = j at hj hj3
        obtain ⟨t, d, e, b, p1, p2, p3, p4, p5, p6, p7, p8, p9⟩ := piece j nn hj3 (by omega)
        have q1 : impl_MakeNumber.f (wrap64 (31 + ((j : Nat) : Int))) (nn : Int) = some t := by
          rw [wrap64_of _ (by omega) (by omega)]
          exact p1
        have q2 : spec_Digits.f k (nn : Int) = some d := lift (spec_Digits.mono _) (by omega) p2
        have hke : rdOf ByteArray.empty [(⟨#[49]⟩ : ByteArray), (⟨#[50]⟩ : ByteArray), (⟨#[52]⟩ : ByteArray)] ((j : Nat) : Int) = kindB j := by
          have : j = 0 ∨ j = 1 ∨ j = 2 := by omega
          rcases this with e | e | e <;> subst e <;> rfl
        have hks : (kindB j).size = 1 := by
          have : j = 0 ∨ j = 1 ∨ j = 2 := by omega
          rcases this with e | e | e <;> subst e <;> rfl
        rw [hj, q1, Option.bind_some, if_pos (by omega), Option.bind_some, if_pos (by omega), if_pos (by simp only [List.length_cons, List.length_nil]; omega), hke, hks, if_pos (by decide), if_pos (by decide), q2, Option.bind_some, if_pos (by omega), wrap64_of _ (by omega) (by omega)]
        have hr2 : X.run .gr (X.nb (x3 ++ t)) = some (.gr, evs ++ [e]) := by
          rw [X.nb_append]
          exact X.run_of hr p3
        refine prog_loop l hl m (i + 1) k (x3 ++ t) _ (evs ++ [e]) (by omega) (by omega) hr2 (fun e' he => ?_) (by simp [hn]) (by rw [ByteArray.size_append]; omega) (fun _ => ⟨e, b, by simp, p8, p9⟩)
        rcases List.mem_append.1 he with h | h
        · exact hev e' h
        · rw [List.mem_singleton.1 h]
          exact ⟨p4, p5, b, p8⟩

theorem FnDrawProgress_true (l : List Int) (_ : l.length ≤ maxLen) (_ : ∀ x ∈ l, (Lit.int .i64 x).wf = true) : laws_FnDrawProgress.f 1000 l = some true := by
  unfold laws_FnDrawProgress.f
  by_cases hl : (l.length : Int) > 2147483647
  · rw [if_pos hl]
  · rw [if_neg hl]
    by_cases h1 : (l.length : Int) < 1
    · rw [if_pos h1, laws_FnDrawProgress.j0, if_pos rfl, awake]
      rfl
    · rw [if_neg h1]
      by_cases h6 : (l.length : Int) > 6
      · rw [decide_eq_true h6, laws_FnDrawProgress.j0, if_pos rfl, awake]
        rfl
      · rw [decide_eq_false h6, laws_FnDrawProgress.j0, if_neg (by simp)]
        exact prog_loop l (by omega) l.length 0 999 ⟨#[]⟩ ⟨#[]⟩ [] (by omega) (by omega) (by rfl) (by simp) rfl (by decide) (fun h => by omega)
end Go.Proofs.YtgcbnegdchladaaDoor.Y
