/- Texts of this claim, joined: XLawModes XLawModes2 Y72. Of each, what the claim uses. -/
import Derived.Test.YtjkjnhcnmjknmaaGreatDoorKModesb
section
namespace Go.Proofs.YtjkjnhcnmjknmaaGreatDoor.Y
open Go.RowKit Go.Proofs.YtjkjnhcnmjknmaaGreatDoorW.PrintWords Go.Proofs.YtjkjnhcnmjknmaaGreatDoorW.PrintLast Go.Proofs.YtjkjnhcnmjknmaaGreatDoorW.PrintMore
set_option linter.unusedSimpArgs false
abbrev SM := S45
abbrev St := S43
def toM (p : Mo2) : SM := ⟨p.1, p.2⟩
/-- One mode set, or reset. -/
def mOne (r : Bool) (v : List Mo2) (p : Mo2) : List Mo2 := if r then v.filter (fun x => x != p) else v.filter (fun x => x != p) ++ [p]
def mFold (r : Bool) (ps : List Mo2) (v : List Mo2) : List Mo2 := ps.foldl (mOne r) v
def MemAs (r : Bool) (ps v u : List Mo2) : Prop := u.Nodup ∧ ∀ x, x ∈ u ↔ if r = true then (x ∈ v ∧ ¬ x ∈ ps) else (x ∈ v ∨ x ∈ ps)
theorem mOne_mem (r : Bool) (v : List Mo2) (p x : Mo2) : x ∈ mOne r v p ↔ if r = true then (x ∈ v ∧ x ≠ p) else (x ∈ v ∨ x = p) := by
  unfold mOne
  cases r
  · simp only [Bool.false_eq_true, if_false, List.mem_append, List.mem_filter, List.mem_singleton, bne_iff_ne, ne_eq]
    by_cases h : x = p <;> simp [h]
  · simp only [if_true, List.mem_filter, bne_iff_ne, ne_eq]
theorem mOne_nodup (r : Bool) (v : List Mo2) (p : Mo2) (h : v.Nodup) : (mOne r v p).Nodup := by
  unfold mOne
  have h1 : (v.filter (fun x => x != p)).Nodup := h.filter _
  cases r
  · simp only [Bool.false_eq_true, if_false]
    rw [List.nodup_append]
    refine ⟨h1, by simp, fun a ha b hb => ?_⟩
    rw [List.mem_singleton.1 hb]
    have := (List.mem_filter.1 ha).2
    simpa using this
  · simpa using h1
theorem mFold_as (r : Bool) : ∀ (ps v : List Mo2), v.Nodup → MemAs r ps v (mFold r ps v)
  | [], v, h => ⟨h, fun x => by cases r <;> simp [mFold]⟩
  | p :: ps, v, h => by
    obtain ⟨i1, i2⟩ := mFold_as r ps (mOne r v p) (mOne_nodup r v p h)
    refine ⟨i1, fun x => ?_⟩
    have := i2 x
    show x ∈ mFold r ps (mOne r v p) ↔ _
    rw [this, mOne_mem]
    cases r
    · simp only [Bool.false_eq_true, if_false, List.mem_cons]
      exact ⟨fun h => by rcases h with (h | h) | h; exact Or.inl h; exact Or.inr (Or.inl h); exact Or.inr (Or.inr h), fun h => by rcases h with h | h | h; exact Or.inl (Or.inl h); exact Or.inl (Or.inr h); exact Or.inr h⟩
    · simp only [if_true, List.mem_cons, not_or, ne_eq]
      exact ⟨fun h => ⟨h.1.1, h.1.2, h.2⟩, fun h => ⟨⟨h.1, h.2.1⟩, h.2.2⟩⟩
theorem mFold_len (r : Bool) : ∀ (ps v : List Mo2), (mFold r ps v).length ≤ v.length + ps.length
  | [], v => by simp [mFold]
  | p :: ps, v => by
    have h1 : (mOne r v p).length ≤ v.length + 1 := by
      unfold mOne
      have := List.length_filter_le (fun x => x != p) v
      split
      · omega
      · rw [List.length_append, List.length_singleton]; omega
    have := mFold_len r ps (mOne r v p)
    show (mFold r ps (mOne r v p)).length ≤ _
    rw [List.length_cons]
    omega
/-- A mode struck out. -/
theorem rdM_at (l : List SM) (i : Nat) (h : i < l.length) : rd_T45 l (i : Int) = l[i] := by
  simp [rd_T45, h]
theorem toM_test (x : Mo2) (p : Mo2) : ((!((toM x).f0 == p.1) || (!((toM x).f1 == p.2))) = true) ↔ (x != p) = true := by
  obtain ⟨a, b⟩ := x
  obtain ⟨c, d⟩ := p
  simp only [toM, bne_iff_ne, ne_eq, Prod.mk.injEq, Bool.or_eq_true, Bool.not_eq_true', beq_eq_false_iff_ne]
  by_cases h : a = c <;> simp [h]
theorem without_l0 (v : List Mo2) (p : Mo2) (hv : v.length ≤ 100000000000) : ∀ (m i k : Nat), i + m = v.length → m < k →
    spec_DrawModeWithout.l0 k (((v.take i).filter (fun x => x != p)).map toM) (v.map toM) ((v.map toM).length : Int) (i : Int) p.1 p.2 = some ((v.filter (fun x => x != p)).map toM)
  | 0, i, k + 1, h, hk => by
    rw [spec_DrawModeWithout.l0, if_neg (by rw [List.length_map]; omega), List.take_of_length_le (by omega)]
  | m + 1, i, k + 1, h, hk => by
    have hi : i < v.length := by omega
    have hg : rd_T45 (v.map toM) (i : Int) = toM v[i] := by rw [rdM_at _ i (by simpa using hi)]; simp
    have hl : (((v.take i).filter (fun x => x != p)).map toM).length ≤ 100000000000 := by
      rw [List.length_map]
      have := List.length_filter_le (fun x => x != p) (v.take i)
      rw [List.length_take] at this
      omega
    have ih := without_l0 v p hv m (i + 1) k (by omega) (by omega)
    rw [List.take_succ_eq_append_getElem hi, List.filter_append, List.map_append] at ih
    rw [spec_DrawModeWithout.l0, if_pos (by rw [List.length_map]; omega), if_pos (by omega), if_pos (by rw [List.length_map]; omega), hg, wup i (by omega)]
    by_cases hb : (v[i] != p) = true
    · rw [if_pos ((toM_test _ _).2 hb), if_pos (by omega)]
      simp only [List.filter_cons, List.filter_nil, hb, if_true, List.map_cons, List.map_nil] at ih
      exact ih
    · rw [if_neg (fun h => hb ((toM_test _ _).1 h))]
      simp only [List.filter_cons, List.filter_nil, hb, Bool.false_eq_true, if_false, List.map_nil, List.append_nil] at ih
      exact ih
theorem without_f (v : List Mo2) (p : Mo2) (hv : v.length ≤ 100000000000) (k : Nat) (hk : v.length < k) : spec_DrawModeWithout.f k (v.map toM) p.1 p.2 = some ((v.filter (fun x => x != p)).map toM) := by
  unfold spec_DrawModeWithout.f
  exact without_l0 v p hv v.length 0 k (by omega) hk
/-- Two rows with the same modes, none twice. -/
theorem filter_one (u : List Mo2) (p : Mo2) (hu : u.Nodup) (hp : p ∈ u) : (u.filter (fun x => x != p)).length + 1 = u.length := by
  induction u with
  | nil => simp at hp
  | cons a u ih =>
    rw [List.nodup_cons] at hu
    by_cases h : a = p
    · subst h
      have : u.filter (fun x => x != a) = u := by
        rw [List.filter_eq_self]
        intro x hx
        rw [bne_iff_ne]
        exact fun e => hu.1 (e ▸ hx)
      rw [List.filter_cons, if_neg (by simp), this, List.length_cons]
    · have hp2 : p ∈ u := by
        rcases List.mem_cons.1 hp with e | e
        · exact absurd e.symm h
        · exact e
      rw [List.filter_cons, if_pos (by simpa using h), List.length_cons, List.length_cons]
      have := ih hu.2 hp2
      omega
theorem same_len : ∀ (u w : List Mo2), u.Nodup → w.Nodup → (∀ x, x ∈ u ↔ x ∈ w) → u.length = w.length
  | [], w, _, _, h => by
    cases w with
    | nil => rfl
    | cons a w => exact absurd ((h a).2 (by simp)) (by simp)
  | a :: u, w, hu, hw, h => by
    rw [List.nodup_cons] at hu
    have h1 := filter_one w a hw ((h a).1 (by simp))
    have h2 := same_len u (w.filter (fun x => x != a)) hu.2 (hw.filter _) (fun x => by
      rw [List.mem_filter, bne_iff_ne]
      refine ⟨fun hx => ⟨(h x).1 (List.mem_cons_of_mem _ hx), fun e => hu.1 (e ▸ hx)⟩, fun hx => ?_⟩
      rcases List.mem_cons.1 ((h x).2 hx.1) with e | e
      · exact absurd e hx.2
      · exact e)
    rw [List.length_cons]
    omega
theorem sameM_l0 (u w : List Mo2) (hw : w.Nodup) (h : ∀ x, x ∈ u ↔ x ∈ w) (hlu : u.length ≤ 1000000) (hlw : w.length ≤ 1000000) : ∀ (m i k : Nat), i + m = u.length → w.length + 2 + m ≤ k →
    spec_SameDrawModes.l0 k (w.map toM) (u.map toM) ((u.map toM).length : Int) (i : Int) = some true
  | 0, i, k + 1, hi, hk => by rw [spec_SameDrawModes.l0, if_neg (by rw [List.length_map]; omega)]
  | m + 1, i, k + 1, hi, hk => by
    have hi2 : i < u.length := by omega
    have hg : rd_T45 (u.map toM) (i : Int) = toM u[i] := by rw [rdM_at _ i (by simpa using hi2)]; simp
    have h1 := filter_one w u[i] hw ((h _).1 (List.getElem_mem hi2))
    have h2 := without_f w u[i] (by omega) k (by omega)
    have e0 : (toM u[i]).f0 = u[i].1 := rfl
    have e1 : (toM u[i]).f1 = u[i].2 := rfl
    rw [spec_SameDrawModes.l0, if_pos (by rw [List.length_map]; omega), if_pos (by omega), if_pos (by rw [List.length_map]; omega), hg, e0, e1, h2, Option.bind_some, List.length_map, List.length_map, wrap64_of _ (by omega) (by omega), if_pos (by omega), wup i (by omega)]
    exact sameM_l0 u w hw h hlu hlw m (i + 1) k (by omega) (by omega)
theorem sameM_f (u w : List Mo2) (hu : u.Nodup) (hw : w.Nodup) (h : ∀ x, x ∈ u ↔ x ∈ w) (hlu : u.length ≤ 1000000) (hlw : w.length ≤ 1000000) (k : Nat) (hk : w.length + 2 + u.length ≤ k) : spec_SameDrawModes.f k (u.map toM) (w.map toM) = some true := by
  unfold spec_SameDrawModes.f
  rw [if_pos (by rw [List.length_map, List.length_map, same_len u w hu hw h])]
  exact sameM_l0 u w hw h hlu hlw u.length 0 k (by omega) (by omega)
/-- A group of modes of one kind, as it is told. -/
structure Grp where
  d : Bool
  r : Bool
  ns : List Int
def finN (r : Bool) : Nat := if r then 108 else 104
def cmdN (d r : Bool) : Int := (if d then 16128 else 0) + (finN r : Int)
def evG (g : Grp) : X.Ev := X.evCsi (cmdN g.d g.r) g.ns
def gMs (g : Grp) : List Mo2 := g.ns.map fun n => (g.d, n)
def gFold (v : List Mo2) (g : Grp) : List Mo2 := mFold g.r (gMs g) v
theorem bits_fin (d r : Bool) : Go.bits .and .i64 (cmdN d r) 127 = (finN r : Int) := by cases d <;> cases r <;> kernel_rfl
theorem bits_pre (d r : Bool) : Go.bits .and .i64 (cmdN d r / 256) 255 = if d then 63 else 0 := by cases d <;> cases r <;> kernel_rfl
theorem modes_l1 (g : Grp) (hg : ∀ n ∈ g.ns, 1 ≤ n ∧ n ≤ 9999) (hn : g.ns.length ≤ 1000) (E : List SEv) (x11 : Int) (j : Nat) (hj : j < 1000000) (f1 f2 : Int) (f5 : List Int) (f0 f3 : Int) : ∀ (m i k : Nat) (v : List Mo2), i + m = g.ns.length → v.length + 2 * m ≤ 100000 → (v.length + m + m + 1) < k →
    spec_DrawModes.l1 k (v.map toM) (finN g.r : Int) (if g.d then 63 else 0) E x11 (j : Int) (g.ns.length : Int) (i : Int) f0 f1 f2 f3 g.ns f5 = spec_DrawModes.l0 (k - m - 1) ((mFold g.r ((g.ns.drop i).map fun n => (g.d, n)) v).map toM) E x11 ((j + 1 : Nat) : Int)
  | 0, i, k, v, h, hv, hk => by
    obtain ⟨k, rfl⟩ : ∃ k', k = k' + 1 := ⟨k - 1, by omega⟩
    rw [spec_DrawModes.l1, if_neg (by omega), wup j (by omega), List.drop_of_length_le (by omega)]
    rfl
  | m + 1, i, k, v, h, hv, hk => by
    obtain ⟨k, rfl⟩ : ∃ k', k = k' + 1 := ⟨k - 1, by omega⟩
    have hi : i < g.ns.length := by omega
    obtain ⟨n1, n2⟩ := hg _ (List.getElem_mem hi)
    have hp := param_f g.ns i 0 hi (by omega) (by omega)
    have hd : ((if g.d then (63 : Int) else 0) == 63) = g.d := by cases g.d <;> rfl
    have hw := without_f v (g.d, g.ns[i]) (by omega) k (by omega)
    obtain ⟨u, hu⟩ : ∃ u, v.filter (fun x => x != (g.d, g.ns[i])) = u := ⟨_, rfl⟩
    have hfl : u.length ≤ v.length := by rw [← hu]; exact List.length_filter_le _ _
    rw [hu] at hw
    have hk2 : k + 1 - (m + 1) - 1 = k - m - 1 := by omega
    rw [spec_DrawModes.l1, if_pos (by omega), hp, Option.bind_some, hd, hw, Option.bind_some, wup i (by omega), hk2, List.drop_eq_getElem_cons hi, List.map_cons]
    cases hr : g.r
    · have ih := modes_l1 g hg hn E x11 j hj f1 f2 f5 f0 f3 m (i + 1) k (u ++ [(g.d, g.ns[i])]) (by omega) (by rw [List.length_append, List.length_singleton]; omega) (by rw [List.length_append, List.length_singleton]; omega)
      rw [hr] at ih
      have e : ((finN false : Nat) : Int) = 104 := rfl
      have e2 : mFold false ((g.d, g.ns[i]) :: (g.ns.drop (i + 1)).map (fun n => (g.d, n))) v = mFold false ((g.ns.drop (i + 1)).map (fun n => (g.d, n))) (u ++ [(g.d, g.ns[i])]) := by
        show mFold false _ (mOne false v (g.d, g.ns[i])) = _
        unfold mOne
        rw [if_neg (by simp), hu]
      rw [e, if_pos rfl, if_pos (by rw [List.length_map]; omega), e2]
      rw [e, List.map_append, List.map_cons, List.map_nil] at ih
      exact ih
    · have ih := modes_l1 g hg hn E x11 j hj f1 f2 f5 f0 f3 m (i + 1) k u (by omega) (by omega) (by omega)
      rw [hr] at ih
      have e : ((finN true : Nat) : Int) = 108 := rfl
      have e2 : mFold true ((g.d, g.ns[i]) :: (g.ns.drop (i + 1)).map (fun n => (g.d, n))) v = mFold true ((g.ns.drop (i + 1)).map (fun n => (g.d, n))) u := by
        show mFold true _ (mOne true v (g.d, g.ns[i])) = _
        unfold mOne
        rw [if_pos rfl, hu]
      rw [e, if_neg (by omega), e2]
      rw [e] at ih
      exact ih
theorem modes_l0 (E : List SEv) (hE : E.length ≤ 1000) : ∀ (gs : List Grp) (j k : Nat) (v : List Mo2), (∀ g ∈ gs, (∀ n ∈ g.ns, 1 ≤ n ∧ n ≤ 9999) ∧ g.ns.length ≤ 4) → E.drop j = gs.map (fun g => cv (X.toS (evG g))) → v.length + 8 * gs.length ≤ 10000 → 20000 + 20 * gs.length ≤ k →
    spec_DrawModes.l0 k (v.map toM) E (E.length : Int) (j : Int) = some ((gs.foldl gFold v).map toM)
  | [], j, k, v, _, hd, hv, hk => by
    obtain ⟨k, rfl⟩ : ∃ k', k = k' + 1 := ⟨k - 1, by omega⟩
    have hi : E.length ≤ j := by
      rcases Nat.lt_or_ge j E.length with h | h
      · rw [List.drop_eq_getElem_cons h] at hd
        cases hd
      · exact h
    rw [spec_DrawModes.l0, if_neg (by omega)]
    rfl
  | g :: gs, j, k, v, hg, hd, hv, hk => by
    obtain ⟨k, rfl⟩ : ∃ k', k = k' + 2 := ⟨k - 2, by omega⟩
    obtain ⟨h1, h2, h3⟩ := rdU_of_drop hd
    obtain ⟨g1, g2⟩ := hg g (by simp)
    rw [List.length_cons] at hv hk
    have f0 : (cv (X.toS (evG g))).f0 = 2 := rfl
    have f3 : (cv (X.toS (evG g))).f3 = cmdN g.d g.r := rfl
    have f4 : (cv (X.toS (evG g))).f4 = g.ns := rfl
    have hl1 := modes_l1 g g1 (by omega) E (E.length : Int) j (by omega) (cv (X.toS (evG g))).f1 (cv (X.toS (evG g))).f2 (cv (X.toS (evG g))).f5 2 (cmdN g.d g.r) g.ns.length 0 k v (by omega) (by omega) (by omega)
    rw [List.drop_zero] at hl1
    have hfl := mFold_len g.r (gMs g) v
    have hgl : (gMs g).length = g.ns.length := by simp [gMs]
    have ih := modes_l0 E hE gs (j + 1) (k - g.ns.length - 1) (gFold v g) (fun x hx => hg x (List.mem_cons_of_mem _ hx)) h3 (by show (mFold g.r (gMs g) v).length + _ ≤ _; omega) (by omega)
    have go : spec_DrawModes.j1 (k + 1) (v.map toM) (finN g.r : Int) (if g.d then 63 else 0) E (E.length : Int) (j : Int) false 2 (cv (X.toS (evG g))).f1 (cv (X.toS (evG g))).f2 (cmdN g.d g.r) g.ns (cv (X.toS (evG g))).f5 = some (((g :: gs).foldl gFold v).map toM) := by
      rw [spec_DrawModes.j1, if_neg (by simp)]
      exact hl1.trans ih
    rw [spec_DrawModes.l0, if_pos (by omega), if_pos (by omega), if_pos (by omega), h2, f0, f3, f4, bits_fin, bits_pre, if_pos rfl]
    have p63 : ∀ d : Bool, ((if d then (63 : Int) else 0) = 0 → d = false) ∧ ((if d then (63 : Int) else 0) != 63) = !d := fun d => by cases d <;> decide
    by_cases hr : g.r = true
    · have e : ((finN g.r : Nat) : Int) = 108 := by rw [hr]; rfl
      rw [if_neg (by omega), if_pos e]
      by_cases hp : (if g.d then (63 : Int) else 0) = 0
      · rw [if_pos hp]; exact go
      · rw [if_neg hp, (p63 g.d).2]
        have hd1 : g.d = true := by
          cases hd : g.d
          · rw [hd] at hp; exact absurd rfl hp
          · rfl
        have e2 : (!g.d) = false := by rw [hd1]; rfl
        rw [e2]
        exact go
    · have e : ((finN g.r : Nat) : Int) = 104 := by rw [Bool.eq_false_iff.2 hr]; rfl
      rw [if_pos e]
      by_cases hp : (if g.d then (63 : Int) else 0) = 0
      · rw [if_pos hp]; exact go
      · rw [if_neg hp, (p63 g.d).2]
        have hd1 : g.d = true := by
          cases hd : g.d
          · rw [hd] at hp; exact absurd rfl hp
          · rfl
        have e2 : (!g.d) = false := by rw [hd1]; rfl
        rw [e2]
        exact go
/-- Numbers, with ';' between them. -/
def joinN (ns : List Nat) : List Nat :=
  match ns with
  | [] => []
  | n :: r => X.digs n ++ r.flatMap fun m => 59 :: X.digs m
theorem run_join : ∀ (r : List Nat) (n k : Nat) (c : Int) (ps : List Int) (fin : Nat), k ≠ 2 → (fin = 104 ∨ fin = 108) → n ≤ 9999 → (∀ m ∈ r, m ≤ 9999) → ps.length + r.length ≤ 20 →
    X.run (.csi k c ps X.Miss) (joinN (n :: r) ++ [fin]) = some (.gr, [X.evCsi (c + fin) (ps ++ ((n :: r).map fun m : Nat => (m : Int)))])
  | [], n, k, c, ps, fin, hk, hf, hn, _, hl => by
    have hm : ¬ ((n : Int) = X.Miss) := fun h => by unfold X.Miss at h; omega
    have h1 := X.run_digs k hk c ps n (by omega)
    have h2 : X.run (.csi 3 c ps (n : Int)) [fin] = some (.gr, [X.evCsi (c + fin) (ps ++ [(n : Int)])]) := by
      have hb : 64 ≤ fin ∧ fin ≤ 126 := by omega
      simp [X.run, X.step, hb, X.closed, hm]
    have := X.run_of h1 h2
    simpa [joinN] using this
  | m :: r, n, k, c, ps, fin, hk, hf, hn, hr, hl => by
    have hm : ¬ ((n : Int) = X.Miss) := fun h => by unfold X.Miss at h; omega
    rw [List.length_cons] at hl
    have h1 := X.run_digs k hk c ps n (by omega)
    have h2 : X.run (.csi 3 c ps (n : Int)) [59] = some (.csi 3 c (ps ++ [(n : Int)]) X.Miss, []) := by
      have hb : ps.length < 29 := by omega
      simp [X.run, X.step, hb]
    have h3 := run_join r m 3 c (ps ++ [(n : Int)]) fin (by decide) hf (hr m (by simp)) (fun x hx => hr x (List.mem_cons_of_mem _ hx)) (by rw [List.length_append, List.length_singleton]; omega)
    have h4 := X.run_of (X.run_of h1 h2) h3
    have e : joinN (n :: m :: r) ++ [fin] = X.digs n ++ [59] ++ (joinN (m :: r) ++ [fin]) := by simp [joinN]
    rw [e, h4]
    simp
theorem group_run (d r : Bool) (n : Nat) (ns : List Nat) (hn : n ≤ 9999) (hr : ∀ m ∈ ns, m ≤ 9999) (hl : ns.length ≤ 20) :
    X.run .gr ([27, 91] ++ (if d then [63] else []) ++ joinN (n :: ns) ++ [finN r]) = some (.gr, [X.evCsi (cmdN d r) ((n :: ns).map fun m : Nat => (m : Int))]) := by
  have hf : finN r = 104 ∨ finN r = 108 := by cases r <;> simp [finN]
  cases d
  · have h1 : X.run .gr [27, 91] = some (.csi 1 0 [] X.Miss, []) := by rfl
    have h2 := X.run_of h1 (run_join ns n 1 0 [] (finN r) (by decide) hf hn hr (by simpa using hl))
    simpa [cmdN] using h2
  · have h1 : X.run .gr [27, 91, 63] = some (.csi 3 16128 [] X.Miss, []) := by rfl
    have h2 := X.run_of h1 (run_join ns n 3 16128 [] (finN r) (by decide) hf hn hr (by simpa using hl))
    simpa [cmdN] using h2
/-- Texts joined. -/
theorem join_l0 (l : List ByteArray) (hl : l.length ≤ 1000) (hz : ∀ t ∈ l, t.size ≤ 1000) : ∀ (m i k : Nat) (x5 : ByteArray), i + m = l.length → 1 ≤ i → m < k → x5.size ≤ 2000 * i →
    ∃ t, Q.xansi_zzJoin.l0 k (⟨#[59]⟩ : ByteArray) x5 l (l.length : Int) (i : Int) = some t ∧ X.nb t = X.nb x5 ++ (l.drop i).flatMap (fun u => 59 :: X.nb u) ∧ t.size ≤ 2000 * l.length
  | 0, i, k + 1, x5, h, hi, hk, hs => ⟨x5, by rw [Q.xansi_zzJoin.l0, if_neg (by omega)], by rw [List.drop_of_length_le (by omega)]; simp, by omega⟩
  | m + 1, i, k + 1, x5, h, hi, hk, hs => by
    have hi2 : i < l.length := by omega
    have hrd : rdOf ByteArray.empty l (i : Int) = l[i] := by simp [rdOf, hi2]
    have hzz := hz _ (List.getElem_mem hi2)
    have e1 : (⟨#[59]⟩ : ByteArray).size = 1 := rfl
    obtain ⟨t, q1, q2, q3⟩ := join_l0 l hl hz m (i + 1) k ((x5 ++ (⟨#[59]⟩ : ByteArray)) ++ l[i]) (by omega) (by omega) (by omega) (by rw [ByteArray.size_append, ByteArray.size_append]; omega)
    refine ⟨t, ?_, ?_, q3⟩
    · rw [Q.xansi_zzJoin.l0, if_pos (by omega), if_pos (by omega), if_pos (by omega), if_pos (by omega), hrd, if_pos (by omega), if_pos (by omega), wup i (by omega)]
      exact q1
    · rw [q2, X.nb_append, X.nb_append, List.drop_eq_getElem_cons hi2]
      have e2 : X.nb (⟨#[59]⟩ : ByteArray) = [59] := rfl
      rw [e2, List.flatMap_cons]
      simp only [List.append_assoc, List.cons_append, List.nil_append]
theorem joinB_nil : joinB [] = some ⟨#[]⟩ := by
  unfold joinB Q.xansi_zzJoin.f
  rw [Q.xansi_zzJoin.l0, if_neg (by simp)]
theorem joinB_cons (a : ByteArray) (r : List ByteArray) (hl : r.length ≤ 900) (hz : ∀ t ∈ a :: r, t.size ≤ 1000) : ∃ t, joinB (a :: r) = some t ∧ X.nb t = X.nb a ++ r.flatMap (fun u => 59 :: X.nb u) ∧ t.size ≤ 2000 * (r.length + 1) := by
  have ha := hz a (by simp)
  have e0 : (⟨#[]⟩ : ByteArray).size = 0 := rfl
  obtain ⟨t, q1, q2, q3⟩ := join_l0 (a :: r) (by rw [List.length_cons]; omega) hz r.length 1 1999 ((⟨#[]⟩ : ByteArray) ++ a) (by rw [List.length_cons]; omega) (by omega) (by omega) (by rw [ByteArray.size_append]; omega)
  refine ⟨t, ?_, ?_, by simpa using q3⟩
  · unfold joinB Q.xansi_zzJoin.f
    have hrd : rdOf ByteArray.empty (a :: r) (0 : Int) = a := rfl
    have w1 : wrap64 (0 + 1) = ((1 : Nat) : Int) := wup 0 (by omega)
    rw [Q.xansi_zzJoin.l0, if_pos (by rw [List.length_cons]; omega), if_pos (by omega), if_pos (by rw [List.length_cons]; omega), if_neg (by omega), hrd, if_pos (by omega), w1]
    exact q1
  · rw [q2, X.nb_append]
    have e2 : X.nb (⟨#[]⟩ : ByteArray) = [] := rfl
    rw [e2]
    simp
def InR (m : Mo2) : Prop := 1 ≤ m.2 ∧ m.2 ≤ 9999
theorem numOk (m : Mo2) (h : InR m) : NumOk m ∧ X.nb (tx m) = X.digs m.2.toNat ∧ (tx m).size ≤ 4 := by
  obtain ⟨h0, h1⟩ := h
  have e : strconv_Itoa.f m.2 = some (tx m) := by
    unfold strconv_Itoa.f tx
    rw [if_pos (by omega)]
  obtain ⟨t, q1, q2, q3⟩ := X.itoa_text m.2.toNat (by omega)
  rw [Int.toNat_of_nonneg (by omega), e] at q1
  obtain rfl := Option.some.inj q1
  have := X.digs_pow 3 m.2.toNat (by omega)
  exact ⟨⟨e, by omega⟩, q2, by omega⟩
theorem joinB_of (q : List Mo2) (hq : ∀ m ∈ q, InR m) (hl : q.length ≤ 4) : ∃ j, joinB (q.map tx) = some j ∧ X.nb j = joinN (q.map fun m => m.2.toNat) ∧ j.size ≤ 10000 := by
  cases q with
  | nil => exact ⟨⟨#[]⟩, joinB_nil, rfl, by decide⟩
  | cons a r =>
    rw [List.length_cons] at hl
    obtain ⟨t, q1, q2, q3⟩ := joinB_cons (tx a) (r.map tx) (by rw [List.length_map]; omega) (fun t ht => by
      have ht2 : t ∈ (a :: r).map tx := ht
      obtain ⟨m, hm, rfl⟩ := List.mem_map.1 ht2
      have := (numOk m (hq m hm)).2.2
      omega)
    refine ⟨t, q1, ?_, by rw [List.length_map] at q3; omega⟩
    rw [q2, (numOk a (hq a (by simp))).2.1]
    show _ = X.digs a.2.toNat ++ (r.map fun m => m.2.toNat).flatMap fun m => 59 :: X.digs m
    congr 1
    have : ∀ r : List Mo2, (∀ m ∈ r, InR m) → (r.map tx).flatMap (fun u => 59 :: X.nb u) = (r.map fun m => m.2.toNat).flatMap fun m => 59 :: X.digs m := fun r => by
      induction r with
      | nil => intro _; rfl
      | cons b r ih =>
        intro hr
        rw [List.map_cons, List.map_cons, List.flatMap_cons, List.flatMap_cons, ih (fun m hm => hr m (List.mem_cons_of_mem _ hm)), (numOk b (hr b (by simp))).2.1]
    exact this r (fun m hm => hq m (List.mem_cons_of_mem _ hm))
def offA (ms : List Mo2) : List Mo2 := ms.filter (fun m => !m.1)
def offD (ms : List Mo2) : List Mo2 := ms.filter (fun m => m.1)
def grp1 (d r : Bool) (q : List Mo2) : List Grp := if q = [] then [] else [⟨d, r, q.map fun m => m.2⟩]
def grps (r : Bool) (ms : List Mo2) : List Grp := grp1 false r (offA ms) ++ grp1 true r (offD ms)
def grpB (d r : Bool) (q : List Mo2) : List Nat := if q = [] then [] else [27, 91] ++ (if d then [63] else []) ++ joinN (q.map fun m => m.2.toNat) ++ [finN r]
theorem grp_run (d r : Bool) (q : List Mo2) (hq : ∀ m ∈ q, InR m) (hl : q.length ≤ 4) : X.run .gr (grpB d r q) = some (.gr, (grp1 d r q).map evG) := by
  unfold grpB grp1
  cases q with
  | nil => rfl
  | cons a q =>
    have hne : ¬ (a :: q = []) := by simp
    rw [if_neg hne, if_neg hne]
    rw [List.length_cons] at hl
    have h := group_run d r a.2.toNat (q.map fun m => m.2.toNat) (by have := (hq a (by simp)).2; omega) (fun m hm => by
      obtain ⟨x, hx, rfl⟩ := List.mem_map.1 hm
      have := (hq x (List.mem_cons_of_mem _ hx)).2
      omega) (by rw [List.length_map]; omega)
    rw [List.map_cons, h]
    have e : ((a.2.toNat :: q.map fun m => m.2.toNat).map fun m : Nat => (m : Int)) = (a :: q).map fun m => m.2 := by
      rw [← List.map_cons (f := fun m : Mo2 => m.2.toNat), List.map_map]
      apply List.map_congr_left
      intro m hm
      have := (hq m hm).1
      show ((m.2.toNat : Nat) : Int) = m.2
      omega
    rw [e]
    rfl
theorem step_text (r : Bool) (ms : List Mo2) (h1 : 1 ≤ ms.length) (h4 : ms.length ≤ 4) (hq : ∀ m ∈ ms, InR m) : ∃ t, modesT r ms = some t ∧ X.run .gr (X.nb t) = some (.gr, (grps r ms).map evG) ∧ t.size ≤ 100000 := by
  have hA : ∀ m ∈ offA ms, InR m := fun m hm => hq m (List.mem_filter.1 hm).1
  have hD : ∀ m ∈ offD ms, InR m := fun m hm => hq m (List.mem_filter.1 hm).1
  have lA : (offA ms).length ≤ 4 := Nat.le_trans (List.length_filter_le _ _) h4
  have lD : (offD ms).length ≤ 4 := Nat.le_trans (List.length_filter_le _ _) h4
  have hrun := X.run_of (grp_run false r _ hA lA) (grp_run true r _ hD lD)
  rw [← List.map_append] at hrun
  have fb : X.nb (cmdB r) = [finN r] := by cases r <;> rfl
  have fs : (cmdB r).size = 1 := by cases r <;> rfl
  have s1 : (⟨#[27, 91]⟩ : ByteArray).size = 2 := rfl
  have s2 : (⟨#[63]⟩ : ByteArray).size = 1 := rfl
  have s0 : (⟨#[]⟩ : ByteArray).size = 0 := rfl
  have n1 : X.nb (⟨#[27, 91]⟩ : ByteArray) = [27, 91] := rfl
  have n2 : X.nb (⟨#[63]⟩ : ByteArray) = [63] := rfl
  have n0 : X.nb (⟨#[]⟩ : ByteArray) = [] := rfl
  match ms, h1 with
  | [m], _ =>
    obtain ⟨k1, k2, k3⟩ := numOk m (hq m (by simp))
    refine ⟨soloT r m, rfl, ?_, ?_⟩
    · obtain ⟨d, n⟩ := m
      cases d
      · have e : X.nb (soloT r (false, n)) = grpB false r (offA [(false, n)]) ++ grpB true r (offD [(false, n)]) := by
          show X.nb (((⟨#[27, 91]⟩ : ByteArray) ++ tx (false, n)) ++ cmdB r) = _
          rw [X.nb_append, X.nb_append, k2, fb, n1]
          simp [grpB, offA, offD, joinN]
        rw [e]
        exact hrun
      · have e : X.nb (soloT r (true, n)) = grpB false r (offA [(true, n)]) ++ grpB true r (offD [(true, n)]) := by
          show X.nb ((((⟨#[27, 91]⟩ : ByteArray) ++ (⟨#[63]⟩ : ByteArray)) ++ tx (true, n)) ++ cmdB r) = _
          rw [X.nb_append, X.nb_append, X.nb_append, k2, fb, n1, n2]
          simp [grpB, offA, offD, joinN]
        rw [e]
        exact hrun
    · unfold soloT
      split <;> simp only [ByteArray.size_append] <;> omega
  | a :: b :: q, _ =>
    obtain ⟨ja, a1, a2, a3⟩ := joinB_of _ hA lA
    obtain ⟨jd, d1, d2, d3⟩ := joinB_of _ hD lD
    refine ⟨manyT r (!(ansis (a :: b :: q)).isEmpty) (!(decs (a :: b :: q)).isEmpty) ja jd, ?_, ?_, ?_⟩
    · show (joinB (ansis (a :: b :: q))).bind _ = _
      have e1 : joinB (ansis (a :: b :: q)) = some ja := a1
      have e2 : joinB (decs (a :: b :: q)) = some jd := d1
      rw [e1, Option.bind_some, e2, Option.bind_some, if_pos ⟨by omega, by omega⟩]
    · have e : X.nb (manyT r (!(ansis (a :: b :: q)).isEmpty) (!(decs (a :: b :: q)).isEmpty) ja jd) = grpB false r (offA (a :: b :: q)) ++ grpB true r (offD (a :: b :: q)) := by
        have ia : (ansis (a :: b :: q)).isEmpty = decide (offA (a :: b :: q) = []) := by
          show ((offA (a :: b :: q)).map tx).isEmpty = _
          cases offA (a :: b :: q) <;> rfl
        have id : (decs (a :: b :: q)).isEmpty = decide (offD (a :: b :: q) = []) := by
          show ((offD (a :: b :: q)).map tx).isEmpty = _
          cases offD (a :: b :: q) <;> rfl
        rw [ia, id]
        unfold manyT grpB
        by_cases ea : offA (a :: b :: q) = []
        · by_cases ed : offD (a :: b :: q) = []
          · simp [ea, ed, n0]
          · simp only [ea, ed, decide_true, decide_false, Bool.not_true, Bool.not_false, if_true, if_false, Bool.false_eq_true]
            rw [X.nb_append, X.nb_append, X.nb_append, X.nb_append, d2, fb, n1, n2, n0]
            all_goals simp
        · by_cases ed : offD (a :: b :: q) = []
          · simp only [ea, ed, decide_true, decide_false, Bool.not_true, Bool.not_false, if_true, if_false, Bool.false_eq_true]
            rw [X.nb_append, X.nb_append, X.nb_append, a2, fb, n1, n0]
            all_goals simp
          · simp only [ea, ed, decide_true, decide_false, Bool.not_true, Bool.not_false, if_true, if_false, Bool.false_eq_true]
            rw [X.nb_append, X.nb_append, X.nb_append, X.nb_append, X.nb_append, X.nb_append, X.nb_append, a2, d2, fb, n1, n2, n0]
            all_goals simp
      rw [e]
      exact hrun
    · unfold manyT
      split <;> split <;> simp only [ByteArray.size_append] <;> omega
/-- What the groups leave is what the modes leave. -/
theorem grps_fold (r : Bool) (ms v : List Mo2) : (grps r ms).foldl gFold v = mFold r (offD ms) (mFold r (offA ms) v) := by
  have h1 : ∀ (d : Bool) (q v : List Mo2), (∀ m ∈ q, m.1 = d) → (grp1 d r q).foldl gFold v = mFold r q v := fun d q v hd => by
    unfold grp1
    cases q with
    | nil => rfl
    | cons a q =>
      rw [if_neg (by simp)]
      show mFold r (((a :: q).map fun m => m.2).map fun n => (d, n)) v = _
      have e : ((a :: q).map fun m => m.2).map (fun n => (d, n)) = a :: q := by
        rw [List.map_map]
        conv => rhs; rw [← List.map_id (a :: q)]
        apply List.map_congr_left
        intro m hm
        show (d, m.2) = m
        rw [← hd m hm]
      rw [e]
  unfold grps
  rw [List.foldl_append, h1 false (offA ms) v (fun m hm => by simpa using (List.mem_filter.1 hm).2), h1 true (offD ms) _ (fun m hm => by simpa using (List.mem_filter.1 hm).2)]
theorem split_mem (ms : List Mo2) (x : Mo2) : x ∈ ms ↔ x ∈ offA ms ∨ x ∈ offD ms := by
  unfold offA offD
  rw [List.mem_filter, List.mem_filter]
  cases x.1 <;> simp
theorem step_same (r : Bool) (ms v u : List Mo2) (hv : v.Nodup) (hu : u.Nodup) (h : ∀ x, x ∈ v ↔ x ∈ u) :
    ((grps r ms).foldl gFold v).Nodup ∧ (mFold r ms u).Nodup ∧ ∀ x, x ∈ (grps r ms).foldl gFold v ↔ x ∈ mFold r ms u := by
  rw [grps_fold]
  obtain ⟨a1, a2⟩ := mFold_as r (offA ms) v hv
  obtain ⟨d1, d2⟩ := mFold_as r (offD ms) _ a1
  obtain ⟨m1, m2⟩ := mFold_as r ms u hu
  refine ⟨d1, m1, fun x => ?_⟩
  rw [d2 x, m2 x, a2 x, split_mem ms x, h x]
  cases r
  · simp only [Bool.false_eq_true, if_false]
    exact ⟨fun h => by rcases h with (h | h) | h; exact Or.inl h; exact Or.inr (Or.inl h); exact Or.inr (Or.inr h), fun h => by rcases h with h | h | h; exact Or.inl (Or.inl h); exact Or.inl (Or.inr h); exact Or.inr h⟩
  · simp only [if_true, not_or]
    exact ⟨fun h => ⟨h.1.1, h.1.2, h.2⟩, fun h => ⟨⟨h.1, h.2.1⟩, h.2.2⟩⟩
end Go.Proofs.YtjkjnhcnmjknmaaGreatDoor.Y
end
section
namespace Go.Proofs.YtjkjnhcnmjknmaaGreatDoor.Y
open Go.RowKit Go.Proofs.YtjkjnhcnmjknmaaGreatDoorW.PrintWords Go.Proofs.YtjkjnhcnmjknmaaGreatDoorW.PrintLast Go.Proofs.YtjkjnhcnmjknmaaGreatDoorW.PrintMore
set_option linter.unusedSimpArgs false
def stMs (s : St) : List Mo2 := s.f1.map pairOf
def StIn (s : St) : Prop := 1 ≤ s.f1.length ∧ s.f1.length ≤ 4 ∧ ∀ m ∈ s.f1, 1 ≤ m.f1 ∧ m.f1 ≤ 9999
def wantStep (v : List Mo2) (s : St) : List Mo2 := mFold s.f0 (stMs s) v
def wantP (l : List St) : List Mo2 := l.foldl wantStep []
def grpsL (l : List St) : List Grp := l.flatMap fun s => grps s.f0 (stMs s)
theorem stMs_in (s : St) (h : StIn s) : ∀ m ∈ stMs s, InR m := fun m hm => by
  obtain ⟨x, hx, rfl⟩ := List.mem_map.1 hm
  exact h.2.2 x hx
theorem make_text (s : St) (h : StIn s) : ∃ t, impl_MakeModes.f (if s.f0 then 1 else 0) s.f1 = some t ∧ X.run .gr (X.nb t) = some (.gr, (grps s.f0 (stMs s)).map evG) ∧ t.size ≤ 100000 := by
  have hl : (stMs s).length = s.f1.length := by simp [stMs]
  obtain ⟨t, q1, q2, q3⟩ := step_text s.f0 (stMs s) (by have := h.1; omega) (by have := h.2.1; omega) (stMs_in s h)
  refine ⟨t, ?_, q2, q3⟩
  unfold impl_MakeModes.f
  have hc : s.f1.length ≤ 1000 ∧ (∀ m ∈ s.f1.map pairOf, NumOk m) ∧ ((if s.f0 then (1 : Int) else 0) = 0 ∨ (if s.f0 then (1 : Int) else 0) = 1) := ⟨by have := h.2.1; omega, fun m hm => (numOk m (stMs_in s h m hm)).1, by cases s.f0 <;> simp⟩
  rw [if_pos hc]
  have e : decide ((if s.f0 then (1 : Int) else 0) = 1) = s.f0 := by cases s.f0 <;> rfl
  rw [e]
  exact q1
theorem rdS_at (l : List St) (i : Nat) (h : i < l.length) : rd_T43 l (i : Int) = l[i] := by
  simp [rd_T43, h]
theorem rdI_at (l : List S23) (i : Nat) (h : i < l.length) : rd_T23 l (i : Int) = l[i] := by
  simp [rd_T23, h]
theorem mFold_up (r : Bool) (ps : List Mo2) (p : Mo2) (v : List Mo2) : mFold r (ps ++ [p]) v = mOne r (mFold r ps v) p := by
  unfold mFold
  rw [List.foldl_append]
  rfl
theorem modes_in (l : List St) (s : St) (hs1 : 1 ≤ s.f1.length) (hs4 : s.f1.length ≤ 4) (x4 : ByteArray) (hz : x4.size ≤ 1000000000000000) (i : Nat) (hi : i < 100000000000) (v : List Mo2) (hv : v.length ≤ 10000000000) (K : Nat) (hK : v.length + 100 ≤ K)
    (next : ∀ k t, K ≤ k → StIn s → X.run .gr (X.nb t) = some (.gr, (grps s.f0 (stMs s)).map evG) → t.size ≤ 100000 → laws_FnDrawModes.l0 k l ((wantStep v s).map toM) (x4 ++ t) l (l.length : Int) ((i + 1 : Nat) : Int) = some true) :
    ∀ (m j k : Nat), j + m = s.f1.length → K + 2 * m + 10 ≤ k → (∀ x ∈ s.f1.take j, 1 ≤ x.f1 ∧ x.f1 ≤ 9999) →
      laws_FnDrawModes.l1 k l ((mFold s.f0 ((s.f1.take j).map pairOf) v).map toM) x4 l (l.length : Int) (i : Int) s.f1 (s.f1.length : Int) (j : Int) s.f0 s.f1 = some true
  | 0, j, k, h, hk, hin => by
    obtain ⟨k, rfl⟩ : ∃ k', k = k' + 1 := ⟨k - 1, by omega⟩
    rw [List.take_of_length_le (by omega)] at hin ⊢
    have hS : StIn s := ⟨hs1, hs4, hin⟩
    obtain ⟨t, q1, q2, q3⟩ := make_text s hS
    have hn := next k t (by omega) hS q2 q3
    rw [laws_FnDrawModes.l1, if_neg (by omega)]
    by_cases hr : s.f0 = true
    · rw [if_pos hr] at q1
      rw [if_pos hr, q1, Option.bind_some, if_pos (by omega), wup i (by omega)]
      exact hn
    · rw [if_neg hr] at q1
      rw [if_neg hr, q1, Option.bind_some, if_pos (by omega), wup i (by omega)]
      exact hn
  | m + 1, j, k, h, hk, hin => by
    obtain ⟨k, rfl⟩ : ∃ k', k = k' + 2 := ⟨k - 2, by omega⟩
    have hj : j < s.f1.length := by omega
    rw [laws_FnDrawModes.l1, if_pos (by omega), if_pos (by omega), if_pos (by omega), rdI_at s.f1 j hj]
    by_cases c1 : s.f1[j].f1 < 1
    · rw [if_pos c1, laws_FnDrawModes.j3, if_pos rfl, awake, Option.bind_some]
    rw [if_neg c1]
    by_cases c2 : s.f1[j].f1 > 9999
    · rw [decide_eq_true c2, laws_FnDrawModes.j3, if_pos rfl, awake, Option.bind_some]
    have hfl := mFold_len s.f0 ((s.f1.take j).map pairOf) v
    rw [List.length_map, List.length_take] at hfl
    have hw := without_f (mFold s.f0 ((s.f1.take j).map pairOf) v) (pairOf s.f1[j]) (by omega) k (by omega)
    have e1 : (pairOf s.f1[j]).1 = s.f1[j].f0 := rfl
    have e2 : (pairOf s.f1[j]).2 = s.f1[j].f1 := rfl
    rw [e1, e2] at hw
    have ih := modes_in l s hs1 hs4 x4 hz i hi v hv K hK next m (j + 1) k (by omega) (by omega) (fun x hx => by
      rw [List.take_succ_eq_append_getElem hj] at hx
      rcases List.mem_append.1 hx with hx | hx
      · exact hin x hx
      · rw [List.mem_singleton.1 hx]
        exact ⟨by omega, by omega⟩)
    have e3 : (s.f1.take (j + 1)).map pairOf = (s.f1.take j).map pairOf ++ [pairOf s.f1[j]] := by rw [List.take_succ_eq_append_getElem hj, List.map_append]; rfl
    rw [e3, mFold_up] at ih
    unfold mOne at ih
    rw [decide_eq_false c2, laws_FnDrawModes.j3, if_neg (by simp), hw, Option.bind_some, wup j (by omega)]
    have hf2 := List.length_filter_le (fun x => x != pairOf s.f1[j]) (mFold s.f0 ((s.f1.take j).map pairOf) v)
    by_cases hr : s.f0 = true
    · rw [if_pos hr]
      rw [if_pos hr] at ih
      exact ih
    · rw [if_neg hr, if_pos (by rw [List.length_map]; omega)]
      rw [if_neg hr, List.map_append] at ih
      exact ih
theorem want_up (l : List St) (i : Nat) (hi : i < l.length) : wantP (l.take (i + 1)) = wantStep (wantP (l.take i)) l[i] := by
  unfold wantP
  rw [List.take_succ_eq_append_getElem hi, List.foldl_append]
  rfl
theorem grps_up (l : List St) (i : Nat) (hi : i < l.length) : grpsL (l.take (i + 1)) = grpsL (l.take i) ++ grps l[i].f0 (stMs l[i]) := by
  unfold grpsL
  rw [List.take_succ_eq_append_getElem hi, List.flatMap_append]
  simp
theorem all_same : ∀ (l : List St) (v u : List Mo2), v.Nodup → u.Nodup → (∀ x, x ∈ v ↔ x ∈ u) → ((grpsL l).foldl gFold v).Nodup ∧ (l.foldl wantStep u).Nodup ∧ ∀ x, x ∈ (grpsL l).foldl gFold v ↔ x ∈ l.foldl wantStep u
  | [], v, u, hv, hu, h => ⟨hv, hu, h⟩
  | s :: l, v, u, hv, hu, h => by
    obtain ⟨a1, a2, a3⟩ := step_same s.f0 (stMs s) v u hv hu h
    have := all_same l _ _ a1 a2 a3
    have e : (grpsL (s :: l)).foldl gFold v = (grpsL l).foldl gFold ((grps s.f0 (stMs s)).foldl gFold v) := by
      unfold grpsL
      rw [List.flatMap_cons, List.foldl_append]
    rw [e]
    exact this
theorem grp_ok (r : Bool) (ms : List Mo2) (hm : ∀ m ∈ ms, InR m) (hl : ms.length ≤ 4) : (∀ g ∈ grps r ms, (∀ n ∈ g.ns, 1 ≤ n ∧ n ≤ 9999) ∧ g.ns.length ≤ 4) ∧ (grps r ms).length ≤ 2 := by
  have h1 : ∀ (d : Bool) (q : List Mo2), (∀ m ∈ q, InR m) → q.length ≤ 4 → (∀ g ∈ grp1 d r q, (∀ n ∈ g.ns, 1 ≤ n ∧ n ≤ 9999) ∧ g.ns.length ≤ 4) ∧ (grp1 d r q).length ≤ 1 := fun d q hq hl => by
    unfold grp1
    split
    · exact ⟨fun g hg => by simp at hg, by simp⟩
    · refine ⟨fun g hg => ?_, by simp⟩
      rw [List.mem_singleton.1 hg]
      refine ⟨fun n hn => ?_, by rw [List.length_map]; exact hl⟩
      obtain ⟨m, hm, rfl⟩ := List.mem_map.1 hn
      exact hq m hm
  obtain ⟨a1, a2⟩ := h1 false (offA ms) (fun m h => hm m (List.mem_filter.1 h).1) (Nat.le_trans (List.length_filter_le _ _) hl)
  obtain ⟨d1, d2⟩ := h1 true (offD ms) (fun m h => hm m (List.mem_filter.1 h).1) (Nat.le_trans (List.length_filter_le _ _) hl)
  refine ⟨fun g hg => ?_, ?_⟩
  · rcases List.mem_append.1 hg with h | h
    · exact a1 g h
    · exact d1 g h
  · unfold grps
    rw [List.length_append]
    omega
theorem grpsL_ok : ∀ (l : List St), (∀ s ∈ l, StIn s) → (∀ g ∈ grpsL l, (∀ n ∈ g.ns, 1 ≤ n ∧ n ≤ 9999) ∧ g.ns.length ≤ 4) ∧ (grpsL l).length ≤ 2 * l.length
  | [], _ => ⟨fun g hg => by simp [grpsL] at hg, by simp [grpsL]⟩
  | s :: l, h => by
    have hs := h s (by simp)
    obtain ⟨a1, a2⟩ := grp_ok s.f0 (stMs s) (stMs_in s hs) (by have := hs.2.1; simpa [stMs] using this)
    obtain ⟨i1, i2⟩ := grpsL_ok l (fun x hx => h x (List.mem_cons_of_mem _ hx))
    have e : grpsL (s :: l) = grps s.f0 (stMs s) ++ grpsL l := by unfold grpsL; rw [List.flatMap_cons]
    rw [e]
    refine ⟨fun g hg => ?_, by rw [List.length_append, List.length_cons]; omega⟩
    rcases List.mem_append.1 hg with hg | hg
    · exact a1 g hg
    · exact i1 g hg
theorem gFold_len : ∀ (gs : List Grp) (v : List Mo2), (∀ g ∈ gs, g.ns.length ≤ 4) → (gs.foldl gFold v).length ≤ v.length + 4 * gs.length
  | [], v, _ => by simp
  | g :: gs, v, h => by
    have h1 := mFold_len g.r (gMs g) v
    have h2 : (gMs g).length = g.ns.length := by simp [gMs]
    have h3 := h g (by simp)
    have h4 := gFold_len gs (gFold v g) (fun x hx => h x (List.mem_cons_of_mem _ hx))
    have h5 : (gFold v g).length = (mFold g.r (gMs g) v).length := rfl
    rw [List.foldl_cons, List.length_cons]
    omega
theorem modes_end (l : List St) (hin : ∀ s ∈ l, StIn s) (hw : (wantP l).length ≤ 4 * l.length) (x4 : ByteArray) (i k : Nat) (hi : l.length ≤ i) (hk : 100000 ≤ k) (hs : l.length ≤ 8 → x4.size ≤ 100000000000) (hr : X.run .gr (X.nb x4) = some (.gr, (grpsL l).map evG)) :
    laws_FnDrawModes.l0 k l ((wantP l).map toM) x4 l (l.length : Int) (i : Int) = some true := by
  obtain ⟨k, rfl⟩ : ∃ k', k = k' + 2 := ⟨k - 2, by omega⟩
  rw [laws_FnDrawModes.l0, if_neg (by omega)]
  by_cases h1 : (l.length : Int) < 1
  · rw [if_pos h1, laws_FnDrawModes.j4, if_pos rfl, awake, Option.bind_some]
  rw [if_neg h1]
  by_cases h8 : (l.length : Int) > 8
  · rw [decide_eq_true h8, laws_FnDrawModes.j4, if_pos rfl, awake, Option.bind_some]
  have hz := hs (by omega)
  obtain ⟨g1, g2⟩ := grpsL_ok l hin
  obtain ⟨n1, n2, n3⟩ := all_same l [] [] (by simp) (by simp) (fun x => Iff.rfl)
  have hgl := gFold_len (grpsL l) [] (fun g hg => (g1 g hg).2)
  rw [List.length_nil] at hgl
  have hM := modes_l0 ((grpsL l).map fun g => cv (X.toS (evG g))) (by rw [List.length_map]; omega) (grpsL l) 0 k [] g1 (by rw [List.drop_zero]) (by rw [List.length_nil]; omega) (by omega)
  have hM2 : spec_DrawModes.f k ((grpsL l).map fun g => cv (X.toS (evG g))) = some (((grpsL l).foldl gFold []).map toM) := by
    unfold spec_DrawModes.f
    exact hM
  have hS := sameM_f ((grpsL l).foldl gFold []) (wantP l) n1 n2 n3 (by omega) (by omega) k (by omega)
  rw [decide_eq_false h8, laws_FnDrawModes.j4, if_neg (by simp), conv_f x4 hz, Option.bind_some, feed_f x4 hz hr, Option.bind_some, drawEvents_f _ (by rw [List.length_map, List.length_map]; omega) k (by rw [List.length_map, List.length_map]; omega), Option.bind_some, List.map_map, List.map_map]
  have e1 : ((cv ∘ X.toS) ∘ evG) = (fun g => cv (X.toS (evG g))) := rfl
  rw [e1, hM2, Option.bind_some, hS, Option.bind_some, if_pos rfl, awake, Option.bind_some]
theorem modes_loop (l : List St) (hl : l.length ≤ 2147483647) : ∀ (m i k : Nat) (x4 : ByteArray), i + m = l.length → 50000000000 + 20 * m ≤ k → (∀ e ∈ l.take i, StIn e) → X.run .gr (X.nb x4) = some (.gr, (grpsL (l.take i)).map evG) → x4.size ≤ 100000 * i → (wantP (l.take i)).length ≤ 4 * i →
    laws_FnDrawModes.l0 k l ((wantP (l.take i)).map toM) x4 l (l.length : Int) (i : Int) = some true
  | 0, i, k, x4, h, hk, hin, hr, hs, hw => by
    have e : l.take i = l := List.take_of_length_le (by omega)
    rw [e] at hr hin hw ⊢
    exact modes_end l hin (by omega) x4 i k (by omega) (by omega) (fun _ => by omega) hr
  | m + 1, i, k, x4, h, hk, hin, hr, hs, hw => by
    obtain ⟨k, rfl⟩ : ∃ k', k = k' + 2 := ⟨k - 2, by omega⟩
    have hi : i < l.length := by omega
    have main : 1 ≤ l[i].f1.length → l[i].f1.length ≤ 4 → laws_FnDrawModes.j1 (k + 1) l ((wantP (l.take i)).map toM) x4 l (l.length : Int) (i : Int) false l[i].f0 l[i].f1 = some true := fun h1 h4 => by
      rw [laws_FnDrawModes.j1, if_neg (by simp)]
      have := modes_in l l[i] h1 h4 x4 (by omega) i (by omega) (wantP (l.take i)) (by omega) (50000000000 + 20 * m) (by omega) (fun k' t hk' hS q2 q3 => by
        have e3 : l.take (i + 1) = l.take i ++ [l[i]] := List.take_succ_eq_append_getElem hi
        have ih := modes_loop l hl m (i + 1) k' (x4 ++ t) (by omega) (by omega) (by
          rw [e3]
          intro e he
          rcases List.mem_append.1 he with he | he
          · exact hin e he
          · rw [List.mem_singleton.1 he]
            exact hS) (by
          rw [grps_up l i hi, X.nb_append, List.map_append]
          exact X.run_of hr q2) (by rw [ByteArray.size_append]; omega) (by
          rw [want_up l i hi]
          have := mFold_len l[i].f0 (stMs l[i]) (wantP (l.take i))
          have e5 : (stMs l[i]).length = l[i].f1.length := by simp [stMs]
          have e6 : (wantStep (wantP (l.take i)) l[i]).length = (mFold l[i].f0 (stMs l[i]) (wantP (l.take i))).length := rfl
          omega)
        rw [want_up l i hi] at ih
        exact ih) l[i].f1.length 0 k (by omega) (by omega) (by simp)
      exact this
    rw [laws_FnDrawModes.l0, if_pos (by omega), if_pos (by omega), if_pos (by omega), rdS_at l i hi]
    by_cases c1 : (l[i].f1.length : Int) < 1
    · rw [if_pos c1, laws_FnDrawModes.j1, if_pos rfl, awake, Option.bind_some]
    rw [if_neg c1]
    by_cases c2 : (l[i].f1.length : Int) > 4
    · rw [decide_eq_true c2, laws_FnDrawModes.j1, if_pos rfl, awake, Option.bind_some]
    rw [decide_eq_false c2]
    exact main (by omega) (by omega)
theorem fitsSt_l0 (l : List St) (hl : l.length ≤ 2147483647) : ∀ (m i k : Nat), i + m = l.length → m < k → ∃ b, laws_zzFits9.l0 k l (l.length : Int) (i : Int) = some b
  | 0, i, k + 1, h, hk => by
    rw [laws_zzFits9.l0, if_neg (by omega)]
    exact ⟨_, rfl⟩
  | m + 1, i, k + 1, h, hk => by
    have hi : i < l.length := by omega
    rw [laws_zzFits9.l0, if_pos (by omega), if_pos (by omega), if_pos (by omega), rdS_at l i hi, wup i (by omega)]
    unfold laws_zzFits10.f
    by_cases c1 : (l[i].f1.length : Int) > 2147483647
    · rw [if_pos c1, Option.bind_some, if_neg (by simp)]
      exact ⟨_, rfl⟩
    rw [if_neg c1, Option.bind_some, if_pos rfl]
    exact fitsSt_l0 l hl m (i + 1) k (by omega) (by omega)
theorem FnDrawModes_true (l : List St) (_ : l.length ≤ maxLen) (_ : ∀ a ∈ l, (True ∧ (a.f1.length ≤ maxLen ∧ ∀ b ∈ a.f1, (True ∧ (Lit.int .i64 b.f1).wf = true)))) : laws_FnDrawModes.f 100000000000 l = some true := by
  unfold laws_FnDrawModes.f laws_zzFits9.f
  by_cases c : (l.length : Int) > 2147483647
  · rw [if_pos c, Option.bind_some, if_neg (by simp)]
  rw [if_neg c]
  obtain ⟨b, e1⟩ := fitsSt_l0 l (by omega) l.length 0 100000000000 (by omega) (by omega)
  have e1' : laws_zzFits9.l0 100000000000 l (l.length : Int) 0 = some b := e1
  rw [e1', Option.bind_some]
  cases b with
  | false => rw [if_neg (by simp)]
  | true =>
    rw [if_pos rfl]
    exact modes_loop l (by omega) l.length 0 _ ⟨#[]⟩ (by omega) (by omega) (by simp) (by rfl) (by decide) (by simp [wantP])
end Go.Proofs.YtjkjnhcnmjknmaaGreatDoor.Y
end
section
namespace Go.Proofs.YtjkjnhcnmjknmaaGreatDoor.Y
open Go.RowKit Go.Proofs.YtjkjnhcnmjknmaaGreatDoorW.PrintWords Go.Proofs.YtjkjnhcnmjknmaaGreatDoorW.PrintLast Go.Proofs.YtjkjnhcnmjknmaaGreatDoorW.PrintMore
attribute [local go_sem] max2_int min2_int max_two min_two max_three min_three max_four min_four   -- for this text's walks alone
set_option linter.unusedVariables false
set_option linter.unusedSimpArgs false
set_option maxHeartbeats 8000000 in
set_option maxRecDepth 100000 in
theorem laws_zzFits10.calls (a0_0 : Bool) (A0_1 : Option Addr) (c0_1 : Nat) (l0_1 : List (S23)) (r : Bool) (w : World) (hr0_1 : Kd.C k23 w A0_1 l0_1.length l0_1) (hc0_1 : l0_1.length ≤ c0_1) (h : laws_zzFits10.f a0_0 l0_1 = some r) :
    Calls Tryz.prog 38 #[.agg #[.bool a0_0, .slice A0_1 l0_1.length c0_1]] w fun e w' => e = .returned (.bool r) ∧ Below w.heap.size w w' := by
  have hu43 := Tryz.underlying43
  have HR0_1 := Aside0.mk hr0_1
  have HC0_1 := Aside0.mk hc0_1
  clear hr0_1 hc0_1
  have HB := Aside0.mk (Below.refl w.heap.size w)
  have H : (if (l0_1.length : Int) > 2147483647 then (some false) else (some true)) = some r := h
  clear h
  by_cases c2 : (l0_1.length : Int) > 2147483647
  · rw [if_pos c2] at H
    have c2b0 : decide (2147483647 < (l0_1.length : Int)) = true := decide_eq_true c2
    have c2b1 : decide (2147483647 < l0_1.length) = true := decide_eq_true (by omega)
    clear c2
    obtain rfl := Option.some.inj H
    go_enter Tryz.func38, Tryz.ntmps38
    go_wp2_with (first | ((with_reducible refine gate_dst (N := 1) rfl ?_); refine box_event ?hg (N := 1) ?hd (cs := #[.bool a0_0, .slice A0_1 l0_1.length c0_1]) (t := 43) ?hr ?_; (case hd => rfl); (case hg => rfl); (case hr => first | (go_simp; done) | (go_simp; rfl)); intro gb275 hg w3 hbox hb; have n0_ := Aside0.mk (below_step (by repeat (first | (with_reducible first | exact HB.out | apply below_alloc | apply pw_below_drewN | apply below_drew1) | exact HB.out)) hb); have n1_ := Aside0.mk (hbox); have n2_ := Aside0.mk ((by rw [hg]; exact (below_size (by repeat (first | (with_reducible first | exact HB.out | apply below_alloc | apply pw_below_drewN | apply below_drew1) | exact HB.out))) : w.heap.size ≤ gb275)); have n3_ := Aside0.mk ((by rw [hg]; exact (below_size (by repeat (first | (with_reducible first | exact HB.out | apply below_alloc | apply pw_below_drewN | apply below_drew1) | exact HB.out))) : w.heap.size ≤ gb275)); clear HB; have HB := n0_; have BK275 := n1_; have GW275 := n2_; have GE275 := n3_; clear n0_ n1_ n2_ n3_; clear hb hbox hg; have hcz4_0 : w3.cell? ⟨gb275, 0, none⟩ = some (.bool a0_0) := (blk_cell BK275.out 0).trans rfl; have hcz4_1 : w3.cell? ⟨gb275, 1, none⟩ = some (.slice A0_1 l0_1.length c0_1) := (blk_cell BK275.out 1).trans rfl; have hfz4_0 := blk_frozen BK275.out 0; have hfz4_1 := blk_frozen BK275.out 1))
    go_ret
    exact ⟨by first | rfl | (simp [errW_none, errW_some] <;> rfl) | (simp [*, errW_none, errW_some] <;> rfl), by repeat (first | (with_reducible first | exact HB.out | apply below_alloc | apply pw_below_drewN | apply below_drew1 | refine below_set ?_ GE275.out) | exact HB.out)⟩
  · rw [if_neg c2] at H
    have c2b0 : decide (2147483647 < (l0_1.length : Int)) = false := decide_eq_false c2
    have c2b1 : decide (2147483647 < l0_1.length) = false := decide_eq_false (by omega)
    clear c2
    obtain rfl := Option.some.inj H
    go_enter Tryz.func38, Tryz.ntmps38
    go_wp2_with (first | ((with_reducible refine gate_dst (N := 1) rfl ?_); refine box_event ?hg (N := 1) ?hd (cs := #[.bool a0_0, .slice A0_1 l0_1.length c0_1]) (t := 43) ?hr ?_; (case hd => rfl); (case hg => rfl); (case hr => first | (go_simp; done) | (go_simp; rfl)); intro gb275 hg w5 hbox hb; have n0_ := Aside0.mk (below_step (by repeat (first | (with_reducible first | exact HB.out | apply below_alloc | apply pw_below_drewN | apply below_drew1) | exact HB.out)) hb); have n1_ := Aside0.mk (hbox); have n2_ := Aside0.mk ((by rw [hg]; exact (below_size (by repeat (first | (with_reducible first | exact HB.out | apply below_alloc | apply pw_below_drewN | apply below_drew1) | exact HB.out))) : w.heap.size ≤ gb275)); have n3_ := Aside0.mk ((by rw [hg]; exact (below_size (by repeat (first | (with_reducible first | exact HB.out | apply below_alloc | apply pw_below_drewN | apply below_drew1) | exact HB.out))) : w.heap.size ≤ gb275)); clear HB; have HB := n0_; have BK275 := n1_; have GW275 := n2_; have GE275 := n3_; clear n0_ n1_ n2_ n3_; clear hb hbox hg; have hcz6_0 : w5.cell? ⟨gb275, 0, none⟩ = some (.bool a0_0) := (blk_cell BK275.out 0).trans rfl; have hcz6_1 : w5.cell? ⟨gb275, 1, none⟩ = some (.slice A0_1 l0_1.length c0_1) := (blk_cell BK275.out 1).trans rfl; have hfz6_0 := blk_frozen BK275.out 0; have hfz6_1 := blk_frozen BK275.out 1))
    go_ret
    exact ⟨by first | rfl | (simp [errW_none, errW_some] <;> rfl) | (simp [*, errW_none, errW_some] <;> rfl), by repeat (first | (with_reducible first | exact HB.out | apply below_alloc | apply pw_below_drewN | apply below_drew1 | refine below_set ?_ GE275.out) | exact HB.out)⟩
end Go.Proofs.YtjkjnhcnmjknmaaGreatDoor.Y
end
