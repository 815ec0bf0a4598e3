/- The plain law of FnDrawPassed: whatever the text and the limit are, the print's function says true. -/
import Derived.Test.YtgcbnegdchladaaDoorCHelp
import Derived.Test.YtgcbnegdchladaaDoorCPaPass
namespace Go.Proofs.YtgcbnegdchladaaDoor.Y
open Go.RowKit Go.Proofs.YtgcbnegdchladaaDoorW.PrintWords Go.Proofs.YtgcbnegdchladaaDoorW.PrintLast Go.Proofs.YtgcbnegdchladaaDoorW.PrintMore

/-- A text's pieces, one by one. -/
def chunks (n : Nat) : Nat → List UInt8 → List (List UInt8)
  | 0, _ => []
  | k + 1, l => if l.length ≤ n then [l] else l.take n :: chunks n k (l.drop n)
theorem chunks_flat (n : Nat) (hn : 1 ≤ n) : ∀ (k : Nat) (l : List UInt8), l.length ≤ k → (chunks n k l).flatten = l
  | 0, l, h => by rw [List.length_eq_zero_iff.1 (by omega : l.length = 0)]; rfl
  | k + 1, l, h => by
    unfold chunks
    by_cases hl : l.length ≤ n
    · rw [if_pos hl]; simp
    · rw [if_neg hl, List.flatten_cons, chunks_flat n hn k (l.drop n) (by rw [List.length_drop]; omega), List.take_append_drop]
theorem chunks_len (n : Nat) (hn : 1 ≤ n) : ∀ (k : Nat) (l : List UInt8), 1 ≤ l.length → l.length ≤ k → (chunks n k l).length = (l.length + n - 1) / n
  | 0, l, h0, h => by omega
  | k + 1, l, h0, h => by
    unfold chunks
    by_cases hl : l.length ≤ n
    · rw [if_pos hl, List.length_cons, List.length_nil]
      have : (l.length + n - 1) / n = 1 := by
        rw [Nat.div_eq_iff (by omega)]
        omega
      omega
    · rw [if_neg hl, List.length_cons, chunks_len n hn k (l.drop n) (by rw [List.length_drop]; omega) (by rw [List.length_drop]; omega), List.length_drop]
      rw [show l.length + n - 1 = (l.length - n + n - 1) + n by omega, Nat.add_div_right _ (by omega)]
def Letter (b : UInt8) : Prop := 97 ≤ b.toNat ∧ b.toNat ≤ 122
theorem chunks_mem (n : Nat) (hn : 1 ≤ n) : ∀ (k : Nat) (l : List UInt8), 1 ≤ l.length → (∀ b ∈ l, Letter b) → ∀ p ∈ chunks n k l, 1 ≤ p.length ∧ p.length ≤ l.length ∧ ∀ b ∈ p, Letter b
  | 0, l, _, _, p, hp => by simp [chunks] at hp
  | k + 1, l, h0, hb, p, hp => by
    unfold chunks at hp
    by_cases hl : l.length ≤ n
    · rw [if_pos hl] at hp
      rw [List.mem_singleton.1 hp]
      exact ⟨h0, Nat.le_refl _, hb⟩
    · rw [if_neg hl] at hp
      rcases List.mem_cons.1 hp with rfl | hp
      · exact ⟨by rw [List.length_take]; omega, by rw [List.length_take]; omega, fun b h => hb b (List.mem_of_mem_take h)⟩
      · obtain ⟨q1, q2, q3⟩ := chunks_mem n hn k (l.drop n) (by rw [List.length_drop]; omega) (fun b h => hb b (List.mem_of_mem_drop h)) p hp
        rw [List.length_drop] at q2
        exact ⟨q1, by omega, q3⟩

def nums (l : List UInt8) : List Int := l.map fun b => (b.toNat : Int)
def pieceEvs : List UInt8 → List X.Ev
  | [] => []
  | b :: r => [X.evDcs (b.toNat : Int) [] (nums r), X.evEsc 92]
def nn (l : List UInt8) : List Nat := l.map UInt8.toNat

theorem run_data (cmd : Int) (r : List UInt8) : ∀ (d : List Int), (∀ b ∈ r, Letter b) → d.length + r.length ≤ 4000 → X.run (.dstr cmd [] X.Miss d) (nn r) = some (.dstr cmd [] X.Miss (d ++ nums r), []) := by
  induction r with
  | nil => intro d _ _; simp [nn, nums, X.run]
  | cons b r ih =>
    intro d hb hl
    obtain ⟨b0, b1⟩ := hb b (by simp)
    have h1 : X.step (.dstr cmd [] X.Miss d) b.toNat = some (.dstr cmd [] X.Miss (d ++ [(b.toNat : Int)]), []) := by
      simp only [X.step]
      rw [if_pos (by omega), if_pos (by simp only [List.length_cons] at hl; omega)]
    have h2 := ih (d ++ [(b.toNat : Int)]) (fun c hc => hb c (List.mem_cons_of_mem _ hc)) (by simp only [List.length_append, List.length_cons, List.length_nil] at hl ⊢; omega)
    show X.run _ (b.toNat :: nn r) = _
    rw [X.run, h1, Option.bind_some, h2]
    simp [nums, List.append_assoc]
theorem run_piece (p : List UInt8) (h1 : 1 ≤ p.length) (h2 : p.length ≤ 4000) (hb : ∀ b ∈ p, Letter b) : X.run (.dcs 4 0 [] X.Miss) (nn p ++ [27, 92]) = some (.gr, pieceEvs p) := by
  cases p with
  | nil => simp at h1
  | cons b r =>
    obtain ⟨b0, b1⟩ := hb b (by simp)
    have e1 : X.run (.dcs 4 0 [] X.Miss) [b.toNat] = some (.dstr (b.toNat : Int) [] X.Miss [], []) := by
      simp only [X.run, X.step]
      rw [if_pos (by omega)]
      simp
    have e2 := run_data (b.toNat : Int) r [] (fun c hc => hb c (List.mem_cons_of_mem _ hc)) (by simp only [List.length_cons, List.length_nil] at h2 ⊢; omega)
    have e3 : X.run (.dstr (b.toNat : Int) [] X.Miss ([] ++ nums r)) [27, 92] = some (.gr, pieceEvs (b :: r)) := by
      simp [X.run, X.step, pieceEvs, X.closed, X.evDcs, X.evEsc]
    have e4 := X.run_of (X.run_of e1 e2) e3
    simpa [nn] using e4
/-- The whole text, from behind its beginning on. -/
theorem run_pieces (n : Nat) (hn : 1 ≤ n) : ∀ (k : Nat) (l : List UInt8), 1 ≤ l.length → l.length ≤ k → l.length ≤ 4000 → (∀ b ∈ l, Letter b) →
    X.run (.dcs 4 0 [] X.Miss) (nn (X.pieces n k l) ++ [27, 92]) = some (.gr, (chunks n k l).flatMap pieceEvs)
  | 0, l, h0, h, _, _ => by omega
  | k + 1, l, h0, h, h4, hb => by
    unfold X.pieces chunks
    by_cases hl : l.length ≤ n
    · rw [if_pos hl, if_pos hl, run_piece l h0 h4 hb]
      simp
    · rw [if_neg hl, if_neg hl]
      have ih := run_pieces n hn k (l.drop n) (by rw [List.length_drop]; omega) (by rw [List.length_drop]; omega) (by rw [List.length_drop]; omega) (fun b h => hb b (List.mem_of_mem_drop h))
      have e1 := run_piece (l.take n) (by rw [List.length_take]; omega) (by rw [List.length_take]; omega) (fun b h => hb b (List.mem_of_mem_take h))
      have e2 : X.run .gr [27, 80] = some (.dcs 4 0 [] X.Miss, []) := rfl
      have e3 := X.run_of (X.run_of e1 e2) ih
      have e4 : nn (l.take n ++ ([27, 92, 27, 80] ++ X.pieces n k (l.drop n))) ++ [27, 92] = nn (l.take n) ++ [27, 92] ++ [27, 80] ++ (nn (X.pieces n k (l.drop n)) ++ [27, 92]) := by simp [nn]
      rw [e4, e3]
      simp
theorem screen_run (s : ByteArray) (n : Nat) (hn : 1 ≤ n) (h0 : 1 ≤ s.size) (h4 : s.size ≤ 4000) (hb : ∀ b ∈ s.data.toList, Letter b) :
    X.run .gr (X.nb ⟨(X.screenText s n).toArray⟩) = some (.gr, (chunks n s.size s.data.toList).flatMap pieceEvs) := by
  have hlen : s.data.toList.length = s.size := data_length s
  have e2 : X.run .gr [27, 80] = some (.dcs 4 0 [] X.Miss, []) := rfl
  have e3 := X.run_of e2 (run_pieces n hn s.size s.data.toList (by omega) (by omega) (by omega) hb)
  rw [X.nb_mk]
  have e4 : (X.screenText s n).map UInt8.toNat = [27, 80] ++ (nn (X.pieces n s.size s.data.toList) ++ [27, 92]) := by
    simp [X.screenText, X.left, nn, hlen]
  rw [e4, e3]
  simp

theorem rdE_of_drop {l r : List S36} {a : S36} {i : Nat} (h : l.drop i = a :: r) : i < l.length ∧ rd_T36 l (i : Int) = a ∧ l.drop (i + 1) = r := by
  have hi : i < l.length := by
    rcases Nat.lt_or_ge i l.length with h' | h'
    · exact h'
    · rw [List.drop_of_length_le h'] at h
      cases h
  have h2 := List.drop_eq_getElem_cons hi
  rw [h] at h2
  injection h2 with h3 h4
  exact ⟨hi, by rw [rdT_at l i hi, h3], h4.symm⟩
theorem strOf_nums (l : List UInt8) : (strOfNums (nums l)).data.toList = l := by
  simp [strOfNums, nums, Function.comp_def]
theorem strOf_one (b : UInt8) : (strOfNums [((b.toNat : Int)) % 256]).data.toList = [b] := by
  have h := b.toNat_lt
  have e : ((b.toNat : Int) % 256).toNat = b.toNat := by omega
  simp [strOfNums, e]
theorem data_app (a b : ByteArray) : (a ++ b).data.toList = a.data.toList ++ b.data.toList := by
  simp [ByteArray.data_append]

/-- The pieces, joined and counted. -/
theorem passed_l1 (x0 : ByteArray) (n : Nat) (E : List S36) (hE : E.length ≤ 1000000) (hn : 1 ≤ n) (hn2 : n ≤ 40) (h40 : x0.size ≤ 40) (c : Nat) (hc2 : c ≤ 1000000) (hc : (c : Int) = Int.tdiv (wrap64 ((wrap64 ((x0.size : Int) + n)) - 1)) n) :
    ∀ (ps : List (List UInt8)) (i k j : Nat) (x6 : ByteArray), (∀ p ∈ ps, 1 ≤ p.length) → E.drop i = ((ps.flatMap pieceEvs).map X.toS) → x6.data.toList ++ ps.flatten = x0.data.toList → j + ps.length = c → 10 + 2 * ps.length ≤ k →
      laws_FnDrawPassed.l1 k x0 x6 (j : Int) (n : Int) E (E.length : Int) (i : Int) = some true
  | [], i, k + 1, j, x6, _, hd, hf, hj, hk => by
    have hi : E.length ≤ i := by
      rcases Nat.lt_or_ge i E.length with h | h
      · rw [List.drop_eq_getElem_cons h] at hd
        cases hd
      · exact h
    have e6 : x6 = x0 := by
      apply ByteArray.ext
      apply Array.toList_inj.1
      simpa using hf
    subst e6
    rw [laws_FnDrawPassed.l1, if_neg (by omega), if_pos rfl, if_neg (by omega), ← hc, wrap64_of _ (by omega) (by omega), if_pos (by simp only [List.length_nil] at hj; omega), awake, Option.bind_some]
  | [] :: ps, i, k, j, x6, hp, _, _, _, _ => by
    have := hp [] (by simp)
    simp at this
  | (b :: r) :: ps, i, k + 2, j, x6, hp, hd, hf, hj, hk => by
    have hd2 : E.drop i = X.toS (X.evDcs (b.toNat : Int) [] (nums r)) :: X.toS (X.evEsc 92) :: ((ps.flatMap pieceEvs).map X.toS) := by
      rw [hd]
      simp [pieceEvs]
    obtain ⟨i1, g1, d1⟩ := rdE_of_drop hd2
    obtain ⟨i2, g2, d2⟩ := rdE_of_drop d1
    have e0 : (X.toS (X.evDcs (b.toNat : Int) [] (nums r))).f0 = 4 := rfl
    have e3 : (X.toS (X.evDcs (b.toNat : Int) [] (nums r))).f3 = (b.toNat : Int) := rfl
    have e5 : (X.toS (X.evDcs (b.toNat : Int) [] (nums r))).f5 = nums r := rfl
    have e0' : ¬ (X.toS (X.evEsc 92)).f0 = 4 := by show ¬ (3 : Int) = 4; omega
    have hlen : x0.data.toList.length = x0.size := data_length x0
    have hfl := congrArg List.length hf
    simp only [List.length_append, List.flatten_cons, List.length_cons] at hfl
    have s1 : (strOfNums [((b.toNat : Int)) % 256]).size = 1 := by rw [← data_length, strOf_one]; rfl
    have s2 : (strOfNums (nums r)).size = r.length := by rw [← data_length, strOf_nums]
    have s6 : x6.size = x6.data.toList.length := (data_length x6).symm
    rw [laws_FnDrawPassed.l1, if_pos (by omega), if_pos (by omega), if_pos (by omega), g1, e0, if_pos rfl, e3, Option.bind_some, e5, s1, s2, if_pos (by omega), if_pos (by omega), wrap64_of _ (by omega) (by omega), wrap64_of _ (by omega) (by omega)]
    have hi2 : ((i : Int) + 1) = ((i + 1 : Nat) : Int) := by omega
    rw [hi2, laws_FnDrawPassed.l1, if_pos (by omega), if_pos (by omega), if_pos (by omega), g2, if_neg e0', wrap64_of _ (by omega) (by omega)]
    refine passed_l1 x0 n E hE hn hn2 h40 c hc2 hc ps (i + 1 + 1) k (j + 1) _ (fun p h => hp p (List.mem_cons_of_mem _ h)) d2 ?_ (by simp only [List.length_cons] at hj; omega) (by simp only [List.length_cons] at hk; omega)
    rw [data_app, data_app, strOf_one, strOf_nums, ← hf]
    simp

theorem bt_nat (s : ByteArray) (i : Nat) (h : i < s.data.toList.length) : bt s (i : Int) = ((s.data.toList[i]).toNat : Int) := by
  rw [← rd_bytesOf]
  have : i < (bytesOf s).length := by rw [bytesOf_length, ← data_length]; exact h
  rw [rd, Int.toNat_natCast, List.getD_eq_getElem?_getD, List.getElem?_eq_getElem this]
  simp [bytesOf]

theorem passed_check (s : ByteArray) (a1 : Int) (h0 : 0 ≤ a1) (_ : a1 ≤ 255) (hl : s.size ≤ 2147483647) (hall : ∀ b ∈ s.data.toList, Letter b) (k : Nat) (hk : 200 ≤ k) : laws_FnDrawPassed.l0 k s a1 (s.size : Int) (s.size : Int) = some true := by
  obtain ⟨k, rfl⟩ : ∃ k', k = k' + 2 := ⟨k - 2, by omega⟩
  rw [laws_FnDrawPassed.l0, if_neg (by omega)]
  by_cases c1 : (s.size : Int) < 1
  · rw [if_pos c1, laws_FnDrawPassed.j1, if_pos rfl, awake, Option.bind_some]
  rw [if_neg c1]
  by_cases c40 : (s.size : Int) > 40
  · rw [decide_eq_true c40, laws_FnDrawPassed.j1, if_pos rfl, awake, Option.bind_some]
  rw [decide_eq_false c40, laws_FnDrawPassed.j1, if_neg (by simp)]
  obtain ⟨n, hn, hn1, hn40⟩ : ∃ n : Nat, wrap64 (wrap64 (Int.tmod a1 40) + 1) = (n : Int) ∧ 1 ≤ n ∧ n ≤ 40 := by
    refine ⟨(a1 % 40).toNat + 1, ?_, by omega, by omega⟩
    rw [Int.tmod_eq_emod_of_nonneg h0, wrap64_of (a1 % 40) (by omega) (by omega), wrap64_of _ (by omega) (by omega)]
    omega
  rw [hn]
  have hlen : s.data.toList.length = s.size := data_length s
  have hS : impl_Screen.f s (n : Int) = some ⟨(X.screenText s n).toArray⟩ := by
    unfold impl_Screen.f
    rw [if_pos ⟨by omega, by omega, by omega⟩, Int.toNat_natCast]
  have hsz : (⟨(X.screenText s n).toArray⟩ : ByteArray).size ≤ 100000000000 := by
    show (X.screenText s n).toArray.size ≤ _
    have := X.text_len n hn1 s.data.toList 0
    simp only [X.screenText, List.size_toArray, List.length_append, List.length_cons, List.length_nil]
    omega
  have hrun := screen_run s n hn1 (by omega) (by omega) hall
  rw [hS, Option.bind_some, conv_f _ hsz, Option.bind_some, feed_f _ hsz hrun, Option.bind_some]
  have hcl := chunks_len n hn1 s.size s.data.toList (by omega) (by omega)
  have hcs : (chunks n s.size s.data.toList).length ≤ 40 := by
    rw [hcl]
    have : (s.data.toList.length + n - 1) / n ≤ s.data.toList.length := by
      rw [Nat.div_le_iff_le_mul_add_pred (by omega)]
      have := Nat.mul_le_mul_left n (show 1 ≤ s.data.toList.length by omega)
      have h3 : n * s.data.toList.length = n * (s.data.toList.length - 1) + n := by
        obtain ⟨m, hm⟩ : ∃ m, s.data.toList.length = m + 1 := ⟨s.data.toList.length - 1, by omega⟩
        rw [hm, Nat.mul_succ]
        simp
      have h4 := Nat.le_mul_of_pos_left (s.data.toList.length - 1) (show 0 < n by omega)
      omega
    omega
  have hev : ∀ ps : List (List UInt8), (ps.flatMap pieceEvs).length ≤ 2 * ps.length := fun ps => by
    induction ps with
    | nil => simp
    | cons p ps ih =>
      simp only [List.flatMap_cons, List.length_append, List.length_cons]
      have : (pieceEvs p).length ≤ 2 := by cases p <;> simp [pieceEvs]
      omega
  have hE := hev (chunks n s.size s.data.toList)
  refine passed_l1 s n _ (by rw [List.length_map]; omega) hn1 hn40 (by omega) (chunks n s.size s.data.toList).length (by omega) ?_ (chunks n s.size s.data.toList) 0 k 0 ⟨#[]⟩ (fun p hp => (chunks_mem n hn1 _ _ (by omega) hall p hp).1) (by simp) ?_ (by omega) (by omega)
  · rw [hcl, hlen, wrap64_of ((s.size : Int) + n) (by omega) (by omega), wrap64_of _ (by omega) (by omega), Int.tdiv_eq_ediv_of_nonneg (by omega)]
    have : ((s.size : Int) + n - 1) = ((s.size + n - 1 : Nat) : Int) := by omega
    rw [this]
    exact Int.natCast_ediv _ _
  · rw [chunks_flat n hn1 _ _ (by omega)]
    rfl

theorem passed_loop (s : ByteArray) (a1 : Int) (h0 : 0 ≤ a1) (h1 : a1 ≤ 255) (hl : s.size ≤ 2147483647) : ∀ (m i k : Nat), i + m = s.size → 300 + m ≤ k → (∀ b ∈ s.data.toList.take i, Letter b) →
    laws_FnDrawPassed.l0 k s a1 (s.size : Int) (i : Int) = some true
  | 0, i, k, h, hk, hb => by
    have hlen : s.data.toList.length = s.size := data_length s
    rw [List.take_of_length_le (by omega)] at hb
    obtain rfl : i = s.size := by omega
    exact passed_check s a1 h0 h1 hl hb k (by omega)
  | m + 1, i, k + 1, h, hk, hb => by
    have hlen : s.data.toList.length = s.size := data_length s
    have hi : i < s.data.toList.length := by omega
    rw [laws_FnDrawPassed.l0, if_pos (by omega), if_pos (by omega), if_pos (by omega), bt_nat s i hi]
    by_cases c1 : ((s.data.toList[i]).toNat : Int) < 97
    · rw [if_pos c1, awake, Option.bind_some]
    rw [if_neg c1]
    by_cases c2 : ((s.data.toList[i]).toNat : Int) > 122
    · rw [if_pos c2, awake, Option.bind_some]
    rw [if_neg c2, wrap64_of _ (by omega) (by omega)]
    refine passed_loop s a1 h0 h1 hl m (i + 1) k (by omega) (by omega) (fun b hb2 => ?_)
    rw [List.take_succ_eq_append_getElem hi] at hb2
    rcases List.mem_append.1 hb2 with hb2 | hb2
    · exact hb b hb2
    · rw [List.mem_singleton.1 hb2]
      exact ⟨by omega, by omega⟩

theorem FnDrawPassed_true (s : ByteArray) (_ : s.size ≤ maxLen) (a1 : Int) (hw : (Lit.int .u8 a1).wf = true) : laws_FnDrawPassed.f (300 + s.size) s a1 = some true := by
  have h : 0 ≤ a1 ∧ a1 ≤ 255 := by simpa [Lit.wf, IntKind.min, IntKind.max, IntKind.signed, IntKind.bits] using hw
  unfold laws_FnDrawPassed.f
  by_cases hl : (s.size : Int) > 2147483647
  · rw [if_pos hl]
  · rw [if_neg hl]
    exact passed_loop s a1 h.1 h.2 (by omega) s.size 0 _ (by omega) (by omega) (by simp)
end Go.Proofs.YtgcbnegdchladaaDoor.Y
