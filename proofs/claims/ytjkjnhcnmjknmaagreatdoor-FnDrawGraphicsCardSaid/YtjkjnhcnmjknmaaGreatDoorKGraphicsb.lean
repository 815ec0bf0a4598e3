/- Texts of this claim, joined: XLawGfx XConv2 Y79D Y82D XLawGraphics Y79. Of each, what the claim uses. -/
import Derived.Test.YtjkjnhcnmjknmaaGreatDoorKGraphicsa
section
namespace Go.Proofs.YtjkjnhcnmjknmaaGreatDoor.Y
open Go.RowKit Go.Proofs.YtjkjnhcnmjknmaaGreatDoorW.PrintWords Go.Proofs.YtjkjnhcnmjknmaaGreatDoorW.PrintLast Go.Proofs.YtjkjnhcnmjknmaaGreatDoorW.PrintMore
set_option linter.unusedSimpArgs false
/-- Options, joined. -/
def joinC : List ByteArray → ByteArray
  | [] => ⟨#[]⟩
  | a :: r => r.foldl (fun x o => (x ++ (⟨#[44]⟩ : ByteArray)) ++ o) ((⟨#[]⟩ : ByteArray) ++ a)
theorem joinC_up (l : List ByteArray) (i : Nat) (hi : i < l.length) : joinC (l.take (i + 1)) = if 0 < i then (joinC (l.take i) ++ (⟨#[44]⟩ : ByteArray)) ++ l[i] else joinC (l.take i) ++ l[i] := by
  cases l with
  | nil => simp at hi
  | cons a r =>
    cases i with
    | zero => simp [joinC]
    | succ i =>
      have hi2 : i < r.length := by simpa using hi
      rw [if_pos (by omega)]
      have e : (a :: r).take (i + 1 + 1) = a :: (r.take i ++ [r[i]]) := by rw [List.take_succ_cons, List.take_succ_eq_append_getElem hi2]
      have e2 : (a :: r).take (i + 1) = a :: r.take i := List.take_succ_cons
      rw [e, e2, joinC, joinC, List.foldl_append]
      rfl
theorem joinC_size (l : List ByteArray) (hl : l.length ≤ 4) (hz : ∀ t ∈ l, t.size ≤ 8) : (joinC l).size ≤ 100 := by
  have e1 : (⟨#[44]⟩ : ByteArray).size = 1 := rfl
  have e0 : (⟨#[]⟩ : ByteArray).size = 0 := rfl
  cases l with
  | nil => show (⟨#[]⟩ : ByteArray).size ≤ 100; omega
  | cons a r =>
    have h0 := hz a (by simp)
    have : ∀ (r : List ByteArray) (x : ByteArray), (∀ t ∈ r, t.size ≤ 8) → (r.foldl (fun x o => (x ++ (⟨#[44]⟩ : ByteArray)) ++ o) x).size ≤ x.size + 9 * r.length := fun r => by
      induction r with
      | nil => intro x _; simp
      | cons b r ih =>
        intro x h
        have h1 := ih ((x ++ (⟨#[44]⟩ : ByteArray)) ++ b) (fun t ht => h t (List.mem_cons_of_mem _ ht))
        have h2 := h b (by simp)
        rw [ByteArray.size_append, ByteArray.size_append] at h1
        rw [List.foldl_cons, List.length_cons]
        omega
    have h2 := this r ((⟨#[]⟩ : ByteArray) ++ a) (fun t ht => hz t (List.mem_cons_of_mem _ ht))
    rw [ByteArray.size_append] at h2
    rw [List.length_cons] at hl
    rw [joinC]
    omega
theorem zzC_l0 (l : List ByteArray) (hl : l.length ≤ 4) (hz : ∀ t ∈ l, t.size ≤ 8) : ∀ (m i k : Nat), i + m = l.length → m < k → Q.xansi_zzJoin.l0 k (⟨#[44]⟩ : ByteArray) (joinC (l.take i)) l (l.length : Int) (i : Int) = some (joinC l)
  | 0, i, k + 1, h, hk => by rw [Q.xansi_zzJoin.l0, if_neg (by omega), List.take_of_length_le (by omega)]
  | m + 1, i, k + 1, h, hk => by
    have hi : i < l.length := by omega
    have hrd : rdOf ByteArray.empty l (i : Int) = l[i] := by simp [rdOf, hi]
    have hs := joinC_size (l.take i) (by rw [List.length_take]; omega) (fun t ht => hz t (List.mem_of_mem_take ht))
    have hs2 := hz _ (List.getElem_mem hi)
    have e1 : (⟨#[44]⟩ : ByteArray).size = 1 := rfl
    have ih := zzC_l0 l hl hz m (i + 1) k (by omega) (by omega)
    rw [joinC_up l i hi] at ih
    rw [Q.xansi_zzJoin.l0, if_pos (by omega), if_pos (by omega), if_pos (by omega), hrd, wup i (by omega)]
    by_cases h0 : 0 < i
    · rw [if_pos h0] at ih
      rw [if_pos (by omega), if_pos (by omega), if_pos (by omega)]
      exact ih
    · rw [if_neg h0] at ih
      rw [if_neg (by omega), if_pos (by omega)]
      exact ih
theorem zzC_f (l : List ByteArray) (hl : l.length ≤ 4) (hz : ∀ t ∈ l, t.size ≤ 8) : Q.xansi_zzJoin.f 10 l ⟨#[44]⟩ = some (joinC l) := by
  unfold Q.xansi_zzJoin.f
  exact zzC_l0 l hl hz l.length 0 10 (by omega) (by omega)
def PBy (b : UInt8) : Prop := 32 ≤ b.toNat ∧ b.toNat ≤ 126
theorem joinC_bytes (l : List ByteArray) (h : ∀ t ∈ l, ∀ b ∈ t.data.toList, PBy b) : ∀ b ∈ (joinC l).data.toList, PBy b := by
  have app : ∀ x y : ByteArray, (∀ b ∈ x.data.toList, PBy b) → (∀ b ∈ y.data.toList, PBy b) → ∀ b ∈ (x ++ y).data.toList, PBy b := fun x y hx hy b hb => by
    rw [ByteArray.data_append, Array.toList_append] at hb
    rcases List.mem_append.1 hb with hb | hb
    · exact hx b hb
    · exact hy b hb
  have em : ∀ b ∈ (⟨#[]⟩ : ByteArray).data.toList, PBy b := fun b hb => by simp at hb
  have co : ∀ b ∈ (⟨#[44]⟩ : ByteArray).data.toList, PBy b := fun b hb => by
    have : b = 44 := by simpa using hb
    subst this
    exact ⟨by decide, by decide⟩
  cases l with
  | nil => exact em
  | cons a r =>
    have : ∀ (r : List ByteArray) (x : ByteArray), (∀ t ∈ r, ∀ b ∈ t.data.toList, PBy b) → (∀ b ∈ x.data.toList, PBy b) → ∀ b ∈ (r.foldl (fun x o => (x ++ (⟨#[44]⟩ : ByteArray)) ++ o) x).data.toList, PBy b := fun r => by
      induction r with
      | nil => intro x _ hx; exact hx
      | cons b r ih => intro x hr hx; exact ih _ (fun t ht => hr t (List.mem_cons_of_mem _ ht)) (app _ _ (app _ _ hx co) (hr b (by simp)))
    exact this r _ (fun t ht => h t (List.mem_cons_of_mem _ ht)) (app _ _ em (h a (by simp)))
theorem run_apc (r : List UInt8) : ∀ d : List Int, (∀ b ∈ r, PBy b) → d.length + r.length ≤ 4000 → X.run (.apc d) (nn r) = some (.apc (d ++ nums r), []) := by
  induction r with
  | nil => intro d _ _; simp [nn, nums, X.run]
  | cons b r ih =>
    intro d hb hl
    obtain ⟨b0, b1⟩ := hb b (by simp)
    have h1 : X.step (.apc d) b.toNat = some (.apc (d ++ [(b.toNat : Int)]), []) := by
      simp only [X.step]
      rw [if_pos (by omega), if_pos (by simp only [List.length_cons] at hl; omega)]
    have h2 := ih (d ++ [(b.toNat : Int)]) (fun c hc => hb c (List.mem_cons_of_mem _ hc)) (by simp only [List.length_append, List.length_cons, List.length_nil] at hl ⊢; omega)
    show X.run _ (b.toNat :: nn r) = _
    rw [X.run, h1, Option.bind_some, h2]
    simp [nums, List.append_assoc]
theorem run_dstr (cmd : Int) (ps : List Int) (cur : Int) (r : List UInt8) : ∀ d : List Int, (∀ b ∈ r, PBy b) → d.length + r.length ≤ 4000 → X.run (.dstr cmd ps cur d) (nn r) = some (.dstr cmd ps cur (d ++ nums r), []) := by
  induction r with
  | nil => intro d _ _; simp [nn, nums, X.run]
  | cons b r ih =>
    intro d hb hl
    obtain ⟨b0, b1⟩ := hb b (by simp)
    have h1 : X.step (.dstr cmd ps cur d) b.toNat = some (.dstr cmd ps cur (d ++ [(b.toNat : Int)]), []) := by
      simp only [X.step]
      rw [if_pos (by omega), if_pos (by simp only [List.length_cons] at hl; omega)]
    have h2 := ih (d ++ [(b.toNat : Int)]) (fun c hc => hb c (List.mem_cons_of_mem _ hc)) (by simp only [List.length_append, List.length_cons, List.length_nil] at hl ⊢; omega)
    show X.run _ (b.toNat :: nn r) = _
    rw [X.run, h1, Option.bind_some, h2]
    simp [nums, List.append_assoc]
theorem kitty_run (p : List UInt8) (j : ByteArray) (hp : ∀ b ∈ p, PBy b) (hp0 : p ≠ []) (hl : p.length ≤ 60) (hj : ∀ b ∈ j.data.toList, PBy b) (hz : j.size ≤ 100) :
    X.run .gr (X.nb ⟨(X.kittyT p j).toArray⟩) = some (.gr, [X.evApc (nums (71 :: (j.data.toList ++ 59 :: p))), X.evEsc 92]) := by
  have hjl : j.data.toList.length = j.size := data_length j
  have h1 : X.run .gr [27, 95] = some (.apc [], []) := by rfl
  have h2 := X.run_of h1 (run_apc (71 :: (j.data.toList ++ 59 :: p)) [] (fun b hb => by
    rcases List.mem_cons.1 hb with rfl | hb
    · exact ⟨by decide, by decide⟩
    · rcases List.mem_append.1 hb with hb | hb
      · exact hj b hb
      · rcases List.mem_cons.1 hb with rfl | hb
        · exact ⟨by decide, by decide⟩
        · exact hp b hb) (by simp only [List.length_nil, List.length_cons, List.length_append]; omega))
  have h3 : X.run (.apc ([] ++ nums (71 :: (j.data.toList ++ 59 :: p)))) [27, 92] = some (.gr, [X.evApc (nums (71 :: (j.data.toList ++ 59 :: p))), X.evEsc 92]) := by
    simp [X.run, X.step]
  have h4 := X.run_of h2 h3
  rw [X.nb_mk]
  have e : (X.kittyT p j).map UInt8.toNat = [27, 95] ++ nn (71 :: (j.data.toList ++ 59 :: p)) ++ [27, 92] := by
    unfold X.kittyT
    rw [if_neg hp0]
    simp [nn]
  rw [e, h4]
  rfl
theorem run_dnum (k : Nat) (cmd : Int) (ps : List Int) (n : Nat) (hn : n ≤ 1000009) : X.run (.dcs k cmd ps X.Miss) (X.digs n) = some (.dcs 6 cmd ps n, []) := by
  induction n using Nat.strongRecOn with
  | _ n ih =>
    by_cases h : n < 10
    · rw [X.digs_small h]
      have h1 : ¬ (64 ≤ 48 + n ∧ 48 + n ≤ 126) := by omega
      have h2 : 48 ≤ 48 + n ∧ 48 + n ≤ 57 := ⟨by omega, by omega⟩
      have h3 : (X.Miss ≤ 100000 ∨ X.Miss = X.Miss) := Or.inr rfl
      simp only [X.run, X.step, if_neg h1, if_pos h2, if_pos h3, Option.bind_some, Option.map_some, List.append_nil, X.digit, if_pos]
      simp
      omega
    · rw [X.digs_more h]
      have ih1 := ih (n / 10) (by omega) (by omega)
      have h1 : ¬ (64 ≤ 48 + n % 10 ∧ 48 + n % 10 ≤ 126) := by omega
      have h2 : 48 ≤ 48 + n % 10 ∧ 48 + n % 10 ≤ 57 := ⟨by omega, by omega⟩
      have h3 : (((n / 10 : Nat) : Int) ≤ 100000 ∨ ((n / 10 : Nat) : Int) = X.Miss) := Or.inl (by omega)
      have h4 : ¬ (((n / 10 : Nat) : Int) = X.Miss) := by unfold X.Miss; omega
      refine X.run_of ih1 (e := []) (f := []) ?_
      simp only [X.run, X.step, if_neg h1, if_pos h2, if_pos h3, Option.bind_some, Option.map_some, List.append_nil, X.digit, if_neg h4]
      simp
      omega
theorem sixel_run (a b c : Nat) (ha : a ≤ 99) (hb : b ≤ 99) (hc : c ≤ 99) (ta tb tc : ByteArray) (hta : X.nb ta = X.digs a) (htb : X.nb tb = X.digs b) (htc : X.nb tc = X.digs c) (p : List UInt8) (hp : ∀ b ∈ p, PBy b) (hl : p.length ≤ 60) :
    X.run .gr (X.nb ⟨(X.sixelT ta tb tc p).toArray⟩) = some (.gr, [X.evDcs 113 [(a : Int), (b : Int), (c : Int)] (nums p), X.evEsc 92]) := by
  have h1 : X.run .gr [27, 80] = some (.dcs 4 0 [] X.Miss, []) := by rfl
  have h2 := X.run_of h1 (run_dnum 4 0 [] a (by omega))
  have h3 : X.run (.dcs 6 0 [] (a : Int)) [59] = some (.dcs 6 0 [(a : Int)] X.Miss, []) := by simp [X.run, X.step]
  have h4 := X.run_of (X.run_of h2 h3) (run_dnum 6 0 [(a : Int)] b (by omega))
  have h5 : X.run (.dcs 6 0 [(a : Int)] (b : Int)) [59] = some (.dcs 6 0 [(a : Int), (b : Int)] X.Miss, []) := by simp [X.run, X.step]
  have h6 := X.run_of (X.run_of h4 h5) (run_dnum 6 0 [(a : Int), (b : Int)] c (by omega))
  have h7 : X.run (.dcs 6 0 [(a : Int), (b : Int)] (c : Int)) [113] = some (.dstr 113 [(a : Int), (b : Int)] (c : Int) [], []) := by simp [X.run, X.step]
  have h8 := X.run_of (X.run_of h6 h7) (run_dstr 113 [(a : Int), (b : Int)] (c : Int) p [] hp (by simp only [List.length_nil]; omega))
  have h9 : X.run (.dstr 113 [(a : Int), (b : Int)] (c : Int) ([] ++ nums p)) [27, 92] = some (.gr, [X.evDcs 113 [(a : Int), (b : Int), (c : Int)] (nums p), X.evEsc 92]) := by
    simp [X.run, X.step, X.closed]
  have h10 := X.run_of h8 h9
  rw [X.nb_mk]
  have e : (X.sixelT ta tb tc p).map UInt8.toNat = [27, 80] ++ X.digs a ++ [59] ++ X.digs b ++ [59] ++ X.digs c ++ [113] ++ nn p ++ [27, 92] := by
    unfold X.sixelT
    rw [← hta, ← htb, ← htc]
    simp [nn, X.nb]
  rw [e]
  simpa using h10
end Go.Proofs.YtjkjnhcnmjknmaaGreatDoor.Y
end
section
namespace Go.Proofs.YtjkjnhcnmjknmaaGreatDoorW.PrintWords
open Go.RowKit
theorem conv_step {P : Program} {ops : Array Oper} {o : Oper} {a : Act} {Q : Exit → Act → World → Prop} {Kc : Act → World → Prop} {W : World} (T U E : TypeId) {x : Operand}
    (hw : Region.wanted o (yielded ops a.tmps) = true) (ho : o.op = .convert T U x) (hT : P.underlying T = some .string) (hU : P.underlying U = some (.slice E)) (hE : P.underlying E = some (.int .u8))
    (s : ByteArray) (hx : a.eval x = .string s) {r : List Int} (h : gosem_conv.f s = some r)
    (k : ∀ e w', (∃ v0_ : Value, e = Ending.returned v0_ ∧ Kd.V (Kd.int .u8) E w' W.heap.size (fun k_ => (W.heap.size ≤ k_)) v0_ r ∧ Below W.heap.size W w') → ∃ v, e = Ending.returned v ∧ Kc (a.put o.dst v) w') :
    if Region.wanted o (yielded ops a.tmps) = true then Oper.wp P o a W Kc Q else Kc (a.put o.dst undef) W := by
  unfold gosem_conv.f at h
  split at h
  · rename_i hs
    obtain rfl := Option.some.inj h
    have hlen : (bytesOf s).length = s.size := bytesOf_length s
    have hcap : s.size ≤ grownCap W s.size 0 E := grownCap_ge _ _ _ _
    have hF : Kd.F (Kd.int .u8) (Lib.bytesWorld W E s) (fun k_ => (W.heap.size ≤ k_)) (some ⟨W.heap.size, 0, none⟩) (bytesOf s).length (bytesOf s) := fun W' hW => by
      have hb : W'.heap[W.heap.size]? = (Lib.bytesWorld W E s).heap[W.heap.size]? := hW W.heap.size (Nat.le_refl _) (by rw [Lib.bytesWorld_size]; omega)
      obtain ⟨h1, h2, h3⟩ := bytes_reads W E s (by omega)
      rw [hlen]
      refine Kd.C_of_reads (d := (0 : Int)) ⟨h1, h2, fun hn => ?_⟩
      obtain ⟨ad, he, hc⟩ := h3 hn
      refine ⟨ad, he, fun j hj => ?_⟩
      injection he with he
      subst he
      rw [World.cell?_of_block (w := Lib.bytesWorld W E s) (by rw [add_plain]; exact hb)]
      exact hc j hj
    obtain ⟨v, hv, hk⟩ := k (.returned (.slice (some ⟨W.heap.size, 0, none⟩) (bytesOf s).length (grownCap W s.size 0 E))) (Lib.bytesWorld W E s) ⟨_, rfl, Kd.V_mk (by rw [hlen]; exact hcap) hF, bytes_below (Below.refl _ _) (Nat.le_refl _) E s⟩
    injection hv with hv
    subst hv
    refine event_step hw ?_ hk
    rw [hlen]
    unfold execOp
    simp [ho, hx, print_bytes T U E hT hU hE s W]
  · cases h
end Go.Proofs.YtjkjnhcnmjknmaaGreatDoorW.PrintWords
end
section
namespace Go.Proofs.YtjkjnhcnmjknmaaGreatDoor.Y
open Go.RowKit Go.Proofs.YtjkjnhcnmjknmaaGreatDoorW.PrintWords Go.Proofs.YtjkjnhcnmjknmaaGreatDoorW.PrintLast Go.Proofs.YtjkjnhcnmjknmaaGreatDoorW.PrintMore
attribute [local go_sem] max2_int min2_int max_two min_two max_three min_three max_four min_four   -- for this text's walks alone
set_option linter.unusedVariables false
set_option linter.unusedSimpArgs false
/-! ### laws_zzFits1: function 21 -/
def laws_zzFits1.l0 : Nat → List ByteArray → Int → Int → Option (Bool)
  | 0, _, _, _ => none
  | k + 1, x8, x9, x10 => if x10 < x9 then (if 0 ≤ x10 then (if x10 < (x8.length : Int) then (if ((rdOf ByteArray.empty x8 x10).size : Int) > 2147483647 then (some false) else (laws_zzFits1.l0 k x8 x9 (wrap64 (x10 + 1)))) else (none)) else (none)) else (some true)
def laws_zzFits1.f (k : Nat) (l0 : List ByteArray) : Option (Bool) := if (l0.length : Int) > 2147483647 then (some false) else (laws_zzFits1.l0 k l0 (l0.length : Int) 0)
theorem laws_zzFits1.mono_l : ∀ k, (∀ y0 y1 y2, LeO (laws_zzFits1.l0 k y0 y1 y2) (laws_zzFits1.l0 (k + 1) y0 y1 y2))
  | 0 => fun _ _ _ r h => by simp [laws_zzFits1.l0] at h
  | k + 1 => by
    have ih0 := laws_zzFits1.mono_l k
    · intro y0 y1 y2
      unfold laws_zzFits1.l0
      repeat' first
      | (with_reducible exact ih0 _ _ _)
      | (with_reducible exact LeO.refl _)
      | (with_reducible exact LeO.none _)
      | (with_reducible refine LeO.ite ?_ ?_)
      | (with_reducible refine LeO.bind ?_ (fun _ => ?_))
      | exact ih0 _ _ _
      | exact LeO.none _
      | refine LeO.ite ?_ ?_
      | refine LeO.bind ?_ (fun _ => ?_)
theorem laws_zzFits1.mono : ∀ a0 k, LeO (laws_zzFits1.f k a0) (laws_zzFits1.f (k + 1) a0) := by
  intro a0 k
  have ih0 := laws_zzFits1.mono_l k
  unfold laws_zzFits1.f
  repeat' first
      | (with_reducible exact ih0 _ _ _)
      | (with_reducible exact LeO.refl _)
      | (with_reducible exact LeO.none _)
      | (with_reducible refine LeO.ite ?_ ?_)
      | (with_reducible refine LeO.bind ?_ (fun _ => ?_))
      | exact ih0 _ _ _
      | exact LeO.none _
      | refine LeO.ite ?_ ?_
      | refine LeO.bind ?_ (fun _ => ?_)
end Go.Proofs.YtjkjnhcnmjknmaaGreatDoor.Y
end
section
namespace Go.Proofs.YtjkjnhcnmjknmaaGreatDoor.Y
open Go.RowKit Go.Proofs.YtjkjnhcnmjknmaaGreatDoorW.PrintWords Go.Proofs.YtjkjnhcnmjknmaaGreatDoorW.PrintLast Go.Proofs.YtjkjnhcnmjknmaaGreatDoorW.PrintMore
attribute [local go_sem] max2_int min2_int max_two min_two max_three min_three max_four min_four   -- for this text's walks alone
set_option linter.unusedVariables false
set_option linter.unusedSimpArgs false
/-! ### laws_FnDrawGraphics: function 5 -/
mutual
def laws_FnDrawGraphics.j0 : Nat → ByteArray → List ByteArray → Bool → Int → Int → Int → Option (Bool)
  | 0, _, _, _, _, _, _ => none
  | k + 1, x0, x1, x21, x332000, x332001, x332002 => if x21 = true then (some true) else ((spec_DrawWord.f k x0 60).bind fun t333 => (if t333 = true then (laws_FnDrawGraphics.j1 k x0 x1 (decide ((x1.length : Int) > 4)) x332000 x332001 x332002) else (laws_FnDrawGraphics.j1 k x0 x1 true x332000 x332001 x332002)))
def laws_FnDrawGraphics.j1 : Nat → ByteArray → List ByteArray → Bool → Int → Int → Int → Option (Bool)
  | 0, _, _, _, _, _, _ => none
  | k + 1, x0, x1, x29, x332000, x332001, x332002 => if x29 = true then ((laws_drawAwake.f).bind fun t334 => (some t334)) else (laws_FnDrawGraphics.l0 k x0 x1 (⟨#[]⟩ : ByteArray) x1 (x1.length : Int) 0 x332000 x332001 x332002)
def laws_FnDrawGraphics.l0 : Nat → ByteArray → List ByteArray → ByteArray → List ByteArray → Int → Int → Int → Int → Int → Option (Bool)
  | 0, _, _, _, _, _, _, _, _, _ => none
  | k + 1, x0, x1, x7, x31, x32, x33, x332000, x332001, x332002 => if x33 < x32 then (if 0 ≤ x33 then (if x33 < (x31.length : Int) then ((spec_DrawWord.f k (rdOf ByteArray.empty x31 x33) 8).bind fun t336 => (if t336 = true then (if x33 > 0 then (if x7.size + 1 ≤ 9223372036854775807 then (if x7.size + 1 + (rdOf ByteArray.empty x31 x33).size ≤ 9223372036854775807 then (laws_FnDrawGraphics.l0 k x0 x1 ((x7 ++ (⟨#[44]⟩ : ByteArray)) ++ (rdOf ByteArray.empty x31 x33)) x31 x32 (wrap64 (x33 + 1)) x332000 x332001 x332002) else (none)) else (none)) else (if x7.size + (rdOf ByteArray.empty x31 x33).size ≤ 9223372036854775807 then (laws_FnDrawGraphics.l0 k x0 x1 (x7 ++ (rdOf ByteArray.empty x31 x33)) x31 x32 (wrap64 (x33 + 1)) x332000 x332001 x332002) else (none))) else ((laws_drawAwake.f).bind fun t337 => (some t337)))) else (none)) else (none)) else ((gosem_conv.f x0).bind fun t338 => ((impl_Kitty.f t338 x1).bind fun t341 => ((gosem_conv.f t341).bind fun t342 => ((impl_Feed.f 32 4096 t342).bind fun t345 => (if (t345.length : Int) = 0 then (laws_FnDrawGraphics.j3 k x0 true x332000 x332001 x332002) else (if 0 < (t345.length : Int) then (if ((rd_T55 t345 0).f0) = 7 then (if 1 + x7.size ≤ 9223372036854775807 then (if 1 + x7.size + 1 ≤ 9223372036854775807 then (if 1 + x7.size + 1 + x0.size ≤ 9223372036854775807 then (laws_FnDrawGraphics.j3 k x0 ((strOfNums ((rd_T55 t345 0).f5)).toList != ((((⟨#[71]⟩ : ByteArray) ++ x7) ++ (⟨#[59]⟩ : ByteArray)) ++ x0).toList) x332000 x332001 x332002) else (none)) else (none)) else (none)) else (laws_FnDrawGraphics.j3 k x0 true x332000 x332001 x332002)) else (none)))))))
def laws_FnDrawGraphics.j3 : Nat → ByteArray → Bool → Int → Int → Int → Option (Bool)
  | 0, _, _, _, _, _ => none
  | k + 1, x0, x78, x332000, x332001, x332002 => if x78 = true then (some false) else ((some (([wrap64 ((wrap64 (Int.tmod x332000 99)) + 1), wrap64 ((wrap64 (Int.tmod x332001 99)) + 1), wrap64 ((wrap64 (Int.tmod x332002 99)) + 1)] : List Int) : List Int)).bind fun y350 => (if 0 < (y350.length : Int) then (if 1 < (y350.length : Int) then (if 2 < (y350.length : Int) then ((gosem_conv.f x0).bind fun t356 => ((impl_Sixel.f (rd y350 0) (rd y350 1) (rd y350 2) t356).bind fun t359 => ((gosem_conv.f t359).bind fun t360 => ((impl_Feed.f 32 4096 t360).bind fun t363 => (if (t363.length : Int) = 0 then (laws_FnDrawGraphics.j4 k y350 t363 true) else (if 0 < (t363.length : Int) then (if ((rd_T55 t363 0).f0) = 4 then (if ((rd_T55 t363 0).f3) = 113 then (if (strOfNums ((rd_T55 t363 0).f5)).toList = x0.toList then (laws_FnDrawGraphics.j4 k y350 t363 ((((rd_T55 t363 0).f4).length : Int) != 3)) else (laws_FnDrawGraphics.j4 k y350 t363 true)) else (laws_FnDrawGraphics.j4 k y350 t363 true)) else (laws_FnDrawGraphics.j4 k y350 t363 true)) else (none))))))) else (none)) else (none)) else (none)))
def laws_FnDrawGraphics.j4 : Nat → List Int → List (S55) → Bool → Option (Bool)
  | 0, _, _, _ => none
  | k + 1, x11, x12, x142 => if x142 = true then (some false) else (laws_FnDrawGraphics.l1 k x11 x12 (x11.length : Int) 0)
def laws_FnDrawGraphics.l1 : Nat → List Int → List (S55) → Int → Int → Option (Bool)
  | 0, _, _, _, _ => none
  | k + 1, x11, x12, x144, x145 => if x145 < x144 then (if 0 < (x12.length : Int) then ((spec_DrawParam.f ((rd_T55 x12 0).f4) x145 (-1)).bind fun t371 => (if 0 ≤ x145 then (if x145 < (x11.length : Int) then (if t371 = (rd x11 x145) then (laws_FnDrawGraphics.l1 k x11 x12 x144 (wrap64 (x145 + 1))) else (some false)) else (none)) else (none))) else (none)) else ((laws_drawAwake.f).bind fun t373 => (some t373))
end
def laws_FnDrawGraphics.f (k : Nat) (a0 : ByteArray) (l1 : List ByteArray) (a2_0 : Int) (a2_1 : Int) (a2_2 : Int) : Option (Bool) := if (a0.size : Int) > 2147483647 then (laws_FnDrawGraphics.j0 k a0 l1 true a2_0 a2_1 a2_2) else ((laws_zzFits1.f k l1).bind fun t332 => (laws_FnDrawGraphics.j0 k a0 l1 (!t332) a2_0 a2_1 a2_2))
theorem laws_FnDrawGraphics.mono_l : ∀ k, (∀ y0 y1 y2 y3 y4 y5, LeO (laws_FnDrawGraphics.j0 k y0 y1 y2 y3 y4 y5) (laws_FnDrawGraphics.j0 (k + 1) y0 y1 y2 y3 y4 y5)) ∧ (∀ y0 y1 y2 y3 y4 y5, LeO (laws_FnDrawGraphics.j1 k y0 y1 y2 y3 y4 y5) (laws_FnDrawGraphics.j1 (k + 1) y0 y1 y2 y3 y4 y5)) ∧ (∀ y0 y1 y2 y3 y4 y5 y6 y7 y8, LeO (laws_FnDrawGraphics.l0 k y0 y1 y2 y3 y4 y5 y6 y7 y8) (laws_FnDrawGraphics.l0 (k + 1) y0 y1 y2 y3 y4 y5 y6 y7 y8)) ∧ (∀ y0 y1 y2 y3 y4, LeO (laws_FnDrawGraphics.j3 k y0 y1 y2 y3 y4) (laws_FnDrawGraphics.j3 (k + 1) y0 y1 y2 y3 y4)) ∧ (∀ y0 y1 y2, LeO (laws_FnDrawGraphics.j4 k y0 y1 y2) (laws_FnDrawGraphics.j4 (k + 1) y0 y1 y2)) ∧ (∀ y0 y1 y2 y3, LeO (laws_FnDrawGraphics.l1 k y0 y1 y2 y3) (laws_FnDrawGraphics.l1 (k + 1) y0 y1 y2 y3))
  | 0 => ⟨fun _ _ _ _ _ _ r h => by simp [laws_FnDrawGraphics.j0] at h, fun _ _ _ _ _ _ r h => by simp [laws_FnDrawGraphics.j1] at h, fun _ _ _ _ _ _ _ _ _ r h => by simp [laws_FnDrawGraphics.l0] at h, fun _ _ _ _ _ r h => by simp [laws_FnDrawGraphics.j3] at h, fun _ _ _ r h => by simp [laws_FnDrawGraphics.j4] at h, fun _ _ _ _ r h => by simp [laws_FnDrawGraphics.l1] at h⟩
  | k + 1 => by
    obtain ⟨ih0, ih1, ih2, ih3, ih4, ih5⟩ := laws_FnDrawGraphics.mono_l k
    refine ⟨?_, ?_, ?_, ?_, ?_, ?_⟩
    · intro y0 y1 y2 y3 y4 y5
      unfold laws_FnDrawGraphics.j0
      repeat' first
      | (with_reducible exact ih0 _ _ _ _ _ _)
      | (with_reducible exact ih1 _ _ _ _ _ _)
      | (with_reducible exact ih2 _ _ _ _ _ _ _ _ _)
      | (with_reducible exact ih3 _ _ _ _ _)
      | (with_reducible exact ih4 _ _ _)
      | (with_reducible exact ih5 _ _ _ _)
      | (with_reducible exact laws_zzFits1.mono _ _)
      | (with_reducible exact spec_DrawWord.mono _ _ _)
      | (with_reducible exact LeO.refl _)
      | (with_reducible exact LeO.none _)
      | (with_reducible refine LeO.ite ?_ ?_)
      | (with_reducible refine LeO.bind ?_ (fun _ => ?_))
      | exact ih0 _ _ _ _ _ _
      | exact ih1 _ _ _ _ _ _
      | exact ih2 _ _ _ _ _ _ _ _ _
      | exact ih3 _ _ _ _ _
      | exact ih4 _ _ _
      | exact ih5 _ _ _ _
      | exact laws_zzFits1.mono _ _
      | exact spec_DrawWord.mono _ _ _
      | exact LeO.none _
      | refine LeO.ite ?_ ?_
      | refine LeO.bind ?_ (fun _ => ?_)
    · intro y0 y1 y2 y3 y4 y5
      unfold laws_FnDrawGraphics.j1
      repeat' first
      | (with_reducible exact ih0 _ _ _ _ _ _)
      | (with_reducible exact ih1 _ _ _ _ _ _)
      | (with_reducible exact ih2 _ _ _ _ _ _ _ _ _)
      | (with_reducible exact ih3 _ _ _ _ _)
      | (with_reducible exact ih4 _ _ _)
      | (with_reducible exact ih5 _ _ _ _)
      | (with_reducible exact laws_zzFits1.mono _ _)
      | (with_reducible exact spec_DrawWord.mono _ _ _)
      | (with_reducible exact LeO.refl _)
      | (with_reducible exact LeO.none _)
      | (with_reducible refine LeO.ite ?_ ?_)
      | (with_reducible refine LeO.bind ?_ (fun _ => ?_))
      | exact ih0 _ _ _ _ _ _
      | exact ih1 _ _ _ _ _ _
      | exact ih2 _ _ _ _ _ _ _ _ _
      | exact ih3 _ _ _ _ _
      | exact ih4 _ _ _
      | exact ih5 _ _ _ _
      | exact laws_zzFits1.mono _ _
      | exact spec_DrawWord.mono _ _ _
      | exact LeO.none _
      | refine LeO.ite ?_ ?_
      | refine LeO.bind ?_ (fun _ => ?_)
    · intro y0 y1 y2 y3 y4 y5 y6 y7 y8
      unfold laws_FnDrawGraphics.l0
      repeat' first
      | (with_reducible exact ih0 _ _ _ _ _ _)
      | (with_reducible exact ih1 _ _ _ _ _ _)
      | (with_reducible exact ih2 _ _ _ _ _ _ _ _ _)
      | (with_reducible exact ih3 _ _ _ _ _)
      | (with_reducible exact ih4 _ _ _)
      | (with_reducible exact ih5 _ _ _ _)
      | (with_reducible exact laws_zzFits1.mono _ _)
      | (with_reducible exact spec_DrawWord.mono _ _ _)
      | (with_reducible exact LeO.refl _)
      | (with_reducible exact LeO.none _)
      | (with_reducible refine LeO.ite ?_ ?_)
      | (with_reducible refine LeO.bind ?_ (fun _ => ?_))
      | exact ih0 _ _ _ _ _ _
      | exact ih1 _ _ _ _ _ _
      | exact ih2 _ _ _ _ _ _ _ _ _
      | exact ih3 _ _ _ _ _
      | exact ih4 _ _ _
      | exact ih5 _ _ _ _
      | exact laws_zzFits1.mono _ _
      | exact spec_DrawWord.mono _ _ _
      | exact LeO.none _
      | refine LeO.ite ?_ ?_
      | refine LeO.bind ?_ (fun _ => ?_)
    · intro y0 y1 y2 y3 y4
      unfold laws_FnDrawGraphics.j3
      repeat' first
      | (with_reducible exact ih0 _ _ _ _ _ _)
      | (with_reducible exact ih1 _ _ _ _ _ _)
      | (with_reducible exact ih2 _ _ _ _ _ _ _ _ _)
      | (with_reducible exact ih3 _ _ _ _ _)
      | (with_reducible exact ih4 _ _ _)
      | (with_reducible exact ih5 _ _ _ _)
      | (with_reducible exact laws_zzFits1.mono _ _)
      | (with_reducible exact spec_DrawWord.mono _ _ _)
      | (with_reducible exact LeO.refl _)
      | (with_reducible exact LeO.none _)
      | (with_reducible refine LeO.ite ?_ ?_)
      | (with_reducible refine LeO.bind ?_ (fun _ => ?_))
      | exact ih0 _ _ _ _ _ _
      | exact ih1 _ _ _ _ _ _
      | exact ih2 _ _ _ _ _ _ _ _ _
      | exact ih3 _ _ _ _ _
      | exact ih4 _ _ _
      | exact ih5 _ _ _ _
      | exact laws_zzFits1.mono _ _
      | exact spec_DrawWord.mono _ _ _
      | exact LeO.none _
      | refine LeO.ite ?_ ?_
      | refine LeO.bind ?_ (fun _ => ?_)
    · intro y0 y1 y2
      unfold laws_FnDrawGraphics.j4
      repeat' first
      | (with_reducible exact ih0 _ _ _ _ _ _)
      | (with_reducible exact ih1 _ _ _ _ _ _)
      | (with_reducible exact ih2 _ _ _ _ _ _ _ _ _)
      | (with_reducible exact ih3 _ _ _ _ _)
      | (with_reducible exact ih4 _ _ _)
      | (with_reducible exact ih5 _ _ _ _)
      | (with_reducible exact laws_zzFits1.mono _ _)
      | (with_reducible exact spec_DrawWord.mono _ _ _)
      | (with_reducible exact LeO.refl _)
      | (with_reducible exact LeO.none _)
      | (with_reducible refine LeO.ite ?_ ?_)
      | (with_reducible refine LeO.bind ?_ (fun _ => ?_))
      | exact ih0 _ _ _ _ _ _
      | exact ih1 _ _ _ _ _ _
      | exact ih2 _ _ _ _ _ _ _ _ _
      | exact ih3 _ _ _ _ _
      | exact ih4 _ _ _
      | exact ih5 _ _ _ _
      | exact laws_zzFits1.mono _ _
      | exact spec_DrawWord.mono _ _ _
      | exact LeO.none _
      | refine LeO.ite ?_ ?_
      | refine LeO.bind ?_ (fun _ => ?_)
    · intro y0 y1 y2 y3
      unfold laws_FnDrawGraphics.l1
      repeat' first
      | (with_reducible exact ih0 _ _ _ _ _ _)
      | (with_reducible exact ih1 _ _ _ _ _ _)
      | (with_reducible exact ih2 _ _ _ _ _ _ _ _ _)
      | (with_reducible exact ih3 _ _ _ _ _)
      | (with_reducible exact ih4 _ _ _)
      | (with_reducible exact ih5 _ _ _ _)
      | (with_reducible exact laws_zzFits1.mono _ _)
      | (with_reducible exact spec_DrawWord.mono _ _ _)
      | (with_reducible exact LeO.refl _)
      | (with_reducible exact LeO.none _)
      | (with_reducible refine LeO.ite ?_ ?_)
      | (with_reducible refine LeO.bind ?_ (fun _ => ?_))
      | exact ih0 _ _ _ _ _ _
      | exact ih1 _ _ _ _ _ _
      | exact ih2 _ _ _ _ _ _ _ _ _
      | exact ih3 _ _ _ _ _
      | exact ih4 _ _ _
      | exact ih5 _ _ _ _
      | exact laws_zzFits1.mono _ _
      | exact spec_DrawWord.mono _ _ _
      | exact LeO.none _
      | refine LeO.ite ?_ ?_
      | refine LeO.bind ?_ (fun _ => ?_)
theorem laws_FnDrawGraphics.mono : ∀ a0 a1 a2 a3 a4 k, LeO (laws_FnDrawGraphics.f k a0 a1 a2 a3 a4) (laws_FnDrawGraphics.f (k + 1) a0 a1 a2 a3 a4) := by
  intro a0 a1 a2 a3 a4 k
  obtain ⟨ih0, ih1, ih2, ih3, ih4, ih5⟩ := laws_FnDrawGraphics.mono_l k
  unfold laws_FnDrawGraphics.f
  repeat' first
      | (with_reducible exact ih0 _ _ _ _ _ _)
      | (with_reducible exact ih1 _ _ _ _ _ _)
      | (with_reducible exact ih2 _ _ _ _ _ _ _ _ _)
      | (with_reducible exact ih3 _ _ _ _ _)
      | (with_reducible exact ih4 _ _ _)
      | (with_reducible exact ih5 _ _ _ _)
      | (with_reducible exact laws_zzFits1.mono _ _)
      | (with_reducible exact spec_DrawWord.mono _ _ _)
      | (with_reducible exact LeO.refl _)
      | (with_reducible exact LeO.none _)
      | (with_reducible refine LeO.ite ?_ ?_)
      | (with_reducible refine LeO.bind ?_ (fun _ => ?_))
      | exact ih0 _ _ _ _ _ _
      | exact ih1 _ _ _ _ _ _
      | exact ih2 _ _ _ _ _ _ _ _ _
      | exact ih3 _ _ _ _ _
      | exact ih4 _ _ _
      | exact ih5 _ _ _ _
      | exact laws_zzFits1.mono _ _
      | exact spec_DrawWord.mono _ _ _
      | exact LeO.none _
      | refine LeO.ite ?_ ?_
      | refine LeO.bind ?_ (fun _ => ?_)
def laws_FnDrawGraphics.T19 : Bool × List (List Nat × List Nat) := (true, [([], []), ([0], [0]), ([1], [1]), ([], []), ([3], [3]), ([4], [4]), ([], []), ([6], [6]), ([7], [7]), ([], []), ([9], [9]), ([2, 5, 8, 10], [2, 5, 8, 10]), ([11], [11]), ([12, 11], [12]), ([13, 13, 0, 1, 2, 3, 4, 5, 6, 7, 8, 9, 10, 11, 12, 13], [13])])
def laws_FnDrawGraphics.B19 : List Nat := [0, 1, 3, 0, 8, 24, 0, 64, 192, 0, 512, 2047, 4095, 8191, 16383]
theorem laws_FnDrawGraphics.tab19 : rtab .any (opsOf Tryz.f5 19) = laws_FnDrawGraphics.T19 := by kernel_rfl
theorem laws_FnDrawGraphics.bits19 : waitsOk laws_FnDrawGraphics.T19.2 laws_FnDrawGraphics.B19 = true := by kernel_rfl
def laws_FnDrawGraphics.T25 : Bool × List (List Nat × List Nat) := (true, [([], []), ([0], [0]), ([1], [1]), ([2], [2]), ([], []), ([3, 4], [3, 4]), ([], []), ([], []), ([6, 7], [6, 7]), ([8], [8]), ([5, 9], [5, 9])])
def laws_FnDrawGraphics.B25 : List Nat := [0, 1, 3, 7, 0, 31, 0, 0, 192, 448, 1023]
theorem laws_FnDrawGraphics.tab25 : rtab .any (opsOf Tryz.f5 25) = laws_FnDrawGraphics.T25 := by kernel_rfl
theorem laws_FnDrawGraphics.bits25 : waitsOk laws_FnDrawGraphics.T25.2 laws_FnDrawGraphics.B25 = true := by kernel_rfl
end Go.Proofs.YtjkjnhcnmjknmaaGreatDoor.Y
end
section
namespace Go.Proofs.YtjkjnhcnmjknmaaGreatDoor.Y
open Go.RowKit Go.Proofs.YtjkjnhcnmjknmaaGreatDoorW.PrintWords Go.Proofs.YtjkjnhcnmjknmaaGreatDoorW.PrintLast Go.Proofs.YtjkjnhcnmjknmaaGreatDoorW.PrintMore
set_option linter.unusedSimpArgs false
theorem toB_bytes (s : ByteArray) : toB (bytesOf s) = s.data.toList := by
  unfold toB bytesOf
  rw [List.map_map]
  conv => rhs; rw [← List.map_id s.data.toList]
  apply List.map_congr_left
  intro b _
  show UInt8.ofNat ((b.toNat : Int)).toNat = b
  simp
theorem bytes_in (s : ByteArray) : ∀ x ∈ bytesOf s, 0 ≤ x ∧ x ≤ 255 := fun x hx => by
  obtain ⟨b, _, rfl⟩ := List.mem_map.1 hx
  have := b.toNat_lt
  omega
theorem pby {n : Nat} {s : ByteArray} (h : WText n s) : ∀ b ∈ s.data.toList, PBy b := fun b hb => ⟨(h.1 b hb).1, (h.1 b hb).2.1⟩
theorem param3 (ps : List Int) (i : Nat) (hi : i < ps.length) (h : ∀ p ∈ ps, 1 ≤ p ∧ p ≤ 99) : spec_DrawParam.f ps (i : Int) (-1) = some ps[i] := by
  obtain ⟨h0, h1⟩ := h _ (List.getElem_mem hi)
  exact param_f ps i (-1) hi (by omega) (by omega)
theorem gfx_l1 (ns : List Int) (hn : ns.length = 3) (hr : ∀ p ∈ ns, 1 ≤ p ∧ p ≤ 99) (E : List S55) (hE : 0 < E.length) (h4 : (rd_T55 E 0).f4 = ns) : ∀ (m i k : Nat), i + m = 3 → m < k →
    laws_FnDrawGraphics.l1 k ns E (ns.length : Int) (i : Int) = some true
  | 0, i, k + 1, h, hk => by rw [laws_FnDrawGraphics.l1, if_neg (by omega), awake, Option.bind_some]
  | m + 1, i, k + 1, h, hk => by
    have hi : i < ns.length := by omega
    have hrd : rd ns (i : Int) = ns[i] := by simp [rd, hi]
    rw [laws_FnDrawGraphics.l1, if_pos (by omega), if_pos (by omega), h4, param3 ns i hi hr, Option.bind_some, if_pos (by omega), if_pos (by omega), hrd, if_pos rfl, wup i (by omega)]
    exact gfx_l1 ns hn hr E hE h4 m (i + 1) k (by omega) (by omega)
theorem num_of (x : Int) (h0 : 0 ≤ x) : ∃ n : Nat, wrap64 (wrap64 (Int.tmod x 99) + 1) = (n : Int) ∧ 1 ≤ n ∧ n ≤ 99 := by
  refine ⟨(x % 99).toNat + 1, ?_, by omega, by omega⟩
  rw [Int.tmod_eq_emod_of_nonneg h0, wrap64_of (x % 99) (by omega) (by omega), wrap64_of _ (by omega) (by omega)]
  omega
theorem itoa3 (n : Nat) (h : n ≤ 99) : ∃ t, strconv_Itoa.f (n : Int) = some t ∧ X.nb t = X.digs n ∧ t.size ≤ 2 := by
  obtain ⟨t, q1, q2, q3⟩ := X.itoa_text n (by omega)
  exact ⟨t, q1, q2, by rw [q3]; exact X.digs_pow 1 n (by omega)⟩
theorem gfx_j3 (s : ByteArray) (hs : WText 60 s) (x y z : Int) (hx : 0 ≤ x) (hy : 0 ≤ y) (hz : 0 ≤ z) (k : Nat) (hk : 1000 ≤ k) : laws_FnDrawGraphics.j3 k s false x y z = some true := by
  obtain ⟨k, rfl⟩ : ∃ k', k = k' + 2 := ⟨k - 2, by omega⟩
  obtain ⟨a, ea, a1, a2⟩ := num_of x hx
  obtain ⟨b, eb, b1, b2⟩ := num_of y hy
  obtain ⟨c, ec, c1, c2⟩ := num_of z hz
  obtain ⟨ta, p1, p2, p3⟩ := itoa3 a a2
  obtain ⟨tb, q1, q2, q3⟩ := itoa3 b b2
  obtain ⟨tc, r1, r2, r3⟩ := itoa3 c c2
  have hs1 := hs.2.1
  have hs2 := hs.2.2
  have hlen : s.data.toList.length = s.size := data_length s
  have hbl : (bytesOf s).length = s.size := bytesOf_length s
  have hrun := sixel_run a b c a2 b2 c2 ta tb tc p2 q2 r2 s.data.toList (pby hs) (by omega)
  have hS : impl_Sixel.f (a : Int) (b : Int) (c : Int) (bytesOf s) = some ⟨(X.sixelT ta tb tc s.data.toList).toArray⟩ := by
    unfold impl_Sixel.f
    rw [if_pos ⟨bytes_in s, by omega, by omega, by omega, by omega, by omega⟩, p1, Option.bind_some, q1, Option.bind_some, r1, Option.bind_some, if_pos ⟨by omega, by omega, by omega⟩, toB_bytes]
  have hsz : (⟨(X.sixelT ta tb tc s.data.toList).toArray⟩ : ByteArray).size ≤ 100000 := by
    have na : ta.data.toList.length = ta.size := data_length ta
    have nb : tb.data.toList.length = tb.size := data_length tb
    have nc : tc.data.toList.length = tc.size := data_length tc
    show (X.sixelT ta tb tc s.data.toList).toArray.size ≤ _
    simp only [X.sixelT, List.size_toArray, List.length_append, List.length_cons, List.length_nil]
    omega
  rw [laws_FnDrawGraphics.j3, if_neg (by simp), ea, eb, ec, Option.bind_some]
  have n3 : (([(a : Int), (b : Int), (c : Int)] : List Int).length : Int) = 3 := rfl
  have g0 : rd [(a : Int), (b : Int), (c : Int)] 0 = (a : Int) := rfl
  have g1 : rd [(a : Int), (b : Int), (c : Int)] 1 = (b : Int) := rfl
  have g2 : rd [(a : Int), (b : Int), (c : Int)] 2 = (c : Int) := rfl
  rw [n3, if_pos (by omega), if_pos (by omega), if_pos (by omega), conv_f s (by omega), Option.bind_some, g0, g1, g2, hS, Option.bind_some, conv_f _ (by omega), Option.bind_some, feed_f _ (by omega) hrun, Option.bind_some]
  generalize hE : ([X.evDcs 113 [(a : Int), (b : Int), (c : Int)] (nums s.data.toList), X.evEsc 92].map X.toS) = E
  have hl : E.length = 2 := by rw [← hE]; rfl
  have e0 : (rd_T55 E 0) = X.toS (X.evDcs 113 [(a : Int), (b : Int), (c : Int)] (nums s.data.toList)) := by rw [← hE]; rfl
  have f0 : (X.toS (X.evDcs 113 [(a : Int), (b : Int), (c : Int)] (nums s.data.toList))).f0 = 4 := rfl
  have f3 : (X.toS (X.evDcs 113 [(a : Int), (b : Int), (c : Int)] (nums s.data.toList))).f3 = 113 := rfl
  have f4 : (X.toS (X.evDcs 113 [(a : Int), (b : Int), (c : Int)] (nums s.data.toList))).f4 = [(a : Int), (b : Int), (c : Int)] := rfl
  have f5 : (X.toS (X.evDcs 113 [(a : Int), (b : Int), (c : Int)] (nums s.data.toList))).f5 = nums s.data.toList := rfl
  have h4 : (rd_T55 E 0).f4 = [(a : Int), (b : Int), (c : Int)] := by rw [e0, f4]
  rw [if_neg (by omega), if_pos (by omega), e0, f0, if_pos rfl, f3, if_pos rfl, f5, strOf_nums, data_eta, if_pos rfl, f4, n3]
  have hb : ((3 : Int) != 3) = false := by decide
  rw [hb, laws_FnDrawGraphics.j4, if_neg (by simp)]
  exact gfx_l1 [(a : Int), (b : Int), (c : Int)] rfl (fun p hp => by
    simp only [List.mem_cons, List.not_mem_nil, or_false] at hp
    rcases hp with rfl | rfl | rfl <;> omega) E (by omega) h4 3 0 k (by omega) (by omega)
theorem gfx_end (s : ByteArray) (hs : WText 60 s) (l : List ByteArray) (hl : l.length ≤ 4) (ho : ∀ o ∈ l, WText 8 o) (x y z : Int) (hx : 0 ≤ x) (hy : 0 ≤ y) (hz : 0 ≤ z) (i k : Nat) (hi : l.length ≤ i) (hk : 2000 ≤ k) :
    laws_FnDrawGraphics.l0 k s l (joinC l) l (l.length : Int) (i : Int) x y z = some true := by
  obtain ⟨k, rfl⟩ : ∃ k', k = k' + 1 := ⟨k - 1, by omega⟩
  have hs1 := hs.2.1
  have hs2 := hs.2.2
  have hlen : s.data.toList.length = s.size := data_length s
  have hbl : (bytesOf s).length = s.size := bytesOf_length s
  have hjz := joinC_size l hl (fun t ht => (ho t ht).2.2)
  have hjl : (joinC l).data.toList.length = (joinC l).size := data_length _
  have hne : s.data.toList ≠ [] := fun e => by rw [e] at hlen; simp at hlen; omega
  have hrun := kitty_run s.data.toList (joinC l) (pby hs) hne (by omega) (joinC_bytes l (fun t ht => pby (ho t ht))) hjz
  have hK : impl_Kitty.f (bytesOf s) l = some ⟨(X.kittyT s.data.toList (joinC l)).toArray⟩ := by
    unfold impl_Kitty.f
    rw [if_pos ⟨bytes_in s, by omega⟩, zzC_f l hl (fun t ht => (ho t ht).2.2), Option.bind_some, if_pos (by omega), toB_bytes]
  have hsz : (⟨(X.kittyT s.data.toList (joinC l)).toArray⟩ : ByteArray).size ≤ 100000 := by
    show (X.kittyT s.data.toList (joinC l)).toArray.size ≤ _
    unfold X.kittyT
    rw [if_neg hne]
    simp only [List.size_toArray, List.length_append, List.length_cons, List.length_nil]
    omega
  rw [laws_FnDrawGraphics.l0, if_neg (by omega), conv_f s (by omega), Option.bind_some, hK, Option.bind_some, conv_f _ (by omega), Option.bind_some, feed_f _ (by omega) hrun, Option.bind_some]
  generalize hE : ([X.evApc (nums (71 :: ((joinC l).data.toList ++ 59 :: s.data.toList))), X.evEsc 92].map X.toS) = E
  have hl2 : E.length = 2 := by rw [← hE]; rfl
  have e0 : (rd_T55 E 0) = X.toS (X.evApc (nums (71 :: ((joinC l).data.toList ++ 59 :: s.data.toList)))) := by rw [← hE]; rfl
  have f0 : (X.toS (X.evApc (nums (71 :: ((joinC l).data.toList ++ 59 :: s.data.toList))))).f0 = 7 := rfl
  have f5 : (X.toS (X.evApc (nums (71 :: ((joinC l).data.toList ++ 59 :: s.data.toList))))).f5 = nums (71 :: ((joinC l).data.toList ++ 59 :: s.data.toList)) := rfl
  have e6 : (⟨(71 :: ((joinC l).data.toList ++ 59 :: s.data.toList)).toArray⟩ : ByteArray) = (((⟨#[71]⟩ : ByteArray) ++ joinC l) ++ (⟨#[59]⟩ : ByteArray)) ++ s := by
    apply ByteArray.ext
    apply Array.toList_inj.1
    simp [ByteArray.data_append]
  rw [if_neg (by omega), if_pos (by omega), e0, f0, if_pos rfl, if_pos (by omega), if_pos (by omega), if_pos (by omega), f5, strOf_nums, e6, bne_self_eq_false]
  exact gfx_j3 s hs x y z hx hy hz k (by omega)
theorem gfx_loop (s : ByteArray) (hs : WText 60 s) (l : List ByteArray) (hl : l.length ≤ 4) (hz8 : ∀ o ∈ l, o.size ≤ 2147483647) (x y z : Int) (hx : 0 ≤ x) (hy : 0 ≤ y) (hz : 0 ≤ z) : ∀ (m i k : Nat), i + m = l.length → 3000000000 + m ≤ k → (∀ o ∈ l.take i, WText 8 o) →
    laws_FnDrawGraphics.l0 k s l (joinC (l.take i)) l (l.length : Int) (i : Int) x y z = some true
  | 0, i, k, h, hk, hin => by
    rw [List.take_of_length_le (by omega)] at hin ⊢
    exact gfx_end s hs l hl hin x y z hx hy hz i k (by omega) (by omega)
  | m + 1, i, k, h, hk, hin => by
    obtain ⟨k, rfl⟩ : ∃ k', k = k' + 1 := ⟨k - 1, by omega⟩
    have hi : i < l.length := by omega
    have hrd : rdOf ByteArray.empty l (i : Int) = l[i] := by simp [rdOf, hi]
    have ho := hz8 _ (List.getElem_mem hi)
    obtain ⟨b, e1, e2⟩ := word_f 8 (by omega) l[i] ho k (by omega)
    rw [laws_FnDrawGraphics.l0, if_pos (by omega), if_pos (by omega), if_pos (by omega), hrd, show (8 : Int) = ((8 : Nat) : Int) by rfl, e1, Option.bind_some, wup i (by omega)]
    cases b with
    | false => rw [if_neg (by simp), awake, Option.bind_some]
    | true =>
      have hw := e2 rfl
      have hz9 := hw.2.2
      have hjs := joinC_size (l.take i) (by rw [List.length_take]; omega) (fun t ht => (hin t ht).2.2)
      have ih := gfx_loop s hs l hl hz8 x y z hx hy hz m (i + 1) k (by omega) (by omega) (fun o ho => by
        rw [List.take_succ_eq_append_getElem hi] at ho
        rcases List.mem_append.1 ho with ho | ho
        · exact hin o ho
        · rw [List.mem_singleton.1 ho]
          exact hw)
      rw [joinC_up l i hi] at ih
      rw [if_pos rfl]
      by_cases h0 : 0 < i
      · rw [if_pos h0] at ih
        rw [if_pos (by omega), if_pos (by omega), if_pos (by omega)]
        exact ih
      · rw [if_neg h0] at ih
        rw [if_neg (by omega), if_pos (by omega)]
        exact ih
theorem fits1_l0 (l : List ByteArray) (hl : l.length ≤ 2147483647) : ∀ (m i k : Nat), i + m = l.length → m < k → (∀ t ∈ l.take i, t.size ≤ 2147483647) → Says (laws_zzFits1.l0 k l (l.length : Int) (i : Int)) (∀ t ∈ l, t.size ≤ 2147483647)
  | 0, i, k + 1, h, hk, hp => by
    rw [List.take_of_length_le (by omega)] at hp
    rw [laws_zzFits1.l0, if_neg (by omega)]
    exact says_of (fun _ => hp)
  | m + 1, i, k + 1, h, hk, hp => by
    have hi : i < l.length := by omega
    have hrd : rdOf ByteArray.empty l (i : Int) = l[i] := by simp [rdOf, hi]
    rw [laws_zzFits1.l0, if_pos (by omega), if_pos (by omega), if_pos (by omega), hrd, wup i (by omega)]
    by_cases c1 : (l[i].size : Int) > 2147483647
    · rw [if_pos c1]; exact says_false
    rw [if_neg c1]
    refine fits1_l0 l hl m (i + 1) k (by omega) (by omega) (fun o ho => ?_)
    rw [List.take_succ_eq_append_getElem hi] at ho
    rcases List.mem_append.1 ho with ho | ho
    · exact hp o ho
    · rw [List.mem_singleton.1 ho]
      omega
theorem fits1_f (l : List ByteArray) (k : Nat) (hk : 2147483650 ≤ k) : Says (laws_zzFits1.f k l) (∀ t ∈ l, t.size ≤ 2147483647) := by
  unfold laws_zzFits1.f
  by_cases c : (l.length : Int) > 2147483647
  · rw [if_pos c]; exact says_false
  · rw [if_neg c]
    exact fits1_l0 l (by omega) l.length 0 k (by omega) (by omega) (by simp)
theorem FnDrawGraphics_true (s : ByteArray) (_ : s.size ≤ maxLen) (l : List ByteArray) (_ : l.length ≤ maxLen) (_ : ∀ a ∈ l, a.size ≤ maxLen) (x y z : Int) (hx : (Lit.int .u8 x).wf = true) (hy : (Lit.int .u8 y).wf = true) (hz : (Lit.int .u8 z).wf = true) : laws_FnDrawGraphics.f 8000000000 s l x y z = some true := by
  have h1 : 0 ≤ x ∧ x ≤ 255 := by simpa [Lit.wf, IntKind.min, IntKind.max, IntKind.signed, IntKind.bits] using hx
  have h2 : 0 ≤ y ∧ y ≤ 255 := by simpa [Lit.wf, IntKind.min, IntKind.max, IntKind.signed, IntKind.bits] using hy
  have h3 : 0 ≤ z ∧ z ≤ 255 := by simpa [Lit.wf, IntKind.min, IntKind.max, IntKind.signed, IntKind.bits] using hz
  unfold laws_FnDrawGraphics.f
  by_cases c : (s.size : Int) > 2147483647
  · rw [if_pos c, laws_FnDrawGraphics.j0, if_pos rfl]
  rw [if_neg c]
  obtain ⟨b, e1, e2⟩ := fits1_f l 8000000000 (by omega)
  rw [e1, Option.bind_some]
  cases b with
  | false => rw [laws_FnDrawGraphics.j0, if_pos (by simp)]
  | true =>
    have hf := e2 rfl
    obtain ⟨d, e3, e4⟩ := word_f 60 (by omega) s (by omega) 7999999999 (by omega)
    rw [laws_FnDrawGraphics.j0, if_neg (by simp), show (60 : Int) = ((60 : Nat) : Int) by rfl, e3, Option.bind_some]
    cases d with
    | false => rw [if_neg (by simp), laws_FnDrawGraphics.j1, if_pos rfl, awake, Option.bind_some]
    | true =>
      rw [if_pos rfl]
      by_cases c4 : (l.length : Int) > 4
      · rw [decide_eq_true c4, laws_FnDrawGraphics.j1, if_pos rfl, awake, Option.bind_some]
      rw [decide_eq_false c4, laws_FnDrawGraphics.j1, if_neg (by simp)]
      exact gfx_loop s (e4 rfl) l (by omega) hf x y z h1.1 h2.1 h3.1 l.length 0 _ (by omega) (by omega) (by simp)
end Go.Proofs.YtjkjnhcnmjknmaaGreatDoor.Y
end
section
namespace Go.Proofs.YtjkjnhcnmjknmaaGreatDoor.Y
open Go.RowKit Go.Proofs.YtjkjnhcnmjknmaaGreatDoorW.PrintWords Go.Proofs.YtjkjnhcnmjknmaaGreatDoorW.PrintLast Go.Proofs.YtjkjnhcnmjknmaaGreatDoorW.PrintMore
attribute [local go_sem] max2_int min2_int max_two min_two max_three min_three max_four min_four   -- for this text's walks alone
set_option linter.unusedVariables false
set_option linter.unusedSimpArgs false
set_option maxHeartbeats 8000000 in
set_option maxRecDepth 100000 in
theorem laws_zzFits1.calls (k : Nat) (A0 : Option Addr) (c0 : Nat) (l0 : List ByteArray) (r : Bool) (w : World) (hr0 : Kd.C Kd.string w A0 l0.length l0) (hc0 : l0.length ≤ c0) (h : laws_zzFits1.f k l0 = some r) :
    Calls Tryz.prog 21 #[.slice A0 l0.length c0] w fun e w' => e = .returned (.bool r) ∧ Drawn0 w w' := by
  have HR0 := Aside0.mk hr0
  have HC0 := Aside0.mk hc0
  clear hr0 hc0
  have H : (if (l0.length : Int) > 2147483647 then (some false) else (laws_zzFits1.l0 k l0 (l0.length : Int) 0)) = some r := h
  clear h
  by_cases c2 : (l0.length : Int) > 2147483647
  · rw [if_pos c2] at H
    have c2b0 : decide (2147483647 < (l0.length : Int)) = true := decide_eq_true c2
    have c2b1 : decide (2147483647 < l0.length) = true := decide_eq_true (by omega)
    clear c2
    obtain rfl := Option.some.inj H
    go_enter Tryz.func21, Tryz.ntmps21
    go_wp2
    go_ret
    exact ⟨by first | rfl | (simp; done) | (simp [*]; done), by repeat (first | exact Drawn0.refl _ | apply Drawn0.step)⟩
  · rw [if_neg c2] at H
    have c2b0 : decide (2147483647 < (l0.length : Int)) = false := decide_eq_false c2
    have c2b1 : decide (2147483647 < l0.length) = false := decide_eq_false (by omega)
    clear c2
    have H' := Aside0.mk H
    clear H
    go_enter Tryz.func21, Tryz.ntmps21
    go_wp2
    go_loopg [10] k (fun kq v10 w' => ∃ (x10_1 : Int), v10 = .int .i64 x10_1 ∧ Aside0 (laws_zzFits1.l0 kq l0 (l0.length : Int) x10_1 = some r) ∧ Aside0 (kq ≤ k) ∧ Drawn0 w w')
    case atStart => exact ⟨(0), (by first | rfl | (simp; done) | (simp [*]; done)), H', ⟨Nat.le_refl _⟩, by repeat (first | exact Drawn0.refl _ | apply Drawn0.step)⟩
    case round =>
      clear H'
      try clear c2
      try clear c2b0
      try clear c2b1
      try clear p2
      obtain ⟨x10_1, rfl, HA, HK1, ⟨m1, rfl⟩⟩ := hrel
      cases gk with
      | zero => exact absurd HA.out (by simp [laws_zzFits1.l0])
      | succ k1 =>
        have H := HA.out
        clear HA
        simp only [laws_zzFits1.l0] at H
        by_cases c3 : x10_1 < (l0.length : Int)
        · rw [if_pos c3] at H
          have c3b0 : decide (x10_1 < (l0.length : Int)) = true := decide_eq_true c3
          clear c3
          by_cases c4 : 0 ≤ x10_1
          · rw [if_pos c4] at H
            have c4b0 : decide (0 ≤ x10_1) = true := decide_eq_true c4
            clear c4
            by_cases c5 : x10_1 < (l0.length : Int)
            · rw [if_pos c5] at H
              have c5b0 : decide (x10_1 < (l0.length : Int)) = true := decide_eq_true c5
              clear c5
              by_cases c6 : ((rdOf ByteArray.empty l0 x10_1).size : Int) > 2147483647
              · rw [if_pos c6] at H
                have c6b0 : decide (2147483647 < ((rdOf ByteArray.empty l0 x10_1).size : Int)) = true := decide_eq_true c6
                have c6b1 : decide (2147483647 < (rdOf ByteArray.empty l0 x10_1).size) = true := decide_eq_true (by omega)
                clear c6
                obtain rfl := Option.some.inj H
                have p330 : 0 ≤ (x10_1 : Int) := of_decide_eq_true (by first | (with_reducible assumption) | assumption)
                have q330 : x10_1 < (l0.length : Int) := of_decide_eq_true (by first | (with_reducible assumption) | assumption)
                obtain ⟨ad330, e330, hx330_0⟩ := Kd.at_string HR0.out x10_1 p330 q330
                cases e330
                replace p330 := eq_true p330
                replace q330 := eq_true q330
                go_wp2
                go_ret
                exact ⟨by first | rfl | (simp; done) | (simp [*]; done), by repeat (first | exact Drawn0.refl _ | apply Drawn0.step)⟩
              · rw [if_neg c6] at H
                have c6b0 : decide (2147483647 < ((rdOf ByteArray.empty l0 x10_1).size : Int)) = false := decide_eq_false c6
                have c6b1 : decide (2147483647 < (rdOf ByteArray.empty l0 x10_1).size) = false := decide_eq_false (by omega)
                clear c6
                have H' := Aside0.mk H
                clear H
                have p330 : 0 ≤ (x10_1 : Int) := of_decide_eq_true (by first | (with_reducible assumption) | assumption)
                have q330 : x10_1 < (l0.length : Int) := of_decide_eq_true (by first | (with_reducible assumption) | assumption)
                obtain ⟨ad330, e330, hx330_0⟩ := Kd.at_string HR0.out x10_1 p330 q330
                cases e330
                replace p330 := eq_true p330
                replace q330 := eq_true q330
                go_wp2
                go_roundg k1
                case measure => have := HK1.out; omega
                case rel => exact ⟨(wrap64 (x10_1 + 1)), (by first | rfl | (simp; done) | (simp [*]; done)), H', ⟨by have := HK1.out; omega⟩, by repeat (first | exact Drawn0.refl _ | apply Drawn0.step)⟩
            · rw [if_neg c5] at H
              exact absurd H (by simp)
          · rw [if_neg c4] at H
            exact absurd H (by simp)
        · rw [if_neg c3] at H
          have c3b0 : decide (x10_1 < (l0.length : Int)) = false := decide_eq_false c3
          clear c3
          obtain rfl := Option.some.inj H
          go_wp2
          go_ret
          exact ⟨by first | rfl | (simp; done) | (simp [*]; done), by repeat (first | exact Drawn0.refl _ | apply Drawn0.step)⟩
end Go.Proofs.YtjkjnhcnmjknmaaGreatDoor.Y
end
