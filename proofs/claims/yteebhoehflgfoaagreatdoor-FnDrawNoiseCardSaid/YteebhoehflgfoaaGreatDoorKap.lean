/- Texts of this claim, joined: XByte. Of each, what the claim uses. -/
import Derived.Test.YteebhoehflgfoaaGreatDoorKag
import Derived.Test.YteebhoehflgfoaaGreatDoorKah
import Derived.Test.YteebhoehflgfoaaGreatDoorKai
import Derived.Test.YteebhoehflgfoaaGreatDoorKak
import Derived.Test.YteebhoehflgfoaaGreatDoorKal
import Derived.Test.YteebhoehflgfoaaGreatDoorKam
import Derived.Test.YteebhoehflgfoaaGreatDoorKan
import Derived.Test.YteebhoehflgfoaaGreatDoorKao
section
namespace Go.Proofs.YteebhoehflgfoaaGreatDoor.X
open Go.RowKit Go.Proofs.YteebhoehflgfoaaGreatDoorW.PrintWords Go.Proofs.YteebhoehflgfoaaGreatDoorW.PrintLast Go.Proofs.YteebhoehflgfoaaGreatDoorW.PrintMore
set_option linter.unusedSimpArgs false
set_option linter.unusedVariables false
/-! ### Rows, plainly -/
theorem take_last {pc ps : List Int} {cur : Int} (h : pc.take (ps.length + 1) = ps ++ [cur]) : pc.getD ps.length 0 = cur := by
 have := congrArg (fun l => l.getD ps.length 0) h
 simpa [List.getElem?_take] using this
theorem take_len {pc ps : List Int} {cur : Int} (h : pc.take (ps.length + 1) = ps ++ [cur]) : ps.length < pc.length := by
 have := congrArg List.length h
 simp [List.length_take] at this
 omega
theorem take_front {pc ps : List Int} {cur : Int} (h : pc.take (ps.length + 1) = ps ++ [cur]) : pc.take ps.length = ps := by
 have := congrArg (List.take ps.length) h
 simpa [List.take_take] using this
theorem set_take {pc ps : List Int} {n : Nat} (hn : n = ps.length) (h : pc.take n = ps) (hl : n < pc.length) (x : Int) : (pc.set n x).take (n + 1) = ps ++ [x] := by
 subst hn
 rw [List.take_succ_eq_append_getElem (by simpa using hl)]
 have e1 : (pc.set ps.length x).take ps.length = ps := by rw [List.take_set, h, List.set_eq_of_length_le (Nat.le_refl _)]
 rw [e1]
 simp
/-- The plain parser's state, and the memory. -/
def Params (r : RawSt) (ps : List Int) (cur : Int) : Prop := r.plen = ps.length ∧ r.pc.take (ps.length + 1) = ps ++ [cur] ∧ ps.length ≤ 29
def Data (r : RawSt) (data : List Int) : Prop := r.dlen = data.length ∧ data = r.dc.take data.length
def Rel : PS → RawSt → Prop
 | .gr, r => (∃ n : Nat, n ≤ 4096 ∧ r.dlen = n) ∧ r.st = 0
 | .esc, r => (∃ n : Nat, n ≤ 4096 ∧ r.dlen = n) ∧ r.st = 8
 | .csi k cmd ps cur, r => (∃ n : Nat, n ≤ 4096 ∧ r.dlen = n) ∧ r.st = k ∧ r.cmd = cmd ∧ Params r ps cur ∧ (cur = Miss ∨ 0 ≤ cur ∧ cur ≤ 1000009) ∧
   (k = 1 ∧ cmd = 0 ∧ ps = [] ∧ cur = Miss ∨ k = 2 ∧ 0 ≤ cmd ∧ cmd < 2 ^ 40 ∧ cmd % 256 = 0 ∨ k = 3 ∧ cmd ∈ [0, 15360, 15616, 15872, 16128])
 | .dcs k cmd ps cur, r => (∃ n : Nat, n ≤ 4096 ∧ r.dlen = n) ∧ r.st = k ∧ r.cmd = cmd ∧ Params r ps cur ∧ (cur = Miss ∨ 0 ≤ cur ∧ cur ≤ 1000009) ∧ (k = 4 ∨ k = 6) ∧ cmd = 0
 | .dstr cmd ps cur data, r => r.st = 7 ∧ r.cmd = cmd ∧ Params r ps cur ∧ Data r data
 | .osc cmd data, r => r.st = 10 ∧ r.cmd = cmd ∧ r.plen = 0 ∧ r.pc.getD 0 0 = Miss ∧ Data r data ∧ ∀ i, i < data.length → 0 ≤ data.getD i 0 ∧ data.getD i 0 ≤ 255
 | .apc data, r => r.st = 13 ∧ r.plen = 0 ∧ r.pc.getD 0 0 = Miss ∧ Data r data
section
variable {w0 w : World} {L : Loc} {r : RawSt} {evs : List Ev}
/-- Where a byte leads. -/
def Leads (w0 : World) (L : Loc) (evs : List Ev) (s2 : PS) (w : World) : Prop := ∃ r2, Inv w0 w L r2 evs ∧ Rel s2 r2
abbrev ByteCalls (w0 w : World) (L : Loc) (b : Nat) (evs : List Ev) (s2 : PS) : Prop :=
 Calls Tryz.prog 62 #[.pointer (some ⟨L.P, 0, none⟩), .int .u8 (b : Int)] w fun e w' => ∃ v, e = .returned v ∧ Leads w0 L evs s2 w'
def Ends (evs : List Ev) (s2 : PS) (s' : Nat) : RawSt → List Ev → Prop := fun r' evs' => evs' = evs ∧ Rel s2 { r' with st := (s' : Int) }
theorem by_adv (h : Inv w0 w L r evs) (s b s' a : Nat) {evs2 : List Ev} {s2 : PS} (hst : r.st = s) (h8 : s ≠ 8) (hs : s < 14) (hb : b ≤ 255) (hs' : s' < 16) (ha : a < 16) (ht : tv (s * 256 + b) = s' + 16 * a) (hp : a = 7 → s ≠ 4) (hd : Does w0 L r evs a s' b (Ends evs2 s2 s')) : ByteCalls w0 w L b evs2 s2 := by
 refine Adv_calls h b (by omega) _ ((adv_calls h s b s' a hst h8 hs hb hs' ha ht hp _ hd).mono ?_)
 rintro e w' ⟨v, rfl, r', evs', hI, rfl, hR⟩
 exact ⟨v, rfl, _, hI, hR⟩
theorem by_esc (h : Inv w0 w L r evs) (b s' a : Nat) {evs2 : List Ev} {s2 : PS} (hst : r.st = 8) (h8 : s' ≠ 8) (hb27 : b ≠ 27) (hb : b ≤ 255) (hs' : s' < 16) (ha : a < 16) (ht : tv (8 * 256 + b) = s' + 16 * a) (hd : Does w0 L { r with cmd := 0, plen := 0, pc := r.pc.set 0 Miss } evs a s' b (Ends evs2 s2 s')) : ByteCalls w0 w L b evs2 s2 := by
 refine Adv_calls h b (by omega) _ ((adv_esc_calls h b s' a hst h8 hb27 hb hs' ha ht _ hd).mono ?_)
 rintro e w' ⟨v, rfl, r', evs', hI, rfl, hR⟩
 exact ⟨v, rfl, _, hI, hR⟩
/-- An action that is told so is done. -/
theorem does_of {a s b : Nat} {evs2 : List Ev} {s2 : PS} {r2 : RawSt} (hR : Rel s2 { r2 with st := (s : Int) })
  (hc : ∀ w, Inv w0 w L r evs → Calls Tryz.prog 153 #[.pointer (some ⟨L.P, 0, none⟩), .int .u8 (a : Int), .int .u8 (s : Int), .int .u8 (b : Int)] w fun e w' => e = .returned (.tuple #[]) ∧ Inv w0 w' L r2 evs2) : Does w0 L r evs a s b (Ends evs2 s2 s) := by
 intro w h
 refine (hc w h).mono ?_
 rintro e w' ⟨rfl, hI⟩
 exact ⟨rfl, _, _, hI, rfl, hR⟩
theorem get0_set (h : Inv w0 w L r evs) (x : Int) : (r.pc.set 0 x).getD 0 0 = x := by
 have := h.raw.lpc
 simp [List.getElem?_set, show 0 < r.pc.length by omega]
theorem take0_set (h : Inv w0 w L r evs) (x : Int) : (r.pc.set 0 x).take 1 = [x] := by
 have := h.raw.lpc
 match hp : r.pc with
 | [] => rw [hp] at this; simp at this
 | y :: l => simp
theorem byte_gr (h : Inv w0 w L r evs) (hr : Rel .gr r) (hev : evs.length < 1000000000000) (b : Nat) {s2 : PS} {e : List Ev} (hs : step .gr b = some (s2, e)) : ByteCalls w0 w L b (evs ++ e) s2 := by
 obtain ⟨hd, hst⟩ := hr
 simp only [step] at hs
 split at hs
 ·rename_i hb
  subst hb
  obtain ⟨rfl, rfl⟩ := Prod.mk.inj (Option.some.inj hs)
  rw [List.append_nil]
  exact by_adv h 0 27 8 1 hst (by decide) (by decide) (by decide) (by decide) (by decide) (t_gr_esc 27 (by decide) (by decide)) (by decide) (does_of (r2 := { r with cmd := 0, plen := 0, pc := r.pc.set 0 Miss }) ⟨hd, rfl⟩ fun w h => act1_calls h _ _)
 ·split at hs
  ·rename_i hb
   obtain ⟨rfl, rfl⟩ := Prod.mk.inj (Option.some.inj hs)
   exact by_adv h 0 b 0 9 hst (by decide) (by decide) (by omega) (by decide) (by decide) (t_gr_print b hb.1 hb.2) (by decide) (does_of (r2 := { r with cmd := b }) ⟨hd, rfl⟩ fun w h => act9_calls h hev _ _ (by omega) (by omega))
  ·split at hs
   ·rename_i h27 _ hb
    obtain ⟨rfl, rfl⟩ := Prod.mk.inj (Option.some.inj hs)
    refine by_adv h 0 b 0 5 hst (by decide) (by decide) (by omega) (by decide) (by decide) ?_ (by decide) (does_of (r2 := { r with cmd := b }) ⟨hd, rfl⟩ fun w h => act5_calls h hev _ _ (by omega) (by omega))
    by_cases h3 : b ≤ 26
    ·exact t_gr_ex0 b (by omega) h3
    ·exact t_gr_ex1 b (by omega) (by omega)
   ·exact absurd hs (by simp)
theorem byte_esc (h : Inv w0 w L r evs) (hr : Rel .esc r) (hev : evs.length < 1000000000000) (b : Nat) {s2 : PS} {e : List Ev} (hs : step .esc b = some (s2, e)) : ByteCalls w0 w L b (evs ++ e) s2 := by
 obtain ⟨hd, hst⟩ := hr
 obtain ⟨n, hn, hdn⟩ := hd
 simp only [step] at hs
 split at hs
 ·rename_i hb
  subst hb
  obtain ⟨rfl, rfl⟩ := Prod.mk.inj (Option.some.inj hs)
  rw [List.append_nil]
  exact by_esc h 91 1 1 hst (by decide) (by decide) (by decide) (by decide) (by decide) (t_esc_csi 91 (by decide) (by decide)) (does_of (r2 := { r with cmd := 0, plen := 0, pc := (r.pc.set 0 Miss).set 0 Miss }) ⟨⟨n, hn, hdn⟩, rfl, rfl, ⟨rfl, by simpa [List.set_set] using take0_set h Miss, by simp⟩, Or.inl rfl, Or.inl ⟨rfl, rfl, rfl, rfl⟩⟩ fun w h => act1_calls h _ _)
 ·split at hs
  ·rename_i hb
   subst hb
   obtain ⟨rfl, rfl⟩ := Prod.mk.inj (Option.some.inj hs)
   rw [List.append_nil]
   exact by_esc h 93 10 6 hst (by decide) (by decide) (by decide) (by decide) (by decide) (t_esc_osc 93 (by decide) (by decide)) (does_of (r2 := { r with cmd := Miss, plen := 0, pc := r.pc.set 0 Miss, dlen := 0 }) ⟨rfl, rfl, rfl, get0_set h Miss, ⟨rfl, rfl⟩, by simp⟩ fun w h => act6_calls h (by simp [hdn]) hst _ _)
  ·split at hs
   ·rename_i hb
    subst hb
    obtain ⟨rfl, rfl⟩ := Prod.mk.inj (Option.some.inj hs)
    rw [List.append_nil]
    exact by_esc h 80 4 1 hst (by decide) (by decide) (by decide) (by decide) (by decide) (t_esc_dcs 80 (by decide) (by decide)) (does_of (r2 := { r with cmd := 0, plen := 0, pc := (r.pc.set 0 Miss).set 0 Miss }) ⟨⟨n, hn, hdn⟩, rfl, rfl, ⟨rfl, by simpa [List.set_set] using take0_set h Miss, by simp⟩, Or.inl rfl, Or.inl rfl, rfl⟩ fun w h => act1_calls h _ _)
   ·split at hs
    ·rename_i hb
     subst hb
     obtain ⟨rfl, rfl⟩ := Prod.mk.inj (Option.some.inj hs)
     rw [List.append_nil]
     exact by_esc h 95 13 6 hst (by decide) (by decide) (by decide) (by decide) (by decide) (t_esc_apc 95 (by decide) (by decide)) (does_of (r2 := { r with cmd := Miss, plen := 0, pc := r.pc.set 0 Miss, dlen := 0 }) ⟨rfl, rfl, get0_set h Miss, ⟨rfl, rfl⟩⟩ fun w h => act6_calls h (by simp [hdn]) hst _ _)
    ·split at hs
     ·rename_i hb
      obtain ⟨rfl, rfl⟩ := Prod.mk.inj (Option.some.inj hs)
      refine by_esc h b 0 4 hst (by decide) (by omega) (by omega) (by decide) (by decide) ?_ (does_of (r2 := { r with cmd := b, plen := 0, pc := r.pc.set 0 Miss }) ⟨⟨n, hn, hdn⟩, rfl⟩ fun w h' => esc_calls h' hev hst rfl (get0_set h Miss) rfl (by simp [hdn]) (by simp [hdn]; omega) _ _ (by omega) (by omega))
      rcases hb with e | e | e <;> subst e
      ·exact t_esc_55 55 (by decide) (by decide)
      ·exact t_esc_55 56 (by decide) (by decide)
      ·exact t_esc_92 92 (by decide) (by decide)
     ·exact absurd hs (by simp)
/-- The parameters at the end, as the memory gives them. -/
theorem Params.rows {ps : List Int} {cur : Int} (hp : Params r ps cur) : r.pc.getD ps.length 0 = cur ∧ r.pc.take ps.length = ps ∧ ps.length < r.pc.length := ⟨take_last hp.2.1, take_front hp.2.1, take_len hp.2.1⟩
theorem byte_csi (h : Inv w0 w L r evs) (k : Nat) (cmd : Int) (ps : List Int) (cur : Int) (hr : Rel (.csi k cmd ps cur) r) (hev : evs.length < 1000000000000) (b : Nat) {s2 : PS} {e : List Ev} (hs : step (.csi k cmd ps cur) b = some (s2, e)) : ByteCalls w0 w L b (evs ++ e) s2 := by
 obtain ⟨⟨n, hn, hdn⟩, hst, rfl, hp, hcur, hk⟩ := hr
 obtain ⟨hp1, hp2, hp3⟩ := hp.rows
 have hk3 : k = 1 ∨ k = 2 ∨ k = 3 := by rcases hk with ⟨e, _⟩ | ⟨e, _⟩ | ⟨e, _⟩ <;> omega
 have hcc : 0 ≤ r.cmd ∧ r.cmd < 2 ^ 40 ∧ r.cmd % 256 = 0 := by
  rcases hk with ⟨_, e, _⟩ | ⟨_, e⟩ | ⟨_, e⟩
  ·omega
  ·omega
  ·simp only [List.mem_cons, List.not_mem_nil, or_false] at e
   omega
 have hlen := h.raw.lpc
 have hd0 : 0 ≤ r.dlen := by omega
 have hd1 : r.dlen ≤ 4096 := by omega
 simp only [step] at hs
 split at hs
 ·-- the end
  rename_i hb
  obtain ⟨rfl, rfl⟩ := Prod.mk.inj (Option.some.inj hs)
  have ht : tv (k * 256 + b) = 0 + 16 * 4 := by
   rcases hk3 with e | e | e <;> subst e
   ·exact t_csi1_end b hb.1 hb.2
   ·exact t_csi2_end b hb.1 hb.2
   ·exact t_csi3_end b hb.1 hb.2
  by_cases h0 : ps = []
  ·by_cases hc : cur = Miss
   ·have e1 : closed ps cur = [] := by rw [closed, if_pos ⟨h0, hc⟩]
    subst h0
    rw [e1]
    have g1 : r.plen = 0 := by simpa using hp.1
    have g2 : r.pc.getD 0 0 = Miss := by rw [← hc]; simpa using hp1
    refine by_adv h k b 0 4 hst (by omega) (by omega) (by omega) (by decide) (by decide) ht (by omega) (does_of (r2 := { r with plen := 0, cmd := r.cmd + b }) ⟨⟨n, hn, hdn⟩, rfl⟩ fun w h => ?_)
    rcases hk3 with e | e | e <;> subst e
    ·simpa [evCsi] using csi1_none_calls h hev hst g1 g2 hcc.1 hcc.2.1 hcc.2.2 hd0 hd1 ((0 : Nat) : Int) (b : Int) (by omega) (by omega)
    ·simpa [evCsi] using csi2_none_calls h hev hst g1 g2 hcc.1 hcc.2.1 hcc.2.2 hd0 hd1 ((0 : Nat) : Int) (b : Int) (by omega) (by omega)
    ·simpa [evCsi] using csi3_none_calls h hev hst g1 g2 hcc.1 hcc.2.1 hcc.2.2 hd0 hd1 ((0 : Nat) : Int) (b : Int) (by omega) (by omega)
   ·have e1 : closed ps cur = [cur] := by rw [closed, if_neg (fun e => hc e.2), h0]; rfl
    subst h0
    rw [e1]
    have g1 : r.plen = 0 := by simpa using hp.1
    have g2 : r.pc.getD 0 0 = cur := by simpa using hp1
    have g3 : r.pc.take 1 = [cur] := by simpa using hp.2.1
    refine by_adv h k b 0 4 hst (by omega) (by omega) (by omega) (by decide) (by decide) ht (by omega) (does_of (r2 := { r with plen := 1, cmd := r.cmd + b }) ⟨⟨n, hn, hdn⟩, rfl⟩ fun w h => ?_)
    rw [← g3]
    rcases hk with ⟨_, _, _, e⟩ | ⟨e, _⟩ | ⟨e, _⟩
    ·exact absurd e hc
    ·subst e
     exact csi2_one_calls h hev hst g1 cur g2 hc hcc.1 hcc.2.1 hcc.2.2 hd0 hd1 ((0 : Nat) : Int) (b : Int) (by omega) (by omega)
    ·subst e
     exact csi3_one_calls h hev hst g1 cur g2 hc hcc.1 hcc.2.1 hcc.2.2 hd0 hd1 ((0 : Nat) : Int) (b : Int) (by omega) (by omega)
  ·have e1 : closed ps cur = ps ++ [cur] := by rw [closed, if_neg (fun e => h0 e.1)]
   rw [e1, ← hp.2.1]
   have hpos : 0 < ps.length := List.length_pos_iff.2 h0
   have h29 := hp.2.2
   refine by_adv h k b 0 4 hst (by omega) (by omega) (by omega) (by decide) (by decide) ht (by omega) (does_of (r2 := { r with plen := (ps.length : Int) + 1, cmd := r.cmd + b }) ⟨⟨n, hn, hdn⟩, rfl⟩ fun w h => ?_)
   rcases hk with ⟨_, _, e, _⟩ | ⟨e, _⟩ | ⟨e, _⟩
   ·exact absurd e h0
   ·subst e
    exact csi2_pos_calls h hev hst ps.length hpos (by omega) hp.1 hcc.1 hcc.2.1 hcc.2.2 hd0 hd1 ((0 : Nat) : Int) (b : Int) (by omega) (by omega)
   ·subst e
    exact csi3_pos_calls h hev hst ps.length hpos (by omega) hp.1 hcc.1 hcc.2.1 hcc.2.2 hd0 hd1 ((0 : Nat) : Int) (b : Int) (by omega) (by omega)
 ·split at hs
  ·-- a digit
   rename_i hb
   split at hs
   ·rename_i hle
    obtain ⟨rfl, rfl⟩ := Prod.mk.inj (Option.some.inj hs)
    rw [List.append_nil]
    have h29 := hp.2.2
    have ht : tv (k * 256 + b) = 3 + 16 * 8 := by
     rcases hk3 with e | e | e <;> subst e
     ·exact t_csi1_par b hb.1 (by omega)
     ·exact absurd rfl hb.2.2
     ·exact t_csi3_par b hb.1 (by omega)
    have hk' : r.cmd ∈ [0, 15360, 15616, 15872, 16128] := by
     rcases hk with ⟨_, e, _⟩ | ⟨e, _⟩ | ⟨_, e⟩
     ·rw [e]; decide
     ·exact absurd e hb.2.2
     ·exact e
    by_cases hc : cur = Miss
    ·have e2 : digit cur b = (b : Int) - 48 := by rw [digit, if_pos hc]; omega
     rw [e2]
     refine by_adv h k b 3 8 hst (by omega) (by omega) (by omega) (by decide) (by decide) ht (by omega) (does_of (r2 := { r with pc := r.pc.set ps.length ((b : Int) - 48) }) ⟨⟨n, hn, hdn⟩, rfl, rfl, ⟨hp.1, set_take rfl hp2 hp3 _, h29⟩, Or.inr ⟨by omega, by omega⟩, Or.inr (Or.inr ⟨rfl, hk'⟩)⟩ fun w h => ?_)
     exact act8m_calls h ps.length (by omega) hp.1 (hp1.trans hc) ((3 : Nat) : Int) (b : Int) (by omega) (by omega)
    ·have hc0 : 0 ≤ cur ∧ cur ≤ 1000009 := hcur.resolve_left hc
     have hc1 : cur ≤ 100000 := hle.resolve_right hc
     have e2 : digit cur b = cur * 10 + ((b : Int) - 48) := by rw [digit, if_neg hc]
     rw [e2]
     refine by_adv h k b 3 8 hst (by omega) (by omega) (by omega) (by decide) (by decide) ht (by omega) (does_of (r2 := { r with pc := r.pc.set ps.length (cur * 10 + ((b : Int) - 48)) }) ⟨⟨n, hn, hdn⟩, rfl, rfl, ⟨hp.1, set_take rfl hp2 hp3 _, h29⟩, Or.inr ⟨by omega, by omega⟩, Or.inr (Or.inr ⟨rfl, hk'⟩)⟩ fun w h => ?_)
     exact act8d_calls h ps.length (by omega) hp.1 cur hp1 hc0.1 hc1 ((3 : Nat) : Int) (b : Int) (by omega) (by omega)
   ·exact absurd hs (by simp)
  ·split at hs
   ·-- a semicolon
    rename_i hb
    split at hs
    ·rename_i hle
     obtain ⟨rfl, hk2⟩ := hb
     obtain ⟨rfl, rfl⟩ := Prod.mk.inj (Option.some.inj hs)
     rw [List.append_nil]
     have ht : tv (k * 256 + 59) = 3 + 16 * 8 := by
      rcases hk3 with e | e | e <;> subst e
      ·exact t_csi1_par 59 (by decide) (by decide)
      ·exact absurd rfl hk2
      ·exact t_csi3_par 59 (by decide) (by decide)
     have hk' : r.cmd ∈ [0, 15360, 15616, 15872, 16128] := by
      rcases hk with ⟨_, e, _⟩ | ⟨e, _⟩ | ⟨_, e⟩
      ·rw [e]; decide
      ·exact absurd e hk2
      ·exact e
     refine by_adv h k 59 3 8 hst (by omega) (by omega) (by omega) (by decide) (by decide) ht (by omega) (does_of (r2 := { r with plen := (ps.length : Int) + 1, pc := r.pc.set (ps.length + 1) Miss }) ⟨⟨n, hn, hdn⟩, rfl, rfl, ⟨by simp, ?_, by simp; omega⟩, Or.inl rfl, Or.inr (Or.inr ⟨rfl, hk'⟩)⟩ fun w h => ?_)
     ·rw [List.length_append]
      exact set_take (by simp) hp.2.1 (by omega) _
     ·exact act8s_calls h ps.length (by omega) hp.1 ((3 : Nat) : Int)
    ·exact absurd hs (by simp)
   ·split at hs
    ·-- a prefix
     rename_i hb
     obtain ⟨hb0, hb1, rfl⟩ := hb
     obtain ⟨rfl, rfl⟩ := Prod.mk.inj (Option.some.inj hs)
     rw [List.append_nil]
     rcases hk with ⟨_, hc, _⟩ | ⟨e, _⟩ | ⟨e, _⟩
     ·refine by_adv h 1 b 3 3 hst (by omega) (by omega) (by omega) (by decide) (by decide) (t_csi1_pre b hb0 hb1) (by decide) (does_of (r2 := { r with cmd := (b : Int) * 256 }) ⟨⟨n, hn, hdn⟩, rfl, rfl, hp, hcur, Or.inr (Or.inr ⟨rfl, ?_⟩)⟩ fun w h => ?_)
      ·have : b = 60 ∨ b = 61 ∨ b = 62 ∨ b = 63 := by omega
       rcases this with e | e | e | e <;> subst e <;> decide
      ·exact act3_calls h hc ((3 : Nat) : Int) (b : Int) (by omega) (by omega)
     ·omega
     ·omega
    ·split at hs
     ·-- an intermediate
      rename_i hb
      obtain ⟨rfl, rfl⟩ := Prod.mk.inj (Option.some.inj hs)
      rw [List.append_nil]
      have ht : tv (k * 256 + b) = 2 + 16 * 2 := by
       rcases hk3 with e | e | e <;> subst e
       ·exact t_csi1_col b hb.1 hb.2.1
       ·exact absurd rfl hb.2.2
       ·exact t_csi3_col b hb.1 hb.2.1
      have hk' : r.cmd ∈ [0, 15360, 15616, 15872, 16128] := by
       rcases hk with ⟨_, e, _⟩ | ⟨e, _⟩ | ⟨_, e⟩
       ·rw [e]; decide
       ·exact absurd e hb.2.2
       ·exact e
      have hk4 : 0 ≤ r.cmd ∧ r.cmd < 65536 := by
       simp only [List.mem_cons, List.not_mem_nil, or_false] at hk'
       omega
      refine by_adv h k b 2 2 hst (by omega) (by omega) (by omega) (by decide) (by decide) ht (by omega) (does_of (r2 := { r with cmd := r.cmd + (b : Int) * 65536 }) ⟨⟨n, hn, hdn⟩, rfl, rfl, hp, hcur, Or.inr (Or.inl ⟨rfl, by omega, by omega, by omega⟩)⟩ fun w h => ?_)
      exact act2_calls h hk' ((2 : Nat) : Int) (b : Int) (by decide) (by omega) (by omega)
     ·exact absurd hs (by simp)
theorem byte_dcs (h : Inv w0 w L r evs) (k : Nat) (cmd : Int) (ps : List Int) (cur : Int) (hr : Rel (.dcs k cmd ps cur) r) (b : Nat) {s2 : PS} {e : List Ev} (hs : step (.dcs k cmd ps cur) b = some (s2, e)) : ByteCalls w0 w L b (evs ++ e) s2 := by
 obtain ⟨⟨n, hn, hdn⟩, hst, rfl, hp, hcur, hk, hc0⟩ := hr
 obtain ⟨hp1, hp2, hp3⟩ := hp.rows
 have hlen := h.raw.lpc
 have h29 := hp.2.2
 simp only [step] at hs
 split at hs
 ·rename_i hb
  obtain ⟨rfl, rfl⟩ := Prod.mk.inj (Option.some.inj hs)
  rw [List.append_nil]
  have ht : tv (k * 256 + b) = 7 + 16 * 6 := by
   rcases hk with e | e <;> subst e
   ·exact t_dcs4_end b hb.1 hb.2
   ·exact t_dcs6_end b hb.1 hb.2
  refine by_adv h k b 7 6 hst (by omega) (by omega) (by omega) (by decide) (by decide) ht (by omega) (does_of (r2 := { r with dlen := 0, cmd := r.cmd + (b : Int) }) ⟨rfl, rfl, hp, ⟨rfl, rfl⟩⟩ fun w h => ?_)
  exact act6d_calls h (by omega) (by rcases hk with e | e <;> subst e <;> simp [hst]) (by omega) (by omega) (by omega) ((7 : Nat) : Int) (b : Int) (by omega) (by omega)
 ·split at hs
  ·rename_i hb
   split at hs
   ·rename_i hle
    obtain ⟨rfl, rfl⟩ := Prod.mk.inj (Option.some.inj hs)
    rw [List.append_nil]
    have ht : tv (k * 256 + b) = 6 + 16 * 8 := by
     rcases hk with e | e <;> subst e
     ·exact t_dcs4_par b hb.1 (by omega)
     ·exact t_dcs6_par b hb.1 (by omega)
    by_cases hc : cur = Miss
    ·have e2 : digit cur b = (b : Int) - 48 := by rw [digit, if_pos hc]; omega
     rw [e2]
     refine by_adv h k b 6 8 hst (by omega) (by omega) (by omega) (by decide) (by decide) ht (by omega) (does_of (r2 := { r with pc := r.pc.set ps.length ((b : Int) - 48) }) ⟨⟨n, hn, hdn⟩, rfl, rfl, ⟨hp.1, set_take rfl hp2 hp3 _, h29⟩, Or.inr ⟨by omega, by omega⟩, Or.inr rfl, hc0⟩ fun w h => ?_)
     exact act8m_calls h ps.length (by omega) hp.1 (hp1.trans hc) ((6 : Nat) : Int) (b : Int) (by omega) (by omega)
    ·have hq : 0 ≤ cur ∧ cur ≤ 1000009 := hcur.resolve_left hc
     have hc1 : cur ≤ 100000 := hle.resolve_right hc
     have e2 : digit cur b = cur * 10 + ((b : Int) - 48) := by rw [digit, if_neg hc]
     rw [e2]
     refine by_adv h k b 6 8 hst (by omega) (by omega) (by omega) (by decide) (by decide) ht (by omega) (does_of (r2 := { r with pc := r.pc.set ps.length (cur * 10 + ((b : Int) - 48)) }) ⟨⟨n, hn, hdn⟩, rfl, rfl, ⟨hp.1, set_take rfl hp2 hp3 _, h29⟩, Or.inr ⟨by omega, by omega⟩, Or.inr rfl, hc0⟩ fun w h => ?_)
     exact act8d_calls h ps.length (by omega) hp.1 cur hp1 hq.1 hc1 ((6 : Nat) : Int) (b : Int) (by omega) (by omega)
   ·exact absurd hs (by simp)
  ·split at hs
   ·rename_i hb
    split at hs
    ·rename_i hle
     subst hb
     obtain ⟨rfl, rfl⟩ := Prod.mk.inj (Option.some.inj hs)
     rw [List.append_nil]
     have ht : tv (k * 256 + 59) = 6 + 16 * 8 := by
      rcases hk with e | e <;> subst e
      ·exact t_dcs4_par 59 (by decide) (by decide)
      ·exact t_dcs6_par 59 (by decide) (by decide)
     refine by_adv h k 59 6 8 hst (by omega) (by omega) (by omega) (by decide) (by decide) ht (by omega) (does_of (r2 := { r with plen := (ps.length : Int) + 1, pc := r.pc.set (ps.length + 1) Miss }) ⟨⟨n, hn, hdn⟩, rfl, rfl, ⟨by simp, ?_, by simp; omega⟩, Or.inl rfl, Or.inr rfl, hc0⟩ fun w h => ?_)
     ·rw [List.length_append]
      exact set_take (by simp) hp.2.1 (by omega) _
     ·exact act8s_calls h ps.length (by omega) hp.1 ((6 : Nat) : Int)
    ·exact absurd hs (by simp)
   ·exact absurd hs (by simp)
theorem Data.put {data : List Int} (hd : Data r data) (hl : r.dc.length = 4096) (hn : data.length < 4096) (x : Int) : data ++ [x] = (r.dc.set data.length x).take (data ++ [x]).length := by
 rw [List.length_append]
 exact (set_take rfl hd.2.symm (by omega) x).symm
theorem Data.le {data : List Int} (hd : Data r data) (hl : r.dc.length = 4096) : data.length ≤ 4096 := by
 have := congrArg List.length hd.2
 rw [List.length_take, hl] at this
 omega
theorem byte_dstr (h : Inv w0 w L r evs) (cmd : Int) (ps : List Int) (cur : Int) (data : List Int) (hr : Rel (.dstr cmd ps cur data) r) (hev : evs.length < 1000000000000) (b : Nat) {s2 : PS} {e : List Ev} (hs : step (.dstr cmd ps cur data) b = some (s2, e)) : ByteCalls w0 w L b (evs ++ e) s2 := by
 obtain ⟨hst, rfl, hp, hd⟩ := hr
 obtain ⟨hp1, hp2, hp3⟩ := hp.rows
 have hlen := h.raw.lpc
 have hldc := h.raw.ldc
 have h29 := hp.2.2
 have hdle := hd.le hldc
 simp only [step] at hs
 split at hs
 ·rename_i hb
  split at hs
  ·rename_i hl
   obtain ⟨rfl, rfl⟩ := Prod.mk.inj (Option.some.inj hs)
   rw [List.append_nil]
   refine by_adv h 7 b 7 7 hst (by omega) (by omega) (by omega) (by decide) (by decide) (t_dstr_put b hb.1 hb.2) (by decide) (does_of (r2 := { r with dlen := (data.length : Int) + 1, dc := r.dc.set data.length b }) ⟨rfl, rfl, hp, ⟨by simp, hd.put hldc hl _⟩⟩ fun w h => ?_)
   exact act7_calls h (Or.inl hst) data.length hl hd.1 ((7 : Nat) : Int) (b : Int)
  ·exact absurd hs (by simp)
 ·split at hs
  ·rename_i hb
   subst hb
   obtain ⟨rfl, rfl⟩ := Prod.mk.inj (Option.some.inj hs)
   by_cases h0 : ps = []
   ·by_cases hc : cur = Miss
    ·have e1 : closed ps cur = [] := by rw [closed, if_pos ⟨h0, hc⟩]
     subst h0
     rw [e1]
     have g1 : r.plen = 0 := by simpa using hp.1
     have g2 : r.pc.getD 0 0 = Miss := by rw [← hc]; simpa using hp1
     refine by_adv h 7 27 8 4 hst (by omega) (by omega) (by omega) (by decide) (by decide) (t_dstr_esc 27 (by decide) (by decide)) (by decide) (does_of (r2 := { r with plen := 0 }) ⟨⟨data.length, hdle, hd.1⟩, rfl⟩ fun w h => ?_)
     simpa [evDcs] using dcs_none_calls h hev hst g1 g2 data hd.2 hd.1 ((8 : Nat) : Int) ((27 : Nat) : Int)
    ·have e1 : closed ps cur = [cur] := by rw [closed, if_neg (fun e => hc e.2), h0]; rfl
     subst h0
     rw [e1]
     have g1 : r.plen = 0 := by simpa using hp.1
     have g2 : r.pc.getD 0 0 = cur := by simpa using hp1
     have g3 : r.pc.take 1 = [cur] := by simpa using hp.2.1
     refine by_adv h 7 27 8 4 hst (by omega) (by omega) (by omega) (by decide) (by decide) (t_dstr_esc 27 (by decide) (by decide)) (by decide) (does_of (r2 := { r with plen := 1 }) ⟨⟨data.length, hdle, hd.1⟩, rfl⟩ fun w h => ?_)
     rw [← g3]
     exact dcs_one_calls h hev hst g1 cur g2 hc data hd.2 hd.1 ((8 : Nat) : Int) ((27 : Nat) : Int)
   ·have e1 : closed ps cur = ps ++ [cur] := by rw [closed, if_neg (fun e => h0 e.1)]
    rw [e1, ← hp.2.1]
    have hpos : 0 < ps.length := List.length_pos_iff.2 h0
    refine by_adv h 7 27 8 4 hst (by omega) (by omega) (by omega) (by decide) (by decide) (t_dstr_esc 27 (by decide) (by decide)) (by decide) (does_of (r2 := { r with plen := (ps.length : Int) + 1 }) ⟨⟨data.length, hdle, hd.1⟩, rfl⟩ fun w h => ?_)
    exact dcs_pos_calls h hev hst ps.length hpos (by omega) hp.1 data hd.2 hd.1 ((8 : Nat) : Int) ((27 : Nat) : Int)
  ·exact absurd hs (by simp)
theorem byte_apc (h : Inv w0 w L r evs) (data : List Int) (hr : Rel (.apc data) r) (hev : evs.length < 1000000000000) (b : Nat) {s2 : PS} {e : List Ev} (hs : step (.apc data) b = some (s2, e)) : ByteCalls w0 w L b (evs ++ e) s2 := by
 obtain ⟨hst, hp, hpc, hd⟩ := hr
 have hldc := h.raw.ldc
 have hdle := hd.le hldc
 simp only [step] at hs
 split at hs
 ·rename_i hb
  split at hs
  ·rename_i hl
   obtain ⟨rfl, rfl⟩ := Prod.mk.inj (Option.some.inj hs)
   rw [List.append_nil]
   refine by_adv h 13 b 13 7 hst (by omega) (by omega) (by omega) (by decide) (by decide) (t_apc_put b hb.1 hb.2) (by decide) (does_of (r2 := { r with dlen := (data.length : Int) + 1, dc := r.dc.set data.length b }) ⟨rfl, hp, hpc, ⟨by simp, hd.put hldc hl _⟩⟩ fun w h => ?_)
   exact act7_calls h (Or.inr hst) data.length hl hd.1 ((13 : Nat) : Int) (b : Int)
  ·exact absurd hs (by simp)
 ·split at hs
  ·rename_i hb
   subst hb
   obtain ⟨rfl, rfl⟩ := Prod.mk.inj (Option.some.inj hs)
   refine by_adv h 13 27 8 4 hst (by omega) (by omega) (by omega) (by decide) (by decide) (t_apc_esc 27 (by decide) (by decide)) (by decide) (does_of (r2 := { r with plen := 0 }) ⟨⟨data.length, hdle, hd.1⟩, rfl⟩ fun w h => ?_)
   exact apc_calls h hev hst hp hpc data hd.2 hd.1 ((8 : Nat) : Int) ((27 : Nat) : Int)
  ·exact absurd hs (by simp)
theorem byte_osc (h : Inv w0 w L r evs) (cmd : Int) (data : List Int) (hr : Rel (.osc cmd data) r) (hev : evs.length < 1000000000000) (b : Nat) {s2 : PS} {e : List Ev} (hs : step (.osc cmd data) b = some (s2, e)) : ByteCalls w0 w L b (evs ++ e) s2 := by
 obtain ⟨hst, rfl, hp, hpc, hd, hby⟩ := hr
 have hldc := h.raw.ldc
 have hdle := hd.le hldc
 have hat : ∀ i, i < data.length → r.dc.getD i 0 = data.getD i 0 := fun i hi => by
  rw [hd.2]
  simp [List.getElem?_take, hi]
 have more : ∀ b : Nat, b ≤ 126 → ∀ i, i < (data ++ [(b : Int)]).length → 0 ≤ (data ++ [(b : Int)]).getD i 0 ∧ (data ++ [(b : Int)]).getD i 0 ≤ 255 := fun b hb i hi => by
  by_cases hi2 : i < data.length
  ·have := hby i hi2
   simpa [List.getElem?_append, hi2] using this
  ·have : i = data.length := by rw [List.length_append] at hi; simp at hi; omega
   subst this
   simp
   omega
 simp only [step] at hs
 split at hs
 ·rename_i hb
  split at hs
  ·rename_i hl
   split at hs
   ·rename_i hb2
    split at hs
    ·rename_i hh
     obtain ⟨rfl, hc⟩ := hb2
     obtain ⟨rfl, rfl⟩ := Prod.mk.inj (Option.some.inj hs)
     rw [List.append_nil]
     refine by_adv h 10 59 10 7 hst (by omega) (by omega) (by omega) (by decide) (by decide) (t_osc_put 59 (by decide) (by decide)) (by decide) (does_of (r2 := { r with cmd := strCmd data Miss, dlen := (data.length : Int) + 1, dc := r.dc.set data.length 59 }) ⟨rfl, rfl, hp, hpc, ⟨by simp, hd.put hldc hl _⟩, more 59 (by omega)⟩ fun w h => ?_)
     exact act7c_calls h hst data hl hd.1 hat hby hh hc ((10 : Nat) : Int)
    ·exact absurd hs (by simp)
   ·rename_i hb2
    obtain ⟨rfl, rfl⟩ := Prod.mk.inj (Option.some.inj hs)
    rw [List.append_nil]
    refine by_adv h 10 b 10 7 hst (by omega) (by omega) (by omega) (by decide) (by decide) (t_osc_put b hb.1 hb.2) (by decide) (does_of (r2 := { r with dlen := (data.length : Int) + 1, dc := r.dc.set data.length b }) ⟨rfl, rfl, hp, hpc, ⟨by simp, hd.put hldc hl _⟩, more b hb.2⟩ fun w h => ?_)
    exact act7o_calls h hst data.length hl hd.1 ((10 : Nat) : Int) (b : Int) (fun e => hb2 ⟨by omega, e.2⟩)
  ·exact absurd hs (by simp)
 ·split at hs
  ·rename_i hb
   have key : ∀ (s' : Nat), (s' = 0 ∨ s' = 8) → tv (10 * 256 + b) = s' + 16 * 4 → ∀ s2, (s' = 0 ∧ s2 = PS.gr ∨ s' = 8 ∧ s2 = PS.esc) →
     (∀ (hc : r.cmd = Miss) (hh : heads data ≤ 6), ByteCalls w0 w L b (evs ++ [evOsc (strCmd data Miss) data]) s2) ∧ (∀ (hc : r.cmd ≠ Miss), ByteCalls w0 w L b (evs ++ [evOsc r.cmd data]) s2) := by
    intro s' hs' ht s2 h2
    have rel : ∀ r2 : RawSt, r2.dlen = r.dlen → Rel s2 { r2 with st := (s' : Int) } := fun r2 e => by
     rcases h2 with ⟨rfl, rfl⟩ | ⟨rfl, rfl⟩
     ·exact ⟨⟨data.length, hdle, e.trans hd.1⟩, rfl⟩
     ·exact ⟨⟨data.length, hdle, e.trans hd.1⟩, rfl⟩
    refine ⟨fun hc hh => ?_, fun hc => ?_⟩
    ·refine by_adv h 10 b s' 4 hst (by omega) (by omega) (by omega) (by omega) (by decide) ht (by decide) (does_of (r2 := { r with plen := 0, cmd := strCmd data Miss }) (rel _ rfl) fun w h => ?_)
     exact oscp_calls h hev hst hp hpc data hd.2 hd.1 hby hh hc (s' : Int) (b : Int)
    ·refine by_adv h 10 b s' 4 hst (by omega) (by omega) (by omega) (by omega) (by decide) ht (by decide) (does_of (r2 := { r with plen := 0, cmd := r.cmd }) (rel _ rfl) fun w h => ?_)
     exact osc_calls h hev hst hp hpc data hd.2 hd.1 hc (s' : Int) (b : Int)
   have fin : ∀ s2, (b = 7 ∧ s2 = PS.gr ∨ b = 27 ∧ s2 = PS.esc) →
     (∀ (hc : r.cmd = Miss) (hh : heads data ≤ 6), ByteCalls w0 w L b (evs ++ [evOsc (strCmd data Miss) data]) s2) ∧ (∀ (hc : r.cmd ≠ Miss), ByteCalls w0 w L b (evs ++ [evOsc r.cmd data]) s2) := by
    intro s2 h2
    rcases h2 with ⟨rfl, e⟩ | ⟨rfl, e⟩
    ·exact key 0 (Or.inl rfl) (t_osc_bel 7 (by decide) (by decide)) s2 (Or.inl ⟨rfl, e⟩)
    ·exact key 8 (Or.inr rfl) (t_osc_esc 27 (by decide) (by decide)) s2 (Or.inr ⟨rfl, e⟩)
   have hs2 : (b = 7 ∧ (if b = 7 then PS.gr else PS.esc) = PS.gr) ∨ (b = 27 ∧ (if b = 7 then PS.gr else PS.esc) = PS.esc) := by
    rcases hb with e | e <;> subst e <;> simp
   split at hs
   ·rename_i hc
    split at hs
    ·rename_i hh
     obtain ⟨rfl, rfl⟩ := Prod.mk.inj (Option.some.inj hs)
     exact (fin _ hs2).1 hc hh
    ·exact absurd hs (by simp)
   ·rename_i hc
    obtain ⟨rfl, rfl⟩ := Prod.mk.inj (Option.some.inj hs)
    exact (fin _ hs2).2 hc
  ·exact absurd hs (by simp)
/-- One byte. -/
theorem byte_calls (h : Inv w0 w L r evs) (s : PS) (hr : Rel s r) (hev : evs.length < 1000000000000) (b : Nat) {s2 : PS} {e : List Ev} (hs : step s b = some (s2, e)) : ByteCalls w0 w L b (evs ++ e) s2 := by
 cases s with
 | gr => exact byte_gr h hr hev b hs
 | esc => exact byte_esc h hr hev b hs
 | csi k cmd ps cur => exact byte_csi h k cmd ps cur hr hev b hs
 | dcs k cmd ps cur => exact byte_dcs h k cmd ps cur hr b hs
 | dstr cmd ps cur data => exact byte_dstr h cmd ps cur data hr hev b hs
 | osc cmd data => exact byte_osc h cmd data hr hev b hs
 | apc data => exact byte_apc h data hr hev b hs
end
end Go.Proofs.YteebhoehflgfoaaGreatDoor.X
end
