/- One byte: the transition, the action, the new state. Conditions: the table's row for the byte, and what the action does. -/
/- One byte, told by the plain parser. Conditions: the plain parser says something of the byte; fewer events than 10^12. -/
/- A new parser, its handlers. No conditions. -/
/- The handlers are set. No conditions. Written by wip/tool/gen_seth.py. -/
/- The handlers are laid on a parser. No conditions. -/
/- Feed: a new parser, its handlers, byte by byte. Conditions: 32 parameters, 4096 bytes of data, bytes of which the plain parser says something. -/
import Derived.Test.YtgcbnegdchladaaDoorCXTab
import Derived.Test.YtgcbnegdchladaaDoorCEngB
import Derived.Test.YtgcbnegdchladaaDoorCEngC
import Derived.Test.YtgcbnegdchladaaDoorCXDisA
import Derived.Test.YtgcbnegdchladaaDoorCXDisB
import Derived.Test.YtgcbnegdchladaaDoorCXDisC
import Derived.Test.YtgcbnegdchladaaDoorCXDisD
import Derived.Test.YtgcbnegdchladaaDoorCXDisE
import Derived.Laws.MakeOwn
import Derived.Deep.MidRow
namespace Go.Proofs.YtgcbnegdchladaaDoor.X
open Go.RowKit Go.Proofs.YtgcbnegdchladaaDoorW.PrintWords Go.Proofs.YtgcbnegdchladaaDoorW.PrintLast Go.Proofs.YtgcbnegdchladaaDoorW.PrintMore

section
variable {w0 w : World} {L : Loc} {r : RawSt} {evs : List Ev}

/-- What an action leaves. -/
def After (w0 : World) (L : Loc) (P : RawSt → List Ev → Prop) (w : World) : Prop := ∃ r evs, Inv w0 w L r evs ∧ P r evs

/-- An action's contract, in every world with the same parser. -/
def Does (w0 : World) (L : Loc) (r : RawSt) (evs : List Ev) (a s b : Nat) (P : RawSt → List Ev → Prop) : Prop :=
  ∀ w, Inv w0 w L r evs → Calls Tryd.prog 97 #[.pointer (some ⟨L.P, 0, none⟩), .int .u8 (a : Int), .int .u8 (s : Int), .int .u8 (b : Int)] w fun e w' => e = .returned (.tuple #[]) ∧ After w0 L P w'

set_option maxRecDepth 200000 in
set_option maxHeartbeats 8000000 in
theorem adv_calls (h : Inv w0 w L r evs) (s b s' a : Nat) (hst : r.st = s) (h8 : s ≠ 8) (hs : s < 14) (hb : b ≤ 255) (hs' : s' < 16) (ha : a < 16) (ht : tv (s * 256 + b) = s' + 16 * a) (hp : a = 7 → s ≠ 4) (P : RawSt → List Ev → Prop) (hd : Does w0 L r evs a s' b P) :
    Calls Tryd.prog 86 #[.pointer (some ⟨L.P, 0, none⟩), .int .u8 (b : Int)] w fun e w' => ∃ v, e = .returned v ∧ ∃ r' evs', Inv w0 w' L { r' with st := s' } evs' ∧ P r' evs' := by
  have c14 : w.cell? ⟨L.P, 14, none⟩ = some (.int .u8 (s : Int)) := by rw [← hst]; exact h.raw.c14
  have HT := Lib.hid ht
  have HD := Lib.hid hd
  clear hst ht hd
  go_enter Tryd.func86, Tryd.ntmps86
  go_wp2_with fail
  go_region_held3 (fun w' => w'.cell? ⟨L.P, 14, none⟩ = some (.int .u8 (s : Int)))
    (go_keep)
    (first
      | (
        go_at_call 95
        refine (table_calls _).mono ?_
        rintro e wt ⟨rfl, hBt⟩
        have HIt := Lib.hid (h.drew.grow hBt)
        have ct : wt.cell? ⟨L.P, 14, none⟩ = some (.int .u8 (s : Int)) := (World.cell?_of_block (hBt.block L.P (blk_lt h.drew.raw.hP)) : _).trans c14
        clear hBt)
      | (
        go_at_call 96
        refine (transition_calls2 _ s b s' a (by omega) hb hs' HT.out).mono ?_
        rintro e wu ⟨rfl, hBu⟩
        have HIu := Lib.hid (HIt.out.grow hBu)
        have cu : wu.cell? ⟨L.P, 14, none⟩ = some (.int .u8 (s : Int)) := (World.cell?_of_block (hBu.block L.P (blk_lt HIt.out.raw.hP)) : _).trans ct
        clear hBu))
  by_cases e1 : s' = s
  · subst e1
    by_cases e2 : b = 27
    · subst e2
      have f4 : decide ((s' : Int) = 8) = false := decide_eq_false (by omega)
      go_wp2_with (
          go_at_call 97
          refine (HD.out _ HIu.out).mono ?_
          rintro e w2 ⟨rfl, r2, evs2, hI, hP⟩
          have HR := Lib.hid (And.intro (hI.setSt s') hP)
          have z1 := hI.raw.c14
          have z2 := hI.raw.frozen 14
          clear hI hP)
      go_ret
      exact ⟨_, rfl, r2, evs2, HR.out.1, HR.out.2⟩
    · have f3 : decide ((b : Int) = 27) = false := decide_eq_false (by omega)
      go_wp2_with (
          go_at_call 97
          refine (HD.out _ HIu.out).mono ?_
          rintro e w2 ⟨rfl, r2, evs2, hI, hP⟩
          have HR := Lib.hid (And.intro (hI.setSt s') hP)
          have z1 := hI.raw.c14
          have z2 := hI.raw.frozen 14
          clear hI hP)
      go_ret
      exact ⟨_, rfl, r2, evs2, HR.out.1, HR.out.2⟩
  · have f0 : ¬ ((s : Int) = (s' : Int)) := by omega
    have f5 : decide ((s : Int) = 8) = false := decide_eq_false (by omega)
    by_cases e3 : a = 7
    · have f6 : decide ((s : Int) = 4) = false := decide_eq_false (by have := hp e3; omega)
      subst e3
      by_cases e2 : b = 27
      · subst e2
        go_wp2_with (
            go_at_call 97
            refine (HD.out _ HIu.out).mono ?_
            rintro e w2 ⟨rfl, r2, evs2, hI, hP⟩
            have HR := Lib.hid (And.intro (hI.setSt s') hP)
            have z1 := hI.raw.c14
            have z2 := hI.raw.frozen 14
            clear hI hP)
        go_ret
        exact ⟨_, rfl, r2, evs2, HR.out.1, HR.out.2⟩
      · have f3 : decide ((b : Int) = 27) = false := decide_eq_false (by omega)
        go_wp2_with (
            go_at_call 97
            refine (HD.out _ HIu.out).mono ?_
            rintro e w2 ⟨rfl, r2, evs2, hI, hP⟩
            have HR := Lib.hid (And.intro (hI.setSt s') hP)
            have z1 := hI.raw.c14
            have z2 := hI.raw.frozen 14
            clear hI hP)
        go_ret
        exact ⟨_, rfl, r2, evs2, HR.out.1, HR.out.2⟩
    · have f6 : decide ((a : Int) = 7) = false := decide_eq_false (by omega)
      by_cases e2 : b = 27
      · subst e2
        go_wp2_with (
            go_at_call 97
            refine (HD.out _ HIu.out).mono ?_
            rintro e w2 ⟨rfl, r2, evs2, hI, hP⟩
            have HR := Lib.hid (And.intro (hI.setSt s') hP)
            have z1 := hI.raw.c14
            have z2 := hI.raw.frozen 14
            clear hI hP)
        go_ret
        exact ⟨_, rfl, r2, evs2, HR.out.1, HR.out.2⟩
      · have f3 : decide ((b : Int) = 27) = false := decide_eq_false (by omega)
        go_wp2_with (
            go_at_call 97
            refine (HD.out _ HIu.out).mono ?_
            rintro e w2 ⟨rfl, r2, evs2, hI, hP⟩
            have HR := Lib.hid (And.intro (hI.setSt s') hP)
            have z1 := hI.raw.c14
            have z2 := hI.raw.frozen 14
            clear hI hP)
        go_ret
        exact ⟨_, rfl, r2, evs2, HR.out.1, HR.out.2⟩

set_option maxRecDepth 200000 in
set_option maxHeartbeats 8000000 in
/-- Behind an escape the parser is cleared first. -/
theorem adv_esc_calls (h : Inv w0 w L r evs) (b s' a : Nat) (hst : r.st = 8) (h8 : s' ≠ 8) (hb27 : b ≠ 27) (hb : b ≤ 255) (hs' : s' < 16) (ha : a < 16) (ht : tv (8 * 256 + b) = s' + 16 * a) (P : RawSt → List Ev → Prop) (hd : Does w0 L { r with cmd := 0, plen := 0, pc := r.pc.set 0 Miss } evs a s' b P) :
    Calls Tryd.prog 86 #[.pointer (some ⟨L.P, 0, none⟩), .int .u8 (b : Int)] w fun e w' => ∃ v, e = .returned v ∧ ∃ r' evs', Inv w0 w' L { r' with st := s' } evs' ∧ P r' evs' := by
  have c14 : w.cell? ⟨L.P, 14, none⟩ = some (.int .u8 8) := by rw [← hst]; exact h.raw.c14
  have HST := Lib.hid (show r.st = (8 : Int) from hst)
  have HT := Lib.hid ht
  have HD := Lib.hid hd
  clear hst ht hd
  go_enter Tryd.func86, Tryd.ntmps86
  go_wp2_with fail
  go_region_held3 (fun w' => w'.cell? ⟨L.P, 14, none⟩ = some (.int .u8 8))
    (go_keep)
    (first
      | (
        go_at_call 95
        refine (table_calls _).mono ?_
        rintro e wt ⟨rfl, hBt⟩
        have HIt := Lib.hid (h.drew.grow hBt)
        have ct : wt.cell? ⟨L.P, 14, none⟩ = some (.int .u8 8) := (World.cell?_of_block (hBt.block L.P (blk_lt h.drew.raw.hP)) : _).trans c14
        clear hBt)
      | (
        go_at_call 96
        refine (transition_calls2 _ 8 b s' a (by omega) hb hs' HT.out).mono ?_
        rintro e wu ⟨rfl, hBu⟩
        have HIu := Lib.hid (HIt.out.grow hBu)
        have cu : wu.cell? ⟨L.P, 14, none⟩ = some (.int .u8 8) := (World.cell?_of_block (hBu.block L.P (blk_lt HIt.out.raw.hP)) : _).trans ct
        clear hBu))
  have f0 : ¬ ((8 : Int) = (s' : Int)) := by omega
  have f3 : decide ((b : Int) = 27) = false := decide_eq_false (by omega)
  by_cases e3 : a = 7
  · subst e3
    go_wp2_with (first
      | (
        have HQ := H1.out
        go_at_call 97
        refine (HD.out _ HQ).mono ?_
        rintro e w2 ⟨rfl, r2, evs2, hI, hP⟩
        have HR := Lib.hid (And.intro (hI.setSt s') hP)
        have z1 := hI.raw.c14
        have z2 := hI.raw.frozen 14
        clear hI hP HQ)
      | (
        go_at_call 97
        refine (act1_calls HIu.out (s' : Int) (b : Int)).mono ?_
        rintro e w1 ⟨rfl, hI1⟩
        have H1 := Lib.hid hI1
        have z0 : w1.cell? ⟨L.P, 14, none⟩ = some (.int .u8 8) := by rw [← HST.out]; exact hI1.raw.c14
        clear hI1))
    go_ret
    exact ⟨_, rfl, r2, evs2, HR.out.1, HR.out.2⟩
  · have f6 : decide ((a : Int) = 7) = false := decide_eq_false (by omega)
    go_wp2_with (first
      | (
        have HQ := H1.out
        go_at_call 97
        refine (HD.out _ HQ).mono ?_
        rintro e w2 ⟨rfl, r2, evs2, hI, hP⟩
        have HR := Lib.hid (And.intro (hI.setSt s') hP)
        have z1 := hI.raw.c14
        have z2 := hI.raw.frozen 14
        clear hI hP HQ)
      | (
        go_at_call 97
        refine (act1_calls HIu.out (s' : Int) (b : Int)).mono ?_
        rintro e w1 ⟨rfl, hI1⟩
        have H1 := Lib.hid hI1
        have z0 : w1.cell? ⟨L.P, 14, none⟩ = some (.int .u8 8) := by rw [← HST.out]; exact hI1.raw.c14
        clear hI1))
    go_ret
    exact ⟨_, rfl, r2, evs2, HR.out.1, HR.out.2⟩

set_option maxRecDepth 200000 in
set_option maxHeartbeats 8000000 in
/-- Advance, outside of a character of several bytes. -/
theorem Adv_calls (h : Inv w0 w L r evs) (b : Nat) (hs : r.st ≠ 14) (R : World → Prop)
    (hc : Calls Tryd.prog 86 #[.pointer (some ⟨L.P, 0, none⟩), .int .u8 (b : Int)] w fun e w' => ∃ v, e = .returned v ∧ R w') :
    Calls Tryd.prog 59 #[.pointer (some ⟨L.P, 0, none⟩), .int .u8 (b : Int)] w fun e w' => ∃ v, e = .returned v ∧ R w' := by
  have c14 := h.raw.c14
  have HC := Lib.hid hc
  clear hc
  go_enter Tryd.func59, Tryd.ntmps59
  go_wp2_with (go_at_call 86; refine HC.out.mono ?_; rintro e w1 ⟨v, rfl, hR⟩; have HR := Lib.hid hR; clear hR)
  go_ret
  exact ⟨_, rfl, HR.out⟩
end
end Go.Proofs.YtgcbnegdchladaaDoor.X
namespace Go.Proofs.YtgcbnegdchladaaDoor.X
open Go.RowKit Go.Proofs.YtgcbnegdchladaaDoorW.PrintWords Go.Proofs.YtgcbnegdchladaaDoorW.PrintLast Go.Proofs.YtgcbnegdchladaaDoorW.PrintMore
set_option linter.unusedSimpArgs false
set_option linter.unusedVariables false

/-! ### Rows, plainly -/
theorem take_last {pc ps : List Int} {cur : Int} (h : pc.take (ps.length + 1) = ps ++ [cur]) : pc.getD ps.length 0 = cur := by
  have := congrArg (fun l => l.getD ps.length 0) h
  simpa [List.getElem?_take] using this
theorem take_len {pc ps : List Int} {cur : Int} (h : pc.take (ps.length + 1) = ps ++ [cur]) : ps.length < pc.length := by
  have := congrArg List.length h
  simp [List.length_take] at this
  omega
theorem take_front {pc ps : List Int} {cur : Int} (h : pc.take (ps.length + 1) = ps ++ [cur]) : pc.take ps.length = ps := by
  have := congrArg (List.take ps.length) h
  simpa [List.take_take] using this
theorem set_take {pc ps : List Int} {n : Nat} (hn : n = ps.length) (h : pc.take n = ps) (hl : n < pc.length) (x : Int) : (pc.set n x).take (n + 1) = ps ++ [x] := by
  subst hn
  rw [List.take_succ_eq_append_getElem (by simpa using hl)]
  have e1 : (pc.set ps.length x).take ps.length = ps := by rw [List.take_set, h, List.set_eq_of_length_le (Nat.le_refl _)]
  rw [e1]
  simp
theorem set_far {pc : List Int} (n : Nat) (x : Int) : (pc.set n x).take n = pc.take n := by
  rw [List.take_set, List.set_eq_of_length_le (by rw [List.length_take]; omega)]

/-- The plain parser's state, and the memory. -/
def Params (r : RawSt) (ps : List Int) (cur : Int) : Prop := r.plen = ps.length ∧ r.pc.take (ps.length + 1) = ps ++ [cur] ∧ ps.length ≤ 29
def Data (r : RawSt) (data : List Int) : Prop := r.dlen = data.length ∧ data = r.dc.take data.length
def Rel : PS → RawSt → Prop
  | .gr, r => (∃ n : Nat, n ≤ 4096 ∧ r.dlen = n) ∧ r.st = 0
  | .esc, r => (∃ n : Nat, n ≤ 4096 ∧ r.dlen = n) ∧ r.st = 8
  | .csi k cmd ps cur, r => (∃ n : Nat, n ≤ 4096 ∧ r.dlen = n) ∧ r.st = k ∧ r.cmd = cmd ∧ Params r ps cur ∧ (cur = Miss ∨ 0 ≤ cur ∧ cur ≤ 1000009) ∧
      (k = 1 ∧ cmd = 0 ∧ ps = [] ∧ cur = Miss ∨ k = 2 ∧ 0 ≤ cmd ∧ cmd < 2 ^ 40 ∧ cmd % 256 = 0 ∨ k = 3 ∧ cmd ∈ [0, 15360, 15616, 15872, 16128])
  | .dcs k cmd ps cur, r => (∃ n : Nat, n ≤ 4096 ∧ r.dlen = n) ∧ r.st = k ∧ r.cmd = cmd ∧ Params r ps cur ∧ (cur = Miss ∨ 0 ≤ cur ∧ cur ≤ 1000009) ∧ (k = 4 ∨ k = 6) ∧ cmd = 0
  | .dstr cmd ps cur data, r => r.st = 7 ∧ r.cmd = cmd ∧ Params r ps cur ∧ Data r data
  | .osc cmd data, r => r.st = 10 ∧ r.cmd = cmd ∧ r.plen = 0 ∧ r.pc.getD 0 0 = Miss ∧ Data r data ∧ ∀ i, i < data.length → 0 ≤ data.getD i 0 ∧ data.getD i 0 ≤ 255
  | .apc data, r => r.st = 13 ∧ r.plen = 0 ∧ r.pc.getD 0 0 = Miss ∧ Data r data

section
variable {w0 w : World} {L : Loc} {r : RawSt} {evs : List Ev}

/-- Where a byte leads. -/
def Leads (w0 : World) (L : Loc) (evs : List Ev) (s2 : PS) (w : World) : Prop := ∃ r2, Inv w0 w L r2 evs ∧ Rel s2 r2
abbrev ByteCalls (w0 w : World) (L : Loc) (b : Nat) (evs : List Ev) (s2 : PS) : Prop :=
  Calls Tryd.prog 59 #[.pointer (some ⟨L.P, 0, none⟩), .int .u8 (b : Int)] w fun e w' => ∃ v, e = .returned v ∧ Leads w0 L evs s2 w'
def Ends (evs : List Ev) (s2 : PS) (s' : Nat) : RawSt → List Ev → Prop := fun r' evs' => evs' = evs ∧ Rel s2 { r' with st := (s' : Int) }

theorem by_adv (h : Inv w0 w L r evs) (s b s' a : Nat) {evs2 : List Ev} {s2 : PS} (hst : r.st = s) (h8 : s ≠ 8) (hs : s < 14) (hb : b ≤ 255) (hs' : s' < 16) (ha : a < 16) (ht : tv (s * 256 + b) = s' + 16 * a) (hp : a = 7 → s ≠ 4) (hd : Does w0 L r evs a s' b (Ends evs2 s2 s')) : ByteCalls w0 w L b evs2 s2 := by
  refine Adv_calls h b (by omega) _ ((adv_calls h s b s' a hst h8 hs hb hs' ha ht hp _ hd).mono ?_)
  rintro e w' ⟨v, rfl, r', evs', hI, rfl, hR⟩
  exact ⟨v, rfl, _, hI, hR⟩
theorem by_esc (h : Inv w0 w L r evs) (b s' a : Nat) {evs2 : List Ev} {s2 : PS} (hst : r.st = 8) (h8 : s' ≠ 8) (hb27 : b ≠ 27) (hb : b ≤ 255) (hs' : s' < 16) (ha : a < 16) (ht : tv (8 * 256 + b) = s' + 16 * a) (hd : Does w0 L { r with cmd := 0, plen := 0, pc := r.pc.set 0 Miss } evs a s' b (Ends evs2 s2 s')) : ByteCalls w0 w L b evs2 s2 := by
  refine Adv_calls h b (by omega) _ ((adv_esc_calls h b s' a hst h8 hb27 hb hs' ha ht _ hd).mono ?_)
  rintro e w' ⟨v, rfl, r', evs', hI, rfl, hR⟩
  exact ⟨v, rfl, _, hI, hR⟩

/-- An action that is told so is done. -/
theorem does_of {a s b : Nat} {evs2 : List Ev} {s2 : PS} {r2 : RawSt} (hR : Rel s2 { r2 with st := (s : Int) })
    (hc : ∀ w, Inv w0 w L r evs → Calls Tryd.prog 97 #[.pointer (some ⟨L.P, 0, none⟩), .int .u8 (a : Int), .int .u8 (s : Int), .int .u8 (b : Int)] w fun e w' => e = .returned (.tuple #[]) ∧ Inv w0 w' L r2 evs2) : Does w0 L r evs a s b (Ends evs2 s2 s) := by
  intro w h
  refine (hc w h).mono ?_
  rintro e w' ⟨rfl, hI⟩
  exact ⟨rfl, _, _, hI, rfl, hR⟩

theorem get0_set (h : Inv w0 w L r evs) (x : Int) : (r.pc.set 0 x).getD 0 0 = x := by
  have := h.raw.lpc
  simp [List.getElem?_set, show 0 < r.pc.length by omega]
theorem take0_set (h : Inv w0 w L r evs) (x : Int) : (r.pc.set 0 x).take 1 = [x] := by
  have := h.raw.lpc
  match hp : r.pc with
  | [] => rw [hp] at this; simp at this
  | y :: l => simp

theorem byte_gr (h : Inv w0 w L r evs) (hr : Rel .gr r) (hev : evs.length < 1000000000000) (b : Nat) {s2 : PS} {e : List Ev} (hs : step .gr b = some (s2, e)) : ByteCalls w0 w L b (evs ++ e) s2 := by
  obtain ⟨hd, hst⟩ := hr
  simp only [step] at hs
  split at hs
  · rename_i hb
    subst hb
    obtain ⟨rfl, rfl⟩ := Prod.mk.inj (Option.some.inj hs)
    rw [List.append_nil]
    exact by_adv h 0 27 8 1 hst (by decide) (by decide) (by decide) (by decide) (by decide) (t_gr_esc 27 (by decide) (by decide)) (by decide) (does_of (r2 := { r with cmd := 0, plen := 0, pc := r.pc.set 0 Miss }) ⟨hd, rfl⟩ fun w h => act1_calls h _ _)
  · split at hs
    · rename_i hb
      obtain ⟨rfl, rfl⟩ := Prod.mk.inj (Option.some.inj hs)
      exact by_adv h 0 b 0 9 hst (by decide) (by decide) (by omega) (by decide) (by decide) (t_gr_print b hb.1 hb.2) (by decide) (does_of (r2 := { r with cmd := b }) ⟨hd, rfl⟩ fun w h => act9_calls h hev _ _ (by omega) (by omega))
    · split at hs
      · rename_i h27 _ hb
        obtain ⟨rfl, rfl⟩ := Prod.mk.inj (Option.some.inj hs)
        refine by_adv h 0 b 0 5 hst (by decide) (by decide) (by omega) (by decide) (by decide) ?_ (by decide) (does_of (r2 := { r with cmd := b }) ⟨hd, rfl⟩ fun w h => act5_calls h hev _ _ (by omega) (by omega))
        by_cases h3 : b ≤ 26
        · exact t_gr_ex0 b (by omega) h3
        · exact t_gr_ex1 b (by omega) (by omega)
      · exact absurd hs (by simp)

theorem byte_esc (h : Inv w0 w L r evs) (hr : Rel .esc r) (hev : evs.length < 1000000000000) (b : Nat) {s2 : PS} {e : List Ev} (hs : step .esc b = some (s2, e)) : ByteCalls w0 w L b (evs ++ e) s2 := by
  obtain ⟨hd, hst⟩ := hr
  obtain ⟨n, hn, hdn⟩ := hd
  simp only [step] at hs
  split at hs
  · rename_i hb
    subst hb
    obtain ⟨rfl, rfl⟩ := Prod.mk.inj (Option.some.inj hs)
    rw [List.append_nil]
    exact by_esc h 91 1 1 hst (by decide) (by decide) (by decide) (by decide) (by decide) (t_esc_csi 91 (by decide) (by decide)) (does_of (r2 := { r with cmd := 0, plen := 0, pc := (r.pc.set 0 Miss).set 0 Miss }) ⟨⟨n, hn, hdn⟩, rfl, rfl, ⟨rfl, by simpa [List.set_set] using take0_set h Miss, by simp⟩, Or.inl rfl, Or.inl ⟨rfl, rfl, rfl, rfl⟩⟩ fun w h => act1_calls h _ _)
  · split at hs
    · rename_i hb
      subst hb
      obtain ⟨rfl, rfl⟩ := Prod.mk.inj (Option.some.inj hs)
      rw [List.append_nil]
      exact by_esc h 93 10 6 hst (by decide) (by decide) (by decide) (by decide) (by decide) (t_esc_osc 93 (by decide) (by decide)) (does_of (r2 := { r with cmd := Miss, plen := 0, pc := r.pc.set 0 Miss, dlen := 0 }) ⟨rfl, rfl, rfl, get0_set h Miss, ⟨rfl, rfl⟩, by simp⟩ fun w h => act6_calls h (by simp [hdn]) hst _ _)
    · split at hs
      · rename_i hb
        subst hb
        obtain ⟨rfl, rfl⟩ := Prod.mk.inj (Option.some.inj hs)
        rw [List.append_nil]
        exact by_esc h 80 4 1 hst (by decide) (by decide) (by decide) (by decide) (by decide) (t_esc_dcs 80 (by decide) (by decide)) (does_of (r2 := { r with cmd := 0, plen := 0, pc := (r.pc.set 0 Miss).set 0 Miss }) ⟨⟨n, hn, hdn⟩, rfl, rfl, ⟨rfl, by simpa [List.set_set] using take0_set h Miss, by simp⟩, Or.inl rfl, Or.inl rfl, rfl⟩ fun w h => act1_calls h _ _)
      · split at hs
        · rename_i hb
          subst hb
          obtain ⟨rfl, rfl⟩ := Prod.mk.inj (Option.some.inj hs)
          rw [List.append_nil]
          exact by_esc h 95 13 6 hst (by decide) (by decide) (by decide) (by decide) (by decide) (t_esc_apc 95 (by decide) (by decide)) (does_of (r2 := { r with cmd := Miss, plen := 0, pc := r.pc.set 0 Miss, dlen := 0 }) ⟨rfl, rfl, get0_set h Miss, ⟨rfl, rfl⟩⟩ fun w h => act6_calls h (by simp [hdn]) hst _ _)
        · split at hs
          · rename_i hb
            obtain ⟨rfl, rfl⟩ := Prod.mk.inj (Option.some.inj hs)
            refine by_esc h b 0 4 hst (by decide) (by omega) (by omega) (by decide) (by decide) ?_ (does_of (r2 := { r with cmd := b, plen := 0, pc := r.pc.set 0 Miss }) ⟨⟨n, hn, hdn⟩, rfl⟩ fun w h' => esc_calls h' hev hst rfl (get0_set h Miss) rfl (by simp [hdn]) (by simp [hdn]; omega) _ _ (by omega) (by omega))
            rcases hb with e | e | e <;> subst e
            · exact t_esc_55 55 (by decide) (by decide)
            · exact t_esc_55 56 (by decide) (by decide)
            · exact t_esc_92 92 (by decide) (by decide)
          · exact absurd hs (by simp)

/-- The parameters at the end, as the memory gives them. -/
theorem Params.rows {ps : List Int} {cur : Int} (hp : Params r ps cur) : r.pc.getD ps.length 0 = cur ∧ r.pc.take ps.length = ps ∧ ps.length < r.pc.length := ⟨take_last hp.2.1, take_front hp.2.1, take_len hp.2.1⟩

theorem byte_csi (h : Inv w0 w L r evs) (k : Nat) (cmd : Int) (ps : List Int) (cur : Int) (hr : Rel (.csi k cmd ps cur) r) (hev : evs.length < 1000000000000) (b : Nat) {s2 : PS} {e : List Ev} (hs : step (.csi k cmd ps cur) b = some (s2, e)) : ByteCalls w0 w L b (evs ++ e) s2 := by
  obtain ⟨⟨n, hn, hdn⟩, hst, rfl, hp, hcur, hk⟩ := hr
  obtain ⟨hp1, hp2, hp3⟩ := hp.rows
  have hk3 : k = 1 ∨ k = 2 ∨ k = 3 := by rcases hk with ⟨e, _⟩ | ⟨e, _⟩ | ⟨e, _⟩ <;> omega
  have hcc : 0 ≤ r.cmd ∧ r.cmd < 2 ^ 40 ∧ r.cmd % 256 = 0 := by
    rcases hk with ⟨_, e, _⟩ | ⟨_, e⟩ | ⟨_, e⟩
    · omega
    · omega
    · simp only [List.mem_cons, List.not_mem_nil, or_false] at e
      omega
  have hlen := h.raw.lpc
  have hd0 : 0 ≤ r.dlen := by omega
  have hd1 : r.dlen ≤ 4096 := by omega
  simp only [step] at hs
  split at hs
  · -- the end
    rename_i hb
    obtain ⟨rfl, rfl⟩ := Prod.mk.inj (Option.some.inj hs)
    have ht : tv (k * 256 + b) = 0 + 16 * 4 := by
      rcases hk3 with e | e | e <;> subst e
      · exact t_csi1_end b hb.1 hb.2
      · exact t_csi2_end b hb.1 hb.2
      · exact t_csi3_end b hb.1 hb.2
    by_cases h0 : ps = []
    · by_cases hc : cur = Miss
      · have e1 : closed ps cur = [] := by rw [closed, if_pos ⟨h0, hc⟩]
        subst h0
        rw [e1]
        have g1 : r.plen = 0 := by simpa using hp.1
        have g2 : r.pc.getD 0 0 = Miss := by rw [← hc]; simpa using hp1
        refine by_adv h k b 0 4 hst (by omega) (by omega) (by omega) (by decide) (by decide) ht (by omega) (does_of (r2 := { r with plen := 0, cmd := r.cmd + b }) ⟨⟨n, hn, hdn⟩, rfl⟩ fun w h => ?_)
        rcases hk3 with e | e | e <;> subst e
        · simpa [evCsi] using csi1_none_calls h hev hst g1 g2 hcc.1 hcc.2.1 hcc.2.2 hd0 hd1 ((0 : Nat) : Int) (b : Int) (by omega) (by omega)
        · simpa [evCsi] using csi2_none_calls h hev hst g1 g2 hcc.1 hcc.2.1 hcc.2.2 hd0 hd1 ((0 : Nat) : Int) (b : Int) (by omega) (by omega)
        · simpa [evCsi] using csi3_none_calls h hev hst g1 g2 hcc.1 hcc.2.1 hcc.2.2 hd0 hd1 ((0 : Nat) : Int) (b : Int) (by omega) (by omega)
      · have e1 : closed ps cur = [cur] := by rw [closed, if_neg (fun e => hc e.2), h0]; rfl
        subst h0
        rw [e1]
        have g1 : r.plen = 0 := by simpa using hp.1
        have g2 : r.pc.getD 0 0 = cur := by simpa using hp1
        have g3 : r.pc.take 1 = [cur] := by simpa using hp.2.1
        refine by_adv h k b 0 4 hst (by omega) (by omega) (by omega) (by decide) (by decide) ht (by omega) (does_of (r2 := { r with plen := 1, cmd := r.cmd + b }) ⟨⟨n, hn, hdn⟩, rfl⟩ fun w h => ?_)
        rw [← g3]
        rcases hk with ⟨_, _, _, e⟩ | ⟨e, _⟩ | ⟨e, _⟩
        · exact absurd e hc
        · subst e
          exact csi2_one_calls h hev hst g1 cur g2 hc hcc.1 hcc.2.1 hcc.2.2 hd0 hd1 ((0 : Nat) : Int) (b : Int) (by omega) (by omega)
        · subst e
          exact csi3_one_calls h hev hst g1 cur g2 hc hcc.1 hcc.2.1 hcc.2.2 hd0 hd1 ((0 : Nat) : Int) (b : Int) (by omega) (by omega)
    · have e1 : closed ps cur = ps ++ [cur] := by rw [closed, if_neg (fun e => h0 e.1)]
      rw [e1, ← hp.2.1]
      have hpos : 0 < ps.length := List.length_pos_iff.2 h0
      have h29 := hp.2.2
      refine by_adv h k b 0 4 hst (by omega) (by omega) (by omega) (by decide) (by decide) ht (by omega) (does_of (r2 := { r with plen := (ps.length : Int) + 1, cmd := r.cmd + b }) ⟨⟨n, hn, hdn⟩, rfl⟩ fun w h => ?_)
      rcases hk with ⟨_, _, e, _⟩ | ⟨e, _⟩ | ⟨e, _⟩
      · exact absurd e h0
      · subst e
        exact csi2_pos_calls h hev hst ps.length hpos (by omega) hp.1 hcc.1 hcc.2.1 hcc.2.2 hd0 hd1 ((0 : Nat) : Int) (b : Int) (by omega) (by omega)
      · subst e
        exact csi3_pos_calls h hev hst ps.length hpos (by omega) hp.1 hcc.1 hcc.2.1 hcc.2.2 hd0 hd1 ((0 : Nat) : Int) (b : Int) (by omega) (by omega)
  · split at hs
    · -- a digit
      rename_i hb
      split at hs
      · rename_i hle
        obtain ⟨rfl, rfl⟩ := Prod.mk.inj (Option.some.inj hs)
        rw [List.append_nil]
        have h29 := hp.2.2
        have ht : tv (k * 256 + b) = 3 + 16 * 8 := by
          rcases hk3 with e | e | e <;> subst e
          · exact t_csi1_par b hb.1 (by omega)
          · exact absurd rfl hb.2.2
          · exact t_csi3_par b hb.1 (by omega)
        have hk' : r.cmd ∈ [0, 15360, 15616, 15872, 16128] := by
          rcases hk with ⟨_, e, _⟩ | ⟨e, _⟩ | ⟨_, e⟩
          · rw [e]; decide
          · exact absurd e hb.2.2
          · exact e
        by_cases hc : cur = Miss
        · have e2 : digit cur b = (b : Int) - 48 := by rw [digit, if_pos hc]; omega
          rw [e2]
          refine by_adv h k b 3 8 hst (by omega) (by omega) (by omega) (by decide) (by decide) ht (by omega) (does_of (r2 := { r with pc := r.pc.set ps.length ((b : Int) - 48) }) ⟨⟨n, hn, hdn⟩, rfl, rfl, ⟨hp.1, set_take rfl hp2 hp3 _, h29⟩, Or.inr ⟨by omega, by omega⟩, Or.inr (Or.inr ⟨rfl, hk'⟩)⟩ fun w h => ?_)
          exact act8m_calls h ps.length (by omega) hp.1 (hp1.trans hc) ((3 : Nat) : Int) (b : Int) (by omega) (by omega)
        · have hc0 : 0 ≤ cur ∧ cur ≤ 1000009 := hcur.resolve_left hc
          have hc1 : cur ≤ 100000 := hle.resolve_right hc
          have e2 : digit cur b = cur * 10 + ((b : Int) - 48) := by rw [digit, if_neg hc]
          rw [e2]
          refine by_adv h k b 3 8 hst (by omega) (by omega) (by omega) (by decide) (by decide) ht (by omega) (does_of (r2 := { r with pc := r.pc.set ps.length (cur * 10 + ((b : Int) - 48)) }) ⟨⟨n, hn, hdn⟩, rfl, rfl, ⟨hp.1, set_take rfl hp2 hp3 _, h29⟩, Or.inr ⟨by omega, by omega⟩, Or.inr (Or.inr ⟨rfl, hk'⟩)⟩ fun w h => ?_)
          exact act8d_calls h ps.length (by omega) hp.1 cur hp1 hc0.1 hc1 ((3 : Nat) : Int) (b : Int) (by omega) (by omega)
      · exact absurd hs (by simp)
    · split at hs
      · -- a semicolon
        rename_i hb
        split at hs
        · rename_i hle
          obtain ⟨rfl, hk2⟩ := hb
          obtain ⟨rfl, rfl⟩ := Prod.mk.inj (Option.some.inj hs)
          rw [List.append_nil]
          have ht : tv (k * 256 + 59) = 3 + 16 * 8 := by
            rcases hk3 with e | e | e <;> subst e
            · exact t_csi1_par 59 (by decide) (by decide)
            · exact absurd rfl hk2
            · exact t_csi3_par 59 (by decide) (by decide)
          have hk' : r.cmd ∈ [0, 15360, 15616, 15872, 16128] := by
            rcases hk with ⟨_, e, _⟩ | ⟨e, _⟩ | ⟨_, e⟩
            · rw [e]; decide
            · exact absurd e hk2
            · exact e
          refine by_adv h k 59 3 8 hst (by omega) (by omega) (by omega) (by decide) (by decide) ht (by omega) (does_of (r2 := { r with plen := (ps.length : Int) + 1, pc := r.pc.set (ps.length + 1) Miss }) ⟨⟨n, hn, hdn⟩, rfl, rfl, ⟨by simp, ?_, by simp; omega⟩, Or.inl rfl, Or.inr (Or.inr ⟨rfl, hk'⟩)⟩ fun w h => ?_)
          · rw [List.length_append]
            exact set_take (by simp) hp.2.1 (by omega) _
          · exact act8s_calls h ps.length (by omega) hp.1 ((3 : Nat) : Int)
        · exact absurd hs (by simp)
      · split at hs
        · -- a prefix
          rename_i hb
          obtain ⟨hb0, hb1, rfl⟩ := hb
          obtain ⟨rfl, rfl⟩ := Prod.mk.inj (Option.some.inj hs)
          rw [List.append_nil]
          rcases hk with ⟨_, hc, _⟩ | ⟨e, _⟩ | ⟨e, _⟩
          · refine by_adv h 1 b 3 3 hst (by omega) (by omega) (by omega) (by decide) (by decide) (t_csi1_pre b hb0 hb1) (by decide) (does_of (r2 := { r with cmd := (b : Int) * 256 }) ⟨⟨n, hn, hdn⟩, rfl, rfl, hp, hcur, Or.inr (Or.inr ⟨rfl, ?_⟩)⟩ fun w h => ?_)
            · have : b = 60 ∨ b = 61 ∨ b = 62 ∨ b = 63 := by omega
              rcases this with e | e | e | e <;> subst e <;> decide
            · exact act3_calls h hc ((3 : Nat) : Int) (b : Int) (by omega) (by omega)
          · omega
          · omega
        · split at hs
          · -- an intermediate
            rename_i hb
            obtain ⟨rfl, rfl⟩ := Prod.mk.inj (Option.some.inj hs)
            rw [List.append_nil]
            have ht : tv (k * 256 + b) = 2 + 16 * 2 := by
              rcases hk3 with e | e | e <;> subst e
              · exact t_csi1_col b hb.1 hb.2.1
              · exact absurd rfl hb.2.2
              · exact t_csi3_col b hb.1 hb.2.1
            have hk' : r.cmd ∈ [0, 15360, 15616, 15872, 16128] := by
              rcases hk with ⟨_, e, _⟩ | ⟨e, _⟩ | ⟨_, e⟩
              · rw [e]; decide
              · exact absurd e hb.2.2
              · exact e
            have hk4 : 0 ≤ r.cmd ∧ r.cmd < 65536 := by
              simp only [List.mem_cons, List.not_mem_nil, or_false] at hk'
              omega
            refine by_adv h k b 2 2 hst (by omega) (by omega) (by omega) (by decide) (by decide) ht (by omega) (does_of (r2 := { r with cmd := r.cmd + (b : Int) * 65536 }) ⟨⟨n, hn, hdn⟩, rfl, rfl, hp, hcur, Or.inr (Or.inl ⟨rfl, by omega, by omega, by omega⟩)⟩ fun w h => ?_)
            exact act2_calls h hk' ((2 : Nat) : Int) (b : Int) (by decide) (by omega) (by omega)
          · exact absurd hs (by simp)

theorem byte_dcs (h : Inv w0 w L r evs) (k : Nat) (cmd : Int) (ps : List Int) (cur : Int) (hr : Rel (.dcs k cmd ps cur) r) (b : Nat) {s2 : PS} {e : List Ev} (hs : step (.dcs k cmd ps cur) b = some (s2, e)) : ByteCalls w0 w L b (evs ++ e) s2 := by
  obtain ⟨⟨n, hn, hdn⟩, hst, rfl, hp, hcur, hk, hc0⟩ := hr
  obtain ⟨hp1, hp2, hp3⟩ := hp.rows
  have hlen := h.raw.lpc
  have h29 := hp.2.2
  simp only [step] at hs
  split at hs
  · rename_i hb
    obtain ⟨rfl, rfl⟩ := Prod.mk.inj (Option.some.inj hs)
    rw [List.append_nil]
    have ht : tv (k * 256 + b) = 7 + 16 * 6 := by
      rcases hk with e | e <;> subst e
      · exact t_dcs4_end b hb.1 hb.2
      · exact t_dcs6_end b hb.1 hb.2
    refine by_adv h k b 7 6 hst (by omega) (by omega) (by omega) (by decide) (by decide) ht (by omega) (does_of (r2 := { r with dlen := 0, cmd := r.cmd + (b : Int) }) ⟨rfl, rfl, hp, ⟨rfl, rfl⟩⟩ fun w h => ?_)
    exact act6d_calls h (by omega) (by rcases hk with e | e <;> subst e <;> simp [hst]) (by omega) (by omega) (by omega) ((7 : Nat) : Int) (b : Int) (by omega) (by omega)
  · split at hs
    · rename_i hb
      split at hs
      · rename_i hle
        obtain ⟨rfl, rfl⟩ := Prod.mk.inj (Option.some.inj hs)
        rw [List.append_nil]
        have ht : tv (k * 256 + b) = 6 + 16 * 8 := by
          rcases hk with e | e <;> subst e
          · exact t_dcs4_par b hb.1 (by omega)
          · exact t_dcs6_par b hb.1 (by omega)
        by_cases hc : cur = Miss
        · have e2 : digit cur b = (b : Int) - 48 := by rw [digit, if_pos hc]; omega
          rw [e2]
          refine by_adv h k b 6 8 hst (by omega) (by omega) (by omega) (by decide) (by decide) ht (by omega) (does_of (r2 := { r with pc := r.pc.set ps.length ((b : Int) - 48) }) ⟨⟨n, hn, hdn⟩, rfl, rfl, ⟨hp.1, set_take rfl hp2 hp3 _, h29⟩, Or.inr ⟨by omega, by omega⟩, Or.inr rfl, hc0⟩ fun w h => ?_)
          exact act8m_calls h ps.length (by omega) hp.1 (hp1.trans hc) ((6 : Nat) : Int) (b : Int) (by omega) (by omega)
        · have hq : 0 ≤ cur ∧ cur ≤ 1000009 := hcur.resolve_left hc
          have hc1 : cur ≤ 100000 := hle.resolve_right hc
          have e2 : digit cur b = cur * 10 + ((b : Int) - 48) := by rw [digit, if_neg hc]
          rw [e2]
          refine by_adv h k b 6 8 hst (by omega) (by omega) (by omega) (by decide) (by decide) ht (by omega) (does_of (r2 := { r with pc := r.pc.set ps.length (cur * 10 + ((b : Int) - 48)) }) ⟨⟨n, hn, hdn⟩, rfl, rfl, ⟨hp.1, set_take rfl hp2 hp3 _, h29⟩, Or.inr ⟨by omega, by omega⟩, Or.inr rfl, hc0⟩ fun w h => ?_)
          exact act8d_calls h ps.length (by omega) hp.1 cur hp1 hq.1 hc1 ((6 : Nat) : Int) (b : Int) (by omega) (by omega)
      · exact absurd hs (by simp)
    · split at hs
      · rename_i hb
        split at hs
        · rename_i hle
          subst hb
          obtain ⟨rfl, rfl⟩ := Prod.mk.inj (Option.some.inj hs)
          rw [List.append_nil]
          have ht : tv (k * 256 + 59) = 6 + 16 * 8 := by
            rcases hk with e | e <;> subst e
            · exact t_dcs4_par 59 (by decide) (by decide)
            · exact t_dcs6_par 59 (by decide) (by decide)
          refine by_adv h k 59 6 8 hst (by omega) (by omega) (by omega) (by decide) (by decide) ht (by omega) (does_of (r2 := { r with plen := (ps.length : Int) + 1, pc := r.pc.set (ps.length + 1) Miss }) ⟨⟨n, hn, hdn⟩, rfl, rfl, ⟨by simp, ?_, by simp; omega⟩, Or.inl rfl, Or.inr rfl, hc0⟩ fun w h => ?_)
          · rw [List.length_append]
            exact set_take (by simp) hp.2.1 (by omega) _
          · exact act8s_calls h ps.length (by omega) hp.1 ((6 : Nat) : Int)
        · exact absurd hs (by simp)
      · exact absurd hs (by simp)

theorem Data.put {data : List Int} (hd : Data r data) (hl : r.dc.length = 4096) (hn : data.length < 4096) (x : Int) : data ++ [x] = (r.dc.set data.length x).take (data ++ [x]).length := by
  rw [List.length_append]
  exact (set_take rfl hd.2.symm (by omega) x).symm
theorem Data.le {data : List Int} (hd : Data r data) (hl : r.dc.length = 4096) : data.length ≤ 4096 := by
  have := congrArg List.length hd.2
  rw [List.length_take, hl] at this
  omega

theorem byte_dstr (h : Inv w0 w L r evs) (cmd : Int) (ps : List Int) (cur : Int) (data : List Int) (hr : Rel (.dstr cmd ps cur data) r) (hev : evs.length < 1000000000000) (b : Nat) {s2 : PS} {e : List Ev} (hs : step (.dstr cmd ps cur data) b = some (s2, e)) : ByteCalls w0 w L b (evs ++ e) s2 := by
  obtain ⟨hst, rfl, hp, hd⟩ := hr
  obtain ⟨hp1, hp2, hp3⟩ := hp.rows
  have hlen := h.raw.lpc
  have hldc := h.raw.ldc
  have h29 := hp.2.2
  have hdle := hd.le hldc
  simp only [step] at hs
  split at hs
  · rename_i hb
    split at hs
    · rename_i hl
      obtain ⟨rfl, rfl⟩ := Prod.mk.inj (Option.some.inj hs)
      rw [List.append_nil]
      refine by_adv h 7 b 7 7 hst (by omega) (by omega) (by omega) (by decide) (by decide) (t_dstr_put b hb.1 hb.2) (by decide) (does_of (r2 := { r with dlen := (data.length : Int) + 1, dc := r.dc.set data.length b }) ⟨rfl, rfl, hp, ⟨by simp, hd.put hldc hl _⟩⟩ fun w h => ?_)
      exact act7_calls h (Or.inl hst) data.length hl hd.1 ((7 : Nat) : Int) (b : Int)
    · exact absurd hs (by simp)
  · split at hs
    · rename_i hb
      subst hb
      obtain ⟨rfl, rfl⟩ := Prod.mk.inj (Option.some.inj hs)
      by_cases h0 : ps = []
      · by_cases hc : cur = Miss
        · have e1 : closed ps cur = [] := by rw [closed, if_pos ⟨h0, hc⟩]
          subst h0
          rw [e1]
          have g1 : r.plen = 0 := by simpa using hp.1
          have g2 : r.pc.getD 0 0 = Miss := by rw [← hc]; simpa using hp1
          refine by_adv h 7 27 8 4 hst (by omega) (by omega) (by omega) (by decide) (by decide) (t_dstr_esc 27 (by decide) (by decide)) (by decide) (does_of (r2 := { r with plen := 0 }) ⟨⟨data.length, hdle, hd.1⟩, rfl⟩ fun w h => ?_)
          simpa [evDcs] using dcs_none_calls h hev hst g1 g2 data hd.2 hd.1 ((8 : Nat) : Int) ((27 : Nat) : Int)
        · have e1 : closed ps cur = [cur] := by rw [closed, if_neg (fun e => hc e.2), h0]; rfl
          subst h0
          rw [e1]
          have g1 : r.plen = 0 := by simpa using hp.1
          have g2 : r.pc.getD 0 0 = cur := by simpa using hp1
          have g3 : r.pc.take 1 = [cur] := by simpa using hp.2.1
          refine by_adv h 7 27 8 4 hst (by omega) (by omega) (by omega) (by decide) (by decide) (t_dstr_esc 27 (by decide) (by decide)) (by decide) (does_of (r2 := { r with plen := 1 }) ⟨⟨data.length, hdle, hd.1⟩, rfl⟩ fun w h => ?_)
          rw [← g3]
          exact dcs_one_calls h hev hst g1 cur g2 hc data hd.2 hd.1 ((8 : Nat) : Int) ((27 : Nat) : Int)
      · have e1 : closed ps cur = ps ++ [cur] := by rw [closed, if_neg (fun e => h0 e.1)]
        rw [e1, ← hp.2.1]
        have hpos : 0 < ps.length := List.length_pos_iff.2 h0
        refine by_adv h 7 27 8 4 hst (by omega) (by omega) (by omega) (by decide) (by decide) (t_dstr_esc 27 (by decide) (by decide)) (by decide) (does_of (r2 := { r with plen := (ps.length : Int) + 1 }) ⟨⟨data.length, hdle, hd.1⟩, rfl⟩ fun w h => ?_)
        exact dcs_pos_calls h hev hst ps.length hpos (by omega) hp.1 data hd.2 hd.1 ((8 : Nat) : Int) ((27 : Nat) : Int)
    · exact absurd hs (by simp)

theorem byte_apc (h : Inv w0 w L r evs) (data : List Int) (hr : Rel (.apc data) r) (hev : evs.length < 1000000000000) (b : Nat) {s2 : PS} {e : List Ev} (hs : step (.apc data) b = some (s2, e)) : ByteCalls w0 w L b (evs ++ e) s2 := by
  obtain ⟨hst, hp, hpc, hd⟩ := hr
  have hldc := h.raw.ldc
  have hdle := hd.le hldc
  simp only [step] at hs
  split at hs
  · rename_i hb
    split at hs
    · rename_i hl
      obtain ⟨rfl, rfl⟩ := Prod.mk.inj (Option.some.inj hs)
      rw [List.append_nil]
      refine by_adv h 13 b 13 7 hst (by omega) (by omega) (by omega) (by decide) (by decide) (t_apc_put b hb.1 hb.2) (by decide) (does_of (r2 := { r with dlen := (data.length : Int) + 1, dc := r.dc.set data.length b }) ⟨rfl, hp, hpc, ⟨by simp, hd.put hldc hl _⟩⟩ fun w h => ?_)
      exact act7_calls h (Or.inr hst) data.length hl hd.1 ((13 : Nat) : Int) (b : Int)
    · exact absurd hs (by simp)
  · split at hs
    · rename_i hb
      subst hb
      obtain ⟨rfl, rfl⟩ := Prod.mk.inj (Option.some.inj hs)
      refine by_adv h 13 27 8 4 hst (by omega) (by omega) (by omega) (by decide) (by decide) (t_apc_esc 27 (by decide) (by decide)) (by decide) (does_of (r2 := { r with plen := 0 }) ⟨⟨data.length, hdle, hd.1⟩, rfl⟩ fun w h => ?_)
      exact apc_calls h hev hst hp hpc data hd.2 hd.1 ((8 : Nat) : Int) ((27 : Nat) : Int)
    · exact absurd hs (by simp)

theorem byte_osc (h : Inv w0 w L r evs) (cmd : Int) (data : List Int) (hr : Rel (.osc cmd data) r) (hev : evs.length < 1000000000000) (b : Nat) {s2 : PS} {e : List Ev} (hs : step (.osc cmd data) b = some (s2, e)) : ByteCalls w0 w L b (evs ++ e) s2 := by
  obtain ⟨hst, rfl, hp, hpc, hd, hby⟩ := hr
  have hldc := h.raw.ldc
  have hdle := hd.le hldc
  have hat : ∀ i, i < data.length → r.dc.getD i 0 = data.getD i 0 := fun i hi => by
    rw [hd.2]
    simp [List.getElem?_take, hi]
  have more : ∀ b : Nat, b ≤ 126 → ∀ i, i < (data ++ [(b : Int)]).length → 0 ≤ (data ++ [(b : Int)]).getD i 0 ∧ (data ++ [(b : Int)]).getD i 0 ≤ 255 := fun b hb i hi => by
    by_cases hi2 : i < data.length
    · have := hby i hi2
      simpa [List.getElem?_append, hi2] using this
    · have : i = data.length := by rw [List.length_append] at hi; simp at hi; omega
      subst this
      simp
      omega
  simp only [step] at hs
  split at hs
  · rename_i hb
    split at hs
    · rename_i hl
      split at hs
      · rename_i hb2
        split at hs
        · rename_i hh
          obtain ⟨rfl, hc⟩ := hb2
          obtain ⟨rfl, rfl⟩ := Prod.mk.inj (Option.some.inj hs)
          rw [List.append_nil]
          refine by_adv h 10 59 10 7 hst (by omega) (by omega) (by omega) (by decide) (by decide) (t_osc_put 59 (by decide) (by decide)) (by decide) (does_of (r2 := { r with cmd := strCmd data Miss, dlen := (data.length : Int) + 1, dc := r.dc.set data.length 59 }) ⟨rfl, rfl, hp, hpc, ⟨by simp, hd.put hldc hl _⟩, more 59 (by omega)⟩ fun w h => ?_)
          exact act7c_calls h hst data hl hd.1 hat hby hh hc ((10 : Nat) : Int)
        · exact absurd hs (by simp)
      · rename_i hb2
        obtain ⟨rfl, rfl⟩ := Prod.mk.inj (Option.some.inj hs)
        rw [List.append_nil]
        refine by_adv h 10 b 10 7 hst (by omega) (by omega) (by omega) (by decide) (by decide) (t_osc_put b hb.1 hb.2) (by decide) (does_of (r2 := { r with dlen := (data.length : Int) + 1, dc := r.dc.set data.length b }) ⟨rfl, rfl, hp, hpc, ⟨by simp, hd.put hldc hl _⟩, more b hb.2⟩ fun w h => ?_)
        exact act7o_calls h hst data.length hl hd.1 ((10 : Nat) : Int) (b : Int) (fun e => hb2 ⟨by omega, e.2⟩)
    · exact absurd hs (by simp)
  · split at hs
    · rename_i hb
      have key : ∀ (s' : Nat), (s' = 0 ∨ s' = 8) → tv (10 * 256 + b) = s' + 16 * 4 → ∀ s2, (s' = 0 ∧ s2 = PS.gr ∨ s' = 8 ∧ s2 = PS.esc) →
          (∀ (hc : r.cmd = Miss) (hh : heads data ≤ 6), ByteCalls w0 w L b (evs ++ [evOsc (strCmd data Miss) data]) s2) ∧ (∀ (hc : r.cmd ≠ Miss), ByteCalls w0 w L b (evs ++ [evOsc r.cmd data]) s2) := by
        intro s' hs' ht s2 h2
        have rel : ∀ r2 : RawSt, r2.dlen = r.dlen → Rel s2 { r2 with st := (s' : Int) } := fun r2 e => by
          rcases h2 with ⟨rfl, rfl⟩ | ⟨rfl, rfl⟩
          · exact ⟨⟨data.length, hdle, e.trans hd.1⟩, rfl⟩
          · exact ⟨⟨data.length, hdle, e.trans hd.1⟩, rfl⟩
        refine ⟨fun hc hh => ?_, fun hc => ?_⟩
        · refine by_adv h 10 b s' 4 hst (by omega) (by omega) (by omega) (by omega) (by decide) ht (by decide) (does_of (r2 := { r with plen := 0, cmd := strCmd data Miss }) (rel _ rfl) fun w h => ?_)
          exact oscp_calls h hev hst hp hpc data hd.2 hd.1 hby hh hc (s' : Int) (b : Int)
        · refine by_adv h 10 b s' 4 hst (by omega) (by omega) (by omega) (by omega) (by decide) ht (by decide) (does_of (r2 := { r with plen := 0, cmd := r.cmd }) (rel _ rfl) fun w h => ?_)
          exact osc_calls h hev hst hp hpc data hd.2 hd.1 hc (s' : Int) (b : Int)
      have fin : ∀ s2, (b = 7 ∧ s2 = PS.gr ∨ b = 27 ∧ s2 = PS.esc) →
          (∀ (hc : r.cmd = Miss) (hh : heads data ≤ 6), ByteCalls w0 w L b (evs ++ [evOsc (strCmd data Miss) data]) s2) ∧ (∀ (hc : r.cmd ≠ Miss), ByteCalls w0 w L b (evs ++ [evOsc r.cmd data]) s2) := by
        intro s2 h2
        rcases h2 with ⟨rfl, e⟩ | ⟨rfl, e⟩
        · exact key 0 (Or.inl rfl) (t_osc_bel 7 (by decide) (by decide)) s2 (Or.inl ⟨rfl, e⟩)
        · exact key 8 (Or.inr rfl) (t_osc_esc 27 (by decide) (by decide)) s2 (Or.inr ⟨rfl, e⟩)
      have hs2 : (b = 7 ∧ (if b = 7 then PS.gr else PS.esc) = PS.gr) ∨ (b = 27 ∧ (if b = 7 then PS.gr else PS.esc) = PS.esc) := by
        rcases hb with e | e <;> subst e <;> simp
      split at hs
      · rename_i hc
        split at hs
        · rename_i hh
          obtain ⟨rfl, rfl⟩ := Prod.mk.inj (Option.some.inj hs)
          exact (fin _ hs2).1 hc hh
        · exact absurd hs (by simp)
      · rename_i hc
        obtain ⟨rfl, rfl⟩ := Prod.mk.inj (Option.some.inj hs)
        exact (fin _ hs2).2 hc
    · exact absurd hs (by simp)

/-- One byte. -/
theorem byte_calls (h : Inv w0 w L r evs) (s : PS) (hr : Rel s r) (hev : evs.length < 1000000000000) (b : Nat) {s2 : PS} {e : List Ev} (hs : step s b = some (s2, e)) : ByteCalls w0 w L b (evs ++ e) s2 := by
  cases s with
  | gr => exact byte_gr h hr hev b hs
  | esc => exact byte_esc h hr hev b hs
  | csi k cmd ps cur => exact byte_csi h k cmd ps cur hr hev b hs
  | dcs k cmd ps cur => exact byte_dcs h k cmd ps cur hr b hs
  | dstr cmd ps cur data => exact byte_dstr h cmd ps cur data hr hev b hs
  | osc cmd data => exact byte_osc h cmd data hr hev b hs
  | apc data => exact byte_apc h data hr hev b hs
end
end Go.Proofs.YtgcbnegdchladaaDoor.X
namespace Go.Proofs.YtgcbnegdchladaaDoor.X
open Go.RowKit Go.Proofs.YtgcbnegdchladaaDoorW.PrintWords Go.Proofs.YtgcbnegdchladaaDoorW.PrintLast Go.Proofs.YtgcbnegdchladaaDoorW.PrintMore

/-- A parser's block, before it has handlers. -/
def newCells (fs : List Value) (p9 p10 : Value) : Array Value := (fs ++ [p9, p10, .int .i64 0, .int .i64 0, .int .i64 0, .int .u8 0]).toArray
def zeros (n : Nat) : List Int := List.replicate n 0
theorem made_int (k : IntKind) (n : Nat) : madeCells #[.int k 0] n = ints k (zeros n) := by
  apply Array.ext
  · simp [madeCells, ints, zeros]
  · intro i h1 h2
    simp [madeCells, ints, zeros, Nat.mod_one]
theorem infoInt : (Tryd.prog.info? 3).map (fun i => (i.zero, i.size, i.bytes)) = some (some (.int .i64 0), 1, 8) := by kernel_rfl
theorem infoByte : (Tryd.prog.info? 5).map (fun i => (i.zero, i.size, i.bytes)) = some (some (.int .u8 0), 1, 1) := by kernel_rfl

theorem make_ints (n : Nat) (hn : n ≤ 65536) (w : World) : (Instr.makeSlice 87 (.int .i64 (n : Int)) (.int .i64 (n : Int))).run Tryd.prog w = .ok (.slice (some ⟨w.heap.size, 0, none⟩) n n) (w.alloc (.cells (ints .i64 (zeros n)) 3)) := by
  obtain ⟨i0, hi, hzz⟩ := Option.map_eq_some_iff.1 infoInt
  simp only [Prod.mk.injEq] at hzz
  obtain ⟨hz0, hz1, hz2⟩ := hzz
  have := run_make (P := Tryd.prog) w 87 3 i0 (.int .i64 0) (by kernel_rfl) hi hz0 .i64 .i64 (n : Int) (n : Int) (by omega) (by omega) (by rw [hz2]; omega) (by omega)
  rw [hz1] at this
  simp only [Int.toNat_natCast, Nat.mul_one] at this
  rw [this, show Value.cells (.int .i64 0) = #[.int .i64 0] from rfl, made_int]
theorem make_bytes (n : Nat) (hn : n ≤ 65536) (w : World) : (Instr.makeSlice 32 (.int .i64 (n : Int)) (.int .i64 (n : Int))).run Tryd.prog w = .ok (.slice (some ⟨w.heap.size, 0, none⟩) n n) (w.alloc (.cells (ints .u8 (zeros n)) 5)) := by
  obtain ⟨i0, hi, hzz⟩ := Option.map_eq_some_iff.1 infoByte
  simp only [Prod.mk.injEq] at hzz
  obtain ⟨hz0, hz1, hz2⟩ := hzz
  have := run_make (P := Tryd.prog) w 32 5 i0 (.int .u8 0) (by kernel_rfl) hi hz0 .i64 .i64 (n : Int) (n : Int) (by omega) (by omega) (by rw [hz2]; omega) (by omega)
  rw [hz1] at this
  simp only [Int.toNat_natCast, Nat.mul_one] at this
  rw [this, show Value.cells (.int .u8 0) = #[.int .u8 0] from rfl, made_int]

theorem nine (fs : List Value) (hf : fs.length = 9) (p9 p10 : Value) : (newCells fs p9 p10)[9]? = some p9 ∧ (newCells fs p9 p10)[10]? = some p10 ∧ (∀ x, (newCells fs p9 p10).setIfInBounds 9 x = newCells fs x p10) ∧ (∀ x, (newCells fs p9 p10).setIfInBounds 10 x = newCells fs p9 x) := by
  match fs, hf with
  | [_, _, _, _, _, _, _, _, _], _ => exact ⟨rfl, rfl, fun _ => rfl, fun _ => rfl⟩

/-- What setting a size leaves. -/
structure Sized (w w' : World) (g q : Nat) (cs ds : Array Value) (t : Nat) : Prop where
  new : w.heap.size ≤ q
  blk : w'.heap[g]? = some (.cells cs 89 (0, 0))
  row : w'.heap[q]? = some (.cells ds t (0, 0))
  size : w.heap.size ≤ w'.heap.size
  keep : ∀ i, i < w.heap.size → i ≠ g → w'.heap[i]? = w.heap[i]?
  below : ∀ B, B ≤ g → B ≤ w.heap.size → Below B w w'

theorem sized_of {w : World} {g : Nat} {cs cs' ds : Array Value} {t j : Nat} {v : Value} (h : w.heap[g]? = some (.cells cs 89 (0, 0))) (hc : cs.setIfInBounds j v = cs') : Sized w ((w.alloc (.cells ds t)).setCell ⟨g, j, none⟩ v) g w.heap.size cs' ds t := by
  have hlt := blk_lt h
  have h1 := blk_alloc h (.cells ds t)
  refine ⟨Nat.le_refl _, ?_, ?_, ?_, fun i hi hne => ?_, fun B hB hBw => ?_⟩
  · rw [← hc]; exact blk_set h1 j v
  · exact blk_far (blk_new w _) (p := ⟨g, j, none⟩) (by simp only; omega) v
  · exact (((below_alloc (Below.refl w.heap.size w) (.cells ds t)).mono (Nat.zero_le _)).setCell (p := ⟨g, j, none⟩) (Nat.zero_le _) v).size
  · exact (Below.heap_setCell _ ⟨g, j, none⟩ v i hne).trans (Below.heap_alloc w _ i hi)
  · exact (below_alloc (Below.refl _ _) _).mono hBw |>.setCell hB v

set_option maxRecDepth 200000 in
theorem setParams_calls (n : Nat) (hn : n ≤ 65536) (w : World) (g : Nat) (fs : List Value) (hf : fs.length = 9) (p9 p10 : Value) (h : w.heap[g]? = some (.cells (newCells fs p9 p10) 89 (0, 0))) :
    Calls Tryd.prog 72 #[.pointer (some ⟨g, 0, none⟩), .int .i64 (n : Int)] w fun e w' => e = .returned (.tuple #[]) ∧ ∃ q, Sized w w' g q (newCells fs (.slice (some ⟨q, 0, none⟩) n n) p10) (ints .i64 (zeros n)) 3 := by
  have f9 := blk_frozen (blk_alloc h (.cells (ints .i64 (zeros n)) 3)) 9
  have hs := sized_of (ds := ints .i64 (zeros n)) (t := 3) h ((nine fs hf p9 p10).2.2.1 (.slice (some ⟨w.heap.size, 0, none⟩) n n))
  have c9 : (w.alloc (.cells (ints .i64 (zeros n)) 3)).cell? ⟨g, 9, none⟩ = some p9 := by
    rw [blk_cell (blk_alloc h _)]
    exact (nine fs hf p9 p10).1
  have mk := make_ints n hn w
  have HS := Lib.hid hs
  clear hs h
  go_enter Tryd.func72, Tryd.ntmps72
  go_wp2_with fail
  go_end0
  exact ⟨rfl, _, HS.out⟩
set_option maxRecDepth 200000 in
theorem setData_calls (n : Nat) (hn0 : 0 < n) (hn : n ≤ 65536) (w : World) (g : Nat) (fs : List Value) (hf : fs.length = 9) (p9 p10 : Value) (h : w.heap[g]? = some (.cells (newCells fs p9 p10) 89 (0, 0))) :
    Calls Tryd.prog 73 #[.pointer (some ⟨g, 0, none⟩), .int .i64 (n : Int)] w fun e w' => e = .returned (.tuple #[]) ∧ ∃ q, Sized w w' g q (newCells fs p9 (.slice (some ⟨q, 0, none⟩) n n)) (ints .u8 (zeros n)) 5 := by
  have f9 := blk_frozen (blk_alloc h (.cells (ints .u8 (zeros n)) 5)) 10
  have hs := sized_of (ds := ints .u8 (zeros n)) (t := 5) h ((nine fs hf p9 p10).2.2.2 (.slice (some ⟨w.heap.size, 0, none⟩) n n))
  have c9 : (w.alloc (.cells (ints .u8 (zeros n)) 5)).cell? ⟨g, 10, none⟩ = some p10 := by
    rw [blk_cell (blk_alloc h _)]
    exact (nine fs hf p9 p10).2.1
  have mk := make_bytes n hn w
  have e0 : decide ((n : Int) ≤ 0) = false := decide_eq_false (by omega)
  have HS := Lib.hid hs
  have e1 : n ≠ 0 := by omega
  have e2 : ¬ ((n : Int) ≤ 0) := by omega
  clear hs h
  go_enter Tryd.func73, Tryd.ntmps73
  go_wp2_with fail
  go_end0
  exact ⟨rfl, _, HS.out⟩

def nofs : List Value := [.nilFunc, .nilFunc, .nilFunc, .nilFunc, .nilFunc, .nilFunc, .nilFunc, .nilFunc, .nilFunc]
/-- A parser with its two rows, in a world that keeps what was there. -/
structure Made (w w' : World) (fs : List Value) (g q d n m : Nat) : Prop where
  ng : w.heap.size ≤ g
  nq : w.heap.size ≤ q
  nd : w.heap.size ≤ d
  blk : w'.heap[g]? = some (.cells (newCells fs (.slice (some ⟨q, 0, none⟩) n n) (.slice (some ⟨d, 0, none⟩) m m)) 89 (0, 0))
  row : w'.heap[q]? = some (.cells (ints .i64 (zeros n)) 3 (0, 0))
  dat : w'.heap[d]? = some (.cells (ints .u8 (zeros m)) 5 (0, 0))
  below : Below w.heap.size w w'

set_option maxRecDepth 200000 in
theorem newParser0_calls (w : World) :
    Calls Tryd.prog 71 #[] w fun e w' => ∃ g p9 p10, e = .returned (.pointer (some ⟨g, 0, none⟩)) ∧ w.heap.size ≤ g ∧ w'.heap[g]? = some (.cells (newCells nofs p9 p10) 89 (0, 0)) ∧ Below w.heap.size w w' := by
  have h0 : (w.alloc (.cells (newCells nofs (.slice none 0 0) (.slice none 0 0)) 89)).heap[w.heap.size]? = some (.cells (newCells nofs (.slice none 0 0) (.slice none 0 0)) 89 (0, 0)) := blk_new w _
  have H0 := Lib.hid h0
  clear h0
  go_enter Tryd.func71, Tryd.ntmps71
  go_wp2_with (first
    | (
      go_at_call 72
      refine (setParams_calls 32 (by omega) _ w.heap.size nofs rfl _ _ H0.out).mono ?_
      rintro e w1 ⟨rfl, q, hs⟩
      have H1 := Lib.hid hs
      clear hs)
    | (
      go_at_call 73
      refine (setData_calls 65536 (by omega) (by omega) _ w.heap.size nofs rfl _ _ H1.out.blk).mono ?_
      rintro e w2 ⟨rfl, d, hs⟩
      have H2 := Lib.hid hs
      clear hs))
  go_ret
  refine ⟨_, _, _, rfl, Nat.le_refl _, H2.out.blk, ?_⟩
  have ha := (below_alloc (Below.refl w.heap.size w) (.cells (newCells nofs (.slice none 0 0) (.slice none 0 0)) 89))
  have h1 := H1.out.below w.heap.size (Nat.le_refl _) ha.size
  have h2 := H2.out.below w.heap.size (Nat.le_refl _) (Nat.le_trans ha.size h1.size)
  exact ha.trans (h1.trans h2)

set_option maxRecDepth 200000 in
theorem newParser_calls (w : World) :
    Calls Tryd.prog 56 #[.int .i64 32, .int .i64 4096] w fun e w' => ∃ g q d, e = .returned (.pointer (some ⟨g, 0, none⟩)) ∧ Made w w' nofs g q d 32 4096 := by
  go_enter Tryd.func56, Tryd.ntmps56
  go_wp2_with (first
    | (
      go_at_call 71
      refine (newParser0_calls _).mono ?_
      rintro e w0 ⟨g, p9, p10, rfl, hg, h0, hb⟩
      have H0 := Lib.hid h0
      have HG := Lib.hid hg
      have HB := Lib.hid hb
      clear h0 hg hb)
    | (
      go_at_call 72
      refine (setParams_calls 32 (by omega) _ g nofs rfl _ _ H0.out).mono ?_
      rintro e w1 ⟨rfl, q, hs⟩
      have H1 := Lib.hid hs
      clear hs)
    | (
      go_at_call 73
      refine (setData_calls 4096 (by omega) (by omega) _ g nofs rfl _ _ H1.out.blk).mono ?_
      rintro e w2 ⟨rfl, d, hs⟩
      have H2 := Lib.hid hs
      clear hs))
  go_ret
  have s0 := HB.out.size
  have s1 := H1.out.size
  have n1 := H1.out.new
  have n2 := H2.out.new
  have l1 := blk_lt H1.out.row
  have hne : q ≠ g := by have := blk_lt H0.out; omega
  exact ⟨g, q, d, rfl, HG.out, by omega, by omega, H2.out.blk, (H2.out.keep q l1 hne).trans H1.out.row, H2.out.row, HB.out.trans ((H1.out.below _ HG.out s0).trans (H2.out.below _ HG.out (by omega)))⟩
end Go.Proofs.YtgcbnegdchladaaDoor.X
namespace Go.Proofs.YtgcbnegdchladaaDoor.X
open Go.RowKit Go.Proofs.YtgcbnegdchladaaDoorW.PrintWords Go.Proofs.YtgcbnegdchladaaDoorW.PrintLast Go.Proofs.YtgcbnegdchladaaDoorW.PrintMore

/-- The nine handlers, which hold the box b. -/
def hfs (b : Nat) : List Value := [.func (.func 75) #[] #[.pointer (some ⟨b, 0, none⟩)], .func (.func 76) #[] #[.pointer (some ⟨b, 0, none⟩)], .func (.func 77) #[] #[.pointer (some ⟨b, 0, none⟩)], .func (.func 79) #[] #[.pointer (some ⟨b, 0, none⟩)], .func (.func 80) #[] #[.pointer (some ⟨b, 0, none⟩)], .func (.func 81) #[] #[.pointer (some ⟨b, 0, none⟩)], .func (.func 82) #[] #[.pointer (some ⟨b, 0, none⟩)], .func (.func 83) #[] #[.pointer (some ⟨b, 0, none⟩)], .func (.func 84) #[] #[.pointer (some ⟨b, 0, none⟩)]]

/-- What setting the handlers leaves. -/
structure Handed (w w' : World) (g b : Nat) (p9 p10 : Value) : Prop where
  blk : w'.heap[g]? = some (.cells (newCells (hfs b) p9 p10) 89 (0, 0))
  size : w.heap.size ≤ w'.heap.size
  keep : ∀ i, i < w.heap.size → i ≠ g → w'.heap[i]? = w.heap[i]?
  below : ∀ B, B ≤ g → B ≤ w.heap.size → Below B w w'

theorem handed_of {b : Nat} {w : World} {g : Nat} {fs : List Value} (hf : fs.length = 9) {p9 p10 : Value} (h : w.heap[g]? = some (.cells (newCells fs p9 p10) 89 (0, 0))) (o : Obj) : Handed w ((w.alloc o).setCells g 0 (hfs b)) g b p9 p10 := by
  have h1 := blk_alloc h o
  have ha := below_alloc (Below.refl w.heap.size w) o
  obtain ⟨s1, s2, s3, s4⟩ := setCells_same g (hfs b) 0 (w.alloc o)
  have hsz : w.heap.size ≤ ((w.alloc o).setCells g 0 (hfs b)).heap.size := by rw [s4]; exact ha.size
  have hkeep : ∀ i, i < w.heap.size → i ≠ g → ((w.alloc o).setCells g 0 (hfs b)).heap[i]? = w.heap[i]? := fun i hi hne => (setCells_far (hfs b) 0 i hne).trans (ha.block i hi)
  refine ⟨?_, hsz, hkeep, fun B hB hBw => ⟨s1.trans ha.os, s2.trans ha.tape, s3.trans ha.output, hsz, fun i hi => hkeep i (by omega) (by omega)⟩⟩
  match fs, hf with
  | [_, _, _, _, _, _, _, _, _], _ =>
    obtain ⟨cur', c1, c2, c3⟩ := setCells_row (hfs b) 0 (w.alloc o) _ h1 (by simp [hfs, newCells])
    rw [c1]
    have : cur' = newCells (hfs b) p9 p10 := by
      apply Array.toList_inj.1
      rw [c3]
      rfl
    rw [this]

theorem infoHandler : (Tryd.prog.info? 86).map (·.size) = some 9 := by kernel_rfl
theorem one_hfs (b : Nat) : (hfs b).toArray.all (·.oneCell') = true := by simp [hfs, Value.oneCell']
theorem there_of {w : World} {g : Nat} {fs : List Value} (hf : fs.length = 9) {p9 p10 : Value} (h : w.heap[g]? = some (.cells (newCells fs p9 p10) 89 (0, 0))) (o : Obj) : (w.alloc o).there g 0 9 := by
  intro j hj
  have h1 := blk_alloc h o
  rw [Nat.zero_add, blk_cell h1 j]
  refine ⟨?_, blk_frozen h1 j⟩
  match fs, hf with
  | [_, _, _, _, _, _, _, _, _], _ => simp [newCells]; omega

set_option maxRecDepth 200000 in
set_option maxHeartbeats 4000000 in
theorem setHandler_calls (b : Nat) (w : World) (g : Nat) (fs : List Value) (hf : fs.length = 9) (p9 p10 : Value) (h : w.heap[g]? = some (.cells (newCells fs p9 p10) 89 (0, 0))) :
    Calls Tryd.prog 74 #[.pointer (some ⟨g, 0, none⟩), .agg #[.func (.func 75) #[] #[.pointer (some ⟨b, 0, none⟩)], .func (.func 76) #[] #[.pointer (some ⟨b, 0, none⟩)], .func (.func 77) #[] #[.pointer (some ⟨b, 0, none⟩)], .func (.func 79) #[] #[.pointer (some ⟨b, 0, none⟩)], .func (.func 80) #[] #[.pointer (some ⟨b, 0, none⟩)], .func (.func 81) #[] #[.pointer (some ⟨b, 0, none⟩)], .func (.func 82) #[] #[.pointer (some ⟨b, 0, none⟩)], .func (.func 83) #[] #[.pointer (some ⟨b, 0, none⟩)], .func (.func 84) #[] #[.pointer (some ⟨b, 0, none⟩)]]] w fun e w' => e = .returned (.tuple #[]) ∧ Handed w w' g b p9 p10 := by
  have HH := Lib.hid h
  clear h
  go_enter Tryd.func74, Tryd.ntmps74
  go_wp2_with (
    (with_reducible refine gate_store (t := 86) (p := 7) (v := .tmp 5) rfl ?_)
    refine wpList_store_mid rfl 86 (.tmp 7) (.tmp 5) rfl g 0 #[.func (.func 75) #[] #[.pointer (some ⟨b, 0, none⟩)], .func (.func 76) #[] #[.pointer (some ⟨b, 0, none⟩)], .func (.func 77) #[] #[.pointer (some ⟨b, 0, none⟩)], .func (.func 79) #[] #[.pointer (some ⟨b, 0, none⟩)], .func (.func 80) #[] #[.pointer (some ⟨b, 0, none⟩)], .func (.func 81) #[] #[.pointer (some ⟨b, 0, none⟩)], .func (.func 82) #[] #[.pointer (some ⟨b, 0, none⟩)], .func (.func 83) #[] #[.pointer (some ⟨b, 0, none⟩)], .func (.func 84) #[] #[.pointer (some ⟨b, 0, none⟩)]] rfl rfl (there_of hf HH.out _) infoHandler (one_hfs b) ?_
    have HS := Lib.hid (handed_of (b := b) hf HH.out (.cells #[.func (.func 75) #[] #[.pointer (some ⟨b, 0, none⟩)], .func (.func 76) #[] #[.pointer (some ⟨b, 0, none⟩)], .func (.func 77) #[] #[.pointer (some ⟨b, 0, none⟩)], .func (.func 79) #[] #[.pointer (some ⟨b, 0, none⟩)], .func (.func 80) #[] #[.pointer (some ⟨b, 0, none⟩)], .func (.func 81) #[] #[.pointer (some ⟨b, 0, none⟩)], .func (.func 82) #[] #[.pointer (some ⟨b, 0, none⟩)], .func (.func 83) #[] #[.pointer (some ⟨b, 0, none⟩)], .func (.func 84) #[] #[.pointer (some ⟨b, 0, none⟩)]] 86))
    change wpList _ _ _ _ _ ((w.alloc (.cells #[.func (.func 75) #[] #[.pointer (some ⟨b, 0, none⟩)], .func (.func 76) #[] #[.pointer (some ⟨b, 0, none⟩)], .func (.func 77) #[] #[.pointer (some ⟨b, 0, none⟩)], .func (.func 79) #[] #[.pointer (some ⟨b, 0, none⟩)], .func (.func 80) #[] #[.pointer (some ⟨b, 0, none⟩)], .func (.func 81) #[] #[.pointer (some ⟨b, 0, none⟩)], .func (.func 82) #[] #[.pointer (some ⟨b, 0, none⟩)], .func (.func 83) #[] #[.pointer (some ⟨b, 0, none⟩)], .func (.func 84) #[] #[.pointer (some ⟨b, 0, none⟩)]] 86)).setCells g 0 (hfs b))
    generalize (w.alloc (.cells #[.func (.func 75) #[] #[.pointer (some ⟨b, 0, none⟩)], .func (.func 76) #[] #[.pointer (some ⟨b, 0, none⟩)], .func (.func 77) #[] #[.pointer (some ⟨b, 0, none⟩)], .func (.func 79) #[] #[.pointer (some ⟨b, 0, none⟩)], .func (.func 80) #[] #[.pointer (some ⟨b, 0, none⟩)], .func (.func 81) #[] #[.pointer (some ⟨b, 0, none⟩)], .func (.func 82) #[] #[.pointer (some ⟨b, 0, none⟩)], .func (.func 83) #[] #[.pointer (some ⟨b, 0, none⟩)], .func (.func 84) #[] #[.pointer (some ⟨b, 0, none⟩)]] 86)).setCells g 0 (hfs b) = w2 at HS ⊢)
  go_end0
  exact ⟨rfl, HS.out⟩
end Go.Proofs.YtgcbnegdchladaaDoor.X
namespace Go.Proofs.YtgcbnegdchladaaDoor.X
open Go.RowKit Go.Proofs.YtgcbnegdchladaaDoorW.PrintWords Go.Proofs.YtgcbnegdchladaaDoorW.PrintLast Go.Proofs.YtgcbnegdchladaaDoorW.PrintMore

set_option maxRecDepth 200000 in
set_option maxHeartbeats 4000000 in
theorem listen_calls (o : Nat) (w : World) (g : Nat) (fs : List Value) (hf : fs.length = 9) (p9 p10 : Value) (h : w.heap[g]? = some (.cells (newCells fs p9 p10) 89 (0, 0))) :
    Calls Tryd.prog 57 #[.pointer (some ⟨g, 0, none⟩), .pointer (some ⟨o, 0, none⟩)] w fun e w' => e = .returned (.tuple #[]) ∧ ∃ b, w.heap.size ≤ b ∧ Handed w w' g b p9 p10 ∧ w'.heap[b]? = some (.cells #[.pointer (some ⟨o, 0, none⟩)] 58 (0, 0)) := by
  have hb := blk_new w (.cells #[.pointer (some ⟨o, 0, none⟩)] 58)
  have h1 := blk_alloc h (.cells #[.pointer (some ⟨o, 0, none⟩)] 58)
  have ha := below_alloc (Below.refl w.heap.size w) (.cells #[.pointer (some ⟨o, 0, none⟩)] 58)
  have hlt := blk_lt h
  have HH := Lib.hid (And.intro hb (And.intro h1 ha))
  clear h hb h1 ha
  go_enter Tryd.func57, Tryd.ntmps57
  go_wp2_with (
    go_at_call 74
    refine (setHandler_calls w.heap.size _ g fs hf p9 p10 HH.out.2.1).mono ?_
    rintro e w1 ⟨rfl, hs⟩
    have HS := Lib.hid hs
    clear hs)
  go_end0
  obtain ⟨hb, h1, ha⟩ := HH.out
  have hs := HS.out
  refine ⟨rfl, w.heap.size, Nat.le_refl _, ⟨hs.blk, Nat.le_trans ha.size hs.size, fun i hi hne => (hs.keep i (Nat.lt_of_lt_of_le hi ha.size) hne).trans (ha.block i hi), fun B hB hBw => (ha.mono hBw).trans (hs.below B hB (Nat.le_trans hBw ha.size))⟩, ?_⟩
  exact (hs.keep _ (blk_lt hb) (by omega)).trans hb
end Go.Proofs.YtgcbnegdchladaaDoor.X
namespace Go.Proofs.YtgcbnegdchladaaDoor.Y
open Go.RowKit Go.Proofs.YtgcbnegdchladaaDoorW.PrintWords Go.Proofs.YtgcbnegdchladaaDoorW.PrintLast Go.Proofs.YtgcbnegdchladaaDoorW.PrintMore

/-- What Feed tells. -/
def impl_Feed.f (a0 : Int) (a1 : Int) (l2 : List Int) : Option (List S36) :=
  if a0 = 32 ∧ a1 = 4096 ∧ l2.length ≤ 100000000000 ∧ (∀ x ∈ l2, 0 ≤ x) then (X.run .gr (l2.map Int.toNat)).map fun y => y.2.map X.toS else none
end Go.Proofs.YtgcbnegdchladaaDoor.Y
namespace Go.Proofs.YtgcbnegdchladaaDoor.X
open Go.RowKit Go.Proofs.YtgcbnegdchladaaDoorW.PrintWords Go.Proofs.YtgcbnegdchladaaDoorW.PrintLast Go.Proofs.YtgcbnegdchladaaDoorW.PrintMore

theorem step_one (s : PS) (b : Nat) {s2 : PS} {e : List Ev} (h : step s b = some (s2, e)) : e.length ≤ 1 := by
  cases s <;> simp only [step] at h <;> (repeat' split at h) <;> first | (simp only [Option.some.injEq, Prod.mk.injEq] at h; obtain ⟨_, rfl⟩ := h; simp; done) | simp at h

/-- Where the loop over the bytes stands: i bytes are read, the events so far are evs, and the rest gives the rest. -/
def FeedAt (w4 wr : World) (L : Loc) (l : List Int) (fin : List Ev) (i : Nat) : Prop :=
  ∃ s r evs e2 s2, Inv w4 wr L r evs ∧ Rel s r ∧ evs.length ≤ i ∧ run s ((l.drop i).map Int.toNat) = some (s2, e2) ∧ evs ++ e2 = fin

theorem feed_step {w4 wr : World} {L : Loc} {l : List Int} {fin : List Ev} {i : Nat} (hi : i < l.length) (hl : l.length ≤ 100000000000) (h0 : 0 ≤ l.getD i 0) (h : FeedAt w4 wr L l fin i) :
    Calls Tryd.prog 59 #[.pointer (some ⟨L.P, 0, none⟩), .int .u8 (l.getD i 0)] wr fun e w' => ∃ v, e = .returned v ∧ FeedAt w4 w' L l fin (i + 1) := by
  obtain ⟨s, r, evs, e2, s2, hI, hR, hn, hrun, hfin⟩ := h
  have hd : l.drop i = l.getD i 0 :: l.drop (i + 1) := by
    rw [List.drop_eq_getElem_cons hi]
    simp [hi]
  rw [hd, List.map_cons, run] at hrun
  cases hs : step s (l.getD i 0).toNat with
  | none => rw [hs] at hrun; simp at hrun
  | some x =>
    obtain ⟨s3, e3⟩ := x
    rw [hs] at hrun
    simp only [Option.bind_some, Option.map_eq_some_iff] at hrun
    obtain ⟨⟨s5, e5⟩, hrun2, he⟩ := hrun
    simp only [Prod.mk.injEq] at he
    have hb := byte_calls hI s hR (by omega) (l.getD i 0).toNat hs
    unfold ByteCalls at hb
    rw [Int.toNat_of_nonneg h0] at hb
    refine hb.mono ?_
    rintro e w' ⟨v, rfl, r2, hI2, hR2⟩
    refine ⟨v, rfl, s3, r2, evs ++ e3, e5, s5, hI2, hR2, ?_, hrun2, ?_⟩
    · have := step_one _ _ hs
      rw [List.length_append]
      omega
    · rw [List.append_assoc, he.2, hfin]

theorem zeros_len (n : Nat) : (zeros n).length = n := by simp [zeros]

theorem feed_begin {w w1 w3 w4 : World} {g q d b : Nat} {l : List Int} {fin : List Ev} {s2 : PS} {Ad : Option Addr} {cd : Nat} (hM : Made w w1 nofs g q d 32 4096)
    (hH : Handed (w1.alloc (.cells #[.slice none 0 0] 30)) w3 g b (.slice (some ⟨q, 0, none⟩) 32 32) (.slice (some ⟨d, 0, none⟩) 4096 4096))
    (hbox : w3.heap[b]? = some (.cells #[.pointer (some ⟨w1.heap.size, 0, none⟩)] 58 (0, 0))) (hB4 : Below w3.heap.size w3 w4)
    (hD : Kd.R (Kd.int .u8) 5 w4 w3.heap.size (fun _ => True) (.slice Ad l.length cd) l) (hrun : run .gr (l.map Int.toNat) = some (s2, fin)) :
    ∃ L : Loc, L.P = g ∧ L.out = w1.heap.size ∧ L.B = w.heap.size ∧ (l ≠ [] → Ad = some ⟨L.own, 0, none⟩) ∧ FeedAt w4 w4 L l fin 0 := by
  have lg := blk_lt hM.blk
  have lq := blk_lt hM.row
  have ld := blk_lt hM.dat
  have ha := below_alloc (Below.refl w1.heap.size w1) (.cells #[.slice none 0 0] 30)
  have hsz2 := ha.size
  have hnew := blk_new w1 (.cells #[.slice none 0 0] 30)
  have lnew := blk_lt hnew
  have hqg : q ≠ g := blk_ne hM.row hM.blk (by decide)
  have hdg : d ≠ g := blk_ne hM.dat hM.blk (by decide)
  have up : ∀ {i : Nat} {o : Obj}, i ≠ g → (w1.alloc (.cells #[.slice none 0 0] 30)).heap[i]? = some o → w4.heap[i]? = some o := fun {i} {o} hne hi =>
    blk_below ((hH.keep i (blk_lt hi) hne).trans hi) hB4
  have b3 := hH.size
  have b4 := hB4.size
  have hP : w4.heap[g]? = some (.cells (newCells (hfs b) (.slice (some ⟨q, 0, none⟩) 32 32) (.slice (some ⟨d, 0, none⟩) 4096 4096)) 89 (0, 0)) := blk_below hH.blk hB4
  have hQ := up hqg (blk_alloc hM.row (.cells #[.slice none 0 0] 30))
  have hDt := up hdg (blk_alloc hM.dat (.cells #[.slice none 0 0] 30))
  have hX := blk_below hbox hB4
  have hO := up (by omega) hnew
  have ex : ∃ own : Nat, (l ≠ [] → Ad = some ⟨own, 0, none⟩) ∧ own < w4.heap.size ∧ own ≠ g ∧ own ≠ q ∧ own ≠ d ∧ own ≠ w1.heap.size := by
    by_cases hl : l = []
    · exact ⟨b, fun h => absurd hl h, blk_lt hX, blk_ne hX hP (by decide), blk_ne hX hQ (by decide), blk_ne hX hDt (by decide), blk_ne hX hO (by decide)⟩
    · obtain ⟨k, c, e, hk, hk2, _⟩ := Kd.R_form hD (List.length_pos_iff.2 hl)
      injection e with e _ _
      exact ⟨k, fun _ => e, hk2, by omega, by omega, by omega, by omega⟩
  obtain ⟨own, ho, ho1, ho2, ho3, ho4, ho5⟩ := ex
  refine ⟨⟨w.heap.size, w4.heap.size, g, q, d, b, w1.heap.size, own⟩, rfl, rfl, rfl, ho, .gr, ⟨0, 0, 0, 0, zeros 32, zeros 4096⟩, [], fin, s2, ?_, ⟨⟨0, by omega, rfl⟩, rfl⟩, by simp, by simpa using hrun, by simp⟩
  have hb := hM.below.size
  exact ⟨⟨hP, hQ, hDt, hX, zeros_len _, zeros_len _, hM.ng, hM.nq, hM.nd, hb, by simp only; omega, by simp only; omega, by simp only; omega, by simp only; omega, blk_lt hX, by simp only; omega, Nat.le_refl _⟩, ⟨_, hO, Kd.S_nil _ _ _ _ _⟩, Below.refl _ _, rfl, ho1, ho2, ho3, ho4, ho5⟩

theorem feed_end {w4 wr : World} {L : Loc} {l : List Int} {fin : List Ev} {i : Nat} (hi : l.length ≤ i) (h : FeedAt w4 wr L l fin i) :
    ∃ v, wr.cell? ⟨L.out, 0, none⟩ = some v ∧ Kd.S kEv 36 wr L.B (fun _ => True) v (fin.map toS) ∧ Below L.B w4 wr := by
  obtain ⟨s, r, evs, e2, s2, hI, hR, hn, hrun, hfin⟩ := h
  rw [List.drop_of_length_le hi] at hrun
  simp only [List.map_nil, run, Option.some.injEq, Prod.mk.injEq] at hrun
  obtain ⟨_, rfl⟩ := hrun
  rw [List.append_nil] at hfin
  subst hfin
  obtain ⟨v, hv, hS⟩ := hI.evs
  exact ⟨v, blk_cell hv 0, Kd.S_mono (Kd.S_lower hS hI.raw.bL) (fun _ _ => trivial), hI.below⟩

theorem feed_cell {w4 wr : World} {L : Loc} {l : List Int} {fin : List Ev} {i base cd : Nat} (hi : i < l.length) (h : FeedAt w4 wr L l fin i) (hD : Kd.R (Kd.int .u8) 5 w4 base (fun _ => True) (.slice (some ⟨L.own, 0, none⟩) l.length cd) l) :
    wr.cell? ⟨L.own, i, none⟩ = some (.int .u8 (l.getD i 0)) := by
  obtain ⟨s, r, evs, e2, s2, hI, _⟩ := h
  obtain ⟨q1, _⟩ := Kd.R_celln (0 : Int) hD (i : Int) (by omega) (by omega)
  rw [Int.toNat_natCast] at q1
  rw [World.cell?_of_block (w := w4) (by exact hI.own), q1]
  simp [rdOf, hi]
end Go.Proofs.YtgcbnegdchladaaDoor.X
namespace Go.Proofs.YtgcbnegdchladaaDoor.Y
open Go.RowKit Go.Proofs.YtgcbnegdchladaaDoorW.PrintWords Go.Proofs.YtgcbnegdchladaaDoorW.PrintLast Go.Proofs.YtgcbnegdchladaaDoorW.PrintMore

set_option maxRecDepth 200000 in
set_option maxHeartbeats 4000000 in
theorem impl_Feed.calls (a0 : Int) (a1 : Int) (A2 : Option Addr) (c2 : Nat) (l2 : List Int) (r : List S36) (w : World) (hr2 : Kd.C (Kd.int .u8) w A2 l2.length l2) (hc2 : l2.length ≤ c2) (h : impl_Feed.f a0 a1 l2 = some r) :
    Calls Tryd.prog 13 #[.int .i64 a0, .int .i64 a1, .slice A2 l2.length c2] w fun e w' => ∃ v0_ : Value, e = .returned (v0_) ∧ Kd.S k36 36 w' w.heap.size (fun _ => True) v0_ r ∧ Below w.heap.size w w' := by
  unfold impl_Feed.f at h
  split at h
  · rename_i hc
    obtain ⟨rfl, rfl, hl, hpos⟩ := hc
    obtain ⟨⟨s2, fin⟩, hrun, rfl⟩ := Option.map_eq_some_iff.1 h
    have HC := Lib.hid (And.intro hr2 (And.intro hpos hrun))
    clear h hr2 hpos hrun
    go_enter Tryd.func13, Tryd.ntmps13
    go_wp2_with (first
      | (
        go_at_call 56
        refine (X.newParser_calls _).mono ?_
        rintro e w1 ⟨g, q, d, rfl, hM⟩
        have HM := Lib.hid hM
        clear hM)
      | (
        go_at_call 57
        refine (X.listen_calls w1.heap.size _ g X.nofs rfl _ _ (blk_alloc HM.out.blk _)).mono ?_
        rintro e w3 ⟨rfl, b, hbn, hH, hbox⟩
        have HH := Lib.hid hH
        have HX := Lib.hid hbox
        clear hbn hH hbox)
      | (
        go_at_call 58
        have hB3 := HM.out.below.trans (((below_alloc (Below.refl w1.heap.size w1) _).mono HM.out.below.size).trans (HH.out.below w.heap.size HM.out.ng (Nat.le_trans HM.out.below.size (below_alloc (Below.refl w1.heap.size w1) _).size)))
        refine (X.own_calls _ _ _ _ (Kd.C_below HC.out.1 hB3) hc2 (by omega)).mono ?_
        rintro e w4 ⟨dv, rfl, hD, hB4⟩
        obtain ⟨Ad, cd, rfl⟩ := Kd.R_slice hD
        have HB := Lib.hid (And.intro hB3 (And.intro hB4 hD))
        clear hB3 hD hB4))
    obtain ⟨L, rfl, ho, hLB, hA, hF⟩ := X.feed_begin HM.out HH.out HX.out HB.out.2.1 HB.out.2.2 HC.out.2.2
    have HA := Lib.hid hA
    have HO := Lib.hid ho
    have HLB := Lib.hid hLB
    clear hA ho hLB
    go_loopg [29] l2.length (fun kq v29 w' => ∃ i : Nat, v29 = .int .i64 (i : Int) ∧ i + kq = l2.length ∧ X.FeedAt w4 w' L l2 fin i)
    case atStart => exact ⟨0, rfl, by omega, hF⟩
    case round =>
      clear hF
      obtain ⟨i, rfl, hk, hF⟩ := hrel
      have e20 : IntKind.i64.wrap ((i : Int) + 1) = ((i + 1 : Nat) : Int) := by rw [IntKind.wrap_i64]; omega
      by_cases hi : i < l2.length
      · have c1 : decide ((i : Int) < (l2.length : Int)) = true := decide_eq_true (by omega)
        have c2 : (0 : Int) ≤ (i : Int) := by omega
        have c4 : (i : Int) < (l2.length : Int) := by omega
        have hne : l2 ≠ [] := fun e => by rw [e] at hi; simp at hi
        obtain rfl := HA.out hne
        have hcell := X.feed_cell hi hF HB.out.2.2
        have h0 : 0 ≤ l2.getD i 0 := by
          have := HC.out.2.1 (l2[i]) (List.getElem_mem hi)
          simpa [hi] using this
        have HS := Lib.hid (X.feed_step hi hl h0 hF)
        generalize l2.getD i 0 = x at hcell HS h0
        clear hF hne h0
        go_wp2_with (
          go_at_call 59
          refine HS.out.mono ?_
          rintro e w5 ⟨v5, rfl, hF2⟩
          have HF := Lib.hid hF2
          clear hF2)
        go_roundg (l2.length - (i + 1))
        case measure => omega
        case rel => exact ⟨i + 1, by simp, by omega, HF.out⟩
      · have c1 : decide ((i : Int) < (l2.length : Int)) = false := decide_eq_false (by omega)
        obtain ⟨v, hv, hS, hB⟩ := X.feed_end (by omega) hF
        rw [HO.out] at hv
        rw [HLB.out] at hS hB
        have HE := Lib.hid (And.intro hS hB)
        clear hS hB hF
        go_wp2_with fail
        go_ret
        exact ⟨_, rfl, HE.out.1, HB.out.1.trans ((HB.out.2.1.mono HB.out.1.size).trans HE.out.2)⟩
  · exact absurd h (by simp)
end Go.Proofs.YtgcbnegdchladaaDoor.Y
