/- Texts of this claim, joined: XAct1 XAdv XAct2 XAct3. Of each, what the claim uses. -/
import Derived.Test.YteebhoehflgfoaaGreatDoorKae
import Derived.Test.YteebhoehflgfoaaGreatDoorKaf
section
namespace Go.Proofs.YteebhoehflgfoaaGreatDoor.X
open Go.RowKit Go.Proofs.YteebhoehflgfoaaGreatDoorW.PrintWords Go.Proofs.YteebhoehflgfoaaGreatDoorW.PrintLast Go.Proofs.YteebhoehflgfoaaGreatDoorW.PrintMore
section
variable {w0 w : World} {L : Loc} {r : RawSt} {evs : List Ev}
set_option maxRecDepth 200000 in
set_option maxHeartbeats 8000000 in
theorem act1_calls (h : Inv w0 w L r evs) (s b : Int) :
  Calls Tryz.prog 153 #[.pointer (some ⟨L.P, 0, none⟩), .int .u8 1, .int .u8 s, .int .u8 b] w fun e w' => e = .returned (.tuple #[]) ∧ Inv w0 w' L { r with cmd := 0, plen := 0, pc := r.pc.set 0 Miss } evs := by
 go_enter Tryz.func153, Tryz.ntmps153
 go_wp2_with (go_at_call 176; refine (clear_calls h).mono ?_; rintro e w1 ⟨rfl, h1⟩)
 go_end0
 exact ⟨rfl, h1⟩
set_option maxRecDepth 200000 in
set_option maxHeartbeats 8000000 in
theorem act9_calls (h : Inv w0 w L r evs) (hn : evs.length < 1000000000000) (s b : Int) (hb0 : 0 ≤ b) (hb1 : b ≤ 255) :
  Calls Tryz.prog 153 #[.pointer (some ⟨L.P, 0, none⟩), .int .u8 9, .int .u8 s, .int .u8 b] w fun e w' => e = .returned (.tuple #[]) ∧ Inv w0 w' L { r with cmd := b } (evs ++ [⟨0, b, 0, 0, [], []⟩]) := by
 (have := Raw.c9 h.raw; have := Raw.c10 h.raw; have := Raw.c11 h.raw; have := Raw.c12 h.raw; have := Raw.c13 h.raw; have := Raw.frozen h.raw 11; have := Raw.frozen h.raw 12; have := Raw.frozen h.raw 13; have := Raw.frozen h.raw 14; have := Raw.P_ne_pp h.raw; have := Raw.P_ne_pd h.raw; have := Raw.pp_ne_pd h.raw; have := Ne.symm (Raw.P_ne_pp h.raw); have := Ne.symm (Raw.P_ne_pd h.raw); have := Ne.symm (Raw.pp_ne_pd h.raw))
 have := h.raw.c0
 have hf : ∀ w, Sem.run Tryz.prog (binOp BinOp.neq 122 (.func (.func 125) #[] #[.pointer (some ⟨L.box, 0, none⟩)]) .nilFunc) w = .ok (.bool true) w := fun _ => by rfl
 have h1 := Lib.hid (h.setCmd b)
 have HN := Lib.hid hn
 clear hn
 have wb : IntKind.i64.wrap b = b := by rw [IntKind.wrap_i64]; omega
 have wb2 : IntKind.i32.wrap b = b := by rw [IntKind.wrap_i32]; omega
 go_enter Tryz.func153, Tryz.ntmps153
 go_wp2_with (go_at_call 125; refine (l1_calls L _ evs w0 _ b hb0 hb1 h1.out HN.out).mono ?_; rintro e w1 ⟨rfl, hF, hE⟩)
 go_end0
 exact ⟨rfl, h1.out.told hF hE⟩
set_option maxRecDepth 200000 in
set_option maxHeartbeats 8000000 in
theorem act5_calls (h : Inv w0 w L r evs) (hn : evs.length < 1000000000000) (s b : Int) (hb0 : 0 ≤ b) (hb1 : b ≤ 255) :
  Calls Tryz.prog 153 #[.pointer (some ⟨L.P, 0, none⟩), .int .u8 5, .int .u8 s, .int .u8 b] w fun e w' => e = .returned (.tuple #[]) ∧ Inv w0 w' L { r with cmd := b } (evs ++ [⟨1, 0, b, 0, [], []⟩]) := by
 (have := Raw.c9 h.raw; have := Raw.c10 h.raw; have := Raw.c11 h.raw; have := Raw.c12 h.raw; have := Raw.c13 h.raw; have := Raw.frozen h.raw 11; have := Raw.frozen h.raw 12; have := Raw.frozen h.raw 13; have := Raw.frozen h.raw 14; have := Raw.P_ne_pp h.raw; have := Raw.P_ne_pd h.raw; have := Raw.pp_ne_pd h.raw; have := Ne.symm (Raw.P_ne_pp h.raw); have := Ne.symm (Raw.P_ne_pd h.raw); have := Ne.symm (Raw.pp_ne_pd h.raw))
 have := h.raw.c1
 have hf : ∀ w, Sem.run Tryz.prog (binOp BinOp.neq 123 (.func (.func 126) #[] #[.pointer (some ⟨L.box, 0, none⟩)]) .nilFunc) w = .ok (.bool true) w := fun _ => by rfl
 have h1 := Lib.hid (h.setCmd b)
 have HN := Lib.hid hn
 clear hn
 have wb : IntKind.i64.wrap b = b := by rw [IntKind.wrap_i64]; omega
 go_enter Tryz.func153, Tryz.ntmps153
 go_wp2_with (go_at_call 126; refine (l2_calls L _ evs w0 _ b h1.out HN.out).mono ?_; rintro e w1 ⟨rfl, hF, hE⟩)
 go_end0
 exact ⟨rfl, h1.out.told hF hE⟩
set_option maxRecDepth 200000 in
set_option maxHeartbeats 8000000 in
theorem act3_calls (h : Inv w0 w L r evs) (hc : r.cmd = 0) (s b : Int) (hb0 : 0 ≤ b) (hb1 : b ≤ 255) :
  Calls Tryz.prog 153 #[.pointer (some ⟨L.P, 0, none⟩), .int .u8 3, .int .u8 s, .int .u8 b] w fun e w' => e = .returned (.tuple #[]) ∧ Inv w0 w' L { r with cmd := b * 256 } evs := by
 (have := Raw.c9 h.raw; have := Raw.c10 h.raw; have := Raw.c11 h.raw; have := Raw.c12 h.raw; have := Raw.c13 h.raw; have := Raw.frozen h.raw 11; have := Raw.frozen h.raw 12; have := Raw.frozen h.raw 13; have := Raw.frozen h.raw 14; have := Raw.P_ne_pp h.raw; have := Raw.P_ne_pd h.raw; have := Raw.pp_ne_pd h.raw; have := Ne.symm (Raw.P_ne_pp h.raw); have := Ne.symm (Raw.P_ne_pd h.raw); have := Ne.symm (Raw.pp_ne_pd h.raw))
 have e1 : bits .andNot .i64 r.cmd 65280 = 0 := by rw [hc]; decide
 have e2 := or_zero b hb0 (by omega)
 clear hc
 have h1 := Lib.hid ((h.setCmd 0).setCmd (b * 256))
 go_enter Tryz.func153, Tryz.ntmps153
 go_wp2_with fail
 go_end0
 exact ⟨rfl, h1.out⟩
set_option maxRecDepth 200000 in
set_option maxHeartbeats 8000000 in
theorem act2_calls (h : Inv w0 w L r evs) (hc : r.cmd ∈ [0, 15360, 15616, 15872, 16128]) (s b : Int) (hs : s ≠ 14) (hb0 : 0 ≤ b) (hb1 : b ≤ 255) :
  Calls Tryz.prog 153 #[.pointer (some ⟨L.P, 0, none⟩), .int .u8 2, .int .u8 s, .int .u8 b] w fun e w' => e = .returned (.tuple #[]) ∧ Inv w0 w' L { r with cmd := r.cmd + b * 65536 } evs := by
 (have := Raw.c9 h.raw; have := Raw.c10 h.raw; have := Raw.c11 h.raw; have := Raw.c12 h.raw; have := Raw.c13 h.raw; have := Raw.frozen h.raw 11; have := Raw.frozen h.raw 12; have := Raw.frozen h.raw 13; have := Raw.frozen h.raw 14; have := Raw.P_ne_pp h.raw; have := Raw.P_ne_pd h.raw; have := Raw.pp_ne_pd h.raw; have := Ne.symm (Raw.P_ne_pp h.raw); have := Ne.symm (Raw.P_ne_pd h.raw); have := Ne.symm (Raw.pp_ne_pd h.raw))
 have e1 : bits .andNot .i64 r.cmd 16711680 = r.cmd := by
  simp only [List.mem_cons, List.not_mem_nil, or_false] at hc
  rcases hc with e | e | e | e | e <;> rw [e] <;> decide
 have e2 := or_high r.cmd b (by simp at hc; omega) (by simp at hc; omega) hb0 (by omega)
 have e3 : decide (s = 14) = false := decide_eq_false hs
 have h1 := Lib.hid ((h.setCmd r.cmd).setCmd (r.cmd + b * 65536))
 clear hc
 go_enter Tryz.func153, Tryz.ntmps153
 go_wp2_with fail
 go_end0
 exact ⟨rfl, h1.out⟩
set_option maxRecDepth 200000 in
set_option maxHeartbeats 8000000 in
/-- The beginning of a system command, of an application's command. -/
theorem act6_calls (h : Inv w0 w L r evs) (hd : 0 ≤ r.dlen) (hst : r.st = 8) (s b : Int) :
  Calls Tryz.prog 153 #[.pointer (some ⟨L.P, 0, none⟩), .int .u8 6, .int .u8 s, .int .u8 b] w fun e w' => e = .returned (.tuple #[]) ∧ Inv w0 w' L { r with dlen := 0, cmd := Miss } evs := by
 (have := Raw.c9 h.raw; have := Raw.c10 h.raw; have := Raw.c11 h.raw; have := Raw.c12 h.raw; have := Raw.c13 h.raw; have := Raw.frozen h.raw 11; have := Raw.frozen h.raw 12; have := Raw.frozen h.raw 13; have := Raw.frozen h.raw 14; have := Raw.P_ne_pp h.raw; have := Raw.P_ne_pd h.raw; have := Raw.pp_ne_pd h.raw; have := Ne.symm (Raw.P_ne_pp h.raw); have := Ne.symm (Raw.P_ne_pd h.raw); have := Ne.symm (Raw.pp_ne_pd h.raw))
 have : w.cell? ⟨L.P, 14, none⟩ = some (.int .u8 8) := by rw [← hst]; exact h.raw.c14
 clear hst
 have e3 : decide (r.dlen < 0) = false := decide_eq_false (by omega)
 have h1 := Lib.hid ((h.setDlen 0).setCmd Miss)
 go_enter Tryz.func153, Tryz.ntmps153
 go_wp2_with fail
 go_end0
 exact ⟨rfl, h1.out⟩
set_option maxRecDepth 200000 in
set_option maxHeartbeats 8000000 in
/-- The beginning of a device's string. -/
theorem act6d_calls (h : Inv w0 w L r evs) (hd : 0 ≤ r.dlen) (hst : r.st = 4 ∨ r.st = 6) (hc0 : 0 ≤ r.cmd) (hc1 : r.cmd < 2 ^ 40) (hc2 : r.cmd % 256 = 0) (s b : Int) (hb0 : 0 ≤ b) (hb1 : b ≤ 255) :
  Calls Tryz.prog 153 #[.pointer (some ⟨L.P, 0, none⟩), .int .u8 6, .int .u8 s, .int .u8 b] w fun e w' => e = .returned (.tuple #[]) ∧ Inv w0 w' L { r with dlen := 0, cmd := r.cmd + b } evs := by
 (have := Raw.c9 h.raw; have := Raw.c10 h.raw; have := Raw.c11 h.raw; have := Raw.c12 h.raw; have := Raw.c13 h.raw; have := Raw.frozen h.raw 11; have := Raw.frozen h.raw 12; have := Raw.frozen h.raw 13; have := Raw.frozen h.raw 14; have := Raw.P_ne_pp h.raw; have := Raw.P_ne_pd h.raw; have := Raw.pp_ne_pd h.raw; have := Ne.symm (Raw.P_ne_pp h.raw); have := Ne.symm (Raw.P_ne_pd h.raw); have := Ne.symm (Raw.pp_ne_pd h.raw))
 have c14 := h.raw.c14
 have e3 : decide (r.dlen < 0) = false := decide_eq_false (by omega)
 have e4 : decide (4 ≤ r.st) = true := decide_eq_true (by omega)
 have e5 : decide (r.st ≤ 7) = true := decide_eq_true (by omega)
 have e2 := or_low r.cmd b hc0 hc1 hc2 hb0 (by omega)
 have h1 := Lib.hid ((h.setDlen 0).setCmd (r.cmd + b))
 go_enter Tryz.func153, Tryz.ntmps153
 go_wp2_with fail
 go_end0
 exact ⟨rfl, h1.out⟩
end
end Go.Proofs.YteebhoehflgfoaaGreatDoor.X
end
section
namespace Go.Proofs.YteebhoehflgfoaaGreatDoor.X
open Go.RowKit Go.Proofs.YteebhoehflgfoaaGreatDoorW.PrintWords Go.Proofs.YteebhoehflgfoaaGreatDoorW.PrintLast Go.Proofs.YteebhoehflgfoaaGreatDoorW.PrintMore
section
variable {w0 w : World} {L : Loc} {r : RawSt} {evs : List Ev}
/-- What an action leaves. -/
def After (w0 : World) (L : Loc) (P : RawSt → List Ev → Prop) (w : World) : Prop := ∃ r evs, Inv w0 w L r evs ∧ P r evs
/-- An action's contract, in every world with the same parser. -/
def Does (w0 : World) (L : Loc) (r : RawSt) (evs : List Ev) (a s b : Nat) (P : RawSt → List Ev → Prop) : Prop :=
 ∀ w, Inv w0 w L r evs → Calls Tryz.prog 153 #[.pointer (some ⟨L.P, 0, none⟩), .int .u8 (a : Int), .int .u8 (s : Int), .int .u8 (b : Int)] w fun e w' => e = .returned (.tuple #[]) ∧ After w0 L P w'
set_option maxRecDepth 200000 in
set_option maxHeartbeats 8000000 in
theorem adv_calls (h : Inv w0 w L r evs) (s b s' a : Nat) (hst : r.st = s) (h8 : s ≠ 8) (hs : s < 14) (hb : b ≤ 255) (hs' : s' < 16) (ha : a < 16) (ht : tv (s * 256 + b) = s' + 16 * a) (hp : a = 7 → s ≠ 4) (P : RawSt → List Ev → Prop) (hd : Does w0 L r evs a s' b P) :
  Calls Tryz.prog 136 #[.pointer (some ⟨L.P, 0, none⟩), .int .u8 (b : Int)] w fun e w' => ∃ v, e = .returned v ∧ ∃ r' evs', Inv w0 w' L { r' with st := s' } evs' ∧ P r' evs' := by
 have c14 : w.cell? ⟨L.P, 14, none⟩ = some (.int .u8 (s : Int)) := by rw [← hst]; exact h.raw.c14
 have HT := Lib.hid ht
 have HD := Lib.hid hd
 clear hst ht hd
 go_enter Tryz.func136, Tryz.ntmps136
 go_wp2_with fail
 go_region_held3 (fun w' => w'.cell? ⟨L.P, 14, none⟩ = some (.int .u8 (s : Int)))
  (go_keep)
  (first
   | (
    go_at_call 151
    refine (table_calls _).mono ?_
    rintro e wt ⟨rfl, hBt⟩
    have HIt := Lib.hid (h.drew.grow hBt)
    have ct : wt.cell? ⟨L.P, 14, none⟩ = some (.int .u8 (s : Int)) := (World.cell?_of_block (hBt.block L.P (blk_lt h.drew.raw.hP)) : _).trans c14
    clear hBt)
   | (
    go_at_call 152
    refine (transition_calls2 _ s b s' a (by omega) hb hs' HT.out).mono ?_
    rintro e wu ⟨rfl, hBu⟩
    have HIu := Lib.hid (HIt.out.grow hBu)
    have cu : wu.cell? ⟨L.P, 14, none⟩ = some (.int .u8 (s : Int)) := (World.cell?_of_block (hBu.block L.P (blk_lt HIt.out.raw.hP)) : _).trans ct
    clear hBu))
 by_cases e1 : s' = s
 ·subst e1
  by_cases e2 : b = 27
  ·subst e2
   have f4 : decide ((s' : Int) = 8) = false := decide_eq_false (by omega)
   go_wp2_with (
     go_at_call 153
     refine (HD.out _ HIu.out).mono ?_
     rintro e w2 ⟨rfl, r2, evs2, hI, hP⟩
     have HR := Lib.hid (And.intro (hI.setSt s') hP)
     have z1 := hI.raw.c14
     have z2 := hI.raw.frozen 14
     clear hI hP)
   go_ret
   exact ⟨_, rfl, r2, evs2, HR.out.1, HR.out.2⟩
  ·have f3 : decide ((b : Int) = 27) = false := decide_eq_false (by omega)
   go_wp2_with (
     go_at_call 153
     refine (HD.out _ HIu.out).mono ?_
     rintro e w2 ⟨rfl, r2, evs2, hI, hP⟩
     have HR := Lib.hid (And.intro (hI.setSt s') hP)
     have z1 := hI.raw.c14
     have z2 := hI.raw.frozen 14
     clear hI hP)
   go_ret
   exact ⟨_, rfl, r2, evs2, HR.out.1, HR.out.2⟩
 ·have f0 : ¬ ((s : Int) = (s' : Int)) := by omega
  have f5 : decide ((s : Int) = 8) = false := decide_eq_false (by omega)
  by_cases e3 : a = 7
  ·have f6 : decide ((s : Int) = 4) = false := decide_eq_false (by have := hp e3; omega)
   subst e3
   by_cases e2 : b = 27
   ·subst e2
    go_wp2_with (
      go_at_call 153
      refine (HD.out _ HIu.out).mono ?_
      rintro e w2 ⟨rfl, r2, evs2, hI, hP⟩
      have HR := Lib.hid (And.intro (hI.setSt s') hP)
      have z1 := hI.raw.c14
      have z2 := hI.raw.frozen 14
      clear hI hP)
    go_ret
    exact ⟨_, rfl, r2, evs2, HR.out.1, HR.out.2⟩
   ·have f3 : decide ((b : Int) = 27) = false := decide_eq_false (by omega)
    go_wp2_with (
      go_at_call 153
      refine (HD.out _ HIu.out).mono ?_
      rintro e w2 ⟨rfl, r2, evs2, hI, hP⟩
      have HR := Lib.hid (And.intro (hI.setSt s') hP)
      have z1 := hI.raw.c14
      have z2 := hI.raw.frozen 14
      clear hI hP)
    go_ret
    exact ⟨_, rfl, r2, evs2, HR.out.1, HR.out.2⟩
  ·have f6 : decide ((a : Int) = 7) = false := decide_eq_false (by omega)
   by_cases e2 : b = 27
   ·subst e2
    go_wp2_with (
      go_at_call 153
      refine (HD.out _ HIu.out).mono ?_
      rintro e w2 ⟨rfl, r2, evs2, hI, hP⟩
      have HR := Lib.hid (And.intro (hI.setSt s') hP)
      have z1 := hI.raw.c14
      have z2 := hI.raw.frozen 14
      clear hI hP)
    go_ret
    exact ⟨_, rfl, r2, evs2, HR.out.1, HR.out.2⟩
   ·have f3 : decide ((b : Int) = 27) = false := decide_eq_false (by omega)
    go_wp2_with (
      go_at_call 153
      refine (HD.out _ HIu.out).mono ?_
      rintro e w2 ⟨rfl, r2, evs2, hI, hP⟩
      have HR := Lib.hid (And.intro (hI.setSt s') hP)
      have z1 := hI.raw.c14
      have z2 := hI.raw.frozen 14
      clear hI hP)
    go_ret
    exact ⟨_, rfl, r2, evs2, HR.out.1, HR.out.2⟩
set_option maxRecDepth 200000 in
set_option maxHeartbeats 8000000 in
/-- Behind an escape the parser is cleared first. -/
theorem adv_esc_calls (h : Inv w0 w L r evs) (b s' a : Nat) (hst : r.st = 8) (h8 : s' ≠ 8) (hb27 : b ≠ 27) (hb : b ≤ 255) (hs' : s' < 16) (ha : a < 16) (ht : tv (8 * 256 + b) = s' + 16 * a) (P : RawSt → List Ev → Prop) (hd : Does w0 L { r with cmd := 0, plen := 0, pc := r.pc.set 0 Miss } evs a s' b P) :
  Calls Tryz.prog 136 #[.pointer (some ⟨L.P, 0, none⟩), .int .u8 (b : Int)] w fun e w' => ∃ v, e = .returned v ∧ ∃ r' evs', Inv w0 w' L { r' with st := s' } evs' ∧ P r' evs' := by
 have c14 : w.cell? ⟨L.P, 14, none⟩ = some (.int .u8 8) := by rw [← hst]; exact h.raw.c14
 have HST := Lib.hid (show r.st = (8 : Int) from hst)
 have HT := Lib.hid ht
 have HD := Lib.hid hd
 clear hst ht hd
 go_enter Tryz.func136, Tryz.ntmps136
 go_wp2_with fail
 go_region_held3 (fun w' => w'.cell? ⟨L.P, 14, none⟩ = some (.int .u8 8))
  (go_keep)
  (first
   | (
    go_at_call 151
    refine (table_calls _).mono ?_
    rintro e wt ⟨rfl, hBt⟩
    have HIt := Lib.hid (h.drew.grow hBt)
    have ct : wt.cell? ⟨L.P, 14, none⟩ = some (.int .u8 8) := (World.cell?_of_block (hBt.block L.P (blk_lt h.drew.raw.hP)) : _).trans c14
    clear hBt)
   | (
    go_at_call 152
    refine (transition_calls2 _ 8 b s' a (by omega) hb hs' HT.out).mono ?_
    rintro e wu ⟨rfl, hBu⟩
    have HIu := Lib.hid (HIt.out.grow hBu)
    have cu : wu.cell? ⟨L.P, 14, none⟩ = some (.int .u8 8) := (World.cell?_of_block (hBu.block L.P (blk_lt HIt.out.raw.hP)) : _).trans ct
    clear hBu))
 have f0 : ¬ ((8 : Int) = (s' : Int)) := by omega
 have f3 : decide ((b : Int) = 27) = false := decide_eq_false (by omega)
 by_cases e3 : a = 7
 ·subst e3
  go_wp2_with (first
   | (
    have HQ := H1.out
    go_at_call 153
    refine (HD.out _ HQ).mono ?_
    rintro e w2 ⟨rfl, r2, evs2, hI, hP⟩
    have HR := Lib.hid (And.intro (hI.setSt s') hP)
    have z1 := hI.raw.c14
    have z2 := hI.raw.frozen 14
    clear hI hP HQ)
   | (
    go_at_call 153
    refine (act1_calls HIu.out (s' : Int) (b : Int)).mono ?_
    rintro e w1 ⟨rfl, hI1⟩
    have H1 := Lib.hid hI1
    have z0 : w1.cell? ⟨L.P, 14, none⟩ = some (.int .u8 8) := by rw [← HST.out]; exact hI1.raw.c14
    clear hI1))
  go_ret
  exact ⟨_, rfl, r2, evs2, HR.out.1, HR.out.2⟩
 ·have f6 : decide ((a : Int) = 7) = false := decide_eq_false (by omega)
  go_wp2_with (first
   | (
    have HQ := H1.out
    go_at_call 153
    refine (HD.out _ HQ).mono ?_
    rintro e w2 ⟨rfl, r2, evs2, hI, hP⟩
    have HR := Lib.hid (And.intro (hI.setSt s') hP)
    have z1 := hI.raw.c14
    have z2 := hI.raw.frozen 14
    clear hI hP HQ)
   | (
    go_at_call 153
    refine (act1_calls HIu.out (s' : Int) (b : Int)).mono ?_
    rintro e w1 ⟨rfl, hI1⟩
    have H1 := Lib.hid hI1
    have z0 : w1.cell? ⟨L.P, 14, none⟩ = some (.int .u8 8) := by rw [← HST.out]; exact hI1.raw.c14
    clear hI1))
  go_ret
  exact ⟨_, rfl, r2, evs2, HR.out.1, HR.out.2⟩
set_option maxRecDepth 200000 in
set_option maxHeartbeats 8000000 in
/-- Advance, outside of a character of several bytes. -/
theorem Adv_calls (h : Inv w0 w L r evs) (b : Nat) (hs : r.st ≠ 14) (R : World → Prop)
  (hc : Calls Tryz.prog 136 #[.pointer (some ⟨L.P, 0, none⟩), .int .u8 (b : Int)] w fun e w' => ∃ v, e = .returned v ∧ R w') :
  Calls Tryz.prog 62 #[.pointer (some ⟨L.P, 0, none⟩), .int .u8 (b : Int)] w fun e w' => ∃ v, e = .returned v ∧ R w' := by
 have c14 := h.raw.c14
 have HC := Lib.hid hc
 clear hc
 go_enter Tryz.func62, Tryz.ntmps62
 go_wp2_with (go_at_call 136; refine HC.out.mono ?_; rintro e w1 ⟨v, rfl, hR⟩; have HR := Lib.hid hR; clear hR)
 go_ret
 exact ⟨_, rfl, HR.out⟩
end
end Go.Proofs.YteebhoehflgfoaaGreatDoor.X
end
section
namespace Go.Proofs.YteebhoehflgfoaaGreatDoor.X
open Go.RowKit Go.Proofs.YteebhoehflgfoaaGreatDoorW.PrintWords Go.Proofs.YteebhoehflgfoaaGreatDoorW.PrintLast Go.Proofs.YteebhoehflgfoaaGreatDoorW.PrintMore
set_option linter.unusedSimpArgs false
set_option linter.unusedVariables false
section
variable {w0 w : World} {L : Loc} {r : RawSt} {evs : List Ev}
/-- Where the loop of parseStringCmd stands: i bytes are read, the command is x. -/
def CmdAt (w0 w : World) (L : Loc) (r : RawSt) (evs : List Ev) (ds : List Int) (i : Nat) (x : Int) : Prop :=
 Inv w0 w L { r with cmd := x } evs ∧ strCmd (ds.drop i) x = strCmd ds Miss ∧ i + heads (ds.drop i) ≤ 6 ∧ (x = Miss ∧ i = 0 ∨ 0 ≤ x ∧ x < 10 ^ i)
theorem strCmd_step (ds : List Int) (i : Nat) (hi : i < ds.length) (x : Int) : strCmd (ds.drop i) x = if 48 ≤ ds.getD i 0 ∧ ds.getD i 0 ≤ 57 then strCmd (ds.drop (i + 1)) ((if x = Miss then 0 else x) * 10 + (ds.getD i 0 - 48)) else x := by
 rw [List.drop_eq_getElem_cons hi]
 simp [strCmd, hi]
theorem heads_step (ds : List Int) (i : Nat) (hi : i < ds.length) : heads (ds.drop i) = if 48 ≤ ds.getD i 0 ∧ ds.getD i 0 ≤ 57 then heads (ds.drop (i + 1)) + 1 else 0 := by
 rw [List.drop_eq_getElem_cons hi]
 simp [heads, hi]
theorem pow_le6 (i : Nat) (h : i ≤ 6) : (10 : Int) ^ i ≤ 1000000 := by
 have : i = 0 ∨ i = 1 ∨ i = 2 ∨ i = 3 ∨ i = 4 ∨ i = 5 ∨ i = 6 := by omega
 rcases this with e | e | e | e | e | e | e <;> subst e <;> decide
set_option maxRecDepth 200000 in
set_option maxHeartbeats 8000000 in
theorem strcmd_calls (h : Inv w0 w L r evs) (ds : List Int) (hd : r.dlen = ds.length) (hl : ds.length ≤ 4096) (hds : ∀ i, i < ds.length → r.dc.getD i 0 = ds.getD i 0) (hb : ∀ i, i < ds.length → 0 ≤ ds.getD i 0 ∧ ds.getD i 0 ≤ 255) (hh : heads ds ≤ 6) (hc : r.cmd = Miss) :
  Calls Tryz.prog 177 #[.pointer (some ⟨L.P, 0, none⟩)] w fun e w' => e = .returned (.tuple #[]) ∧ Inv w0 w' L { r with cmd := strCmd ds Miss } evs := by
 (have := Raw.c9 h.raw; have := Raw.c10 h.raw; have := Raw.c11 h.raw; have := Raw.c12 h.raw; have := Raw.c13 h.raw; have := Raw.frozen h.raw 11; have := Raw.frozen h.raw 12; have := Raw.frozen h.raw 13; have := Raw.frozen h.raw 14; have := Raw.P_ne_pp h.raw; have := Raw.P_ne_pd h.raw; have := Raw.pp_ne_pd h.raw; have := Ne.symm (Raw.P_ne_pp h.raw); have := Ne.symm (Raw.P_ne_pd h.raw); have := Ne.symm (Raw.pp_ne_pd h.raw))
 have e3 : decide (0 ≤ r.dlen) = true := decide_eq_true (by omega)
 have h0 : CmdAt w0 w L r evs ds 0 Miss := ⟨by rw [← hc]; exact h, by simp, by simpa using hh, Or.inl ⟨rfl, rfl⟩⟩
 have HDS := Lib.hid (And.intro hds (And.intro hb (And.intro hd hl)))
 clear hd hds hb hh hl hc
 go_enter Tryz.func177, Tryz.ntmps177
 go_wp2_with fail
 go_loopg [20] ds.length (fun kq v20 w' => ∃ (i : Nat) (x : Int), v20 = .int .i64 (i : Int) ∧ i + kq = ds.length ∧ CmdAt w0 w' L r evs ds i x)
 case atStart => exact ⟨0, Miss, rfl, by omega, h0⟩
 case round =>
  obtain ⟨i, x, rfl, hk, hI, hs, hg, hx⟩ := hrel
  clear h0
  obtain ⟨hds, hb, hd, hl⟩ := HDS.out
  have HI := Lib.hid hI
  have e20 : IntKind.i64.wrap ((i : Int) + 1) = ((i + 1 : Nat) : Int) := by rw [IntKind.wrap_i64]; omega
  by_cases hi : i < ds.length
  ·have c1 : decide ((i : Int) < r.dlen) = true := decide_eq_true (by omega)
   have c2 : (0 : Int) ≤ (i : Int) := by omega
   have c3 : (i : Int) < 4096 := by omega
   have h1 := hds i hi
   have h2 := hb i hi
   have hs1 := strCmd_step ds i hi x
   have hg1 := heads_step ds i hi
   have hcell := hI.raw.dcell i (by omega)
   simp only [h1] at hcell
   clear h1 hds hb
   generalize ds.getD i 0 = d at *
   (have := Raw.c9 hI.raw; have := Raw.c10 hI.raw; have := Raw.c11 hI.raw; have := Raw.c12 hI.raw; have := Raw.c13 hI.raw; have := Raw.frozen hI.raw 11; have := Raw.frozen hI.raw 12; have := Raw.frozen hI.raw 13; have := Raw.frozen hI.raw 14; have := Raw.P_ne_pp hI.raw; have := Raw.P_ne_pd hI.raw; have := Raw.pp_ne_pd hI.raw; have := Ne.symm (Raw.P_ne_pp hI.raw); have := Ne.symm (Raw.P_ne_pd hI.raw); have := Ne.symm (Raw.pp_ne_pd hI.raw))
   by_cases hdig : 48 ≤ d ∧ d ≤ 57
   ·rw [if_pos hdig] at hs1 hg1
    have g1 : decide (d < 48) = false := decide_eq_false (by omega)
    have g2 : decide (57 < d) = false := decide_eq_false (by omega)
    have g3 : IntKind.u8.wrap (d - 48) = d - 48 := by rw [IntKind.wrap_u8]; omega
    have p6 := pow_le6 i (by omega)
    rcases hx with ⟨ex, ei⟩ | ⟨hx0, hx1⟩
    ·subst ex
     have g4 : IntKind.i64.wrap (d - 48) = d - 48 := by rw [IntKind.wrap_i64]; omega
     have nI : CmdAt w0 (((wr.setCell ⟨L.P, 13, none⟩ (.int .i64 0)).setCell ⟨L.P, 13, none⟩ (.int .i64 0)).setCell ⟨L.P, 13, none⟩ (.int .i64 (d - 48))) L r evs ds (i + 1) (d - 48) :=
      ⟨((hI.setCmd 0).setCmd 0).setCmd (d - 48), by rw [← hs, hs1]; simp, by omega, Or.inr ⟨by omega, by subst ei; simp; omega⟩⟩
     clear hd hl HDS
     clear ei hs hs1 hg hg1
     go_wp2_with fail
     go_roundg (ds.length - (i + 1))
     case measure => omega
     case rel => exact ⟨i + 1, d - 48, by simp, by omega, nI⟩
    ·have g4 : decide (x = 2147483647) = false := decide_eq_false (by omega)
     have g5 : IntKind.i64.wrap (x * 10) = x * 10 := by rw [IntKind.wrap_i64]; omega
     have g6 : IntKind.i64.wrap (x * 10 + (d - 48)) = x * 10 + (d - 48) := by rw [IntKind.wrap_i64]; omega
     have nI : CmdAt w0 ((wr.setCell ⟨L.P, 13, none⟩ (.int .i64 (x * 10))).setCell ⟨L.P, 13, none⟩ (.int .i64 (x * 10 + (d - 48)))) L r evs ds (i + 1) (x * 10 + (d - 48)) :=
      ⟨(hI.setCmd (x * 10)).setCmd (x * 10 + (d - 48)), by rw [← hs, hs1, if_neg (by unfold Miss; omega)], by omega, Or.inr ⟨by omega, by rw [Int.pow_succ]; omega⟩⟩
     clear hd hl HDS
     clear hs hs1 hg hg1
     go_wp2_with fail
     go_roundg (ds.length - (i + 1))
     case measure => omega
     case rel => exact ⟨i + 1, x * 10 + (d - 48), by simp, by omega, nI⟩
   ·rw [if_neg hdig] at hs1
    have fin : Inv w0 wr L { r with cmd := strCmd ds Miss } evs := by rw [← hs, hs1]; exact hI
    by_cases g1 : d < 48
    ·have g2 : decide (d < 48) = true := decide_eq_true g1
     clear hd hl HDS hs hs1
     go_wp2_with fail
     go_end0
     exact ⟨rfl, fin⟩
    ·have g2 : decide (d < 48) = false := decide_eq_false g1
     have g3 : decide (57 < d) = true := decide_eq_true (by omega)
     clear hd hl HDS hs hs1
     go_wp2_with fail
     go_end0
     exact ⟨rfl, fin⟩
  ·have c1 : decide ((i : Int) < r.dlen) = false := decide_eq_false (by omega)
   have fin : Inv w0 wr L { r with cmd := strCmd ds Miss } evs := by
    rw [← hs, List.drop_of_length_le (by omega)]; exact hI
   clear hd hl HDS hs
   (have := Raw.c9 hI.raw; have := Raw.c10 hI.raw; have := Raw.c11 hI.raw; have := Raw.c12 hI.raw; have := Raw.c13 hI.raw; have := Raw.frozen hI.raw 11; have := Raw.frozen hI.raw 12; have := Raw.frozen hI.raw 13; have := Raw.frozen hI.raw 14; have := Raw.P_ne_pp hI.raw; have := Raw.P_ne_pd hI.raw; have := Raw.pp_ne_pd hI.raw; have := Ne.symm (Raw.P_ne_pp hI.raw); have := Ne.symm (Raw.P_ne_pd hI.raw); have := Ne.symm (Raw.pp_ne_pd hI.raw))
   go_wp2_with fail
   go_end0
   exact ⟨rfl, fin⟩
end
end Go.Proofs.YteebhoehflgfoaaGreatDoor.X
end
section
namespace Go.Proofs.YteebhoehflgfoaaGreatDoor.X
open Go.RowKit Go.Proofs.YteebhoehflgfoaaGreatDoorW.PrintWords Go.Proofs.YteebhoehflgfoaaGreatDoorW.PrintLast Go.Proofs.YteebhoehflgfoaaGreatDoorW.PrintMore
section
variable {w0 w : World} {L : Loc} {r : RawSt} {evs : List Ev}
set_option maxRecDepth 200000 in
set_option maxHeartbeats 8000000 in
/-- A byte is put into the data. -/
theorem act7_calls (h : Inv w0 w L r evs) (hst : r.st = 7 ∨ r.st = 13) (n : Nat) (hn : n < 4096) (hd : r.dlen = n) (s b : Int) :
  Calls Tryz.prog 153 #[.pointer (some ⟨L.P, 0, none⟩), .int .u8 7, .int .u8 s, .int .u8 b] w fun e w' => e = .returned (.tuple #[]) ∧ Inv w0 w' L { r with dlen := n + 1, dc := r.dc.set n b } evs := by
 have c11 : w.cell? ⟨L.P, 11, none⟩ = some (.int .i64 (n : Int)) := by rw [← hd]; exact h.raw.c11
 (have := Raw.c9 h.raw; have := Raw.c10 h.raw; have := Raw.c11 h.raw; have := Raw.c12 h.raw; have := Raw.c13 h.raw; have := Raw.frozen h.raw 11; have := Raw.frozen h.raw 12; have := Raw.frozen h.raw 13; have := Raw.frozen h.raw 14; have := Raw.P_ne_pp h.raw; have := Raw.P_ne_pd h.raw; have := Raw.pp_ne_pd h.raw; have := Ne.symm (Raw.P_ne_pp h.raw); have := Ne.symm (Raw.P_ne_pd h.raw); have := Ne.symm (Raw.pp_ne_pd h.raw))
 have c14 := h.raw.c14
 have d1 := h.raw.dcell n hn
 have d2 := h.raw.dfrozen n
 have e1 : r.st ≠ 10 := by omega
 have e2 : IntKind.i64.wrap ((n : Int) + 1) = (n : Int) + 1 := by rw [IntKind.wrap_i64]; omega
 have e3 : decide ((n : Int) < 0) = false := decide_eq_false (by omega)
 have e4 : decide ((n : Int) < 4096) = true := decide_eq_true (by omega)
 have e5 : (0 : Int) ≤ (n : Int) := by omega
 have e6 : (n : Int) < 4096 := by omega
 have h1 := Lib.hid ((h.setPD n b).setDlen (n + 1))
 clear hd hst
 go_enter Tryz.func153, Tryz.ntmps153
 go_wp2_with fail
 go_region_held3 (fun w' => w'.cell? ⟨L.P, 10, none⟩ = some (.slice (some ⟨L.pd, 0, none⟩) 4096 4096) ∧ w'.cell? ⟨L.P, 11, none⟩ = some (.int .i64 (n : Int))) (go_keep) (fail)
 go_wp2_with fail
 go_region_held3 (fun w' => w'.cell? ⟨L.P, 10, none⟩ = some (.slice (some ⟨L.pd, 0, none⟩) 4096 4096) ∧ w'.cell? ⟨L.P, 11, none⟩ = some (.int .i64 (n : Int))) (go_keep) (fail)
 go_wp2_with fail
 go_end0
 exact ⟨rfl, h1.out.drew.drew⟩
set_option maxRecDepth 200000 in
set_option maxHeartbeats 8000000 in
/-- A byte is put into a system command's data. -/
theorem act7o_calls (h : Inv w0 w L r evs) (hst : r.st = 10) (n : Nat) (hn : n < 4096) (hd : r.dlen = n) (s b : Int) (hb : ¬ (b = 59 ∧ r.cmd = Miss)) :
  Calls Tryz.prog 153 #[.pointer (some ⟨L.P, 0, none⟩), .int .u8 7, .int .u8 s, .int .u8 b] w fun e w' => e = .returned (.tuple #[]) ∧ Inv w0 w' L { r with dlen := n + 1, dc := r.dc.set n b } evs := by
 have c11 : w.cell? ⟨L.P, 11, none⟩ = some (.int .i64 (n : Int)) := by rw [← hd]; exact h.raw.c11
 (have := Raw.c9 h.raw; have := Raw.c10 h.raw; have := Raw.c11 h.raw; have := Raw.c12 h.raw; have := Raw.c13 h.raw; have := Raw.frozen h.raw 11; have := Raw.frozen h.raw 12; have := Raw.frozen h.raw 13; have := Raw.frozen h.raw 14; have := Raw.P_ne_pp h.raw; have := Raw.P_ne_pd h.raw; have := Raw.pp_ne_pd h.raw; have := Ne.symm (Raw.P_ne_pp h.raw); have := Ne.symm (Raw.P_ne_pd h.raw); have := Ne.symm (Raw.pp_ne_pd h.raw))
 have c14 : w.cell? ⟨L.P, 14, none⟩ = some (.int .u8 10) := by rw [← hst]; exact h.raw.c14
 have d1 := h.raw.dcell n hn
 have d2 := h.raw.dfrozen n
 have e2 : IntKind.i64.wrap ((n : Int) + 1) = (n : Int) + 1 := by rw [IntKind.wrap_i64]; omega
 have e3 : decide ((n : Int) < 0) = false := decide_eq_false (by omega)
 have e4 : decide ((n : Int) < 4096) = true := decide_eq_true (by omega)
 have e5 : (0 : Int) ≤ (n : Int) := by omega
 have e6 : (n : Int) < 4096 := by omega
 have h1 := Lib.hid ((h.setPD n b).setDlen (n + 1))
 clear hd hst
 by_cases hb1 : b = 59
 ·have hb2 : r.cmd ≠ 2147483647 := fun e => hb ⟨hb1, e⟩
  subst hb1
  clear hb
  go_enter Tryz.func153, Tryz.ntmps153
  go_wp2_with fail
  go_region_held3 (fun w' => w'.cell? ⟨L.P, 10, none⟩ = some (.slice (some ⟨L.pd, 0, none⟩) 4096 4096) ∧ w'.cell? ⟨L.P, 11, none⟩ = some (.int .i64 (n : Int))) (go_keep) (fail)
  go_wp2_with fail
  go_region_held3 (fun w' => w'.cell? ⟨L.P, 10, none⟩ = some (.slice (some ⟨L.pd, 0, none⟩) 4096 4096) ∧ w'.cell? ⟨L.P, 11, none⟩ = some (.int .i64 (n : Int))) (go_keep) (fail)
  go_wp2_with fail
  go_end0
  exact ⟨rfl, h1.out.drew.drew⟩
 ·clear hb
  go_enter Tryz.func153, Tryz.ntmps153
  go_wp2_with fail
  go_region_held3 (fun w' => w'.cell? ⟨L.P, 10, none⟩ = some (.slice (some ⟨L.pd, 0, none⟩) 4096 4096) ∧ w'.cell? ⟨L.P, 11, none⟩ = some (.int .i64 (n : Int))) (go_keep) (fail)
  go_wp2_with fail
  go_region_held3 (fun w' => w'.cell? ⟨L.P, 10, none⟩ = some (.slice (some ⟨L.pd, 0, none⟩) 4096 4096) ∧ w'.cell? ⟨L.P, 11, none⟩ = some (.int .i64 (n : Int))) (go_keep) (fail)
  go_wp2_with fail
  go_end0
  exact ⟨rfl, h1.out.drew.drew⟩
set_option maxRecDepth 200000 in
set_option maxHeartbeats 8000000 in
/-- The first semicolon of a system command: its number is read. -/
theorem act7c_calls (h : Inv w0 w L r evs) (hst : r.st = 10) (ds : List Int) (hn : ds.length < 4096) (hd : r.dlen = ds.length) (hds : ∀ i, i < ds.length → r.dc.getD i 0 = ds.getD i 0) (hb : ∀ i, i < ds.length → 0 ≤ ds.getD i 0 ∧ ds.getD i 0 ≤ 255) (hh : heads ds ≤ 6) (hc : r.cmd = Miss) (s : Int) :
  Calls Tryz.prog 153 #[.pointer (some ⟨L.P, 0, none⟩), .int .u8 7, .int .u8 s, .int .u8 59] w fun e w' => e = .returned (.tuple #[]) ∧ Inv w0 w' L { r with cmd := strCmd ds Miss, dlen := ds.length + 1, dc := r.dc.set ds.length 59 } evs := by
 have hcc := Lib.hid (strcmd_calls h ds hd (by omega) hds hb hh hc)
 have c13 : w.cell? ⟨L.P, 13, none⟩ = some (.int .i64 2147483647) := by
  have := h.raw.c13
  rw [hc] at this
  exact this
 have HD := Lib.hid hd
 have c14 : w.cell? ⟨L.P, 14, none⟩ = some (.int .u8 10) := by rw [← hst]; exact h.raw.c14
 have e2 : IntKind.i64.wrap ((ds.length : Int) + 1) = (ds.length : Int) + 1 := by rw [IntKind.wrap_i64]; omega
 have e3 : decide ((ds.length : Int) < 0) = false := decide_eq_false (by omega)
 have e4 : decide ((ds.length : Int) < 4096) = true := decide_eq_true (by omega)
 have e5 : (0 : Int) ≤ (ds.length : Int) := by omega
 have e6 : (ds.length : Int) < 4096 := by omega
 clear hd hst hds hb hh hc
 go_enter Tryz.func153, Tryz.ntmps153
 go_wp2_with (go_at_call 177; refine hcc.out.mono ?_; rintro e w1 ⟨rfl, g⟩; have G := Lib.hid g; have c11 : w1.cell? ⟨L.P, 11, none⟩ = some (.int .i64 (ds.length : Int)) := (by rw [← HD.out]; exact g.raw.c11); (have := Raw.c9 g.raw; have := Raw.c10 g.raw; have := Raw.c11 g.raw; have := Raw.c12 g.raw; have := Raw.c13 g.raw; have := Raw.frozen g.raw 11; have := Raw.frozen g.raw 12; have := Raw.frozen g.raw 13; have := Raw.frozen g.raw 14; have := Raw.P_ne_pp g.raw; have := Raw.P_ne_pd g.raw; have := Raw.pp_ne_pd g.raw; have := Ne.symm (Raw.P_ne_pp g.raw); have := Ne.symm (Raw.P_ne_pd g.raw); have := Ne.symm (Raw.pp_ne_pd g.raw)); have d1 := g.raw.dcell ds.length hn; have d2 := g.raw.dfrozen ds.length; clear g)
 go_region_held3 (fun w' => w'.cell? ⟨L.P, 10, none⟩ = some (.slice (some ⟨L.pd, 0, none⟩) 4096 4096) ∧ w'.cell? ⟨L.P, 11, none⟩ = some (.int .i64 (ds.length : Int))) (go_keep) (fail)
 go_wp2_with fail
 go_region_held3 (fun w' => w'.cell? ⟨L.P, 10, none⟩ = some (.slice (some ⟨L.pd, 0, none⟩) 4096 4096) ∧ w'.cell? ⟨L.P, 11, none⟩ = some (.int .i64 (ds.length : Int))) (go_keep) (fail)
 go_wp2_with fail
 go_end0
 exact ⟨rfl, ((G.out.setPD ds.length 59).setDlen (ds.length + 1)).drew.drew⟩
end
end Go.Proofs.YteebhoehflgfoaaGreatDoor.X
end
