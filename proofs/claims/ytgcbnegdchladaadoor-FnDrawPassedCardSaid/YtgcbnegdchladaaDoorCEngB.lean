/- Actions of the parser: to ignore, to clear, to print, to execute, to collect, a prefix. -/
/- Actions of the parser: to put a byte into a string; the number at the head of a system command. -/
/- Actions of the parser: a parameter's byte. -/
/- Actions of the parser: a parameter's byte. -/
import Derived.Test.YtgcbnegdchladaaDoorCEngA
namespace Go.Proofs.YtgcbnegdchladaaDoor.X
open Go.RowKit Go.Proofs.YtgcbnegdchladaaDoorW.PrintWords Go.Proofs.YtgcbnegdchladaaDoorW.PrintLast Go.Proofs.YtgcbnegdchladaaDoorW.PrintMore

section
variable {w0 w : World} {L : Loc} {r : RawSt} {evs : List Ev}

set_option maxRecDepth 200000 in
set_option maxHeartbeats 8000000 in
theorem act1_calls (h : Inv w0 w L r evs) (s b : Int) :
    Calls Tryd.prog 97 #[.pointer (some ⟨L.P, 0, none⟩), .int .u8 1, .int .u8 s, .int .u8 b] w fun e w' => e = .returned (.tuple #[]) ∧ Inv w0 w' L { r with cmd := 0, plen := 0, pc := r.pc.set 0 Miss } evs := by
  go_enter Tryd.func97, Tryd.ntmps97
  go_wp2_with (go_at_call 103; refine (clear_calls h).mono ?_; rintro e w1 ⟨rfl, h1⟩)
  go_end0
  exact ⟨rfl, h1⟩

set_option maxRecDepth 200000 in
set_option maxHeartbeats 8000000 in
theorem act9_calls (h : Inv w0 w L r evs) (hn : evs.length < 1000000000000) (s b : Int) (hb0 : 0 ≤ b) (hb1 : b ≤ 255) :
    Calls Tryd.prog 97 #[.pointer (some ⟨L.P, 0, none⟩), .int .u8 9, .int .u8 s, .int .u8 b] w fun e w' => e = .returned (.tuple #[]) ∧ Inv w0 w' L { r with cmd := b } (evs ++ [⟨0, b, 0, 0, [], []⟩]) := by
  (have := Raw.c9 h.raw; have := Raw.c10 h.raw; have := Raw.c11 h.raw; have := Raw.c12 h.raw; have := Raw.c13 h.raw; have := Raw.frozen h.raw 11; have := Raw.frozen h.raw 12; have := Raw.frozen h.raw 13; have := Raw.frozen h.raw 14; have := Raw.P_ne_pp h.raw; have := Raw.P_ne_pd h.raw; have := Raw.pp_ne_pd h.raw; have := Ne.symm (Raw.P_ne_pp h.raw); have := Ne.symm (Raw.P_ne_pd h.raw); have := Ne.symm (Raw.pp_ne_pd h.raw))
  have := h.raw.c0
  have hf : ∀ w, Sem.run Tryd.prog (binOp BinOp.neq 74 (.func (.func 75) #[] #[.pointer (some ⟨L.box, 0, none⟩)]) .nilFunc) w = .ok (.bool true) w := fun _ => by rfl
  have h1 := Lib.hid (h.setCmd b)
  have HN := Lib.hid hn
  clear hn
  have wb : IntKind.i64.wrap b = b := by rw [IntKind.wrap_i64]; omega
  have wb2 : IntKind.i32.wrap b = b := by rw [IntKind.wrap_i32]; omega
  go_enter Tryd.func97, Tryd.ntmps97
  go_wp2_with (go_at_call 75; refine (l1_calls L _ evs w0 _ b hb0 hb1 h1.out HN.out).mono ?_; rintro e w1 ⟨rfl, hF, hE⟩)
  go_end0
  exact ⟨rfl, h1.out.told hF hE⟩

set_option maxRecDepth 200000 in
set_option maxHeartbeats 8000000 in
theorem act5_calls (h : Inv w0 w L r evs) (hn : evs.length < 1000000000000) (s b : Int) (hb0 : 0 ≤ b) (hb1 : b ≤ 255) :
    Calls Tryd.prog 97 #[.pointer (some ⟨L.P, 0, none⟩), .int .u8 5, .int .u8 s, .int .u8 b] w fun e w' => e = .returned (.tuple #[]) ∧ Inv w0 w' L { r with cmd := b } (evs ++ [⟨1, 0, b, 0, [], []⟩]) := by
  (have := Raw.c9 h.raw; have := Raw.c10 h.raw; have := Raw.c11 h.raw; have := Raw.c12 h.raw; have := Raw.c13 h.raw; have := Raw.frozen h.raw 11; have := Raw.frozen h.raw 12; have := Raw.frozen h.raw 13; have := Raw.frozen h.raw 14; have := Raw.P_ne_pp h.raw; have := Raw.P_ne_pd h.raw; have := Raw.pp_ne_pd h.raw; have := Ne.symm (Raw.P_ne_pp h.raw); have := Ne.symm (Raw.P_ne_pd h.raw); have := Ne.symm (Raw.pp_ne_pd h.raw))
  have := h.raw.c1
  have hf : ∀ w, Sem.run Tryd.prog (binOp BinOp.neq 75 (.func (.func 76) #[] #[.pointer (some ⟨L.box, 0, none⟩)]) .nilFunc) w = .ok (.bool true) w := fun _ => by rfl
  have h1 := Lib.hid (h.setCmd b)
  have HN := Lib.hid hn
  clear hn
  have wb : IntKind.i64.wrap b = b := by rw [IntKind.wrap_i64]; omega
  go_enter Tryd.func97, Tryd.ntmps97
  go_wp2_with (go_at_call 76; refine (l2_calls L _ evs w0 _ b h1.out HN.out).mono ?_; rintro e w1 ⟨rfl, hF, hE⟩)
  go_end0
  exact ⟨rfl, h1.out.told hF hE⟩

set_option maxRecDepth 200000 in
set_option maxHeartbeats 8000000 in
theorem act3_calls (h : Inv w0 w L r evs) (hc : r.cmd = 0) (s b : Int) (hb0 : 0 ≤ b) (hb1 : b ≤ 255) :
    Calls Tryd.prog 97 #[.pointer (some ⟨L.P, 0, none⟩), .int .u8 3, .int .u8 s, .int .u8 b] w fun e w' => e = .returned (.tuple #[]) ∧ Inv w0 w' L { r with cmd := b * 256 } evs := by
  (have := Raw.c9 h.raw; have := Raw.c10 h.raw; have := Raw.c11 h.raw; have := Raw.c12 h.raw; have := Raw.c13 h.raw; have := Raw.frozen h.raw 11; have := Raw.frozen h.raw 12; have := Raw.frozen h.raw 13; have := Raw.frozen h.raw 14; have := Raw.P_ne_pp h.raw; have := Raw.P_ne_pd h.raw; have := Raw.pp_ne_pd h.raw; have := Ne.symm (Raw.P_ne_pp h.raw); have := Ne.symm (Raw.P_ne_pd h.raw); have := Ne.symm (Raw.pp_ne_pd h.raw))
  have e1 : bits .andNot .i64 r.cmd 65280 = 0 := by rw [hc]; decide
  have e2 := or_zero b hb0 (by omega)
  clear hc
  have h1 := Lib.hid ((h.setCmd 0).setCmd (b * 256))
  go_enter Tryd.func97, Tryd.ntmps97
  go_wp2_with fail
  go_end0
  exact ⟨rfl, h1.out⟩

set_option maxRecDepth 200000 in
set_option maxHeartbeats 8000000 in
theorem act2_calls (h : Inv w0 w L r evs) (hc : r.cmd ∈ [0, 15360, 15616, 15872, 16128]) (s b : Int) (hs : s ≠ 14) (hb0 : 0 ≤ b) (hb1 : b ≤ 255) :
    Calls Tryd.prog 97 #[.pointer (some ⟨L.P, 0, none⟩), .int .u8 2, .int .u8 s, .int .u8 b] w fun e w' => e = .returned (.tuple #[]) ∧ Inv w0 w' L { r with cmd := r.cmd + b * 65536 } evs := by
  (have := Raw.c9 h.raw; have := Raw.c10 h.raw; have := Raw.c11 h.raw; have := Raw.c12 h.raw; have := Raw.c13 h.raw; have := Raw.frozen h.raw 11; have := Raw.frozen h.raw 12; have := Raw.frozen h.raw 13; have := Raw.frozen h.raw 14; have := Raw.P_ne_pp h.raw; have := Raw.P_ne_pd h.raw; have := Raw.pp_ne_pd h.raw; have := Ne.symm (Raw.P_ne_pp h.raw); have := Ne.symm (Raw.P_ne_pd h.raw); have := Ne.symm (Raw.pp_ne_pd h.raw))
  have e1 : bits .andNot .i64 r.cmd 16711680 = r.cmd := by
    simp only [List.mem_cons, List.not_mem_nil, or_false] at hc
    rcases hc with e | e | e | e | e <;> rw [e] <;> decide
  have e2 := or_high r.cmd b (by simp at hc; omega) (by simp at hc; omega) hb0 (by omega)
  have e3 : decide (s = 14) = false := decide_eq_false hs
  have h1 := Lib.hid ((h.setCmd r.cmd).setCmd (r.cmd + b * 65536))
  clear hc
  go_enter Tryd.func97, Tryd.ntmps97
  go_wp2_with fail
  go_end0
  exact ⟨rfl, h1.out⟩

set_option maxRecDepth 200000 in
set_option maxHeartbeats 8000000 in
/-- The beginning of a system command, of an application's command. -/
theorem act6_calls (h : Inv w0 w L r evs) (hd : 0 ≤ r.dlen) (hst : r.st = 8) (s b : Int) :
    Calls Tryd.prog 97 #[.pointer (some ⟨L.P, 0, none⟩), .int .u8 6, .int .u8 s, .int .u8 b] w fun e w' => e = .returned (.tuple #[]) ∧ Inv w0 w' L { r with dlen := 0, cmd := Miss } evs := by
  (have := Raw.c9 h.raw; have := Raw.c10 h.raw; have := Raw.c11 h.raw; have := Raw.c12 h.raw; have := Raw.c13 h.raw; have := Raw.frozen h.raw 11; have := Raw.frozen h.raw 12; have := Raw.frozen h.raw 13; have := Raw.frozen h.raw 14; have := Raw.P_ne_pp h.raw; have := Raw.P_ne_pd h.raw; have := Raw.pp_ne_pd h.raw; have := Ne.symm (Raw.P_ne_pp h.raw); have := Ne.symm (Raw.P_ne_pd h.raw); have := Ne.symm (Raw.pp_ne_pd h.raw))
  have : w.cell? ⟨L.P, 14, none⟩ = some (.int .u8 8) := by rw [← hst]; exact h.raw.c14
  clear hst
  have e3 : decide (r.dlen < 0) = false := decide_eq_false (by omega)
  have h1 := Lib.hid ((h.setDlen 0).setCmd Miss)
  go_enter Tryd.func97, Tryd.ntmps97
  go_wp2_with fail
  go_end0
  exact ⟨rfl, h1.out⟩

set_option maxRecDepth 200000 in
set_option maxHeartbeats 8000000 in
/-- The beginning of a device's string. -/
theorem act6d_calls (h : Inv w0 w L r evs) (hd : 0 ≤ r.dlen) (hst : r.st = 4 ∨ r.st = 6) (hc0 : 0 ≤ r.cmd) (hc1 : r.cmd < 2 ^ 40) (hc2 : r.cmd % 256 = 0) (s b : Int) (hb0 : 0 ≤ b) (hb1 : b ≤ 255) :
    Calls Tryd.prog 97 #[.pointer (some ⟨L.P, 0, none⟩), .int .u8 6, .int .u8 s, .int .u8 b] w fun e w' => e = .returned (.tuple #[]) ∧ Inv w0 w' L { r with dlen := 0, cmd := r.cmd + b } evs := by
  (have := Raw.c9 h.raw; have := Raw.c10 h.raw; have := Raw.c11 h.raw; have := Raw.c12 h.raw; have := Raw.c13 h.raw; have := Raw.frozen h.raw 11; have := Raw.frozen h.raw 12; have := Raw.frozen h.raw 13; have := Raw.frozen h.raw 14; have := Raw.P_ne_pp h.raw; have := Raw.P_ne_pd h.raw; have := Raw.pp_ne_pd h.raw; have := Ne.symm (Raw.P_ne_pp h.raw); have := Ne.symm (Raw.P_ne_pd h.raw); have := Ne.symm (Raw.pp_ne_pd h.raw))
  have c14 := h.raw.c14
  have e3 : decide (r.dlen < 0) = false := decide_eq_false (by omega)
  have e4 : decide (4 ≤ r.st) = true := decide_eq_true (by omega)
  have e5 : decide (r.st ≤ 7) = true := decide_eq_true (by omega)
  have e2 := or_low r.cmd b hc0 hc1 hc2 hb0 (by omega)
  have h1 := Lib.hid ((h.setDlen 0).setCmd (r.cmd + b))
  go_enter Tryd.func97, Tryd.ntmps97
  go_wp2_with fail
  go_end0
  exact ⟨rfl, h1.out⟩
end
end Go.Proofs.YtgcbnegdchladaaDoor.X
namespace Go.Proofs.YtgcbnegdchladaaDoor.X
open Go.RowKit Go.Proofs.YtgcbnegdchladaaDoorW.PrintWords Go.Proofs.YtgcbnegdchladaaDoorW.PrintLast Go.Proofs.YtgcbnegdchladaaDoorW.PrintMore
set_option linter.unusedSimpArgs false
set_option linter.unusedVariables false

section
variable {w0 w : World} {L : Loc} {r : RawSt} {evs : List Ev}

/-- Where the loop of parseStringCmd stands: i bytes are read, the command is x. -/
def CmdAt (w0 w : World) (L : Loc) (r : RawSt) (evs : List Ev) (ds : List Int) (i : Nat) (x : Int) : Prop :=
  Inv w0 w L { r with cmd := x } evs ∧ strCmd (ds.drop i) x = strCmd ds Miss ∧ i + heads (ds.drop i) ≤ 6 ∧ (x = Miss ∧ i = 0 ∨ 0 ≤ x ∧ x < 10 ^ i)

theorem strCmd_step (ds : List Int) (i : Nat) (hi : i < ds.length) (x : Int) : strCmd (ds.drop i) x = if 48 ≤ ds.getD i 0 ∧ ds.getD i 0 ≤ 57 then strCmd (ds.drop (i + 1)) ((if x = Miss then 0 else x) * 10 + (ds.getD i 0 - 48)) else x := by
  rw [List.drop_eq_getElem_cons hi]
  simp [strCmd, hi]
theorem heads_step (ds : List Int) (i : Nat) (hi : i < ds.length) : heads (ds.drop i) = if 48 ≤ ds.getD i 0 ∧ ds.getD i 0 ≤ 57 then heads (ds.drop (i + 1)) + 1 else 0 := by
  rw [List.drop_eq_getElem_cons hi]
  simp [heads, hi]
theorem pow_le6 (i : Nat) (h : i ≤ 6) : (10 : Int) ^ i ≤ 1000000 := by
  have : i = 0 ∨ i = 1 ∨ i = 2 ∨ i = 3 ∨ i = 4 ∨ i = 5 ∨ i = 6 := by omega
  rcases this with e | e | e | e | e | e | e <;> subst e <;> decide

set_option maxRecDepth 200000 in
set_option maxHeartbeats 8000000 in
theorem strcmd_calls (h : Inv w0 w L r evs) (ds : List Int) (hd : r.dlen = ds.length) (hl : ds.length ≤ 4096) (hds : ∀ i, i < ds.length → r.dc.getD i 0 = ds.getD i 0) (hb : ∀ i, i < ds.length → 0 ≤ ds.getD i 0 ∧ ds.getD i 0 ≤ 255) (hh : heads ds ≤ 6) (hc : r.cmd = Miss) :
    Calls Tryd.prog 104 #[.pointer (some ⟨L.P, 0, none⟩)] w fun e w' => e = .returned (.tuple #[]) ∧ Inv w0 w' L { r with cmd := strCmd ds Miss } evs := by
  (have := Raw.c9 h.raw; have := Raw.c10 h.raw; have := Raw.c11 h.raw; have := Raw.c12 h.raw; have := Raw.c13 h.raw; have := Raw.frozen h.raw 11; have := Raw.frozen h.raw 12; have := Raw.frozen h.raw 13; have := Raw.frozen h.raw 14; have := Raw.P_ne_pp h.raw; have := Raw.P_ne_pd h.raw; have := Raw.pp_ne_pd h.raw; have := Ne.symm (Raw.P_ne_pp h.raw); have := Ne.symm (Raw.P_ne_pd h.raw); have := Ne.symm (Raw.pp_ne_pd h.raw))
  have e3 : decide (0 ≤ r.dlen) = true := decide_eq_true (by omega)
  have h0 : CmdAt w0 w L r evs ds 0 Miss := ⟨by rw [← hc]; exact h, by simp, by simpa using hh, Or.inl ⟨rfl, rfl⟩⟩
  have HDS := Lib.hid (And.intro hds (And.intro hb (And.intro hd hl)))
  clear hd hds hb hh hl hc
  go_enter Tryd.func104, Tryd.ntmps104
  go_wp2_with fail
  go_loopg [20] ds.length (fun kq v20 w' => ∃ (i : Nat) (x : Int), v20 = .int .i64 (i : Int) ∧ i + kq = ds.length ∧ CmdAt w0 w' L r evs ds i x)
  case atStart => exact ⟨0, Miss, rfl, by omega, h0⟩
  case round =>
    obtain ⟨i, x, rfl, hk, hI, hs, hg, hx⟩ := hrel
    clear h0
    obtain ⟨hds, hb, hd, hl⟩ := HDS.out
    have HI := Lib.hid hI
    have e20 : IntKind.i64.wrap ((i : Int) + 1) = ((i + 1 : Nat) : Int) := by rw [IntKind.wrap_i64]; omega
    by_cases hi : i < ds.length
    · have c1 : decide ((i : Int) < r.dlen) = true := decide_eq_true (by omega)
      have c2 : (0 : Int) ≤ (i : Int) := by omega
      have c3 : (i : Int) < 4096 := by omega
      have h1 := hds i hi
      have h2 := hb i hi
      have hs1 := strCmd_step ds i hi x
      have hg1 := heads_step ds i hi
      have hcell := hI.raw.dcell i (by omega)
      simp only [h1] at hcell
      clear h1 hds hb
      generalize ds.getD i 0 = d at *
      (have := Raw.c9 hI.raw; have := Raw.c10 hI.raw; have := Raw.c11 hI.raw; have := Raw.c12 hI.raw; have := Raw.c13 hI.raw; have := Raw.frozen hI.raw 11; have := Raw.frozen hI.raw 12; have := Raw.frozen hI.raw 13; have := Raw.frozen hI.raw 14; have := Raw.P_ne_pp hI.raw; have := Raw.P_ne_pd hI.raw; have := Raw.pp_ne_pd hI.raw; have := Ne.symm (Raw.P_ne_pp hI.raw); have := Ne.symm (Raw.P_ne_pd hI.raw); have := Ne.symm (Raw.pp_ne_pd hI.raw))
      by_cases hdig : 48 ≤ d ∧ d ≤ 57
      · rw [if_pos hdig] at hs1 hg1
        have g1 : decide (d < 48) = false := decide_eq_false (by omega)
        have g2 : decide (57 < d) = false := decide_eq_false (by omega)
        have g3 : IntKind.u8.wrap (d - 48) = d - 48 := by rw [IntKind.wrap_u8]; omega
        have p6 := pow_le6 i (by omega)
        rcases hx with ⟨ex, ei⟩ | ⟨hx0, hx1⟩
        · subst ex
          have g4 : IntKind.i64.wrap (d - 48) = d - 48 := by rw [IntKind.wrap_i64]; omega
          have nI : CmdAt w0 (((wr.setCell ⟨L.P, 13, none⟩ (.int .i64 0)).setCell ⟨L.P, 13, none⟩ (.int .i64 0)).setCell ⟨L.P, 13, none⟩ (.int .i64 (d - 48))) L r evs ds (i + 1) (d - 48) :=
            ⟨((hI.setCmd 0).setCmd 0).setCmd (d - 48), by rw [← hs, hs1]; simp, by omega, Or.inr ⟨by omega, by subst ei; simp; omega⟩⟩
          clear hd hl HDS
          clear ei hs hs1 hg hg1
          go_wp2_with fail
          go_roundg (ds.length - (i + 1))
          case measure => omega
          case rel => exact ⟨i + 1, d - 48, by simp, by omega, nI⟩
        · have g4 : decide (x = 2147483647) = false := decide_eq_false (by omega)
          have g5 : IntKind.i64.wrap (x * 10) = x * 10 := by rw [IntKind.wrap_i64]; omega
          have g6 : IntKind.i64.wrap (x * 10 + (d - 48)) = x * 10 + (d - 48) := by rw [IntKind.wrap_i64]; omega
          have nI : CmdAt w0 ((wr.setCell ⟨L.P, 13, none⟩ (.int .i64 (x * 10))).setCell ⟨L.P, 13, none⟩ (.int .i64 (x * 10 + (d - 48)))) L r evs ds (i + 1) (x * 10 + (d - 48)) :=
            ⟨(hI.setCmd (x * 10)).setCmd (x * 10 + (d - 48)), by rw [← hs, hs1, if_neg (by unfold Miss; omega)], by omega, Or.inr ⟨by omega, by rw [Int.pow_succ]; omega⟩⟩
          clear hd hl HDS
          clear hs hs1 hg hg1
          go_wp2_with fail
          go_roundg (ds.length - (i + 1))
          case measure => omega
          case rel => exact ⟨i + 1, x * 10 + (d - 48), by simp, by omega, nI⟩
      · rw [if_neg hdig] at hs1
        have fin : Inv w0 wr L { r with cmd := strCmd ds Miss } evs := by rw [← hs, hs1]; exact hI
        by_cases g1 : d < 48
        · have g2 : decide (d < 48) = true := decide_eq_true g1
          clear hd hl HDS hs hs1
          go_wp2_with fail
          go_end0
          exact ⟨rfl, fin⟩
        · have g2 : decide (d < 48) = false := decide_eq_false g1
          have g3 : decide (57 < d) = true := decide_eq_true (by omega)
          clear hd hl HDS hs hs1
          go_wp2_with fail
          go_end0
          exact ⟨rfl, fin⟩
    · have c1 : decide ((i : Int) < r.dlen) = false := decide_eq_false (by omega)
      have fin : Inv w0 wr L { r with cmd := strCmd ds Miss } evs := by
        rw [← hs, List.drop_of_length_le (by omega)]; exact hI
      clear hd hl HDS hs
      (have := Raw.c9 hI.raw; have := Raw.c10 hI.raw; have := Raw.c11 hI.raw; have := Raw.c12 hI.raw; have := Raw.c13 hI.raw; have := Raw.frozen hI.raw 11; have := Raw.frozen hI.raw 12; have := Raw.frozen hI.raw 13; have := Raw.frozen hI.raw 14; have := Raw.P_ne_pp hI.raw; have := Raw.P_ne_pd hI.raw; have := Raw.pp_ne_pd hI.raw; have := Ne.symm (Raw.P_ne_pp hI.raw); have := Ne.symm (Raw.P_ne_pd hI.raw); have := Ne.symm (Raw.pp_ne_pd hI.raw))
      go_wp2_with fail
      go_end0
      exact ⟨rfl, fin⟩

end
end Go.Proofs.YtgcbnegdchladaaDoor.X
namespace Go.Proofs.YtgcbnegdchladaaDoor.X
open Go.RowKit Go.Proofs.YtgcbnegdchladaaDoorW.PrintWords Go.Proofs.YtgcbnegdchladaaDoorW.PrintLast Go.Proofs.YtgcbnegdchladaaDoorW.PrintMore
set_option linter.unusedSimpArgs false
set_option linter.unusedVariables false

section
variable {w0 w : World} {L : Loc} {r : RawSt} {evs : List Ev}

set_option maxRecDepth 200000 in
set_option maxHeartbeats 8000000 in
/-- A digit, the first one. -/
theorem act8m_calls (h : Inv w0 w L r evs) (n : Nat) (hn : n < 32) (hd : r.plen = n) (hx : r.pc.getD n 0 = Miss) (s b : Int) (hb0 : 48 ≤ b) (hb1 : b ≤ 57) :
    Calls Tryd.prog 97 #[.pointer (some ⟨L.P, 0, none⟩), .int .u8 8, .int .u8 s, .int .u8 b] w fun e w' => e = .returned (.tuple #[]) ∧ Inv w0 w' L { r with pc := r.pc.set n (b - 48) } evs := by
  have c12 : w.cell? ⟨L.P, 12, none⟩ = some (.int .i64 (n : Int)) := by rw [← hd]; exact h.raw.c12
  (have := Raw.c9 h.raw; have := Raw.c10 h.raw; have := Raw.c11 h.raw; have := Raw.c12 h.raw; have := Raw.c13 h.raw; have := Raw.frozen h.raw 11; have := Raw.frozen h.raw 12; have := Raw.frozen h.raw 13; have := Raw.frozen h.raw 14; have := Raw.P_ne_pp h.raw; have := Raw.P_ne_pd h.raw; have := Raw.pp_ne_pd h.raw; have := Ne.symm (Raw.P_ne_pp h.raw); have := Ne.symm (Raw.P_ne_pd h.raw); have := Ne.symm (Raw.pp_ne_pd h.raw))
  have d1 : w.cell? ⟨L.pp, n, none⟩ = some (.int .i64 2147483647) := by rw [h.raw.pcell n hn, hx]; rfl
  have d2 := h.raw.pfrozen n
  have e1 : decide (32 ≤ (n : Int)) = false := decide_eq_false (by omega)
  have e2 : decide (48 ≤ b) = true := decide_eq_true hb0
  have e3 : decide (b ≤ 57) = true := decide_eq_true hb1
  have e5 : (0 : Int) ≤ (n : Int) := by omega
  have e6 : (n : Int) < 32 := by omega
  have e7 : IntKind.u8.wrap (b - 48) = b - 48 := by rw [IntKind.wrap_u8]; omega
  have e8 : IntKind.i64.wrap (b - 48) = b - 48 := by rw [IntKind.wrap_i64]; omega
  have e9 : b ≠ 58 := by omega
  have e10 : b ≠ 59 := by omega
  have h2 : Inv w0 (((w.setCell ⟨L.pp, n, none⟩ (.int .i64 0)).setCell ⟨L.pp, n, none⟩ (.int .i64 0)).setCell ⟨L.pp, n, none⟩ (.int .i64 (b - 48))) L { r with pc := ((r.pc.set n 0).set n 0).set n (b - 48) } evs := ((h.setPP n 0).setPP n 0).setPP n (b - 48)
  rw [List.set_set, List.set_set] at h2
  have h1 := Lib.hid h2
  clear h2
  clear hd hx
  go_enter Tryd.func97, Tryd.ntmps97
  go_wp2_with fail
  go_region_held3 (fun w' => w'.cell? ⟨L.P, 9, none⟩ = some (.slice (some ⟨L.pp, 0, none⟩) 32 32) ∧ w'.cell? ⟨L.P, 12, none⟩ = some (.int .i64 (n : Int))) (go_keep) (fail)
  go_wp2_with fail
  go_region_held3 (fun w' => w'.cell? ⟨L.P, 9, none⟩ = some (.slice (some ⟨L.pp, 0, none⟩) 32 32) ∧ w'.cell? ⟨L.P, 12, none⟩ = some (.int .i64 (n : Int)) ∧ w'.cell? ⟨L.pp, n, none⟩ = some (.int .i64 2147483647)) (go_keep) (fail)
  go_wp2_with fail
  go_region_held3 (fun w' => w'.cell? ⟨L.P, 9, none⟩ = some (.slice (some ⟨L.pp, 0, none⟩) 32 32) ∧ w'.cell? ⟨L.P, 12, none⟩ = some (.int .i64 (n : Int))) (go_keep) (fail)
  go_wp2_with fail
  --REGION 26 0
  refine start_ (n := 13) (S := fun w' => w'.cell? ⟨L.P, 9, none⟩ = some (.slice (some ⟨L.pp, 0, none⟩) 32 32) ∧ w'.cell? ⟨L.P, 12, none⟩ = some (.int .i64 (n : Int)) ∧ w'.cell? ⟨L.pp, n, none⟩ = some (.int .i64 0)) (ds := [12]) #[false, false, false, false, false, false, false, false, false, false, false, false, false] (by kernel_rfl) rfl rfl ⟨(by go_keep), (by go_keep), (by first | (go_keep; done) | (simp [*, World.cell?_setCell_same']; done) | (simp [*, World.cell?_setCell_same', wrap64]; done))⟩ (fun hHeld => ?_)
  refine pure_ (i := 0) (N := some 141) (v := ?_) (a' := ?_) #[true, false, false, false, false, false, false, false, false, false, false, false, false] rfl rfl (by kernel_rfl) (fun _ _ _ h => h) (Or.inl ⟨by rfl, ?_⟩) ?_ ?_
  rotate_left
  · intro w'
    go_simp
    with_reducible rfl
  rotate_left
  · simp only [Act.put, List.setIfInBounds_toArray, List.set_cons_zero, List.set_cons_succ, i64_w, i32_w]
    rfl
  refine pure_ (i := 1) (N := some 142) (v := ?_) (a' := ?_) #[true, true, false, false, false, false, false, false, false, false, false, false, false] rfl rfl (by kernel_rfl) (fun _ _ _ h => h) (Or.inl ⟨by rfl, ?_⟩) ?_ ?_
  rotate_left
  · intro w'
    go_simp
    with_reducible rfl
  rotate_left
  · simp only [Act.put, List.setIfInBounds_toArray, List.set_cons_zero, List.set_cons_succ, i64_w, i32_w]
    rfl
  refine pure_ (i := 2) (N := some 143) (v := ?_) (a' := ?_) #[true, true, true, false, false, false, false, false, false, false, false, false, false] rfl rfl (by kernel_rfl) (fun _ _ _ h => h) (Or.inl ⟨by rfl, ?_⟩) ?_ ?_
  rotate_left
  · intro w'
    go_simp
    with_reducible rfl
  rotate_left
  · simp only [Act.put, List.setIfInBounds_toArray, List.set_cons_zero, List.set_cons_succ, i64_w, i32_w]
    rfl
  refine pure_ (i := 4) (N := some 145) (v := ?_) (a' := ?_) #[true, true, true, false, true, false, false, false, false, false, false, false, false] rfl rfl (by kernel_rfl) (fun _ _ _ h => h) (Or.inl ⟨by rfl, ?_⟩) ?_ ?_
  rotate_left
  · intro w'
    go_simp
    with_reducible rfl
  rotate_left
  · simp only [Act.put, List.setIfInBounds_toArray, List.set_cons_zero, List.set_cons_succ, i64_w, i32_w]
    rfl
  refine pure_ (i := 5) (N := some 146) (v := ?_) (a' := ?_) #[true, true, true, false, true, true, false, false, false, false, false, false, false] rfl rfl (by kernel_rfl) (fun _ _ _ h => h) (Or.inl ⟨by rfl, ?_⟩) ?_ ?_
  rotate_left
  · intro w'
    go_simp
    with_reducible rfl
  rotate_left
  · simp only [Act.put, List.setIfInBounds_toArray, List.set_cons_zero, List.set_cons_succ, i64_w, i32_w]
    rfl
  refine pure_ (i := 6) (N := some 147) (v := ?_) (a' := ?_) #[true, true, true, false, true, true, true, false, false, false, false, false, false] rfl rfl (by kernel_rfl) (fun _ _ _ h => h) (Or.inl ⟨by rfl, ?_⟩) ?_ ?_
  rotate_left
  · intro w'
    go_simp
    with_reducible rfl
  rotate_left
  · simp only [Act.put, List.setIfInBounds_toArray, List.set_cons_zero, List.set_cons_succ, i64_w, i32_w]
    rfl
  refine take_ (i := 3) (N := some 144) (v := ?_) (a' := ?_) #[true, true, true, true, true, true, true, false, false, false, false, false, false] rfl rfl (by kernel_rfl) (fun _ _ _ h => h) (Or.inl ⟨by rfl, ?_⟩) hHeld ?_ ?_
  rotate_left
  · rintro w' ⟨s0, s1, s2⟩
    go_simp
    with_reducible rfl
  rotate_left
  · simp only [Act.put, List.setIfInBounds_toArray, List.set_cons_zero, List.set_cons_succ, i64_w, i32_w]
    rfl
  refine take_ (i := 7) (N := some 148) (v := ?_) (a' := ?_) #[true, true, true, true, true, true, true, true, false, false, false, false, false] rfl rfl (by kernel_rfl) (fun _ _ _ h => h) (Or.inl ⟨by rfl, ?_⟩) hHeld ?_ ?_
  rotate_left
  · rintro w' ⟨s0, s1, s2⟩
    go_simp
    with_reducible rfl
  rotate_left
  · simp only [Act.put, List.setIfInBounds_toArray, List.set_cons_zero, List.set_cons_succ, i64_w, i32_w]
    rfl
  refine pure_ (i := 8) (N := some 149) (v := ?_) (a' := ?_) #[true, true, true, true, true, true, true, true, true, false, false, false, false] rfl rfl (by kernel_rfl) (fun _ _ _ h => h) (Or.inl ⟨by rfl, ?_⟩) ?_ ?_
  rotate_left
  · intro w'
    go_simp
    with_reducible rfl
  rotate_left
  · simp only [Act.put, List.setIfInBounds_toArray, List.set_cons_zero, List.set_cons_succ, i64_w, i32_w]
    rfl
  refine take_ (i := 9) (N := some 150) (v := ?_) (a' := ?_) #[true, true, true, true, true, true, true, true, true, true, false, false, false] rfl rfl (by kernel_rfl) (fun _ _ _ h => h) (Or.inl ⟨by rfl, ?_⟩) hHeld ?_ ?_
  rotate_left
  · rintro w' ⟨s0, s1, s2⟩
    go_simp
    with_reducible rfl
  rotate_left
  · simp only [Act.put, List.setIfInBounds_toArray, List.set_cons_zero, List.set_cons_succ, i64_w, i32_w]
    rfl
  refine pure_ (i := 10) (N := some 151) (v := ?_) (a' := ?_) #[true, true, true, true, true, true, true, true, true, true, true, false, false] rfl rfl (by kernel_rfl) (fun _ _ _ h => h) (Or.inl ⟨by rfl, ?_⟩) ?_ ?_
  rotate_left
  · intro w'
    go_simp
    with_reducible rfl
  rotate_left
  · simp only [Act.put, List.setIfInBounds_toArray, List.set_cons_zero, List.set_cons_succ, i64_w, i32_w]
    rfl
  refine pure_ (i := 11) (N := some 152) (v := ?_) (a' := ?_) #[true, true, true, true, true, true, true, true, true, true, true, true, false] rfl rfl (by kernel_rfl) (fun _ _ _ h => h) (Or.inl ⟨by rfl, ?_⟩) ?_ ?_
  rotate_left
  · intro w'
    go_simp
    with_reducible rfl
  rotate_left
  · simp only [Act.put, List.setIfInBounds_toArray, List.set_cons_zero, List.set_cons_succ, i64_w, i32_w]
    rfl
  refine last_ (i := 12) (N := none) #[true, true, true, true, true, true, true, true, true, true, true, true, true] rfl rfl (by kernel_rfl) (by decide) (fun K hK => ?_)
  refine skip_ (w1 := ?_) (by rfl) rfl ?_ ?_
  rotate_left
  · go_simp
    rfl
  refine hK.out _ _ ?_
  clear hK K
  refine done_ (by kernel_rfl) ?_
  --END
  go_wp2_with fail
  --REGION 27 0
  refine start_ (n := 16) (S := fun w' => w'.cell? ⟨L.P, 9, none⟩ = some (.slice (some ⟨L.pp, 0, none⟩) 32 32) ∧ w'.cell? ⟨L.P, 12, none⟩ = some (.int .i64 (n : Int)) ∧ w'.cell? ⟨L.pp, n, none⟩ = some (.int .i64 0)) (ds := [15]) #[false, false, false, false, false, false, false, false, false, false, false, false, false, false, false, false] (by kernel_rfl) rfl rfl ⟨(by go_keep), (by go_keep), (by first | (go_keep; done) | (simp [*, World.cell?_setCell_same']; done) | (simp [*, World.cell?_setCell_same', wrap64]; done))⟩ (fun hHeld => ?_)
  refine pure_ (i := 0) (N := some 153) (v := ?_) (a' := ?_) #[true, false, false, false, false, false, false, false, false, false, false, false, false, false, false, false] rfl rfl (by kernel_rfl) (fun _ _ _ h => h) (Or.inl ⟨by rfl, ?_⟩) ?_ ?_
  rotate_left
  · intro w'
    go_simp
    with_reducible rfl
  rotate_left
  · simp only [Act.put, List.setIfInBounds_toArray, List.set_cons_zero, List.set_cons_succ, i64_w, i32_w]
    rfl
  refine pure_ (i := 1) (N := some 154) (v := ?_) (a' := ?_) #[true, true, false, false, false, false, false, false, false, false, false, false, false, false, false, false] rfl rfl (by kernel_rfl) (fun _ _ _ h => h) (Or.inl ⟨by rfl, ?_⟩) ?_ ?_
  rotate_left
  · intro w'
    go_simp
    with_reducible rfl
  rotate_left
  · simp only [Act.put, List.setIfInBounds_toArray, List.set_cons_zero, List.set_cons_succ, i64_w, i32_w]
    rfl
  refine pure_ (i := 2) (N := some 155) (v := ?_) (a' := ?_) #[true, true, true, false, false, false, false, false, false, false, false, false, false, false, false, false] rfl rfl (by kernel_rfl) (fun _ _ _ h => h) (Or.inl ⟨by rfl, ?_⟩) ?_ ?_
  rotate_left
  · intro w'
    go_simp
    with_reducible rfl
  rotate_left
  · simp only [Act.put, List.setIfInBounds_toArray, List.set_cons_zero, List.set_cons_succ, i64_w, i32_w]
    rfl
  refine pure_ (i := 4) (N := some 157) (v := ?_) (a' := ?_) #[true, true, true, false, true, false, false, false, false, false, false, false, false, false, false, false] rfl rfl (by kernel_rfl) (fun _ _ _ h => h) (Or.inl ⟨by rfl, ?_⟩) ?_ ?_
  rotate_left
  · intro w'
    go_simp
    with_reducible rfl
  rotate_left
  · simp only [Act.put, List.setIfInBounds_toArray, List.set_cons_zero, List.set_cons_succ, i64_w, i32_w]
    rfl
  refine pure_ (i := 5) (N := some 158) (v := ?_) (a' := ?_) #[true, true, true, false, true, true, false, false, false, false, false, false, false, false, false, false] rfl rfl (by kernel_rfl) (fun _ _ _ h => h) (Or.inl ⟨by rfl, ?_⟩) ?_ ?_
  rotate_left
  · intro w'
    go_simp
    with_reducible rfl
  rotate_left
  · simp only [Act.put, List.setIfInBounds_toArray, List.set_cons_zero, List.set_cons_succ, i64_w, i32_w]
    rfl
  refine pure_ (i := 6) (N := some 159) (v := ?_) (a' := ?_) #[true, true, true, false, true, true, true, false, false, false, false, false, false, false, false, false] rfl rfl (by kernel_rfl) (fun _ _ _ h => h) (Or.inl ⟨by rfl, ?_⟩) ?_ ?_
  rotate_left
  · intro w'
    go_simp
    with_reducible rfl
  rotate_left
  · simp only [Act.put, List.setIfInBounds_toArray, List.set_cons_zero, List.set_cons_succ, i64_w, i32_w]
    rfl
  refine pure_ (i := 10) (N := some 163) (v := ?_) (a' := ?_) #[true, true, true, false, true, true, true, false, false, false, true, false, false, false, false, false] rfl rfl (by kernel_rfl) (fun _ _ _ h => h) (Or.inl ⟨by rfl, ?_⟩) ?_ ?_
  rotate_left
  · intro w'
    go_simp
    with_reducible rfl
  rotate_left
  · simp only [Act.put, List.setIfInBounds_toArray, List.set_cons_zero, List.set_cons_succ, i64_w, i32_w]
    rfl
  refine pure_ (i := 11) (N := some 164) (v := ?_) (a' := ?_) #[true, true, true, false, true, true, true, false, false, false, true, true, false, false, false, false] rfl rfl (by kernel_rfl) (fun _ _ _ h => h) (Or.inl ⟨by rfl, ?_⟩) ?_ ?_
  rotate_left
  · intro w'
    go_simp
    with_reducible rfl
  rotate_left
  · simp only [Act.put, List.setIfInBounds_toArray, List.set_cons_zero, List.set_cons_succ, i64_w, i32_w]
    rfl
  refine pure_ (i := 12) (N := some 165) (v := ?_) (a' := ?_) #[true, true, true, false, true, true, true, false, false, false, true, true, true, false, false, false] rfl rfl (by kernel_rfl) (fun _ _ _ h => h) (Or.inl ⟨by rfl, ?_⟩) ?_ ?_
  rotate_left
  · intro w'
    go_simp
    with_reducible rfl
  rotate_left
  · simp only [Act.put, List.setIfInBounds_toArray, List.set_cons_zero, List.set_cons_succ, i64_w, i32_w]
    rfl
  refine take_ (i := 3) (N := some 156) (v := ?_) (a' := ?_) #[true, true, true, true, true, true, true, false, false, false, true, true, true, false, false, false] rfl rfl (by kernel_rfl) (fun _ _ _ h => h) (Or.inl ⟨by rfl, ?_⟩) hHeld ?_ ?_
  rotate_left
  · rintro w' ⟨s0, s1, s2⟩
    go_simp
    with_reducible rfl
  rotate_left
  · simp only [Act.put, List.setIfInBounds_toArray, List.set_cons_zero, List.set_cons_succ, i64_w, i32_w]
    rfl
  refine take_ (i := 7) (N := some 160) (v := ?_) (a' := ?_) #[true, true, true, true, true, true, true, true, false, false, true, true, true, false, false, false] rfl rfl (by kernel_rfl) (fun _ _ _ h => h) (Or.inl ⟨by rfl, ?_⟩) hHeld ?_ ?_
  rotate_left
  · rintro w' ⟨s0, s1, s2⟩
    go_simp
    with_reducible rfl
  rotate_left
  · simp only [Act.put, List.setIfInBounds_toArray, List.set_cons_zero, List.set_cons_succ, i64_w, i32_w]
    rfl
  refine pure_ (i := 8) (N := some 161) (v := ?_) (a' := ?_) #[true, true, true, true, true, true, true, true, true, false, true, true, true, false, false, false] rfl rfl (by kernel_rfl) (fun _ _ _ h => h) (Or.inl ⟨by rfl, ?_⟩) ?_ ?_
  rotate_left
  · intro w'
    go_simp
    with_reducible rfl
  rotate_left
  · simp only [Act.put, List.setIfInBounds_toArray, List.set_cons_zero, List.set_cons_succ, i64_w, i32_w]
    rfl
  refine take_ (i := 9) (N := some 162) (v := ?_) (a' := ?_) #[true, true, true, true, true, true, true, true, true, true, true, true, true, false, false, false] rfl rfl (by kernel_rfl) (fun _ _ _ h => h) (Or.inl ⟨by rfl, ?_⟩) hHeld ?_ ?_
  rotate_left
  · rintro w' ⟨s0, s1, s2⟩
    go_simp
    with_reducible rfl
  rotate_left
  · simp only [Act.put, List.setIfInBounds_toArray, List.set_cons_zero, List.set_cons_succ, i64_w, i32_w]
    rfl
  refine pure_ (i := 13) (N := some 166) (v := ?_) (a' := ?_) #[true, true, true, true, true, true, true, true, true, true, true, true, true, true, false, false] rfl rfl (by kernel_rfl) (fun _ _ _ h => h) (Or.inl ⟨by rfl, ?_⟩) ?_ ?_
  rotate_left
  · intro w'
    go_simp
    with_reducible rfl
  rotate_left
  · simp only [Act.put, List.setIfInBounds_toArray, List.set_cons_zero, List.set_cons_succ, i64_w, i32_w]
    rfl
  refine pure_ (i := 14) (N := some 167) (v := ?_) (a' := ?_) #[true, true, true, true, true, true, true, true, true, true, true, true, true, true, true, false] rfl rfl (by kernel_rfl) (fun _ _ _ h => h) (Or.inl ⟨by rfl, ?_⟩) ?_ ?_
  rotate_left
  · intro w'
    go_simp
    with_reducible rfl
  rotate_left
  · simp only [Act.put, List.setIfInBounds_toArray, List.set_cons_zero, List.set_cons_succ, i64_w, i32_w]
    rfl
  refine last_ (i := 15) (N := none) #[true, true, true, true, true, true, true, true, true, true, true, true, true, true, true, true] rfl rfl (by kernel_rfl) (by decide) (fun K hK => ?_)
  refine skip_ (w1 := ?_) (by rfl) rfl ?_ ?_
  rotate_left
  · go_simp
    rfl
  refine hK.out _ _ ?_
  clear hK K
  refine done_ (by kernel_rfl) ?_
  --END
  go_wp2_with fail
  go_end0
  rw [show wrap64 0 = 0 by simp [wrap64]]
  exact ⟨rfl, h1.out.drew.drew.drew.drew.drew⟩

end
end Go.Proofs.YtgcbnegdchladaaDoor.X
namespace Go.Proofs.YtgcbnegdchladaaDoor.X
open Go.RowKit Go.Proofs.YtgcbnegdchladaaDoorW.PrintWords Go.Proofs.YtgcbnegdchladaaDoorW.PrintLast Go.Proofs.YtgcbnegdchladaaDoorW.PrintMore
set_option linter.unusedSimpArgs false
set_option linter.unusedVariables false

section
variable {w0 w : World} {L : Loc} {r : RawSt} {evs : List Ev}

set_option maxRecDepth 200000 in
set_option maxHeartbeats 8000000 in
/-- A further digit. -/
theorem act8d_calls (h : Inv w0 w L r evs) (n : Nat) (hn : n < 32) (hd : r.plen = n) (x : Int) (hx : r.pc.getD n 0 = x) (hx0 : 0 ≤ x) (hx1 : x ≤ 100000) (s b : Int) (hb0 : 48 ≤ b) (hb1 : b ≤ 57) :
    Calls Tryd.prog 97 #[.pointer (some ⟨L.P, 0, none⟩), .int .u8 8, .int .u8 s, .int .u8 b] w fun e w' => e = .returned (.tuple #[]) ∧ Inv w0 w' L { r with pc := r.pc.set n (x * 10 + (b - 48)) } evs := by
  have c12 : w.cell? ⟨L.P, 12, none⟩ = some (.int .i64 (n : Int)) := by rw [← hd]; exact h.raw.c12
  (have := Raw.c9 h.raw; have := Raw.c10 h.raw; have := Raw.c11 h.raw; have := Raw.c12 h.raw; have := Raw.c13 h.raw; have := Raw.frozen h.raw 11; have := Raw.frozen h.raw 12; have := Raw.frozen h.raw 13; have := Raw.frozen h.raw 14; have := Raw.P_ne_pp h.raw; have := Raw.P_ne_pd h.raw; have := Raw.pp_ne_pd h.raw; have := Ne.symm (Raw.P_ne_pp h.raw); have := Ne.symm (Raw.P_ne_pd h.raw); have := Ne.symm (Raw.pp_ne_pd h.raw))
  have d1 : w.cell? ⟨L.pp, n, none⟩ = some (.int .i64 x) := by rw [h.raw.pcell n hn, hx]
  have d2 := h.raw.pfrozen n
  have e1 : decide (32 ≤ (n : Int)) = false := decide_eq_false (by omega)
  have e2 : decide (48 ≤ b) = true := decide_eq_true hb0
  have e3 : decide (b ≤ 57) = true := decide_eq_true hb1
  have e4 : x ≠ 2147483647 := by omega
  have e5 : (0 : Int) ≤ (n : Int) := by omega
  have e6 : (n : Int) < 32 := by omega
  have e7 : IntKind.u8.wrap (b - 48) = b - 48 := by rw [IntKind.wrap_u8]; omega
  have e8 : IntKind.i64.wrap (b - 48) = b - 48 := by rw [IntKind.wrap_i64]; omega
  have e9 : b ≠ 58 := by omega
  have e10 : b ≠ 59 := by omega
  have e11 : IntKind.i64.wrap (x * 10) = x * 10 := by rw [IntKind.wrap_i64]; omega
  have e12 : IntKind.i64.wrap (x * 10 + (b - 48)) = x * 10 + (b - 48) := by rw [IntKind.wrap_i64]; omega
  have h2 : Inv w0 ((w.setCell ⟨L.pp, n, none⟩ (.int .i64 (x * 10))).setCell ⟨L.pp, n, none⟩ (.int .i64 (x * 10 + (b - 48)))) L { r with pc := (r.pc.set n (x * 10)).set n (x * 10 + (b - 48)) } evs := (h.setPP n (x * 10)).setPP n (x * 10 + (b - 48))
  rw [List.set_set] at h2
  have h1 := Lib.hid h2
  clear h2 hd hx
  go_enter Tryd.func97, Tryd.ntmps97
  go_wp2_with fail
  go_region_held3 (fun w' => w'.cell? ⟨L.P, 9, none⟩ = some (.slice (some ⟨L.pp, 0, none⟩) 32 32) ∧ w'.cell? ⟨L.P, 12, none⟩ = some (.int .i64 (n : Int))) (go_keep) (fail)
  go_wp2_with fail
  go_region_held3 (fun w' => w'.cell? ⟨L.P, 9, none⟩ = some (.slice (some ⟨L.pp, 0, none⟩) 32 32) ∧ w'.cell? ⟨L.P, 12, none⟩ = some (.int .i64 (n : Int)) ∧ w'.cell? ⟨L.pp, n, none⟩ = some (.int .i64 x)) (go_keep) (fail)
  go_wp2_with fail
  --REGION 26 x
  refine start_ (n := 13) (S := fun w' => w'.cell? ⟨L.P, 9, none⟩ = some (.slice (some ⟨L.pp, 0, none⟩) 32 32) ∧ w'.cell? ⟨L.P, 12, none⟩ = some (.int .i64 (n : Int)) ∧ w'.cell? ⟨L.pp, n, none⟩ = some (.int .i64 x)) (ds := [12]) #[false, false, false, false, false, false, false, false, false, false, false, false, false] (by kernel_rfl) rfl rfl ⟨(by go_keep), (by go_keep), (by first | (go_keep; done) | (simp [*, World.cell?_setCell_same']; done) | (simp [*, World.cell?_setCell_same', wrap64]; done))⟩ (fun hHeld => ?_)
  refine pure_ (i := 0) (N := some 141) (v := ?_) (a' := ?_) #[true, false, false, false, false, false, false, false, false, false, false, false, false] rfl rfl (by kernel_rfl) (fun _ _ _ h => h) (Or.inl ⟨by rfl, ?_⟩) ?_ ?_
  rotate_left
  · intro w'
    go_simp
    with_reducible rfl
  rotate_left
  · simp only [Act.put, List.setIfInBounds_toArray, List.set_cons_zero, List.set_cons_succ, i64_w, i32_w]
    rfl
  refine pure_ (i := 1) (N := some 142) (v := ?_) (a' := ?_) #[true, true, false, false, false, false, false, false, false, false, false, false, false] rfl rfl (by kernel_rfl) (fun _ _ _ h => h) (Or.inl ⟨by rfl, ?_⟩) ?_ ?_
  rotate_left
  · intro w'
    go_simp
    with_reducible rfl
  rotate_left
  · simp only [Act.put, List.setIfInBounds_toArray, List.set_cons_zero, List.set_cons_succ, i64_w, i32_w]
    rfl
  refine pure_ (i := 2) (N := some 143) (v := ?_) (a' := ?_) #[true, true, true, false, false, false, false, false, false, false, false, false, false] rfl rfl (by kernel_rfl) (fun _ _ _ h => h) (Or.inl ⟨by rfl, ?_⟩) ?_ ?_
  rotate_left
  · intro w'
    go_simp
    with_reducible rfl
  rotate_left
  · simp only [Act.put, List.setIfInBounds_toArray, List.set_cons_zero, List.set_cons_succ, i64_w, i32_w]
    rfl
  refine pure_ (i := 4) (N := some 145) (v := ?_) (a' := ?_) #[true, true, true, false, true, false, false, false, false, false, false, false, false] rfl rfl (by kernel_rfl) (fun _ _ _ h => h) (Or.inl ⟨by rfl, ?_⟩) ?_ ?_
  rotate_left
  · intro w'
    go_simp
    with_reducible rfl
  rotate_left
  · simp only [Act.put, List.setIfInBounds_toArray, List.set_cons_zero, List.set_cons_succ, i64_w, i32_w]
    rfl
  refine pure_ (i := 5) (N := some 146) (v := ?_) (a' := ?_) #[true, true, true, false, true, true, false, false, false, false, false, false, false] rfl rfl (by kernel_rfl) (fun _ _ _ h => h) (Or.inl ⟨by rfl, ?_⟩) ?_ ?_
  rotate_left
  · intro w'
    go_simp
    with_reducible rfl
  rotate_left
  · simp only [Act.put, List.setIfInBounds_toArray, List.set_cons_zero, List.set_cons_succ, i64_w, i32_w]
    rfl
  refine pure_ (i := 6) (N := some 147) (v := ?_) (a' := ?_) #[true, true, true, false, true, true, true, false, false, false, false, false, false] rfl rfl (by kernel_rfl) (fun _ _ _ h => h) (Or.inl ⟨by rfl, ?_⟩) ?_ ?_
  rotate_left
  · intro w'
    go_simp
    with_reducible rfl
  rotate_left
  · simp only [Act.put, List.setIfInBounds_toArray, List.set_cons_zero, List.set_cons_succ, i64_w, i32_w]
    rfl
  refine take_ (i := 3) (N := some 144) (v := ?_) (a' := ?_) #[true, true, true, true, true, true, true, false, false, false, false, false, false] rfl rfl (by kernel_rfl) (fun _ _ _ h => h) (Or.inl ⟨by rfl, ?_⟩) hHeld ?_ ?_
  rotate_left
  · rintro w' ⟨s0, s1, s2⟩
    go_simp
    with_reducible rfl
  rotate_left
  · simp only [Act.put, List.setIfInBounds_toArray, List.set_cons_zero, List.set_cons_succ, i64_w, i32_w]
    rfl
  refine take_ (i := 7) (N := some 148) (v := ?_) (a' := ?_) #[true, true, true, true, true, true, true, true, false, false, false, false, false] rfl rfl (by kernel_rfl) (fun _ _ _ h => h) (Or.inl ⟨by rfl, ?_⟩) hHeld ?_ ?_
  rotate_left
  · rintro w' ⟨s0, s1, s2⟩
    go_simp
    with_reducible rfl
  rotate_left
  · simp only [Act.put, List.setIfInBounds_toArray, List.set_cons_zero, List.set_cons_succ, i64_w, i32_w]
    rfl
  refine pure_ (i := 8) (N := some 149) (v := ?_) (a' := ?_) #[true, true, true, true, true, true, true, true, true, false, false, false, false] rfl rfl (by kernel_rfl) (fun _ _ _ h => h) (Or.inl ⟨by rfl, ?_⟩) ?_ ?_
  rotate_left
  · intro w'
    go_simp
    with_reducible rfl
  rotate_left
  · simp only [Act.put, List.setIfInBounds_toArray, List.set_cons_zero, List.set_cons_succ, i64_w, i32_w]
    rfl
  refine take_ (i := 9) (N := some 150) (v := ?_) (a' := ?_) #[true, true, true, true, true, true, true, true, true, true, false, false, false] rfl rfl (by kernel_rfl) (fun _ _ _ h => h) (Or.inl ⟨by rfl, ?_⟩) hHeld ?_ ?_
  rotate_left
  · rintro w' ⟨s0, s1, s2⟩
    go_simp
    with_reducible rfl
  rotate_left
  · simp only [Act.put, List.setIfInBounds_toArray, List.set_cons_zero, List.set_cons_succ, i64_w, i32_w]
    rfl
  refine pure_ (i := 10) (N := some 151) (v := ?_) (a' := ?_) #[true, true, true, true, true, true, true, true, true, true, true, false, false] rfl rfl (by kernel_rfl) (fun _ _ _ h => h) (Or.inl ⟨by rfl, ?_⟩) ?_ ?_
  rotate_left
  · intro w'
    go_simp
    with_reducible rfl
  rotate_left
  · simp only [Act.put, List.setIfInBounds_toArray, List.set_cons_zero, List.set_cons_succ, i64_w, i32_w]
    rfl
  refine pure_ (i := 11) (N := some 152) (v := ?_) (a' := ?_) #[true, true, true, true, true, true, true, true, true, true, true, true, false] rfl rfl (by kernel_rfl) (fun _ _ _ h => h) (Or.inl ⟨by rfl, ?_⟩) ?_ ?_
  rotate_left
  · intro w'
    go_simp
    with_reducible rfl
  rotate_left
  · simp only [Act.put, List.setIfInBounds_toArray, List.set_cons_zero, List.set_cons_succ, i64_w, i32_w]
    rfl
  refine last_ (i := 12) (N := none) #[true, true, true, true, true, true, true, true, true, true, true, true, true] rfl rfl (by kernel_rfl) (by decide) (fun K hK => ?_)
  refine skip_ (w1 := ?_) (by rfl) rfl ?_ ?_
  rotate_left
  · go_simp
    rfl
  refine hK.out _ _ ?_
  clear hK K
  refine done_ (by kernel_rfl) ?_
  --END
  go_wp2_with fail
  --REGION 27 (x * 10)
  refine start_ (n := 16) (S := fun w' => w'.cell? ⟨L.P, 9, none⟩ = some (.slice (some ⟨L.pp, 0, none⟩) 32 32) ∧ w'.cell? ⟨L.P, 12, none⟩ = some (.int .i64 (n : Int)) ∧ w'.cell? ⟨L.pp, n, none⟩ = some (.int .i64 (x * 10))) (ds := [15]) #[false, false, false, false, false, false, false, false, false, false, false, false, false, false, false, false] (by kernel_rfl) rfl rfl ⟨(by go_keep), (by go_keep), (by first | (go_keep; done) | (simp [*, World.cell?_setCell_same']; done) | (simp [*, World.cell?_setCell_same', wrap64]; done))⟩ (fun hHeld => ?_)
  refine pure_ (i := 0) (N := some 153) (v := ?_) (a' := ?_) #[true, false, false, false, false, false, false, false, false, false, false, false, false, false, false, false] rfl rfl (by kernel_rfl) (fun _ _ _ h => h) (Or.inl ⟨by rfl, ?_⟩) ?_ ?_
  rotate_left
  · intro w'
    go_simp
    with_reducible rfl
  rotate_left
  · simp only [Act.put, List.setIfInBounds_toArray, List.set_cons_zero, List.set_cons_succ, i64_w, i32_w]
    rfl
  refine pure_ (i := 1) (N := some 154) (v := ?_) (a' := ?_) #[true, true, false, false, false, false, false, false, false, false, false, false, false, false, false, false] rfl rfl (by kernel_rfl) (fun _ _ _ h => h) (Or.inl ⟨by rfl, ?_⟩) ?_ ?_
  rotate_left
  · intro w'
    go_simp
    with_reducible rfl
  rotate_left
  · simp only [Act.put, List.setIfInBounds_toArray, List.set_cons_zero, List.set_cons_succ, i64_w, i32_w]
    rfl
  refine pure_ (i := 2) (N := some 155) (v := ?_) (a' := ?_) #[true, true, true, false, false, false, false, false, false, false, false, false, false, false, false, false] rfl rfl (by kernel_rfl) (fun _ _ _ h => h) (Or.inl ⟨by rfl, ?_⟩) ?_ ?_
  rotate_left
  · intro w'
    go_simp
    with_reducible rfl
  rotate_left
  · simp only [Act.put, List.setIfInBounds_toArray, List.set_cons_zero, List.set_cons_succ, i64_w, i32_w]
    rfl
  refine pure_ (i := 4) (N := some 157) (v := ?_) (a' := ?_) #[true, true, true, false, true, false, false, false, false, false, false, false, false, false, false, false] rfl rfl (by kernel_rfl) (fun _ _ _ h => h) (Or.inl ⟨by rfl, ?_⟩) ?_ ?_
  rotate_left
  · intro w'
    go_simp
    with_reducible rfl
  rotate_left
  · simp only [Act.put, List.setIfInBounds_toArray, List.set_cons_zero, List.set_cons_succ, i64_w, i32_w]
    rfl
  refine pure_ (i := 5) (N := some 158) (v := ?_) (a' := ?_) #[true, true, true, false, true, true, false, false, false, false, false, false, false, false, false, false] rfl rfl (by kernel_rfl) (fun _ _ _ h => h) (Or.inl ⟨by rfl, ?_⟩) ?_ ?_
  rotate_left
  · intro w'
    go_simp
    with_reducible rfl
  rotate_left
  · simp only [Act.put, List.setIfInBounds_toArray, List.set_cons_zero, List.set_cons_succ, i64_w, i32_w]
    rfl
  refine pure_ (i := 6) (N := some 159) (v := ?_) (a' := ?_) #[true, true, true, false, true, true, true, false, false, false, false, false, false, false, false, false] rfl rfl (by kernel_rfl) (fun _ _ _ h => h) (Or.inl ⟨by rfl, ?_⟩) ?_ ?_
  rotate_left
  · intro w'
    go_simp
    with_reducible rfl
  rotate_left
  · simp only [Act.put, List.setIfInBounds_toArray, List.set_cons_zero, List.set_cons_succ, i64_w, i32_w]
    rfl
  refine pure_ (i := 10) (N := some 163) (v := ?_) (a' := ?_) #[true, true, true, false, true, true, true, false, false, false, true, false, false, false, false, false] rfl rfl (by kernel_rfl) (fun _ _ _ h => h) (Or.inl ⟨by rfl, ?_⟩) ?_ ?_
  rotate_left
  · intro w'
    go_simp
    with_reducible rfl
  rotate_left
  · simp only [Act.put, List.setIfInBounds_toArray, List.set_cons_zero, List.set_cons_succ, i64_w, i32_w]
    rfl
  refine pure_ (i := 11) (N := some 164) (v := ?_) (a' := ?_) #[true, true, true, false, true, true, true, false, false, false, true, true, false, false, false, false] rfl rfl (by kernel_rfl) (fun _ _ _ h => h) (Or.inl ⟨by rfl, ?_⟩) ?_ ?_
  rotate_left
  · intro w'
    go_simp
    with_reducible rfl
  rotate_left
  · simp only [Act.put, List.setIfInBounds_toArray, List.set_cons_zero, List.set_cons_succ, i64_w, i32_w]
    rfl
  refine pure_ (i := 12) (N := some 165) (v := ?_) (a' := ?_) #[true, true, true, false, true, true, true, false, false, false, true, true, true, false, false, false] rfl rfl (by kernel_rfl) (fun _ _ _ h => h) (Or.inl ⟨by rfl, ?_⟩) ?_ ?_
  rotate_left
  · intro w'
    go_simp
    with_reducible rfl
  rotate_left
  · simp only [Act.put, List.setIfInBounds_toArray, List.set_cons_zero, List.set_cons_succ, i64_w, i32_w]
    rfl
  refine take_ (i := 3) (N := some 156) (v := ?_) (a' := ?_) #[true, true, true, true, true, true, true, false, false, false, true, true, true, false, false, false] rfl rfl (by kernel_rfl) (fun _ _ _ h => h) (Or.inl ⟨by rfl, ?_⟩) hHeld ?_ ?_
  rotate_left
  · rintro w' ⟨s0, s1, s2⟩
    go_simp
    with_reducible rfl
  rotate_left
  · simp only [Act.put, List.setIfInBounds_toArray, List.set_cons_zero, List.set_cons_succ, i64_w, i32_w]
    rfl
  refine take_ (i := 7) (N := some 160) (v := ?_) (a' := ?_) #[true, true, true, true, true, true, true, true, false, false, true, true, true, false, false, false] rfl rfl (by kernel_rfl) (fun _ _ _ h => h) (Or.inl ⟨by rfl, ?_⟩) hHeld ?_ ?_
  rotate_left
  · rintro w' ⟨s0, s1, s2⟩
    go_simp
    with_reducible rfl
  rotate_left
  · simp only [Act.put, List.setIfInBounds_toArray, List.set_cons_zero, List.set_cons_succ, i64_w, i32_w]
    rfl
  refine pure_ (i := 8) (N := some 161) (v := ?_) (a' := ?_) #[true, true, true, true, true, true, true, true, true, false, true, true, true, false, false, false] rfl rfl (by kernel_rfl) (fun _ _ _ h => h) (Or.inl ⟨by rfl, ?_⟩) ?_ ?_
  rotate_left
  · intro w'
    go_simp
    with_reducible rfl
  rotate_left
  · simp only [Act.put, List.setIfInBounds_toArray, List.set_cons_zero, List.set_cons_succ, i64_w, i32_w]
    rfl
  refine take_ (i := 9) (N := some 162) (v := ?_) (a' := ?_) #[true, true, true, true, true, true, true, true, true, true, true, true, true, false, false, false] rfl rfl (by kernel_rfl) (fun _ _ _ h => h) (Or.inl ⟨by rfl, ?_⟩) hHeld ?_ ?_
  rotate_left
  · rintro w' ⟨s0, s1, s2⟩
    go_simp
    with_reducible rfl
  rotate_left
  · simp only [Act.put, List.setIfInBounds_toArray, List.set_cons_zero, List.set_cons_succ, i64_w, i32_w]
    rfl
  refine pure_ (i := 13) (N := some 166) (v := ?_) (a' := ?_) #[true, true, true, true, true, true, true, true, true, true, true, true, true, true, false, false] rfl rfl (by kernel_rfl) (fun _ _ _ h => h) (Or.inl ⟨by rfl, ?_⟩) ?_ ?_
  rotate_left
  · intro w'
    go_simp
    with_reducible rfl
  rotate_left
  · simp only [Act.put, List.setIfInBounds_toArray, List.set_cons_zero, List.set_cons_succ, i64_w, i32_w]
    rfl
  refine pure_ (i := 14) (N := some 167) (v := ?_) (a' := ?_) #[true, true, true, true, true, true, true, true, true, true, true, true, true, true, true, false] rfl rfl (by kernel_rfl) (fun _ _ _ h => h) (Or.inl ⟨by rfl, ?_⟩) ?_ ?_
  rotate_left
  · intro w'
    go_simp
    with_reducible rfl
  rotate_left
  · simp only [Act.put, List.setIfInBounds_toArray, List.set_cons_zero, List.set_cons_succ, i64_w, i32_w]
    rfl
  refine last_ (i := 15) (N := none) #[true, true, true, true, true, true, true, true, true, true, true, true, true, true, true, true] rfl rfl (by kernel_rfl) (by decide) (fun K hK => ?_)
  refine skip_ (w1 := ?_) (by rfl) rfl ?_ ?_
  rotate_left
  · go_simp
    rfl
  refine hK.out _ _ ?_
  clear hK K
  refine done_ (by kernel_rfl) ?_
  --END
  go_wp2_with fail
  go_end0
  exact ⟨rfl, h1.out.drew.drew.drew.drew⟩

set_option maxRecDepth 200000 in
set_option maxHeartbeats 8000000 in
/-- A semicolon: the next parameter. -/
theorem act8s_calls (h : Inv w0 w L r evs) (n : Nat) (hn : n < 31) (hd : r.plen = n) (s : Int) :
    Calls Tryd.prog 97 #[.pointer (some ⟨L.P, 0, none⟩), .int .u8 8, .int .u8 s, .int .u8 59] w fun e w' => e = .returned (.tuple #[]) ∧ Inv w0 w' L { r with plen := n + 1, pc := r.pc.set (n + 1) Miss } evs := by
  have c12 : w.cell? ⟨L.P, 12, none⟩ = some (.int .i64 (n : Int)) := by rw [← hd]; exact h.raw.c12
  (have := Raw.c9 h.raw; have := Raw.c10 h.raw; have := Raw.c11 h.raw; have := Raw.c12 h.raw; have := Raw.c13 h.raw; have := Raw.frozen h.raw 11; have := Raw.frozen h.raw 12; have := Raw.frozen h.raw 13; have := Raw.frozen h.raw 14; have := Raw.P_ne_pp h.raw; have := Raw.P_ne_pd h.raw; have := Raw.pp_ne_pd h.raw; have := Ne.symm (Raw.P_ne_pp h.raw); have := Ne.symm (Raw.P_ne_pd h.raw); have := Ne.symm (Raw.pp_ne_pd h.raw))
  have d1 := h.raw.pcell (n + 1) (by omega)
  have d2 := h.raw.pfrozen (n + 1)
  have e1 : decide (32 ≤ (n : Int)) = false := decide_eq_false (by omega)
  have e4 : decide ((n : Int) + 1 < 32) = true := decide_eq_true (by omega)
  have e5 : (0 : Int) ≤ (n : Int) + 1 := by omega
  have e6 : (n : Int) + 1 < 32 := by omega
  have e7 : ((n : Int) + 1).toNat = n + 1 := by omega
  have e8 : IntKind.i64.wrap ((n : Int) + 1) = (n : Int) + 1 := by rw [IntKind.wrap_i64]; omega
  have h1 := Lib.hid ((h.setPlen (n + 1)).setPP (n + 1) Miss)
  have q9 := (h.setPlen (n + 1)).raw.c9
  have q12 := (h.setPlen (n + 1)).raw.c12
  clear hd
  go_enter Tryd.func97, Tryd.ntmps97
  go_wp2_with fail
  go_region_held3 (fun w' => w'.cell? ⟨L.P, 9, none⟩ = some (.slice (some ⟨L.pp, 0, none⟩) 32 32) ∧ w'.cell? ⟨L.P, 12, none⟩ = some (.int .i64 (n : Int))) (go_keep) (fail)
  go_wp2_with fail
  go_region_held3 (fun w' => w'.cell? ⟨L.P, 9, none⟩ = some (.slice (some ⟨L.pp, 0, none⟩) 32 32) ∧ w'.cell? ⟨L.P, 12, none⟩ = some (.int .i64 ((n : Int) + 1))) (go_keep) (fail)
  go_wp2_with fail
  go_region_held3 (fun w' => w'.cell? ⟨L.P, 9, none⟩ = some (.slice (some ⟨L.pp, 0, none⟩) 32 32) ∧ w'.cell? ⟨L.P, 12, none⟩ = some (.int .i64 ((n : Int) + 1))) (go_keep) (fail)
  go_wp2_with fail
  go_end0
  exact ⟨rfl, h1.out.drew.drew.drew⟩
end
end Go.Proofs.YtgcbnegdchladaaDoor.X
