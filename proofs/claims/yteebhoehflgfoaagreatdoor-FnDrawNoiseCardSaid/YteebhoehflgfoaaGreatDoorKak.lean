/- Texts of this claim, joined: XDisA. Of each, what the claim uses. -/
import Derived.Test.YteebhoehflgfoaaGreatDoorKaj
section
namespace Go.Proofs.YteebhoehflgfoaaGreatDoor.X
open Go.RowKit Go.Proofs.YteebhoehflgfoaaGreatDoorW.PrintWords Go.Proofs.YteebhoehflgfoaaGreatDoorW.PrintLast Go.Proofs.YteebhoehflgfoaaGreatDoorW.PrintMore
section
variable {w0 w : World} {L : Loc} {r : RawSt} {evs : List Ev}
set_option maxRecDepth 200000 in
set_option maxHeartbeats 8000000 in
theorem csi1_none_calls (h : Inv w0 w L r evs) (hev : evs.length < 1000000000000) (hst : r.st = 1) (hd : r.plen = 0) (hx : r.pc.getD 0 0 = Miss) (hc0 : 0 ≤ r.cmd) (hc1 : r.cmd < 2 ^ 40) (hc2 : r.cmd % 256 = 0) (hdl0 : 0 ≤ r.dlen) (hdl1 : r.dlen ≤ 4096) (s b : Int) (hb0 : 0 ≤ b) (hb1 : b ≤ 255) :
  Calls Tryz.prog 153 #[.pointer (some ⟨L.P, 0, none⟩), .int .u8 4, .int .u8 s, .int .u8 b] w fun e w' => e = .returned (.tuple #[]) ∧ Inv w0 w' L { r with plen := 0, cmd := r.cmd + b } (evs ++ [⟨2, 0, 0, r.cmd + b, r.pc.take (0), []⟩]) := by
 (have := Raw.c9 h.raw; have := Raw.c10 h.raw; have := Raw.c11 h.raw; have := Raw.c13 h.raw; have := Raw.frozen h.raw 11; have := Raw.frozen h.raw 12; have := Raw.frozen h.raw 13; have := Raw.frozen h.raw 14; have := Raw.P_ne_pp h.raw; have := Raw.P_ne_pd h.raw; have := Raw.pp_ne_pd h.raw; have := Ne.symm (Raw.P_ne_pp h.raw); have := Ne.symm (Raw.P_ne_pd h.raw); have := Ne.symm (Raw.pp_ne_pd h.raw))
 have c11 := h.raw.c11
 have c14 : w.cell? ⟨L.P, 14, none⟩ = some (.int .u8 1) := by rw [← hst]; exact h.raw.c14
 have c12 : w.cell? ⟨L.P, 12, none⟩ = some (.int .i64 0) := by rw [← hd]; exact h.raw.c12
 have p0 : w.cell? ⟨L.pp, 0, none⟩ = some (.int .i64 2147483647) := by rw [h.raw.pcell 0 (by omega), hx]; rfl
 clear hx
 have chf := h.raw.c2
 have hf : ∀ w, Sem.run Tryz.prog (binOp BinOp.neq 128 (.func (.func 127) #[] #[.pointer (some ⟨L.box, 0, none⟩)]) .nilFunc) w = .ok (.bool true) w := fun _ => by rfl
 have e10 := or_low r.cmd b hc0 hc1 hc2 hb0 (by omega)
 have d1 : decide (0 ≤ r.dlen) = true := decide_eq_true hdl0
 have d2 : decide (r.dlen ≤ 4096) = true := decide_eq_true hdl1
 have pf := h.raw.pfrozen 0
 have HD := Lib.hid hd
 have HE := Lib.hid hev
 clear hev hst hc0 hc1 hc2 hd
 go_enter Tryz.func153, Tryz.ntmps153
 go_wp2_with fail
 go_quiet (fail)
 have hN : Inv w0 (w.drewN nq) L { r with plen := 0 } evs := by rw [← HD.out]; exact h.grow (pw_below_drewN (Below.refl _ _) nq)
 have h1 := Lib.hid (hN.setCmd (r.cmd + b))
 have q2 := h1.out.raw.c2
 have q13 := h1.out.raw.c13
 clear hN
 go_wp2_with fail
 go_region_held3 (fun w' => w'.cell? ⟨L.P, 2, none⟩ = some (.func (.func 127) #[] #[.pointer (some ⟨L.box, 0, none⟩)]) ∧ w'.cell? ⟨L.P, 13, none⟩ = some (.int .i64 (r.cmd + b)))
  (go_keep)
  (first
   | (
    go_at_call 178
    refine (params_calls2 h1.out.drew (0) (by omega) (by simp)).mono ?_
    rintro e wp ⟨Ap, cp, ps, rfl, hps, hpc, hC, hpl, hBp⟩
    have HPS := Lib.hid hps
    have HI := Lib.hid (h1.out.drew.grow hBp)
    have HC := Lib.hid hC
    have HPC := Lib.hid hpc
    have HPL := Lib.hid hpl
    have qp := HI.out.raw.c13
    have qf := HI.out.raw.c2
    clear hps hBp hC hpc hpl)
   | (
    go_at_call 127
    refine (l3_calls L _ evs w0 _ (r.cmd + b) ps Ap cp HI.out HE.out (Kd.C_drew HC.out) HPC.out HPL.out).mono ?_
    rintro e wh ⟨rfl, hF, hE⟩
    have HT := Lib.hid ((HI.out).told hF hE)
    have th := HT.out.raw.c13
    have tf := HT.out.raw.c2
    clear hF hE))
 go_wp2_with fail
 go_end0
 exact ⟨rfl, by rw [← HPS.out]; exact HT.out⟩
set_option maxRecDepth 200000 in
set_option maxHeartbeats 8000000 in
theorem csi2_pos_calls (h : Inv w0 w L r evs) (hev : evs.length < 1000000000000) (hst : r.st = 2) (n : Nat) (hn0 : 0 < n) (hn : n < 31) (hd : r.plen = n) (hc0 : 0 ≤ r.cmd) (hc1 : r.cmd < 2 ^ 40) (hc2 : r.cmd % 256 = 0) (hdl0 : 0 ≤ r.dlen) (hdl1 : r.dlen ≤ 4096) (s b : Int) (hb0 : 0 ≤ b) (hb1 : b ≤ 255) :
  Calls Tryz.prog 153 #[.pointer (some ⟨L.P, 0, none⟩), .int .u8 4, .int .u8 s, .int .u8 b] w fun e w' => e = .returned (.tuple #[]) ∧ Inv w0 w' L { r with plen := (n : Int) + 1, cmd := r.cmd + b } (evs ++ [⟨2, 0, 0, r.cmd + b, r.pc.take (n + 1), []⟩]) := by
 (have := Raw.c9 h.raw; have := Raw.c10 h.raw; have := Raw.c11 h.raw; have := Raw.c13 h.raw; have := Raw.frozen h.raw 11; have := Raw.frozen h.raw 12; have := Raw.frozen h.raw 13; have := Raw.frozen h.raw 14; have := Raw.P_ne_pp h.raw; have := Raw.P_ne_pd h.raw; have := Raw.pp_ne_pd h.raw; have := Ne.symm (Raw.P_ne_pp h.raw); have := Ne.symm (Raw.P_ne_pd h.raw); have := Ne.symm (Raw.pp_ne_pd h.raw))
 have c11 := h.raw.c11
 have c14 : w.cell? ⟨L.P, 14, none⟩ = some (.int .u8 2) := by rw [← hst]; exact h.raw.c14
 have c12 : w.cell? ⟨L.P, 12, none⟩ = some (.int .i64 (n : Int)) := by rw [← hd]; exact h.raw.c12
 have e1 : (0 : Int) < (n : Int) := by omega
 have e2 : (n : Int) < (31 : Int) := by omega
 have e3 : IntKind.i64.wrap ((n : Int) + 1) = (n : Int) + 1 := by rw [IntKind.wrap_i64]; omega
 have chf := h.raw.c2
 have hf : ∀ w, Sem.run Tryz.prog (binOp BinOp.neq 128 (.func (.func 127) #[] #[.pointer (some ⟨L.box, 0, none⟩)]) .nilFunc) w = .ok (.bool true) w := fun _ => by rfl
 have e10 := or_low r.cmd b hc0 hc1 hc2 hb0 (by omega)
 have d1 : decide (0 ≤ r.dlen) = true := decide_eq_true hdl0
 have d2 : decide (r.dlen ≤ 4096) = true := decide_eq_true hdl1
 have pf := h.raw.pfrozen 0
 have HD := Lib.hid hd
 have HE := Lib.hid hev
 clear hev hst hc0 hc1 hc2 hd
 go_enter Tryz.func153, Tryz.ntmps153
 go_wp2_with fail
 go_quiet (fail)
 have hN := (h.grow (pw_below_drewN (Below.refl _ _) nq)).setPlen ((n : Int) + 1)
 have h1 := Lib.hid (hN.setCmd (r.cmd + b))
 have q2 := h1.out.raw.c2
 have q13 := h1.out.raw.c13
 clear hN
 go_wp2_with fail
 go_region_held3 (fun w' => w'.cell? ⟨L.P, 2, none⟩ = some (.func (.func 127) #[] #[.pointer (some ⟨L.box, 0, none⟩)]) ∧ w'.cell? ⟨L.P, 13, none⟩ = some (.int .i64 (r.cmd + b)))
  (go_keep)
  (first
   | (
    go_at_call 178
    refine (params_calls2 h1.out.drew (n + 1) (by omega) (by simp)).mono ?_
    rintro e wp ⟨Ap, cp, ps, rfl, hps, hpc, hC, hpl, hBp⟩
    have HPS := Lib.hid hps
    have HI := Lib.hid (h1.out.drew.grow hBp)
    have HC := Lib.hid hC
    have HPC := Lib.hid hpc
    have HPL := Lib.hid hpl
    have qp := HI.out.raw.c13
    have qf := HI.out.raw.c2
    clear hps hBp hC hpc hpl)
   | (
    go_at_call 127
    refine (l3_calls L _ evs w0 _ (r.cmd + b) ps Ap cp HI.out HE.out (Kd.C_drew HC.out) HPC.out HPL.out).mono ?_
    rintro e wh ⟨rfl, hF, hE⟩
    have HT := Lib.hid ((HI.out).told hF hE)
    have th := HT.out.raw.c13
    have tf := HT.out.raw.c2
    clear hF hE))
 go_wp2_with fail
 go_end0
 exact ⟨rfl, by rw [← HPS.out]; exact HT.out⟩
set_option maxRecDepth 200000 in
set_option maxHeartbeats 8000000 in
theorem csi2_one_calls (h : Inv w0 w L r evs) (hev : evs.length < 1000000000000) (hst : r.st = 2) (hd : r.plen = 0) (x : Int) (hx : r.pc.getD 0 0 = x) (hx1 : x ≠ Miss) (hc0 : 0 ≤ r.cmd) (hc1 : r.cmd < 2 ^ 40) (hc2 : r.cmd % 256 = 0) (hdl0 : 0 ≤ r.dlen) (hdl1 : r.dlen ≤ 4096) (s b : Int) (hb0 : 0 ≤ b) (hb1 : b ≤ 255) :
  Calls Tryz.prog 153 #[.pointer (some ⟨L.P, 0, none⟩), .int .u8 4, .int .u8 s, .int .u8 b] w fun e w' => e = .returned (.tuple #[]) ∧ Inv w0 w' L { r with plen := 1, cmd := r.cmd + b } (evs ++ [⟨2, 0, 0, r.cmd + b, r.pc.take (1), []⟩]) := by
 (have := Raw.c9 h.raw; have := Raw.c10 h.raw; have := Raw.c11 h.raw; have := Raw.c13 h.raw; have := Raw.frozen h.raw 11; have := Raw.frozen h.raw 12; have := Raw.frozen h.raw 13; have := Raw.frozen h.raw 14; have := Raw.P_ne_pp h.raw; have := Raw.P_ne_pd h.raw; have := Raw.pp_ne_pd h.raw; have := Ne.symm (Raw.P_ne_pp h.raw); have := Ne.symm (Raw.P_ne_pd h.raw); have := Ne.symm (Raw.pp_ne_pd h.raw))
 have c11 := h.raw.c11
 have c14 : w.cell? ⟨L.P, 14, none⟩ = some (.int .u8 2) := by rw [← hst]; exact h.raw.c14
 have c12 : w.cell? ⟨L.P, 12, none⟩ = some (.int .i64 0) := by rw [← hd]; exact h.raw.c12
 have p0 : w.cell? ⟨L.pp, 0, none⟩ = some (.int .i64 x) := by rw [h.raw.pcell 0 (by omega), hx]
 have e1 : x ≠ 2147483647 := hx1
 clear hx hx1
 have chf := h.raw.c2
 have hf : ∀ w, Sem.run Tryz.prog (binOp BinOp.neq 128 (.func (.func 127) #[] #[.pointer (some ⟨L.box, 0, none⟩)]) .nilFunc) w = .ok (.bool true) w := fun _ => by rfl
 have e10 := or_low r.cmd b hc0 hc1 hc2 hb0 (by omega)
 have d1 : decide (0 ≤ r.dlen) = true := decide_eq_true hdl0
 have d2 : decide (r.dlen ≤ 4096) = true := decide_eq_true hdl1
 have pf := h.raw.pfrozen 0
 have HD := Lib.hid hd
 have HE := Lib.hid hev
 clear hev hst hc0 hc1 hc2 hd
 go_enter Tryz.func153, Tryz.ntmps153
 go_wp2_with fail
 go_quiet (fail)
 have hN := (h.grow (pw_below_drewN (Below.refl _ _) nq)).setPlen (1)
 have h1 := Lib.hid (hN.setCmd (r.cmd + b))
 have q2 := h1.out.raw.c2
 have q13 := h1.out.raw.c13
 clear hN
 go_wp2_with fail
 go_region_held3 (fun w' => w'.cell? ⟨L.P, 2, none⟩ = some (.func (.func 127) #[] #[.pointer (some ⟨L.box, 0, none⟩)]) ∧ w'.cell? ⟨L.P, 13, none⟩ = some (.int .i64 (r.cmd + b)))
  (go_keep)
  (first
   | (
    go_at_call 178
    refine (params_calls2 h1.out.drew (1) (by omega) (by simp)).mono ?_
    rintro e wp ⟨Ap, cp, ps, rfl, hps, hpc, hC, hpl, hBp⟩
    have HPS := Lib.hid hps
    have HI := Lib.hid (h1.out.drew.grow hBp)
    have HC := Lib.hid hC
    have HPC := Lib.hid hpc
    have HPL := Lib.hid hpl
    have qp := HI.out.raw.c13
    have qf := HI.out.raw.c2
    clear hps hBp hC hpc hpl)
   | (
    go_at_call 127
    refine (l3_calls L _ evs w0 _ (r.cmd + b) ps Ap cp HI.out HE.out (Kd.C_drew HC.out) HPC.out HPL.out).mono ?_
    rintro e wh ⟨rfl, hF, hE⟩
    have HT := Lib.hid ((HI.out).told hF hE)
    have th := HT.out.raw.c13
    have tf := HT.out.raw.c2
    clear hF hE))
 go_wp2_with fail
 go_end0
 exact ⟨rfl, by rw [← HPS.out]; exact HT.out⟩
set_option maxRecDepth 200000 in
set_option maxHeartbeats 8000000 in
theorem csi2_none_calls (h : Inv w0 w L r evs) (hev : evs.length < 1000000000000) (hst : r.st = 2) (hd : r.plen = 0) (hx : r.pc.getD 0 0 = Miss) (hc0 : 0 ≤ r.cmd) (hc1 : r.cmd < 2 ^ 40) (hc2 : r.cmd % 256 = 0) (hdl0 : 0 ≤ r.dlen) (hdl1 : r.dlen ≤ 4096) (s b : Int) (hb0 : 0 ≤ b) (hb1 : b ≤ 255) :
  Calls Tryz.prog 153 #[.pointer (some ⟨L.P, 0, none⟩), .int .u8 4, .int .u8 s, .int .u8 b] w fun e w' => e = .returned (.tuple #[]) ∧ Inv w0 w' L { r with plen := 0, cmd := r.cmd + b } (evs ++ [⟨2, 0, 0, r.cmd + b, r.pc.take (0), []⟩]) := by
 (have := Raw.c9 h.raw; have := Raw.c10 h.raw; have := Raw.c11 h.raw; have := Raw.c13 h.raw; have := Raw.frozen h.raw 11; have := Raw.frozen h.raw 12; have := Raw.frozen h.raw 13; have := Raw.frozen h.raw 14; have := Raw.P_ne_pp h.raw; have := Raw.P_ne_pd h.raw; have := Raw.pp_ne_pd h.raw; have := Ne.symm (Raw.P_ne_pp h.raw); have := Ne.symm (Raw.P_ne_pd h.raw); have := Ne.symm (Raw.pp_ne_pd h.raw))
 have c11 := h.raw.c11
 have c14 : w.cell? ⟨L.P, 14, none⟩ = some (.int .u8 2) := by rw [← hst]; exact h.raw.c14
 have c12 : w.cell? ⟨L.P, 12, none⟩ = some (.int .i64 0) := by rw [← hd]; exact h.raw.c12
 have p0 : w.cell? ⟨L.pp, 0, none⟩ = some (.int .i64 2147483647) := by rw [h.raw.pcell 0 (by omega), hx]; rfl
 clear hx
 have chf := h.raw.c2
 have hf : ∀ w, Sem.run Tryz.prog (binOp BinOp.neq 128 (.func (.func 127) #[] #[.pointer (some ⟨L.box, 0, none⟩)]) .nilFunc) w = .ok (.bool true) w := fun _ => by rfl
 have e10 := or_low r.cmd b hc0 hc1 hc2 hb0 (by omega)
 have d1 : decide (0 ≤ r.dlen) = true := decide_eq_true hdl0
 have d2 : decide (r.dlen ≤ 4096) = true := decide_eq_true hdl1
 have pf := h.raw.pfrozen 0
 have HD := Lib.hid hd
 have HE := Lib.hid hev
 clear hev hst hc0 hc1 hc2 hd
 go_enter Tryz.func153, Tryz.ntmps153
 go_wp2_with fail
 go_quiet (fail)
 have hN : Inv w0 (w.drewN nq) L { r with plen := 0 } evs := by rw [← HD.out]; exact h.grow (pw_below_drewN (Below.refl _ _) nq)
 have h1 := Lib.hid (hN.setCmd (r.cmd + b))
 have q2 := h1.out.raw.c2
 have q13 := h1.out.raw.c13
 clear hN
 go_wp2_with fail
 go_region_held3 (fun w' => w'.cell? ⟨L.P, 2, none⟩ = some (.func (.func 127) #[] #[.pointer (some ⟨L.box, 0, none⟩)]) ∧ w'.cell? ⟨L.P, 13, none⟩ = some (.int .i64 (r.cmd + b)))
  (go_keep)
  (first
   | (
    go_at_call 178
    refine (params_calls2 h1.out.drew (0) (by omega) (by simp)).mono ?_
    rintro e wp ⟨Ap, cp, ps, rfl, hps, hpc, hC, hpl, hBp⟩
    have HPS := Lib.hid hps
    have HI := Lib.hid (h1.out.drew.grow hBp)
    have HC := Lib.hid hC
    have HPC := Lib.hid hpc
    have HPL := Lib.hid hpl
    have qp := HI.out.raw.c13
    have qf := HI.out.raw.c2
    clear hps hBp hC hpc hpl)
   | (
    go_at_call 127
    refine (l3_calls L _ evs w0 _ (r.cmd + b) ps Ap cp HI.out HE.out (Kd.C_drew HC.out) HPC.out HPL.out).mono ?_
    rintro e wh ⟨rfl, hF, hE⟩
    have HT := Lib.hid ((HI.out).told hF hE)
    have th := HT.out.raw.c13
    have tf := HT.out.raw.c2
    clear hF hE))
 go_wp2_with fail
 go_end0
 exact ⟨rfl, by rw [← HPS.out]; exact HT.out⟩
end
end Go.Proofs.YteebhoehflgfoaaGreatDoor.X
end
