/- Texts of this claim, joined: XDisE. Of each, what the claim uses. -/
import Derived.Test.YteebhoehflgfoaaGreatDoorKaj
section
namespace Go.Proofs.YteebhoehflgfoaaGreatDoor.X
open Go.RowKit Go.Proofs.YteebhoehflgfoaaGreatDoorW.PrintWords Go.Proofs.YteebhoehflgfoaaGreatDoorW.PrintLast Go.Proofs.YteebhoehflgfoaaGreatDoorW.PrintMore
section
variable {w0 w : World} {L : Loc} {r : RawSt} {evs : List Ev}
set_option maxRecDepth 200000 in
set_option maxHeartbeats 8000000 in
theorem apc_calls (h : Inv w0 w L r evs) (hev : evs.length < 1000000000000) (hst : r.st = 13) (hd : r.plen = 0) (hx : r.pc.getD 0 0 = Miss) (ds : List Int) (hds : ds = r.dc.take ds.length) (hdl : r.dlen = ds.length) (s b : Int) :
  Calls Tryz.prog 153 #[.pointer (some ⟨L.P, 0, none⟩), .int .u8 4, .int .u8 s, .int .u8 b] w fun e w' => e = .returned (.tuple #[]) ∧ Inv w0 w' L { r with plen := 0 } (evs ++ [⟨7, 0, 0, 0, [], ds⟩]) := by
 have := Raw.c9 h.raw; have := Raw.c10 h.raw; have := Raw.c13 h.raw; have := Raw.P_ne_pp h.raw; have := Raw.P_ne_pd h.raw; have := Raw.pp_ne_pd h.raw
 have := h.raw.frozen 12; have := h.raw.frozen 13
 have c14 : w.cell? ⟨L.P, 14, none⟩ = some (.int .u8 13) := by rw [← hst]; exact h.raw.c14
 have c12 : w.cell? ⟨L.P, 12, none⟩ = some (.int .i64 0) := by rw [← hd]; exact h.raw.c12
 have p0 : w.cell? ⟨L.pp, 0, none⟩ = some (.int .i64 2147483647) := by rw [h.raw.pcell 0 (by omega), hx]; rfl
 clear hx
 have chf := h.raw.c7
 have hf : ∀ w, Sem.run Tryz.prog (binOp BinOp.neq 132 (.func (.func 133) #[] #[.pointer (some ⟨L.box, 0, none⟩)]) .nilFunc) w = .ok (.bool true) w := fun _ => by rfl
 have c11 : w.cell? ⟨L.P, 11, none⟩ = some (.int .i64 (ds.length : Int)) := by rw [← hdl]; exact h.raw.c11
 have hdl4 : ds.length ≤ 4096 := by
  have := congrArg List.length hds
  rw [List.length_take, h.raw.ldc] at this
  omega
 have d1 : (0 : Int) ≤ (ds.length : Int) := by omega
 have d2 : (ds.length : Int) ≤ 4096 := by omega
 have HDS := Lib.hid hds
 have HDL := Lib.hid hdl
 have pf := h.raw.pfrozen 0
 have HD := Lib.hid hd
 have HE := Lib.hid hev
 clear hev hst hd hds hdl
 go_enter Tryz.func153, Tryz.ntmps153
 go_wp2_with fail
 go_quiet (fail)
 have hN : Inv w0 (w.drewN nq) L { r with plen := 0 } evs := by rw [← HD.out]; exact h.grow (pw_below_drewN (Below.refl _ _) nq)
 have h1 := Lib.hid hN
 clear hN
 go_wp2_with (
  go_at_call 133
  refine (l8_calls L _ evs w0 _ ds (some ⟨L.pd, 0, none⟩) 4096 h1.out HE.out (fun W hW => data_C (h1.out.grow hW).raw ds HDS.out) (by omega) (by omega)).mono ?_
  rintro e wh ⟨rfl, hF, hE⟩
  have HT := Lib.hid (h1.out.told hF hE)
  clear hF hE)
 go_end0
 exact ⟨rfl, HT.out⟩
set_option maxRecDepth 200000 in
set_option maxHeartbeats 8000000 in
theorem esc_calls (h : Inv w0 w L r evs) (hev : evs.length < 1000000000000) (hst : r.st = 8) (hd : r.plen = 0) (hx : r.pc.getD 0 0 = Miss) (hc : r.cmd = 0) (hdl0 : 0 ≤ r.dlen) (hdl1 : r.dlen ≤ 4096) (s b : Int) (hb0 : 0 ≤ b) (hb1 : b ≤ 255) :
  Calls Tryz.prog 153 #[.pointer (some ⟨L.P, 0, none⟩), .int .u8 4, .int .u8 s, .int .u8 b] w fun e w' => e = .returned (.tuple #[]) ∧ Inv w0 w' L { r with plen := 0, cmd := b } (evs ++ [⟨3, 0, 0, b, [], []⟩]) := by
 (have := Raw.c9 h.raw; have := Raw.c10 h.raw; have := Raw.c11 h.raw; have := Raw.c13 h.raw; have := Raw.frozen h.raw 11; have := Raw.frozen h.raw 12; have := Raw.frozen h.raw 13; have := Raw.frozen h.raw 14; have := Raw.P_ne_pp h.raw; have := Raw.P_ne_pd h.raw; have := Raw.pp_ne_pd h.raw; have := Ne.symm (Raw.P_ne_pp h.raw); have := Ne.symm (Raw.P_ne_pd h.raw); have := Ne.symm (Raw.pp_ne_pd h.raw))
 have c11 := h.raw.c11
 have c14 : w.cell? ⟨L.P, 14, none⟩ = some (.int .u8 8) := by rw [← hst]; exact h.raw.c14
 have c12 : w.cell? ⟨L.P, 12, none⟩ = some (.int .i64 0) := by rw [← hd]; exact h.raw.c12
 have p0 : w.cell? ⟨L.pp, 0, none⟩ = some (.int .i64 2147483647) := by rw [h.raw.pcell 0 (by omega), hx]; rfl
 clear hx
 have chf := h.raw.c3
 have hf : ∀ w, Sem.run Tryz.prog (binOp BinOp.neq 129 (.func (.func 129) #[] #[.pointer (some ⟨L.box, 0, none⟩)]) .nilFunc) w = .ok (.bool true) w := fun _ => by rfl
 have e10 : bits .or .i64 r.cmd b = b := by rw [hc, or_low 0 b (by omega) (by omega) (by omega) hb0 (by omega)]; omega
 have d1 : decide (0 ≤ r.dlen) = true := decide_eq_true hdl0
 have d2 : decide (r.dlen ≤ 4096) = true := decide_eq_true hdl1
 have pf := h.raw.pfrozen 0
 have HD := Lib.hid hd
 have HE := Lib.hid hev
 clear hev hst hc hd
 go_enter Tryz.func153, Tryz.ntmps153
 go_wp2_with fail
 go_quiet (fail)
 have hN : Inv w0 (w.drewN nq) L { r with plen := 0 } evs := by rw [← HD.out]; exact h.grow (pw_below_drewN (Below.refl _ _) nq)
 have h1 := Lib.hid (hN.setCmd b)
 have q2 := h1.out.raw.c3
 have q13 := h1.out.raw.c13
 clear hN
 go_wp2_with fail
 go_region_held3 (fun w' => w'.cell? ⟨L.P, 3, none⟩ = some (.func (.func 129) #[] #[.pointer (some ⟨L.box, 0, none⟩)]) ∧ w'.cell? ⟨L.P, 13, none⟩ = some (.int .i64 b))
  (go_keep)
  (first
   | (
    go_at_call 129
    refine (l4_calls L _ evs w0 _ b h1.out.drew HE.out).mono ?_
    rintro e wh ⟨rfl, hF, hE⟩
    have HT := Lib.hid ((h1.out.drew).told hF hE)
    have th := HT.out.raw.c13
    have tf := HT.out.raw.c3
    clear hF hE))
 go_wp2_with fail
 go_end0
 exact ⟨rfl, HT.out⟩
end
end Go.Proofs.YteebhoehflgfoaaGreatDoor.X
end
