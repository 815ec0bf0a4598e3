/- Texts of this claim, joined: XDisD. Of each, what the claim uses. -/
import Derived.Test.YteebhoehflgfoaaGreatDoorKaj
section
namespace Go.Proofs.YteebhoehflgfoaaGreatDoor.X
open Go.RowKit Go.Proofs.YteebhoehflgfoaaGreatDoorW.PrintWords Go.Proofs.YteebhoehflgfoaaGreatDoorW.PrintLast Go.Proofs.YteebhoehflgfoaaGreatDoorW.PrintMore
set_option linter.unusedSimpArgs false
set_option linter.unusedVariables false
section
variable {w0 w : World} {L : Loc} {r : RawSt} {evs : List Ev}
set_option maxRecDepth 200000 in
set_option maxHeartbeats 8000000 in
theorem osc_calls (h : Inv w0 w L r evs) (hev : evs.length < 1000000000000) (hst : r.st = 10) (hd : r.plen = 0) (hx : r.pc.getD 0 0 = Miss) (ds : List Int) (hds : ds = r.dc.take ds.length) (hdl : r.dlen = ds.length) (hc : r.cmd ≠ Miss) (s b : Int) :
  Calls Tryz.prog 153 #[.pointer (some ⟨L.P, 0, none⟩), .int .u8 4, .int .u8 s, .int .u8 b] w fun e w' => e = .returned (.tuple #[]) ∧ Inv w0 w' L { r with plen := 0, cmd := r.cmd } (evs ++ [⟨5, 0, 0, r.cmd, [], ds⟩]) := by
 have := Raw.c9 h.raw; have := Raw.c10 h.raw; have := Raw.c13 h.raw; have := Raw.P_ne_pp h.raw; have := Raw.P_ne_pd h.raw; have := Raw.pp_ne_pd h.raw
 have := h.raw.frozen 12; have := h.raw.frozen 13
 have c14 : w.cell? ⟨L.P, 14, none⟩ = some (.int .u8 10) := by rw [← hst]; exact h.raw.c14
 have c12 : w.cell? ⟨L.P, 12, none⟩ = some (.int .i64 0) := by rw [← hd]; exact h.raw.c12
 have p0 : w.cell? ⟨L.pp, 0, none⟩ = some (.int .i64 2147483647) := by rw [h.raw.pcell 0 (by omega), hx]; rfl
 clear hx
 have chf := h.raw.c5
 have hf : ∀ w, Sem.run Tryz.prog (binOp BinOp.neq 131 (.func (.func 131) #[] #[.pointer (some ⟨L.box, 0, none⟩)]) .nilFunc) w = .ok (.bool true) w := fun _ => by rfl
 have c11 : w.cell? ⟨L.P, 11, none⟩ = some (.int .i64 (ds.length : Int)) := by rw [← hdl]; exact h.raw.c11
 have hdl4 : ds.length ≤ 4096 := by
  have := congrArg List.length hds
  rw [List.length_take, h.raw.ldc] at this
  omega
 have d1 : (0 : Int) ≤ (ds.length : Int) := by omega
 have d2 : (ds.length : Int) ≤ 4096 := by omega
 have HDS := Lib.hid hds
 have HDL := Lib.hid hdl
 have e10 : r.cmd ≠ 2147483647 := hc
 have pf := h.raw.pfrozen 0
 have HD := Lib.hid hd
 have HE := Lib.hid hev
 clear hev hst hd hds hdl hc
 go_enter Tryz.func153, Tryz.ntmps153
 go_wp2_with fail
 go_quiet (fail)
 have hN : Inv w0 (w.drewN nq) L { r with plen := 0 } evs := by rw [← HD.out]; exact h.grow (pw_below_drewN (Below.refl _ _) nq)
 have h1 := Lib.hid hN
 have q2 := h1.out.raw.c5
 have q13 := h1.out.raw.c13
 clear hN
 go_wp2_with fail
 go_region_held3 (fun w' => w'.cell? ⟨L.P, 5, none⟩ = some (.func (.func 131) #[] #[.pointer (some ⟨L.box, 0, none⟩)]) ∧ w'.cell? ⟨L.P, 13, none⟩ = some (.int .i64 (r.cmd)))
  (go_keep)
  (first
   | (
    go_at_call 131
    refine (l6_calls L _ evs w0 _ (r.cmd) ds (some ⟨L.pd, 0, none⟩) 4096 h1.out.drew HE.out (fun W hW => data_C (h1.out.drew.grow hW).raw ds HDS.out) (by omega) (by omega)).mono ?_
    rintro e wh ⟨rfl, hF, hE⟩
    have HT := Lib.hid ((h1.out.drew).told hF hE)
    have th := HT.out.raw.c13
    have tf := HT.out.raw.c5
    clear hF hE))
 go_wp2_with fail
 go_end0
 exact ⟨rfl, HT.out⟩
set_option maxRecDepth 200000 in
set_option maxHeartbeats 8000000 in
theorem oscp_calls (h : Inv w0 w L r evs) (hev : evs.length < 1000000000000) (hst : r.st = 10) (hd : r.plen = 0) (hx : r.pc.getD 0 0 = Miss) (ds : List Int) (hds : ds = r.dc.take ds.length) (hdl : r.dlen = ds.length) (hb : ∀ i, i < ds.length → 0 ≤ ds.getD i 0 ∧ ds.getD i 0 ≤ 255) (hh : heads ds ≤ 6) (hc : r.cmd = Miss) (s b : Int) :
  Calls Tryz.prog 153 #[.pointer (some ⟨L.P, 0, none⟩), .int .u8 4, .int .u8 s, .int .u8 b] w fun e w' => e = .returned (.tuple #[]) ∧ Inv w0 w' L { r with plen := 0, cmd := strCmd ds Miss } (evs ++ [⟨5, 0, 0, strCmd ds Miss, [], ds⟩]) := by
 have := Raw.c9 h.raw; have := Raw.c10 h.raw; have := Raw.P_ne_pp h.raw; have := Raw.P_ne_pd h.raw; have := Raw.pp_ne_pd h.raw
 have c14 : w.cell? ⟨L.P, 14, none⟩ = some (.int .u8 10) := by rw [← hst]; exact h.raw.c14
 have c12 : w.cell? ⟨L.P, 12, none⟩ = some (.int .i64 0) := by rw [← hd]; exact h.raw.c12
 have p0 : w.cell? ⟨L.pp, 0, none⟩ = some (.int .i64 2147483647) := by rw [h.raw.pcell 0 (by omega), hx]; rfl
 clear hx
 have chf := h.raw.c5
 have hf : ∀ w, Sem.run Tryz.prog (binOp BinOp.neq 131 (.func (.func 131) #[] #[.pointer (some ⟨L.box, 0, none⟩)]) .nilFunc) w = .ok (.bool true) w := fun _ => by rfl
 have c11 : w.cell? ⟨L.P, 11, none⟩ = some (.int .i64 (ds.length : Int)) := by rw [← hdl]; exact h.raw.c11
 have hdl4 : ds.length ≤ 4096 := by
  have := congrArg List.length hds
  rw [List.length_take, h.raw.ldc] at this
  omega
 have d1 : (0 : Int) ≤ (ds.length : Int) := by omega
 have d2 : (ds.length : Int) ≤ 4096 := by omega
 have HDS := Lib.hid hds
 have HDL := Lib.hid hdl
 have hat : ∀ i, i < ds.length → r.dc.getD i 0 = ds.getD i 0 := fun i hi => by
  rw [hds]
  simp [List.getElem?_take, hi]
 have c13 : w.cell? ⟨L.P, 13, none⟩ = some (.int .i64 2147483647) := by
  have := h.raw.c13
  rw [hc] at this
  exact this
 have HB := Lib.hid (And.intro hat (And.intro hb (And.intro hh hc)))
 clear hat hb hh
 have pf := h.raw.pfrozen 0
 have HD := Lib.hid hd
 have HE := Lib.hid hev
 have HST := Lib.hid hst
 clear hev hst hd hds hdl hc
 go_enter Tryz.func153, Tryz.ntmps153
 go_wp2_with fail
 go_quiet (fail)
 have hN : Inv w0 (w.drewN nq) L { r with plen := 0 } evs := by rw [← HD.out]; exact h.grow (pw_below_drewN (Below.refl _ _) nq)
 have HN := Lib.hid hN
 clear hN
 go_wp2_with (
  go_at_call 177
  refine (strcmd_calls HN.out ds HDL.out hdl4 HB.out.1 HB.out.2.1 HB.out.2.2.1 HB.out.2.2.2).mono ?_
  rintro e w1 ⟨rfl, g⟩
  have h1 := Lib.hid g
  have q2 := g.raw.c5
  have q13 := g.raw.c13
  have q14 : w1.cell? ⟨L.P, 14, none⟩ = some (.int .u8 10) := by
   have := g.raw.c14
   rw [show r.st = 10 from HST.out] at this
   exact this
  have q11 : w1.cell? ⟨L.P, 11, none⟩ = some (.int .i64 (ds.length : Int)) := by rw [← HDL.out]; exact g.raw.c11
  have q10 := g.raw.c10
  clear g)
 go_region_held3 (fun w' => w'.cell? ⟨L.P, 5, none⟩ = some (.func (.func 131) #[] #[.pointer (some ⟨L.box, 0, none⟩)]) ∧ w'.cell? ⟨L.P, 13, none⟩ = some (.int .i64 (strCmd ds Miss)))
  (go_keep)
  (first
   | (
    go_at_call 131
    refine (l6_calls L _ evs w0 _ (strCmd ds Miss) ds (some ⟨L.pd, 0, none⟩) 4096 h1.out.drew HE.out (fun W hW => data_C (h1.out.drew.grow hW).raw ds HDS.out) (by omega) (by omega)).mono ?_
    rintro e wh ⟨rfl, hF, hE⟩
    have HT := Lib.hid ((h1.out.drew).told hF hE)
    have th := HT.out.raw.c13
    have tf := HT.out.raw.c5
    clear hF hE))
 go_wp2_with fail
 go_end0
 exact ⟨rfl, HT.out⟩
end
end Go.Proofs.YteebhoehflgfoaaGreatDoor.X
end
