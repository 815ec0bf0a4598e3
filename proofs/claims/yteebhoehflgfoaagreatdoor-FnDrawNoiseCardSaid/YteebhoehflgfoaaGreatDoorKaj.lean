/- Texts of this claim, joined: XPar XDis0. Of each, what the claim uses. -/
import Derived.Test.YteebhoehflgfoaaGreatDoorKag
import Derived.BigQuiet
section
namespace Go.Proofs.YteebhoehflgfoaaGreatDoor.X
open Go.RowKit Go.Proofs.YteebhoehflgfoaaGreatDoorW.PrintWords Go.Proofs.YteebhoehflgfoaaGreatDoorW.PrintLast Go.Proofs.YteebhoehflgfoaaGreatDoorW.PrintMore
theorem infoParam : (Tryz.prog.info? 154).map (fun i => (i.zero, i.size, i.bytes)) = some (some (.int .i64 0), 1, 8) := by kernel_rfl
theorem par_step (pc : List Int) (n i : Nat) (h : i < n) (hl : n ≤ pc.length) : (pc.take i ++ List.replicate (n - i) (0 : Int)).set i (pc.getD i 0) = pc.take (i + 1) ++ List.replicate (n - (i + 1)) 0 := by
 apply List.ext_getElem
 ·simp; omega
 ·intro j h1 h2
  simp only [List.length_set, List.length_append, List.length_take, List.length_replicate] at h1
  by_cases hj : j = i
  ·subst hj
   simp [List.getElem_append, show j < pc.length by omega]
   intro; omega
  ·simp only [List.getElem_set, List.getElem_append, List.length_take, List.getElem_take, List.getElem_replicate, if_neg (Ne.symm hj)]
   by_cases h3 : j < i
   ·simp [show j < min i pc.length by omega, show j < min (i + 1) pc.length by omega]
   ·simp [show ¬ j < min i pc.length by omega, show ¬ j < min (i + 1) pc.length by omega]
section
variable {w0 w : World} {L : Loc} {r : RawSt} {evs : List Ev}
/-- Where the copy's loop stands. -/
def ParAt (w w' : World) (r : RawSt) (A : Option Addr) (c n i : Nat) : Prop :=
 Kd.R (Kd.int .i64) 154 w' w.heap.size (fun _ => True) (.slice A n c) (r.pc.take i ++ List.replicate (n - i) 0) ∧ Below w.heap.size w w'
theorem made_form {w w1 : World} {n : Nat} {v1 : Value} (hR : Kd.R (Kd.int .i64) 154 w1 w.heap.size (fun _ => True) v1 (List.replicate (n : Int).toNat 0)) :
  ∃ (A : Option Addr) (c : Nat), v1 = .slice A n c ∧ (0 < n → ∃ g, A = some ⟨g, 0, none⟩ ∧ w.heap.size ≤ g) := by
 by_cases h0 : n = 0
 ·obtain ⟨A, c, e⟩ := Kd.R_slice hR
  exact ⟨A, c, by simpa using e, fun hp => by omega⟩
 ·obtain ⟨g, c, e, hb, _⟩ := Kd.R_form hR (by simp; omega)
  exact ⟨_, c, by simpa using e, fun _ => ⟨g, rfl, hb⟩⟩
set_option maxRecDepth 200000 in
set_option maxHeartbeats 8000000 in
theorem params_calls (h : Inv w0 w L r evs) (n : Nat) (hn : n ≤ 32) (hd : r.plen = n) :
  Calls Tryz.prog 178 #[.pointer (some ⟨L.P, 0, none⟩)] w fun e w' => ∃ (A : Option Addr) (c : Nat), e = .returned (.slice A n c) ∧ n ≤ c ∧ Kd.C (Kd.int .i64) w' A n (r.pc.take n) ∧ Below w.heap.size w w' := by
 have c12 : w.cell? ⟨L.P, 12, none⟩ = some (.int .i64 (n : Int)) := by rw [← hd]; exact h.raw.c12
 have c9 := h.raw.c9
 have e5 : (0 : Int) ≤ (n : Int) := by omega
 have hlp := h.raw.lpc
 clear hd
 go_enter Tryz.func178, Tryz.ntmps178
 go_wp2_with ((with_reducible refine gate_dst (N := 9) rfl ?_); refine Kd.R_make (Kd.int .i64) (w0 := w) w.heap.size 154 rfl (N := 9) rfl 126 _ _ rfl (n : Int) rfl rfl Tryz.underlying126 (.int .i64 0) 8 infoParam rfl (by decide) (by omega) (0 : Int) (ok := fun _ => True) (okp := fun _ => True) rfl (fun _ hk => hk) trivial e5 (by omega) (Below.refl _ _) (Nat.le_refl _) ?_; intro v1 w1 hR hB hg hat; clear hg hat; obtain ⟨A, c, rfl, hA⟩ := made_form hR; have HA := Lib.hid hA; have h0 : ParAt w w1 r A c n 0 := ⟨by simpa using hR, hB⟩; clear hA hR hB)
 go_loopg [12] n (fun kq v12 w' => ∃ (i : Nat), v12 = .int .i64 (i : Int) ∧ i + kq = n ∧ ParAt w w' r A c n i)
 case atStart => exact ⟨0, rfl, by omega, h0⟩
 case round =>
  clear h0
  obtain ⟨i, rfl, hk, hR, hB⟩ := hrel
  have e20 : IntKind.i64.wrap ((i : Int) + 1) = ((i + 1 : Nat) : Int) := by rw [IntKind.wrap_i64]; omega
  have hI := h.grow hB
  have c12 := (World.cell?_of_block (hB.block L.P (blk_lt h.raw.hP)) : wr.cell? ⟨L.P, 12, none⟩ = w.cell? ⟨L.P, 12, none⟩).trans c12
  have c9 := hI.raw.c9
  by_cases hi : i < n
  ·have c1 : decide ((i : Int) < (n : Int)) = true := decide_eq_true (by omega)
   have c2 : (0 : Int) ≤ (i : Int) := by omega
   have c3 : (i : Int) < 32 := by omega
   have c4 : (i : Int) < (n : Int) := by omega
   have p1 := hI.raw.pcell i (by omega)
   obtain ⟨g, rfl, hgb⟩ := HA.out (by omega)
   have hR' := hR
   obtain ⟨q1, q2⟩ := Kd.R_celln (0 : Int) hR (i : Int) c2 c4
   have q3 := Kd.R_putn hR (i : Int) (r.pc.getD i 0)
   simp only [Int.toNat_natCast] at q1 q2 q3
   rw [par_step r.pc n i hi (by omega)] at q3
   have nI : ParAt w (wr.setCell ⟨g, i, none⟩ (.int .i64 (r.pc.getD i 0))) r (some ⟨g, 0, none⟩) c n (i + 1) := ⟨q3, hB.setCell hgb _⟩
   clear q3 hR hR' hI hB hlp
   go_wp2_with fail
   go_roundg (n - (i + 1))
   case measure => omega
   case rel => exact ⟨i + 1, by simp, by omega, nI⟩
  ·have c1 : decide ((i : Int) < (n : Int)) = false := decide_eq_false (by omega)
   have ei : i = n := by omega
   have fin : n ≤ c ∧ Kd.C (Kd.int .i64) wr A n (r.pc.take n) ∧ Below w.heap.size w wr := by
    subst ei
    obtain ⟨h1, h2, h3⟩ := Kd.R_reads' hR
    refine ⟨h2, ?_, hB⟩
    have : (List.take i r.pc ++ List.replicate (i - i) (0 : Int)) = List.take i r.pc := by simp
    rw [this] at h3
    rwa [show (List.take i r.pc).length = i by simp; omega] at h3
   clear ei hk hR hB hI hlp
   go_wp2_with fail
   go_ret
   exact ⟨A, c, rfl, fin⟩
end
end Go.Proofs.YteebhoehflgfoaaGreatDoor.X
end
section
namespace Go.Proofs.YteebhoehflgfoaaGreatDoor.X
open Go.RowKit Go.Proofs.YteebhoehflgfoaaGreatDoorW.PrintWords Go.Proofs.YteebhoehflgfoaaGreatDoorW.PrintLast Go.Proofs.YteebhoehflgfoaaGreatDoorW.PrintMore
set_option linter.unusedSimpArgs false
set_option linter.unusedVariables false
section
variable {w0 w : World} {L : Loc} {r : RawSt} {evs : List Ev}
/-- The data's row, read. -/
theorem data_C (h : Raw w L r) (ds : List Int) (hds : ds = r.dc.take ds.length) : Kd.C (Kd.int .u8) w (some ⟨L.pd, 0, none⟩) ds.length ds := by
 have h1 : ds.length ≤ 4096 := by
  have := congrArg List.length hds
  rw [List.length_take, h.ldc] at this
  omega
 refine Kd.C_of_reads (d := (0 : Int)) ⟨rfl, by omega, fun hp => ⟨_, rfl, fun j hj => ?_⟩⟩
 have h2 := h.dcell j (by omega)
 have h3 : r.dc.getD j 0 = ds.getD j 0 := by
  rw [hds]
  simp [List.getElem?_take, hj]
 rw [h3] at h2
 rw [add_plain]
 simpa using h2
theorem params_calls2 (h : Inv w0 w L r evs) (n : Nat) (hn : n ≤ 32) (hd : r.plen = n) :
  Calls Tryz.prog 178 #[.pointer (some ⟨L.P, 0, none⟩)] w fun e w' => ∃ (A : Option Addr) (c : Nat) (ps : List Int), e = .returned (.slice A ps.length c) ∧ ps = r.pc.take n ∧ ps.length ≤ c ∧ Kd.C (Kd.int .i64) w' A ps.length ps ∧ ps.length < 1000000 ∧ Below w.heap.size w w' := by
 refine (params_calls h n hn hd).mono ?_
 rintro e w' ⟨A, c, rfl, hc, hC, hB⟩
 have e1 : (r.pc.take n).length = n := by rw [List.length_take, h.raw.lpc]; omega
 exact ⟨A, c, r.pc.take n, by rw [e1], rfl, by omega, by rw [e1]; exact hC, by omega, hB⟩
end
end Go.Proofs.YteebhoehflgfoaaGreatDoor.X
end
