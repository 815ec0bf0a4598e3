/- Texts of this claim, joined: XModes0 Y13D Y13 Y14D Y14 Y26D Y26 Y29D Y29 Y32D Y32 Y39D Y39. Of each, what the claim uses. -/
import Derived.Test.YteebhoehflgfoaaGreatDoorKaq
import Derived.Test.YteebhoehflgfoaaGreatDoorKac
import Derived.Handy
import Derived.Lib.Hide
import Derived.Test.YteebhoehflgfoaaGreatDoorKau
section
namespace Go.Proofs.YteebhoehflgfoaaGreatDoor.Y
open Go.RowKit Go.Proofs.YteebhoehflgfoaaGreatDoorW.PrintWords Go.Proofs.YteebhoehflgfoaaGreatDoorW.PrintLast Go.Proofs.YteebhoehflgfoaaGreatDoorW.PrintMore
set_option linter.unusedSimpArgs false
set_option linter.unusedVariables false
/-- A mode, as the interface's value. -/
def modeV (d : Bool) (n : Int) : Value := if d then .iface 151 (.int .i64 n) else .iface 152 (.int .i64 n)
set_option maxRecDepth 100000 in
theorem modeOf_calls (d : Bool) (n : Int) (w : World) : Calls Tryz.prog 112 #[.agg #[.bool d, .int .i64 n]] w fun e w' => e = .returned (modeV d n) ∧ Below w.heap.size w w' := by
 cases d
 ·go_enter Tryz.func112, Tryz.ntmps112
  go_wp2_with fail
  go_ret
  exact ⟨rfl, below_alloc (Below.refl _ w) _⟩
 ·go_enter Tryz.func112, Tryz.ntmps112
  go_wp2_with fail
  go_ret
  exact ⟨rfl, below_alloc (Below.refl _ w) _⟩
theorem as_dec (n : Int) (w : World) : (Instr.typeAssert (.iface 151 (.int .i64 n)) 113 151 true).run Tryz.prog w = .ok (.tuple #[.int .i64 n, .bool true]) w := by kernel_rfl
theorem as_ansi (n : Int) (w : World) : (Instr.typeAssert (.iface 152 (.int .i64 n)) 113 151 true).run Tryz.prog w = .ok (.tuple #[.int .i64 0, .bool false]) w := by kernel_rfl
theorem as_ansi2 (n : Int) (w : World) : (Instr.typeAssert (.iface 152 (.int .i64 n)) 113 152 true).run Tryz.prog w = .ok (.tuple #[.int .i64 n, .bool true]) w := by kernel_rfl
attribute [local go_sem] as_dec as_ansi as_ansi2
theorem mode_dec (n : Int) (w : World) : Calls Tryz.prog 227 #[.int .i64 n] w fun e w' => e = .returned (.int .i64 n) ∧ w' = w := by
 go_enter Tryz.func227, Tryz.ntmps227
 go_wp2_with fail
 go_ret
 exact ⟨rfl, rfl⟩
theorem mode_ansi (n : Int) (w : World) : Calls Tryz.prog 228 #[.int .i64 n] w fun e w' => e = .returned (.int .i64 n) ∧ w' = w := by
 go_enter Tryz.func228, Tryz.ntmps228
 go_wp2_with fail
 go_ret
 exact ⟨rfl, rfl⟩
set_option linter.unusedSimpArgs false
abbrev Mo2 := Bool × Int
theorem modeV_one (m : Mo2) : (modeV m.1 m.2).oneCell' = true := by
 unfold modeV
 split <;> rfl
/-- A row of modes, as interface values. -/
def kMode : Kd Mo2 := Kd.scalar (fun m : Mo2 => modeV m.1 m.2) modeV_one
def pairOf (m : S33) : Mo2 := (m.f0, m.f1)
theorem infoM : (Tryz.prog.info? 113).map (fun i => (i.zero, i.size, i.bytes)) = some (some .nilIface, 1, 16) := by kernel_rfl
set_option maxRecDepth 100000 in
set_option maxHeartbeats 2000000 in
theorem modesOf_calls (A0 : Option Addr) (c0 : Nat) (l : List S33) (w : World) (hr : Kd.C k33 w A0 l.length l) (hc : l.length ≤ c0) (hl : l.length ≤ 1000) :
  Calls Tryz.prog 44 #[.slice A0 l.length c0] w fun e w' => ∃ v : Value, e = .returned v ∧ Kd.R kMode 113 w' w.heap.size (fun _ => True) v (l.map pairOf) ∧ Below w.heap.size w w' := by
 have HR := Lib.hid hr
 have HL := Lib.hid hl
 clear hr
 go_enter Tryz.func44, Tryz.ntmps44
 go_wp2_with fail
 go_loopg [3, 8] (l.length + 1) (fun kq v3 v8 w' => ∃ i : Nat, v8 = .int .i64 (i : Int) ∧ kq = l.length + 1 - i ∧ i ≤ l.length ∧ Hid (Kd.R kMode 113 w' w.heap.size (fun _ => True) v3 ((l.take i).map pairOf)) ∧ Hid (Below w.heap.size w w'))
 case atStart => exact ⟨0, rfl, rfl, by omega, Kd.R_nil _ _ _ _ _, Below.refl _ _⟩
 case round =>
  obtain ⟨i, rfl, hk, hi3, HO, HB⟩ := hrel
  by_cases hi : i < l.length
  ·have c1 : decide ((i : Int) < (l.length : Int)) = true := decide_eq_true (by omega)
   have c2 : (0 : Int) ≤ (i : Int) := by omega
   have c3 : (i : Int) < (l.length : Int) := by omega
   have c4 : ((i : Int)).toNat = i := by omega
   obtain ⟨ad, ea, hx0, hx1⟩ := at_T33 HR.out (i : Int) c2 c3
   subst ea
   rw [c4] at hx0 hx1
   have hrd : rd_T33 l (i : Int) = l[i] := by simp [rd_T33, hi]
   rw [hrd] at hx0 hx1
   replace hx0 := (HB.out.cell (World.block_lt_of_cell? w _ hx0)).trans hx0
   replace hx1 := (HB.out.cell (World.block_lt_of_cell? w _ hx1)).trans hx1
   have HK := Lib.hid (And.intro hk hi3)
   clear hk hi3 hrd
   go_wp2_with fail
   refine (modeOf_calls l[i].f0 l[i].f1 _).mono ?_
   rintro e w1 ⟨rfl, hb⟩
   have hB1 : Below wr.heap.size wr w1 := (below_alloc (Below.refl _ wr) _).trans (hb.mono (Nat.le_trans (Nat.le_refl _) (by first | exact Nat.le_succ _ | simp)))
   have hB2 : Below w.heap.size w w1 := HB.out.trans (hB1.mono HB.out.size)
   have hO1 := Kd.R_below HO.out hB1
   have HB2 := Lib.hid hB2
   have HO2 := Lib.hid hO1
   clear hB1 hB2 hO1 HB HO hb
   have fin : ∀ (v6 : Value) (w6 : World), Hid (Kd.R kMode 113 w6 w.heap.size (fun _ => True) v6 ((l.take i).map pairOf ++ [pairOf l[i]])) → Hid (Kd.R kMode 113 w6 w.heap.size (fun _ => True) v6 ((l.take (i + 1)).map pairOf)) := fun v6 w6 e => by
    have e2 : (l.take (i + 1)).map pairOf = (l.take i).map pairOf ++ [pairOf l[i]] := by rw [List.take_succ_eq_append_getElem hi, List.map_append]; rfl
    rw [e2]
    exact e
   have fin := Lib.hid fin
   rcases Bool.eq_false_or_eq_true l[i].f0 with hd | hd
   ·have HM : Hid (modeV (pairOf l[i]).1 (pairOf l[i]).2 = .iface 151 (.int .i64 l[i].f1)) := by show modeV l[i].f0 l[i].f1 = _; rw [hd]; rfl
    have HV : modeV l[i].f0 l[i].f1 = .iface 151 (.int .i64 l[i].f1) := by rw [hd]; rfl
    rw [HV]
    clear HV hd
    go_wp2_with (first | ((with_reducible refine gate_builtin (b := .append) (xs := #[.tmp 12, .tmp 15]) rfl ?_); at_builtin; refine Kd.R_append kMode (w0 := w) w.heap.size rfl (.tmp 12) (.tmp 15) 60 113 .nilIface 16 rfl Tryz.underlying60 infoM rfl (by decide) (by omega) _ ((l.take i).map pairOf) (pairOf l[i]) [.iface 151 (.int .i64 l[i].f1)] (fun _ => True) (fun _ => False) rfl rfl ?aP (fun _ hk => hk.elim) ?aF ?aO ?aB ?aS ?aL ?_; (case aP => exact (by show [_] = [modeV (pairOf l[i]).1 (pairOf l[i]).2]; rw [HM.out])); (case aB => exact HB2.out); (case aF => exact (fun _ _ => trivial)); (case aO => exact HO2.out); (case aS => exact (below_size HB2.out)); (case aL => have := HL.out; simp only [List.length_map, List.length_take]; omega); intro v103 w6 ho hb hg hat; have HO := Lib.hid ho; have HB := Lib.hid hb; clear ho hb hg hat))
    go_roundg (l.length + 1 - (i + 1))
    case measure => have := HK.out; omega
    case rel => exact ⟨i + 1, by simp, rfl, by omega, fin.out _ _ HO, HB.out⟩
   ·have HM : Hid (modeV (pairOf l[i]).1 (pairOf l[i]).2 = .iface 152 (.int .i64 l[i].f1)) := by show modeV l[i].f0 l[i].f1 = _; rw [hd]; rfl
    have HV : modeV l[i].f0 l[i].f1 = .iface 152 (.int .i64 l[i].f1) := by rw [hd]; rfl
    rw [HV]
    clear HV hd
    go_wp2_with (first | ((with_reducible refine gate_builtin (b := .append) (xs := #[.tmp 12, .tmp 15]) rfl ?_); at_builtin; refine Kd.R_append kMode (w0 := w) w.heap.size rfl (.tmp 12) (.tmp 15) 60 113 .nilIface 16 rfl Tryz.underlying60 infoM rfl (by decide) (by omega) _ ((l.take i).map pairOf) (pairOf l[i]) [.iface 152 (.int .i64 l[i].f1)] (fun _ => True) (fun _ => False) rfl rfl ?aP (fun _ hk => hk.elim) ?aF ?aO ?aB ?aS ?aL ?_; (case aP => exact (by show [_] = [modeV (pairOf l[i]).1 (pairOf l[i]).2]; rw [HM.out])); (case aB => exact HB2.out); (case aF => exact (fun _ _ => trivial)); (case aO => exact HO2.out); (case aS => exact (below_size HB2.out)); (case aL => have := HL.out; simp only [List.length_map, List.length_take]; omega); intro v103 w6 ho hb hg hat; have HO := Lib.hid ho; have HB := Lib.hid hb; clear ho hb hg hat))
    go_roundg (l.length + 1 - (i + 1))
    case measure => have := HK.out; omega
    case rel => exact ⟨i + 1, by simp, rfl, by omega, fin.out _ _ HO, HB.out⟩
  ·have c1 : decide ((i : Int) < (l.length : Int)) = false := decide_eq_false (by omega)
   go_wp2_with fail
   go_ret
   have e0 := HO.out
   rw [List.take_of_length_le (by omega)] at e0
   exact ⟨_, rfl, e0, HB.out⟩
/-- A number's text. -/
def tx (m : Mo2) : ByteArray := ⟨(Lib.itoa m.2).toArray⟩
def NumOk (m : Mo2) : Prop := strconv_Itoa.f m.2 = some (tx m) ∧ (tx m).size ≤ 1000
def cmdB (r : Bool) : ByteArray := if r then ⟨#[108]⟩ else ⟨#[104]⟩
def soloT (r : Bool) (m : Mo2) : ByteArray := if m.1 then (((⟨#[27, 91]⟩ : ByteArray) ++ (⟨#[63]⟩ : ByteArray)) ++ tx m) ++ cmdB r else ((⟨#[27, 91]⟩ : ByteArray) ++ tx m) ++ cmdB r
theorem at_mode {w : World} {A : Option Addr} {n : Nat} {xs : List Mo2} (h : kMode.C w A n xs) (i : Int) (h0 : 0 ≤ i) (h1 : i < n) : ∃ ad, A = some ad ∧ w.cell? (ad.add i.toNat) = some (modeV (rdOf (false, 0) xs i).1 (rdOf (false, 0) xs i).2) :=
 ReadsOf.at_ (Kd.reads_of_C (enc := fun m : Mo2 => modeV m.1 m.2) (d := ((false, 0) : Mo2)) (h1 := modeV_one) h) i h0 h1
attribute [local go_sem] as_dec as_ansi as_ansi2
set_option maxRecDepth 100000 in
set_option maxHeartbeats 2000000 in
theorem setMode_solo (r : Bool) (A0 : Option Addr) (c0 : Nat) (m : Mo2) (w : World) (hT : XTab w) (hr : Kd.C kMode w A0 1 [m]) (hc : 1 ≤ c0) (hm : NumOk m) :
  Calls Tryz.prog 111 #[.bool r, .slice A0 1 c0] w fun e w' => e = .returned (.string (soloT r m)) ∧ Below w.heap.size w w' := by
 obtain ⟨ad, ea, hx⟩ := at_mode hr 0 (by omega) (by omega)
 subst ea
 have hx2 : w.cell? ad = some (modeV m.1 m.2) := by simpa [rdOf, Addr.add] using hx
 have HI := Lib.hid (strconv_Itoa.calls m.2 (tx m) w hT hm.1)
 have hs := hm.2
 clear hr hx hT hm
 obtain ⟨d, n⟩ := m
 cases r <;> cases d
 ·replace hx2 : w.cell? ad = some (.iface 152 (.int .i64 n)) := hx2
  go_enter Tryz.func111, Tryz.ntmps111
  go_wp2_with fail
  refine (mode_ansi n _).mono ?_
  rintro e w0 ⟨rfl, rfl⟩
  go_wp2_with fail
  refine HI.out.mono ?_
  rintro e w1 ⟨rfl, hb⟩
  go_wp2_with fail
  go_ret
  exact ⟨rfl, hb⟩
 ·replace hx2 : w.cell? ad = some (.iface 151 (.int .i64 n)) := hx2
  go_enter Tryz.func111, Tryz.ntmps111
  go_wp2_with fail
  refine (mode_dec n _).mono ?_
  rintro e w0 ⟨rfl, rfl⟩
  go_wp2_with fail
  refine HI.out.mono ?_
  rintro e w1 ⟨rfl, hb⟩
  go_wp2_with fail
  go_ret
  exact ⟨rfl, hb⟩
 ·replace hx2 : w.cell? ad = some (.iface 152 (.int .i64 n)) := hx2
  go_enter Tryz.func111, Tryz.ntmps111
  go_wp2_with fail
  refine (mode_ansi n _).mono ?_
  rintro e w0 ⟨rfl, rfl⟩
  go_wp2_with fail
  refine HI.out.mono ?_
  rintro e w1 ⟨rfl, hb⟩
  go_wp2_with fail
  go_ret
  exact ⟨rfl, hb⟩
 ·replace hx2 : w.cell? ad = some (.iface 151 (.int .i64 n)) := hx2
  go_enter Tryz.func111, Tryz.ntmps111
  go_wp2_with fail
  refine (mode_dec n _).mono ?_
  rintro e w0 ⟨rfl, rfl⟩
  go_wp2_with fail
  refine HI.out.mono ?_
  rintro e w1 ⟨rfl, hb⟩
  go_wp2_with fail
  go_ret
  exact ⟨rfl, hb⟩
/-- Two rows of texts, apart. -/
theorem SetMode_calls (A0 : Option Addr) (c0 : Nat) (m : Mo2) (w : World) (hT : XTab w) (hr : Kd.C kMode w A0 1 [m]) (hc : 1 ≤ c0) (hm : NumOk m) :
  Calls Tryz.prog 43 #[.slice A0 1 c0] w fun e w' => e = .returned (.string (soloT false m)) ∧ Below w.heap.size w w' := by
 have HC := Lib.hid (setMode_solo false A0 c0 m w hT hr hc hm)
 clear hT hr hc hm
 go_enter Tryz.func43, Tryz.ntmps43
 go_wp2_with fail
 refine HC.out.mono ?_
 rintro e w1 ⟨rfl, hb⟩
 go_wp2_with fail
 go_ret
 exact ⟨rfl, hb⟩
theorem ResetMode_calls (A0 : Option Addr) (c0 : Nat) (m : Mo2) (w : World) (hT : XTab w) (hr : Kd.C kMode w A0 1 [m]) (hc : 1 ≤ c0) (hm : NumOk m) :
  Calls Tryz.prog 45 #[.slice A0 1 c0] w fun e w' => e = .returned (.string (soloT true m)) ∧ Below w.heap.size w w' := by
 have HC := Lib.hid (setMode_solo true A0 c0 m w hT hr hc hm)
 clear hT hr hc hm
 go_enter Tryz.func45, Tryz.ntmps45
 go_wp2_with fail
 refine HC.out.mono ?_
 rintro e w1 ⟨rfl, hb⟩
 go_wp2_with fail
 go_ret
 exact ⟨rfl, hb⟩
theorem MakeSet_calls (A0 : Option Addr) (c0 : Nat) (m : S33) (w : World) (hT : XTab w) (hr : Kd.C k33 w A0 1 [m]) (hc : 1 ≤ c0) (hm : NumOk (pairOf m)) :
  Calls Tryz.prog 10 #[.int .i64 0, .slice A0 1 c0] w fun e w' => e = .returned (.string (soloT false (pairOf m))) ∧ Below w.heap.size w w' := by
 have HM := Lib.hid (modesOf_calls A0 c0 [m] w hr hc (by simp))
 have HQ := Lib.hid (And.intro hT hm)
 clear hT hr hm
 go_enter Tryz.func10, Tryz.ntmps10
 go_wp2_with fail
 refine HM.out.mono ?_
 rintro e w1 ⟨v, rfl, hR, hb⟩
 obtain ⟨Av, cv, rfl⟩ := Kd.R_slice hR
 have HR := Lib.hid (And.intro (Kd.R_reads' hR).2 hb)
 clear hR hb HM
 go_wp2_with fail
 refine (SetMode_calls Av cv (pairOf m) w1 (HQ.out.1.below HR.out.2) HR.out.1.2 HR.out.1.1 HQ.out.2).mono ?_
 rintro e w2 ⟨rfl, hb2⟩
 have HB := Lib.hid (HR.out.2.trans (hb2.mono HR.out.2.size))
 clear hb2
 go_wp2_with fail
 go_ret
 exact ⟨rfl, HB.out⟩
theorem MakeReset_calls (A0 : Option Addr) (c0 : Nat) (m : S33) (w : World) (hT : XTab w) (hr : Kd.C k33 w A0 1 [m]) (hc : 1 ≤ c0) (hm : NumOk (pairOf m)) :
  Calls Tryz.prog 10 #[.int .i64 1, .slice A0 1 c0] w fun e w' => e = .returned (.string (soloT true (pairOf m))) ∧ Below w.heap.size w w' := by
 have HM := Lib.hid (modesOf_calls A0 c0 [m] w hr hc (by simp))
 have HQ := Lib.hid (And.intro hT hm)
 clear hT hr hm
 go_enter Tryz.func10, Tryz.ntmps10
 go_wp2_with fail
 refine HM.out.mono ?_
 rintro e w1 ⟨v, rfl, hR, hb⟩
 obtain ⟨Av, cv, rfl⟩ := Kd.R_slice hR
 have HR := Lib.hid (And.intro (Kd.R_reads' hR).2 hb)
 clear hR hb HM
 go_wp2_with fail
 refine (ResetMode_calls Av cv (pairOf m) w1 (HQ.out.1.below HR.out.2) HR.out.1.2 HR.out.1.1 HQ.out.2).mono ?_
 rintro e w2 ⟨rfl, hb2⟩
 have HB := Lib.hid (HR.out.2.trans (hb2.mono HR.out.2.size))
 clear hb2
 go_wp2_with fail
 go_ret
 exact ⟨rfl, HB.out⟩
end Go.Proofs.YteebhoehflgfoaaGreatDoor.Y
end
section
namespace Go.Proofs.YteebhoehflgfoaaGreatDoor.Y
open Go.RowKit Go.Proofs.YteebhoehflgfoaaGreatDoorW.PrintWords Go.Proofs.YteebhoehflgfoaaGreatDoorW.PrintLast Go.Proofs.YteebhoehflgfoaaGreatDoorW.PrintMore
attribute [local go_sem] max2_int min2_int max_two min_two max_three min_three max_four min_four
set_option linter.unusedVariables false
set_option linter.unusedSimpArgs false
/-! ### xansi_SetWindowTitle: function 30 -/
def xansi_SetWindowTitle.f (a0 : ByteArray) : Option (ByteArray) := if 4 + a0.size ≤ 9223372036854775807 then (if 4 + a0.size + 1 ≤ 9223372036854775807 then (some (((⟨#[27, 93, 50, 59]⟩ : ByteArray) ++ a0) ++ (⟨#[7]⟩ : ByteArray))) else (none)) else (none)
set_option maxHeartbeats 8000000 in
set_option maxRecDepth 100000 in
theorem xansi_SetWindowTitle.calls (a0 : ByteArray) (r : ByteArray) (w : World) (h : xansi_SetWindowTitle.f a0 = some r) :
  Calls Tryz.prog 30 #[.string a0] w fun e w' => e = .returned (.string r) ∧ Drawn0 w w' := by
 have H : (if 4 + a0.size ≤ 9223372036854775807 then (if 4 + a0.size + 1 ≤ 9223372036854775807 then (some (((⟨#[27, 93, 50, 59]⟩ : ByteArray) ++ a0) ++ (⟨#[7]⟩ : ByteArray))) else (none)) else (none)) = some r := h
 clear h
 by_cases c2 : 4 + a0.size ≤ 9223372036854775807
 ·rw [if_pos c2] at H
  have c2b0 := eq_true c2
  have c2b1 : decide (4 + a0.size ≤ 9223372036854775807) = true := decide_eq_true c2
  try have c2b2 : (9223372036854775807 < 4 + a0.size) = False := eq_false (Nat.not_lt.2 c2)
  by_cases c3 : 4 + a0.size + 1 ≤ 9223372036854775807
  ·rw [if_pos c3] at H
   have c3b0 := eq_true c3
   have c3b1 : decide (4 + a0.size + 1 ≤ 9223372036854775807) = true := decide_eq_true c3
   try have c3b2 : (9223372036854775807 < 4 + a0.size + 1) = False := eq_false (Nat.not_lt.2 c3)
   obtain rfl := Option.some.inj H
   go_enter Tryz.func30, Tryz.ntmps30
   go_wp2
   go_ret
   exact ⟨by first | rfl | (simp; done) | (simp [*]; done), by repeat (first | exact Drawn0.refl _ | apply Drawn0.step)⟩
  ·rw [if_neg c3] at H
   exact absurd H (by simp)
 ·rw [if_neg c2] at H
  exact absurd H (by simp)
/-! ### xansi_SetIconName: function 31 -/
def xansi_SetIconName.f (a0 : ByteArray) : Option (ByteArray) := if 4 + a0.size ≤ 9223372036854775807 then (if 4 + a0.size + 1 ≤ 9223372036854775807 then (some (((⟨#[27, 93, 49, 59]⟩ : ByteArray) ++ a0) ++ (⟨#[7]⟩ : ByteArray))) else (none)) else (none)
set_option maxHeartbeats 8000000 in
set_option maxRecDepth 100000 in
theorem xansi_SetIconName.calls (a0 : ByteArray) (r : ByteArray) (w : World) (h : xansi_SetIconName.f a0 = some r) :
  Calls Tryz.prog 31 #[.string a0] w fun e w' => e = .returned (.string r) ∧ Drawn0 w w' := by
 have H : (if 4 + a0.size ≤ 9223372036854775807 then (if 4 + a0.size + 1 ≤ 9223372036854775807 then (some (((⟨#[27, 93, 49, 59]⟩ : ByteArray) ++ a0) ++ (⟨#[7]⟩ : ByteArray))) else (none)) else (none)) = some r := h
 clear h
 by_cases c2 : 4 + a0.size ≤ 9223372036854775807
 ·rw [if_pos c2] at H
  have c2b0 := eq_true c2
  have c2b1 : decide (4 + a0.size ≤ 9223372036854775807) = true := decide_eq_true c2
  try have c2b2 : (9223372036854775807 < 4 + a0.size) = False := eq_false (Nat.not_lt.2 c2)
  by_cases c3 : 4 + a0.size + 1 ≤ 9223372036854775807
  ·rw [if_pos c3] at H
   have c3b0 := eq_true c3
   have c3b1 : decide (4 + a0.size + 1 ≤ 9223372036854775807) = true := decide_eq_true c3
   try have c3b2 : (9223372036854775807 < 4 + a0.size + 1) = False := eq_false (Nat.not_lt.2 c3)
   obtain rfl := Option.some.inj H
   go_enter Tryz.func31, Tryz.ntmps31
   go_wp2
   go_ret
   exact ⟨by first | rfl | (simp; done) | (simp [*]; done), by repeat (first | exact Drawn0.refl _ | apply Drawn0.step)⟩
  ·rw [if_neg c3] at H
   exact absurd H (by simp)
 ·rw [if_neg c2] at H
  exact absurd H (by simp)
/-! ### impl_MakeText: function 9 -/
def impl_MakeText.f (a0 : Int) (a1 : ByteArray) : Option (ByteArray) := if a0 = 0 then ((xansi_SetWindowTitle.f a1).bind fun t123 => (some t123)) else (if a0 = 1 then ((xansi_SetIconName.f a1).bind fun t124 => (some t124)) else (if a0 = 2 then (none) else (if a0 = 3 then (none) else (if a0 = 4 then (none) else (if a0 = 5 then (none) else (if a0 = 6 then (none) else (if a0 = 7 then (none) else (if a0 = 8 then (none) else (if a0 = 9 then (none) else (if a0 = 10 then (none) else (if a0 = 11 then (none) else (if a0 = 12 then (none) else (some (⟨#[]⟩ : ByteArray))))))))))))))
set_option maxHeartbeats 8000000 in
set_option maxRecDepth 100000 in
theorem impl_MakeText.calls (a0 : Int) (a1 : ByteArray) (r : ByteArray) (w : World) (h : impl_MakeText.f a0 a1 = some r) :
  Calls Tryz.prog 9 #[.int .i64 a0, .string a1] w fun e w' => e = .returned (.string r) ∧ Drawn0 w w' := by
 have H : (if a0 = 0 then ((xansi_SetWindowTitle.f a1).bind fun t123 => (some t123)) else (if a0 = 1 then ((xansi_SetIconName.f a1).bind fun t124 => (some t124)) else (if a0 = 2 then (none) else (if a0 = 3 then (none) else (if a0 = 4 then (none) else (if a0 = 5 then (none) else (if a0 = 6 then (none) else (if a0 = 7 then (none) else (if a0 = 8 then (none) else (if a0 = 9 then (none) else (if a0 = 10 then (none) else (if a0 = 11 then (none) else (if a0 = 12 then (none) else (some (⟨#[]⟩ : ByteArray))))))))))))))) = some r := h
 clear h
 by_cases c3 : a0 = 0
 ·rw [if_pos c3] at H
  have c3b0 : (a0 == 0) = true := beq_iff_eq.mpr c3
  have c3b1 : (a0 != 0) = false := bne_eq_false_iff_eq.mpr c3
  clear c3
  replace H := Option.bind_eq_some_iff.mp H
  obtain ⟨t123, A40, H⟩ := H
  replace H : (some t123) = some r := H
  have A4 := Aside0.mk A40
  clear A40
  obtain rfl := Option.some.inj H
  go_enter Tryz.func9, Tryz.ntmps9
  go_wp2_with (first | ((with_reducible refine gate_callee (f := 30) rfl ?_); refine goesL_ (some 9) rfl rfl Tryz.func30 (by kernel_rfl) rfl #[.string a1] rfl (by (try simp only [List.map_toArray, List.map_cons, List.map_nil]); first | done | rfl | (simp only [List.length_drop, List.length_take]; rfl)) ?_; (with_reducible refine (xansi_SetWindowTitle.calls a1 t123 _ A4.out).mono ?_); rintro e w' ⟨rfl, ⟨nd, rfl⟩⟩; refine ⟨_, rfl, ?_⟩))
  go_ret
  exact ⟨by first | rfl | (simp; done) | (simp [*]; done), by repeat (first | exact Drawn0.refl _ | apply Drawn0.step)⟩
 ·rw [if_neg c3] at H
  have c3b0 : (a0 == 0) = false := beq_eq_false_iff_ne.mpr c3
  have c3b1 : (a0 != 0) = true := bne_iff_ne.mpr c3
  by_cases c5 : a0 = 1
  ·rw [if_pos c5] at H
   have c5b0 : (a0 == 1) = true := beq_iff_eq.mpr c5
   have c5b1 : (a0 != 1) = false := bne_eq_false_iff_eq.mpr c5
   clear c5
   replace H := Option.bind_eq_some_iff.mp H
   obtain ⟨t124, A60, H⟩ := H
   replace H : (some t124) = some r := H
   have A6 := Aside0.mk A60
   clear A60
   obtain rfl := Option.some.inj H
   go_enter Tryz.func9, Tryz.ntmps9
   go_wp2_with (first | ((with_reducible refine gate_callee (f := 31) rfl ?_); refine goesL_ (some 13) rfl rfl Tryz.func31 (by kernel_rfl) rfl #[.string a1] rfl (by (try simp only [List.map_toArray, List.map_cons, List.map_nil]); first | done | rfl | (simp only [List.length_drop, List.length_take]; rfl)) ?_; (with_reducible refine (xansi_SetIconName.calls a1 t124 _ A6.out).mono ?_); rintro e w' ⟨rfl, ⟨nd, rfl⟩⟩; refine ⟨_, rfl, ?_⟩))
   go_ret
   exact ⟨by first | rfl | (simp; done) | (simp [*]; done), by repeat (first | exact Drawn0.refl _ | apply Drawn0.step)⟩
  ·rw [if_neg c5] at H
   have c5b0 : (a0 == 1) = false := beq_eq_false_iff_ne.mpr c5
   have c5b1 : (a0 != 1) = true := bne_iff_ne.mpr c5
   by_cases c7 : a0 = 2
   ·rw [if_pos c7] at H
    exact absurd H (by simp)
   ·rw [if_neg c7] at H
    have c7b0 : (a0 == 2) = false := beq_eq_false_iff_ne.mpr c7
    have c7b1 : (a0 != 2) = true := bne_iff_ne.mpr c7
    by_cases c8 : a0 = 3
    ·rw [if_pos c8] at H
     exact absurd H (by simp)
    ·rw [if_neg c8] at H
     have c8b0 : (a0 == 3) = false := beq_eq_false_iff_ne.mpr c8
     have c8b1 : (a0 != 3) = true := bne_iff_ne.mpr c8
     by_cases c9 : a0 = 4
     ·rw [if_pos c9] at H
      exact absurd H (by simp)
     ·rw [if_neg c9] at H
      have c9b0 : (a0 == 4) = false := beq_eq_false_iff_ne.mpr c9
      have c9b1 : (a0 != 4) = true := bne_iff_ne.mpr c9
      by_cases c10 : a0 = 5
      ·rw [if_pos c10] at H
       exact absurd H (by simp)
      ·rw [if_neg c10] at H
       have c10b0 : (a0 == 5) = false := beq_eq_false_iff_ne.mpr c10
       have c10b1 : (a0 != 5) = true := bne_iff_ne.mpr c10
       by_cases c11 : a0 = 6
       ·rw [if_pos c11] at H
        exact absurd H (by simp)
       ·rw [if_neg c11] at H
        have c11b0 : (a0 == 6) = false := beq_eq_false_iff_ne.mpr c11
        have c11b1 : (a0 != 6) = true := bne_iff_ne.mpr c11
        by_cases c12 : a0 = 7
        ·rw [if_pos c12] at H
         exact absurd H (by simp)
        ·rw [if_neg c12] at H
         have c12b0 : (a0 == 7) = false := beq_eq_false_iff_ne.mpr c12
         have c12b1 : (a0 != 7) = true := bne_iff_ne.mpr c12
         by_cases c13 : a0 = 8
         ·rw [if_pos c13] at H
          exact absurd H (by simp)
         ·rw [if_neg c13] at H
          have c13b0 : (a0 == 8) = false := beq_eq_false_iff_ne.mpr c13
          have c13b1 : (a0 != 8) = true := bne_iff_ne.mpr c13
          by_cases c14 : a0 = 9
          ·rw [if_pos c14] at H
           exact absurd H (by simp)
          ·rw [if_neg c14] at H
           have c14b0 : (a0 == 9) = false := beq_eq_false_iff_ne.mpr c14
           have c14b1 : (a0 != 9) = true := bne_iff_ne.mpr c14
           by_cases c15 : a0 = 10
           ·rw [if_pos c15] at H
            exact absurd H (by simp)
           ·rw [if_neg c15] at H
            have c15b0 : (a0 == 10) = false := beq_eq_false_iff_ne.mpr c15
            have c15b1 : (a0 != 10) = true := bne_iff_ne.mpr c15
            by_cases c16 : a0 = 11
            ·rw [if_pos c16] at H
             exact absurd H (by simp)
            ·rw [if_neg c16] at H
             have c16b0 : (a0 == 11) = false := beq_eq_false_iff_ne.mpr c16
             have c16b1 : (a0 != 11) = true := bne_iff_ne.mpr c16
             by_cases c17 : a0 = 12
             ·rw [if_pos c17] at H
              exact absurd H (by simp)
             ·rw [if_neg c17] at H
              have c17b0 : (a0 == 12) = false := beq_eq_false_iff_ne.mpr c17
              have c17b1 : (a0 != 12) = true := bne_iff_ne.mpr c17
              obtain rfl := Option.some.inj H
              go_enter Tryz.func9, Tryz.ntmps9
              go_wp2
              go_ret
              exact ⟨by first | rfl | (simp; done) | (simp [*]; done), by repeat (first | exact Drawn0.refl _ | apply Drawn0.step)⟩
/-! ### xansi_SetHyperlink: function 47 -/
def xansi_SetHyperlink.f (k : Nat) (a0 : ByteArray) (l1 : List ByteArray) : Option (ByteArray) := if (l1.length : Int) > 0 then ((xansi_zzJoin.f k l1 (⟨#[58]⟩ : ByteArray)).bind fun t126 => (if 4 + t126.size ≤ 9223372036854775807 then (if 4 + t126.size + 1 ≤ 9223372036854775807 then (if 4 + t126.size + 1 + a0.size ≤ 9223372036854775807 then (if 4 + t126.size + 1 + a0.size + 1 ≤ 9223372036854775807 then (some (((((⟨#[27, 93, 56, 59]⟩ : ByteArray) ++ t126) ++ (⟨#[59]⟩ : ByteArray)) ++ a0) ++ (⟨#[7]⟩ : ByteArray))) else (none)) else (none)) else (none)) else (none))) else (if 4 + 0 ≤ 9223372036854775807 then (if 4 + 0 + 1 ≤ 9223372036854775807 then (if 4 + 0 + 1 + a0.size ≤ 9223372036854775807 then (if 4 + 0 + 1 + a0.size + 1 ≤ 9223372036854775807 then (some (((((⟨#[27, 93, 56, 59]⟩ : ByteArray) ++ (⟨#[]⟩ : ByteArray)) ++ (⟨#[59]⟩ : ByteArray)) ++ a0) ++ (⟨#[7]⟩ : ByteArray))) else (none)) else (none)) else (none)) else (none))
set_option maxHeartbeats 8000000 in
set_option maxRecDepth 100000 in
theorem xansi_SetHyperlink.calls (k : Nat) (a0 : ByteArray) (A1 : Option Addr) (c1 : Nat) (l1 : List ByteArray) (r : ByteArray) (w : World) (hr1 : Kd.C Kd.string w A1 l1.length l1) (hc1 : l1.length ≤ c1) (h : xansi_SetHyperlink.f k a0 l1 = some r) :
  Calls Tryz.prog 47 #[.string a0, .slice A1 l1.length c1] w fun e w' => e = .returned (.string r) ∧ Drawn0 w w' := by
 have HR1 := Aside0.mk hr1
 have HC1 := Aside0.mk hc1
 clear hr1 hc1
 have H : (if (l1.length : Int) > 0 then ((xansi_zzJoin.f k l1 (⟨#[58]⟩ : ByteArray)).bind fun t126 => (if 4 + t126.size ≤ 9223372036854775807 then (if 4 + t126.size + 1 ≤ 9223372036854775807 then (if 4 + t126.size + 1 + a0.size ≤ 9223372036854775807 then (if 4 + t126.size + 1 + a0.size + 1 ≤ 9223372036854775807 then (some (((((⟨#[27, 93, 56, 59]⟩ : ByteArray) ++ t126) ++ (⟨#[59]⟩ : ByteArray)) ++ a0) ++ (⟨#[7]⟩ : ByteArray))) else (none)) else (none)) else (none)) else (none))) else (if 4 + 0 ≤ 9223372036854775807 then (if 4 + 0 + 1 ≤ 9223372036854775807 then (if 4 + 0 + 1 + a0.size ≤ 9223372036854775807 then (if 4 + 0 + 1 + a0.size + 1 ≤ 9223372036854775807 then (some (((((⟨#[27, 93, 56, 59]⟩ : ByteArray) ++ (⟨#[]⟩ : ByteArray)) ++ (⟨#[59]⟩ : ByteArray)) ++ a0) ++ (⟨#[7]⟩ : ByteArray))) else (none)) else (none)) else (none)) else (none))) = some r := h
 clear h
 by_cases c3 : (l1.length : Int) > 0
 ·rw [if_pos c3] at H
  have c3b0 : decide (0 < (l1.length : Int)) = true := decide_eq_true c3
  have c3b1 : decide (0 < l1.length) = true := decide_eq_true (by omega)
  clear c3
  replace H := Option.bind_eq_some_iff.mp H
  obtain ⟨t126, A40, H⟩ := H
  replace H : (if 4 + t126.size ≤ 9223372036854775807 then (if 4 + t126.size + 1 ≤ 9223372036854775807 then (if 4 + t126.size + 1 + a0.size ≤ 9223372036854775807 then (if 4 + t126.size + 1 + a0.size + 1 ≤ 9223372036854775807 then (some (((((⟨#[27, 93, 56, 59]⟩ : ByteArray) ++ t126) ++ (⟨#[59]⟩ : ByteArray)) ++ a0) ++ (⟨#[7]⟩ : ByteArray))) else (none)) else (none)) else (none)) else (none)) = some r := H
  have A4 := Aside0.mk A40
  clear A40
  by_cases c5 : 4 + t126.size ≤ 9223372036854775807
  ·rw [if_pos c5] at H
   have c5b0 := eq_true c5
   have c5b1 : decide (4 + t126.size ≤ 9223372036854775807) = true := decide_eq_true c5
   try have c5b2 : (9223372036854775807 < 4 + t126.size) = False := eq_false (Nat.not_lt.2 c5)
   by_cases c6 : 4 + t126.size + 1 ≤ 9223372036854775807
   ·rw [if_pos c6] at H
    have c6b0 := eq_true c6
    have c6b1 : decide (4 + t126.size + 1 ≤ 9223372036854775807) = true := decide_eq_true c6
    try have c6b2 : (9223372036854775807 < 4 + t126.size + 1) = False := eq_false (Nat.not_lt.2 c6)
    by_cases c7 : 4 + t126.size + 1 + a0.size ≤ 9223372036854775807
    ·rw [if_pos c7] at H
     have c7b0 := eq_true c7
     have c7b1 : decide (4 + t126.size + 1 + a0.size ≤ 9223372036854775807) = true := decide_eq_true c7
     try have c7b2 : (9223372036854775807 < 4 + t126.size + 1 + a0.size) = False := eq_false (Nat.not_lt.2 c7)
     by_cases c8 : 4 + t126.size + 1 + a0.size + 1 ≤ 9223372036854775807
     ·rw [if_pos c8] at H
      have c8b0 := eq_true c8
      have c8b1 : decide (4 + t126.size + 1 + a0.size + 1 ≤ 9223372036854775807) = true := decide_eq_true c8
      try have c8b2 : (9223372036854775807 < 4 + t126.size + 1 + a0.size + 1) = False := eq_false (Nat.not_lt.2 c8)
      obtain rfl := Option.some.inj H
      go_enter Tryz.func47, Tryz.ntmps47
      go_wp2_with (first | ((with_reducible refine gate_callee (f := 104) rfl ?_); refine goesL_ (some 10) rfl rfl Tryz.func104 (by kernel_rfl) rfl #[.slice A1 l1.length c1, .string (⟨#[58]⟩ : ByteArray)] rfl (by (try simp only [List.map_toArray, List.map_cons, List.map_nil]); first | done | rfl | (simp only [List.length_drop, List.length_take]; rfl)) ?_; (with_reducible refine (xansi_zzJoin.calls k _ _ l1 (⟨#[58]⟩ : ByteArray) t126 _ ?side1 ?side2 A4.out).mono ?_); (case side1 => repeat (first | exact HR1.out | (with_reducible refine Kd.C_alloc ?_ _) | (with_reducible refine Kd.C_drewN ?_ _) | (with_reducible refine Kd.C_drew ?_))); (case side2 => exact HC1.out); rintro e w' ⟨rfl, ⟨nd, rfl⟩⟩; refine ⟨_, rfl, ?_⟩))
      go_ret
      exact ⟨by first | rfl | (simp; done) | (simp [*]; done), by repeat (first | exact Drawn0.refl _ | apply Drawn0.step)⟩
     ·rw [if_neg c8] at H
      exact absurd H (by simp)
    ·rw [if_neg c7] at H
     exact absurd H (by simp)
   ·rw [if_neg c6] at H
    exact absurd H (by simp)
  ·rw [if_neg c5] at H
   exact absurd H (by simp)
 ·rw [if_neg c3] at H
  have c3b0 : decide (0 < (l1.length : Int)) = false := decide_eq_false c3
  have c3b1 : decide (0 < l1.length) = false := decide_eq_false (by omega)
  clear c3
  by_cases c9 : 4 + 0 ≤ 9223372036854775807
  ·rw [if_pos c9] at H
   have c9b0 := eq_true c9
   have c9b1 : decide (4 + 0 ≤ 9223372036854775807) = true := decide_eq_true c9
   try have c9b2 : (9223372036854775807 < 4 + 0) = False := eq_false (Nat.not_lt.2 c9)
   by_cases c10 : 4 + 0 + 1 ≤ 9223372036854775807
   ·rw [if_pos c10] at H
    have c10b0 := eq_true c10
    have c10b1 : decide (4 + 0 + 1 ≤ 9223372036854775807) = true := decide_eq_true c10
    try have c10b2 : (9223372036854775807 < 4 + 0 + 1) = False := eq_false (Nat.not_lt.2 c10)
    by_cases c11 : 4 + 0 + 1 + a0.size ≤ 9223372036854775807
    ·rw [if_pos c11] at H
     have c11b0 := eq_true c11
     have c11b1 : decide (4 + 0 + 1 + a0.size ≤ 9223372036854775807) = true := decide_eq_true c11
     try have c11b2 : (9223372036854775807 < 4 + 0 + 1 + a0.size) = False := eq_false (Nat.not_lt.2 c11)
     by_cases c12 : 4 + 0 + 1 + a0.size + 1 ≤ 9223372036854775807
     ·rw [if_pos c12] at H
      have c12b0 := eq_true c12
      have c12b1 : decide (4 + 0 + 1 + a0.size + 1 ≤ 9223372036854775807) = true := decide_eq_true c12
      try have c12b2 : (9223372036854775807 < 4 + 0 + 1 + a0.size + 1) = False := eq_false (Nat.not_lt.2 c12)
      obtain rfl := Option.some.inj H
      go_enter Tryz.func47, Tryz.ntmps47
      go_wp2
      go_ret
      exact ⟨by first | rfl | (simp; done) | (simp [*]; done), by repeat (first | exact Drawn0.refl _ | apply Drawn0.step)⟩
     ·rw [if_neg c12] at H
      exact absurd H (by simp)
    ·rw [if_neg c11] at H
     exact absurd H (by simp)
   ·rw [if_neg c10] at H
    exact absurd H (by simp)
  ·rw [if_neg c9] at H
   exact absurd H (by simp)
/-! ### xansi_ResetHyperlink: function 50 -/
def xansi_ResetHyperlink.f (k : Nat) (l0 : List ByteArray) : Option (ByteArray) := (xansi_SetHyperlink.f k (⟨#[]⟩ : ByteArray) l0).bind fun t127 => (some t127)
set_option maxHeartbeats 8000000 in
set_option maxRecDepth 100000 in
theorem xansi_ResetHyperlink.calls (k : Nat) (A0 : Option Addr) (c0 : Nat) (l0 : List ByteArray) (r : ByteArray) (w : World) (hr0 : Kd.C Kd.string w A0 l0.length l0) (hc0 : l0.length ≤ c0) (h : xansi_ResetHyperlink.f k l0 = some r) :
  Calls Tryz.prog 50 #[.slice A0 l0.length c0] w fun e w' => e = .returned (.string r) ∧ Drawn0 w w' := by
 have HR0 := Aside0.mk hr0
 have HC0 := Aside0.mk hc0
 clear hr0 hc0
 have H : ((xansi_SetHyperlink.f k (⟨#[]⟩ : ByteArray) l0).bind fun t127 => (some t127)) = some r := h
 clear h
 replace H := Option.bind_eq_some_iff.mp H
 obtain ⟨t127, A20, H⟩ := H
 replace H : (some t127) = some r := H
 have A2 := Aside0.mk A20
 clear A20
 obtain rfl := Option.some.inj H
 go_enter Tryz.func50, Tryz.ntmps50
 go_wp2_with (first | ((with_reducible refine gate_callee (f := 47) rfl ?_); refine goesL_ (some 4) rfl rfl Tryz.func47 (by kernel_rfl) rfl #[.string (⟨#[]⟩ : ByteArray), .slice A0 l0.length c0] rfl (by (try simp only [List.map_toArray, List.map_cons, List.map_nil]); first | done | rfl | (simp only [List.length_drop, List.length_take]; rfl)) ?_; (with_reducible refine (xansi_SetHyperlink.calls k (⟨#[]⟩ : ByteArray) _ _ l0 t127 _ ?side1 ?side2 A2.out).mono ?_); (case side1 => repeat (first | exact HR0.out | (with_reducible refine Kd.C_alloc ?_ _) | (with_reducible refine Kd.C_drewN ?_ _) | (with_reducible refine Kd.C_drew ?_))); (case side2 => exact HC0.out); rintro e w' ⟨rfl, ⟨nd, rfl⟩⟩; refine ⟨_, rfl, ?_⟩))
 go_ret
 exact ⟨by first | rfl | (simp; done) | (simp [*]; done), by repeat (first | exact Drawn0.refl _ | apply Drawn0.step)⟩
/-! ### impl_MakeTexts: function 11 -/
def impl_MakeTexts.f (k : Nat) (a0 : Int) (a1 : ByteArray) (l2 : List ByteArray) : Option (ByteArray) := if a0 = 0 then ((xansi_SetHyperlink.f k a1 l2).bind fun t128 => (some t128)) else (if a0 = 1 then (none) else (if a0 = 3 then (none) else (if a0 = 4 then ((xansi_ResetHyperlink.f k l2).bind fun t129 => (some t129)) else (if a0 = 5 then (none) else (if a0 = 6 then (none) else (if a0 = 7 then (none) else (if a0 = 8 then (none) else (if a0 = 9 then (none) else (if a0 = 10 then (none) else (some (⟨#[]⟩ : ByteArray)))))))))))
set_option maxHeartbeats 8000000 in
set_option maxRecDepth 100000 in
theorem impl_MakeTexts.calls (k : Nat) (a0 : Int) (a1 : ByteArray) (A2 : Option Addr) (c2 : Nat) (l2 : List ByteArray) (r : ByteArray) (w : World) (hr2 : Kd.C Kd.string w A2 l2.length l2) (hc2 : l2.length ≤ c2) (h : impl_MakeTexts.f k a0 a1 l2 = some r) :
  Calls Tryz.prog 11 #[.int .i64 a0, .string a1, .slice A2 l2.length c2] w fun e w' => e = .returned (.string r) ∧ Drawn0 w w' := by
 have HR2 := Aside0.mk hr2
 have HC2 := Aside0.mk hc2
 clear hr2 hc2
 have H : (if a0 = 0 then ((xansi_SetHyperlink.f k a1 l2).bind fun t128 => (some t128)) else (if a0 = 1 then (none) else (if a0 = 3 then (none) else (if a0 = 4 then ((xansi_ResetHyperlink.f k l2).bind fun t129 => (some t129)) else (if a0 = 5 then (none) else (if a0 = 6 then (none) else (if a0 = 7 then (none) else (if a0 = 8 then (none) else (if a0 = 9 then (none) else (if a0 = 10 then (none) else (some (⟨#[]⟩ : ByteArray)))))))))))) = some r := h
 clear h
 by_cases c4 : a0 = 0
 ·rw [if_pos c4] at H
  have c4b0 : (a0 == 0) = true := beq_iff_eq.mpr c4
  have c4b1 : (a0 != 0) = false := bne_eq_false_iff_eq.mpr c4
  clear c4
  replace H := Option.bind_eq_some_iff.mp H
  obtain ⟨t128, A50, H⟩ := H
  replace H : (some t128) = some r := H
  have A5 := Aside0.mk A50
  clear A50
  obtain rfl := Option.some.inj H
  go_enter Tryz.func11, Tryz.ntmps11
  go_wp2_with (first | ((with_reducible refine gate_callee (f := 47) rfl ?_); refine goesL_ (some 12) rfl rfl Tryz.func47 (by kernel_rfl) rfl #[.string a1, .slice A2 l2.length c2] rfl (by (try simp only [List.map_toArray, List.map_cons, List.map_nil]); first | done | rfl | (simp only [List.length_drop, List.length_take]; rfl)) ?_; (with_reducible refine (xansi_SetHyperlink.calls k a1 _ _ l2 t128 _ ?side1 ?side2 A5.out).mono ?_); (case side1 => repeat (first | exact HR2.out | (with_reducible refine Kd.C_alloc ?_ _) | (with_reducible refine Kd.C_drewN ?_ _) | (with_reducible refine Kd.C_drew ?_))); (case side2 => exact HC2.out); rintro e w' ⟨rfl, ⟨nd, rfl⟩⟩; refine ⟨_, rfl, ?_⟩))
  go_ret
  exact ⟨by first | rfl | (simp; done) | (simp [*]; done), by repeat (first | exact Drawn0.refl _ | apply Drawn0.step)⟩
 ·rw [if_neg c4] at H
  have c4b0 : (a0 == 0) = false := beq_eq_false_iff_ne.mpr c4
  have c4b1 : (a0 != 0) = true := bne_iff_ne.mpr c4
  by_cases c6 : a0 = 1
  ·rw [if_pos c6] at H
   exact absurd H (by simp)
  ·rw [if_neg c6] at H
   have c6b0 : (a0 == 1) = false := beq_eq_false_iff_ne.mpr c6
   have c6b1 : (a0 != 1) = true := bne_iff_ne.mpr c6
   by_cases c7 : a0 = 3
   ·rw [if_pos c7] at H
    exact absurd H (by simp)
   ·rw [if_neg c7] at H
    have c7b0 : (a0 == 3) = false := beq_eq_false_iff_ne.mpr c7
    have c7b1 : (a0 != 3) = true := bne_iff_ne.mpr c7
    by_cases c8 : a0 = 4
    ·rw [if_pos c8] at H
     have c8b0 : (a0 == 4) = true := beq_iff_eq.mpr c8
     have c8b1 : (a0 != 4) = false := bne_eq_false_iff_eq.mpr c8
     clear c8
     replace H := Option.bind_eq_some_iff.mp H
     obtain ⟨t129, A90, H⟩ := H
     replace H : (some t129) = some r := H
     have A9 := Aside0.mk A90
     clear A90
     obtain rfl := Option.some.inj H
     go_enter Tryz.func11, Tryz.ntmps11
     go_wp2_with (first | ((with_reducible refine gate_callee (f := 50) rfl ?_); refine goesL_ (some 26) rfl rfl Tryz.func50 (by kernel_rfl) rfl #[.slice A2 l2.length c2] rfl (by (try simp only [List.map_toArray, List.map_cons, List.map_nil]); first | done | rfl | (simp only [List.length_drop, List.length_take]; rfl)) ?_; (with_reducible refine (xansi_ResetHyperlink.calls k _ _ l2 t129 _ ?side1 ?side2 A9.out).mono ?_); (case side1 => repeat (first | exact HR2.out | (with_reducible refine Kd.C_alloc ?_ _) | (with_reducible refine Kd.C_drewN ?_ _) | (with_reducible refine Kd.C_drew ?_))); (case side2 => exact HC2.out); rintro e w' ⟨rfl, ⟨nd, rfl⟩⟩; refine ⟨_, rfl, ?_⟩))
     go_ret
     exact ⟨by first | rfl | (simp; done) | (simp [*]; done), by repeat (first | exact Drawn0.refl _ | apply Drawn0.step)⟩
    ·rw [if_neg c8] at H
     have c8b0 : (a0 == 4) = false := beq_eq_false_iff_ne.mpr c8
     have c8b1 : (a0 != 4) = true := bne_iff_ne.mpr c8
     by_cases c10 : a0 = 5
     ·rw [if_pos c10] at H
      exact absurd H (by simp)
     ·rw [if_neg c10] at H
      have c10b0 : (a0 == 5) = false := beq_eq_false_iff_ne.mpr c10
      have c10b1 : (a0 != 5) = true := bne_iff_ne.mpr c10
      by_cases c11 : a0 = 6
      ·rw [if_pos c11] at H
       exact absurd H (by simp)
      ·rw [if_neg c11] at H
       have c11b0 : (a0 == 6) = false := beq_eq_false_iff_ne.mpr c11
       have c11b1 : (a0 != 6) = true := bne_iff_ne.mpr c11
       by_cases c12 : a0 = 7
       ·rw [if_pos c12] at H
        exact absurd H (by simp)
       ·rw [if_neg c12] at H
        have c12b0 : (a0 == 7) = false := beq_eq_false_iff_ne.mpr c12
        have c12b1 : (a0 != 7) = true := bne_iff_ne.mpr c12
        by_cases c13 : a0 = 8
        ·rw [if_pos c13] at H
         exact absurd H (by simp)
        ·rw [if_neg c13] at H
         have c13b0 : (a0 == 8) = false := beq_eq_false_iff_ne.mpr c13
         have c13b1 : (a0 != 8) = true := bne_iff_ne.mpr c13
         by_cases c14 : a0 = 9
         ·rw [if_pos c14] at H
          exact absurd H (by simp)
         ·rw [if_neg c14] at H
          have c14b0 : (a0 == 9) = false := beq_eq_false_iff_ne.mpr c14
          have c14b1 : (a0 != 9) = true := bne_iff_ne.mpr c14
          by_cases c15 : a0 = 10
          ·rw [if_pos c15] at H
           exact absurd H (by simp)
          ·rw [if_neg c15] at H
           have c15b0 : (a0 == 10) = false := beq_eq_false_iff_ne.mpr c15
           have c15b1 : (a0 != 10) = true := bne_iff_ne.mpr c15
           obtain rfl := Option.some.inj H
           go_enter Tryz.func11, Tryz.ntmps11
           go_wp2
           go_ret
           exact ⟨by first | rfl | (simp; done) | (simp [*]; done), by repeat (first | exact Drawn0.refl _ | apply Drawn0.step)⟩
end Go.Proofs.YteebhoehflgfoaaGreatDoor.Y
end
