/- Texts of this claim, joined: XModes Y78D. Of each, what the claim uses. -/
import Derived.Test.YtjkjnhcnmjknmaaGreatDoorKModesa
import Derived.Lib.Hide
section
namespace Go.Proofs.YtjkjnhcnmjknmaaGreatDoor.Y
open Go.RowKit Go.Proofs.YtjkjnhcnmjknmaaGreatDoorW.PrintWords Go.Proofs.YtjkjnhcnmjknmaaGreatDoorW.PrintLast Go.Proofs.YtjkjnhcnmjknmaaGreatDoorW.PrintMore
set_option linter.unusedSimpArgs false
set_option linter.unusedVariables false
abbrev Mo2 := Bool × Int
theorem modeV_one (m : Mo2) : (modeV m.1 m.2).oneCell' = true := by
  unfold modeV
  split <;> rfl
/-- A row of modes, as interface values. -/
def kMode : Kd Mo2 := Kd.scalar (fun m : Mo2 => modeV m.1 m.2) modeV_one
def pairOf (m : S23) : Mo2 := (m.f0, m.f1)
theorem infoM : (Tryz.prog.info? 75).map (fun i => (i.zero, i.size, i.bytes)) = some (some .nilIface, 1, 16) := by kernel_rfl
set_option maxRecDepth 100000 in
set_option maxHeartbeats 2000000 in
theorem modesOf_calls (A0 : Option Addr) (c0 : Nat) (l : List S23) (w : World) (hr : Kd.C k23 w A0 l.length l) (hc : l.length ≤ c0) (hl : l.length ≤ 1000) :
    Calls Tryz.prog 40 #[.slice A0 l.length c0] w fun e w' => ∃ v : Value, e = .returned v ∧ Kd.R kMode 75 w' w.heap.size (fun _ => True) v (l.map pairOf) ∧ Below w.heap.size w w' := by
  have HR := Lib.hid hr
  have HL := Lib.hid hl
  clear hr
  go_enter Tryz.func40, Tryz.ntmps40
  go_wp2_with fail
  go_loopg [3, 8] (l.length + 1) (fun kq v3 v8 w' => ∃ i : Nat, v8 = .int .i64 (i : Int) ∧ kq = l.length + 1 - i ∧ i ≤ l.length ∧ Hid (Kd.R kMode 75 w' w.heap.size (fun _ => True) v3 ((l.take i).map pairOf)) ∧ Hid (Below w.heap.size w w'))
  case atStart => exact ⟨0, rfl, rfl, by omega, Kd.R_nil _ _ _ _ _, Below.refl _ _⟩
  case round =>
    obtain ⟨i, rfl, hk, hi3, HO, HB⟩ := hrel
    by_cases hi : i < l.length
    · have c1 : decide ((i : Int) < (l.length : Int)) = true := decide_eq_true (by omega)
      have c2 : (0 : Int) ≤ (i : Int) := by omega
      have c3 : (i : Int) < (l.length : Int) := by omega
      have c4 : ((i : Int)).toNat = i := by omega
      obtain ⟨ad, ea, hx0, hx1⟩ := at_T23 HR.out (i : Int) c2 c3
      subst ea
      rw [c4] at hx0 hx1
      have hrd : rd_T23 l (i : Int) = l[i] := by simp [rd_T23, hi]
      rw [hrd] at hx0 hx1
      replace hx0 := (HB.out.cell (World.block_lt_of_cell? w _ hx0)).trans hx0
      replace hx1 := (HB.out.cell (World.block_lt_of_cell? w _ hx1)).trans hx1
      have HK := Lib.hid (And.intro hk hi3)
      clear hk hi3 hrd
      go_wp2_with fail
      refine (modeOf_calls l[i].f0 l[i].f1 _).mono ?_
      rintro e w1 ⟨rfl, hb⟩
      have hB1 : Below wr.heap.size wr w1 := (below_alloc (Below.refl _ wr) _).trans (hb.mono (Nat.le_trans (Nat.le_refl _) (by first | exact Nat.le_succ _ | simp)))
      have hB2 : Below w.heap.size w w1 := HB.out.trans (hB1.mono HB.out.size)
      have hO1 := Kd.R_below HO.out hB1
      have HB2 := Lib.hid hB2
      have HO2 := Lib.hid hO1
      clear hB1 hB2 hO1 HB HO hb
      have fin : ∀ (v6 : Value) (w6 : World), Hid (Kd.R kMode 75 w6 w.heap.size (fun _ => True) v6 ((l.take i).map pairOf ++ [pairOf l[i]])) → Hid (Kd.R kMode 75 w6 w.heap.size (fun _ => True) v6 ((l.take (i + 1)).map pairOf)) := fun v6 w6 e => by
        have e2 : (l.take (i + 1)).map pairOf = (l.take i).map pairOf ++ [pairOf l[i]] := by rw [List.take_succ_eq_append_getElem hi, List.map_append]; rfl
        rw [e2]
        exact e
      have fin := Lib.hid fin
      rcases Bool.eq_false_or_eq_true l[i].f0 with hd | hd
      · have HM : Hid (modeV (pairOf l[i]).1 (pairOf l[i]).2 = .iface 115 (.int .i64 l[i].f1)) := by show modeV l[i].f0 l[i].f1 = _; rw [hd]; rfl
        have HV : modeV l[i].f0 l[i].f1 = .iface 115 (.int .i64 l[i].f1) := by rw [hd]; rfl
        rw [HV]
        clear HV hd
        go_wp2_with (first | ((with_reducible refine gate_builtin (b := .append) (xs := #[.tmp 12, .tmp 15]) rfl ?_); at_builtin; refine Kd.R_append kMode (w0 := w) w.heap.size rfl (.tmp 12) (.tmp 15) 82 75 .nilIface 16 rfl Tryz.underlying82 infoM rfl (by decide) (by omega) _ ((l.take i).map pairOf) (pairOf l[i]) [.iface 115 (.int .i64 l[i].f1)] (fun _ => True) (fun _ => False) rfl rfl ?aP (fun _ hk => hk.elim) ?aF ?aO ?aB ?aS ?aL ?_; (case aP => exact (by show [_] = [modeV (pairOf l[i]).1 (pairOf l[i]).2]; rw [HM.out])); (case aB => exact HB2.out); (case aF => exact (fun _ _ => trivial)); (case aO => exact HO2.out); (case aS => exact (below_size HB2.out)); (case aL => have := HL.out; simp only [List.length_map, List.length_take]; omega); intro v103 w6 ho hb hg hat; have HO := Lib.hid ho; have HB := Lib.hid hb; clear ho hb hg hat))
        go_roundg (l.length + 1 - (i + 1))
        case measure => have := HK.out; omega
        case rel => exact ⟨i + 1, by simp, rfl, by omega, fin.out _ _ HO, HB.out⟩
      · have HM : Hid (modeV (pairOf l[i]).1 (pairOf l[i]).2 = .iface 117 (.int .i64 l[i].f1)) := by show modeV l[i].f0 l[i].f1 = _; rw [hd]; rfl
        have HV : modeV l[i].f0 l[i].f1 = .iface 117 (.int .i64 l[i].f1) := by rw [hd]; rfl
        rw [HV]
        clear HV hd
        go_wp2_with (first | ((with_reducible refine gate_builtin (b := .append) (xs := #[.tmp 12, .tmp 15]) rfl ?_); at_builtin; refine Kd.R_append kMode (w0 := w) w.heap.size rfl (.tmp 12) (.tmp 15) 82 75 .nilIface 16 rfl Tryz.underlying82 infoM rfl (by decide) (by omega) _ ((l.take i).map pairOf) (pairOf l[i]) [.iface 117 (.int .i64 l[i].f1)] (fun _ => True) (fun _ => False) rfl rfl ?aP (fun _ hk => hk.elim) ?aF ?aO ?aB ?aS ?aL ?_; (case aP => exact (by show [_] = [modeV (pairOf l[i]).1 (pairOf l[i]).2]; rw [HM.out])); (case aB => exact HB2.out); (case aF => exact (fun _ _ => trivial)); (case aO => exact HO2.out); (case aS => exact (below_size HB2.out)); (case aL => have := HL.out; simp only [List.length_map, List.length_take]; omega); intro v103 w6 ho hb hg hat; have HO := Lib.hid ho; have HB := Lib.hid hb; clear ho hb hg hat))
        go_roundg (l.length + 1 - (i + 1))
        case measure => have := HK.out; omega
        case rel => exact ⟨i + 1, by simp, rfl, by omega, fin.out _ _ HO, HB.out⟩
    · have c1 : decide ((i : Int) < (l.length : Int)) = false := decide_eq_false (by omega)
      go_wp2_with fail
      go_ret
      have e0 := HO.out
      rw [List.take_of_length_le (by omega)] at e0
      exact ⟨_, rfl, e0, HB.out⟩
/-- A number's text. -/
def tx (m : Mo2) : ByteArray := ⟨(Lib.itoa m.2).toArray⟩
def NumOk (m : Mo2) : Prop := strconv_Itoa.f m.2 = some (tx m) ∧ (tx m).size ≤ 1000
def decs (ms : List Mo2) : List ByteArray := (ms.filter (fun m => m.1)).map tx
def ansis (ms : List Mo2) : List ByteArray := (ms.filter (fun m => !m.1)).map tx
def cmdB (r : Bool) : ByteArray := if r then ⟨#[108]⟩ else ⟨#[104]⟩
def soloT (r : Bool) (m : Mo2) : ByteArray := if m.1 then (((⟨#[27, 91]⟩ : ByteArray) ++ (⟨#[63]⟩ : ByteArray)) ++ tx m) ++ cmdB r else ((⟨#[27, 91]⟩ : ByteArray) ++ tx m) ++ cmdB r
def manyT (r : Bool) (hasA hasD : Bool) (ja jd : ByteArray) : ByteArray :=
  let s1 : ByteArray := if hasA then (⟨#[]⟩ : ByteArray) ++ (((⟨#[27, 91]⟩ : ByteArray) ++ ja) ++ cmdB r) else ⟨#[]⟩
  if hasD then s1 ++ ((((⟨#[27, 91]⟩ : ByteArray) ++ (⟨#[63]⟩ : ByteArray)) ++ jd) ++ cmdB r) else s1
theorem at_mode {w : World} {A : Option Addr} {n : Nat} {xs : List Mo2} (h : kMode.C w A n xs) (i : Int) (h0 : 0 ≤ i) (h1 : i < n) : ∃ ad, A = some ad ∧ w.cell? (ad.add i.toNat) = some (modeV (rdOf (false, 0) xs i).1 (rdOf (false, 0) xs i).2) :=
  ReadsOf.at_ (Kd.reads_of_C (enc := fun m : Mo2 => modeV m.1 m.2) (d := ((false, 0) : Mo2)) (h1 := modeV_one) h) i h0 h1
attribute [local go_sem] as_dec as_ansi as_ansi2
set_option maxRecDepth 100000 in
set_option maxHeartbeats 2000000 in
theorem setMode_solo (r : Bool) (A0 : Option Addr) (c0 : Nat) (m : Mo2) (w : World) (hT : XTab w) (hr : Kd.C kMode w A0 1 [m]) (hc : 1 ≤ c0) (hm : NumOk m) :
    Calls Tryz.prog 112 #[.bool r, .slice A0 1 c0] w fun e w' => e = .returned (.string (soloT r m)) ∧ Below w.heap.size w w' := by
  obtain ⟨ad, ea, hx⟩ := at_mode hr 0 (by omega) (by omega)
  subst ea
  have hx2 : w.cell? ad = some (modeV m.1 m.2) := by simpa [rdOf, Addr.add] using hx
  have HI := Lib.hid (strconv_Itoa.calls m.2 (tx m) w hT hm.1)
  have hs := hm.2
  clear hr hx hT hm
  obtain ⟨d, n⟩ := m
  cases r <;> cases d
  · replace hx2 : w.cell? ad = some (.iface 117 (.int .i64 n)) := hx2
    go_enter Tryz.func112, Tryz.ntmps112
    go_wp2_with fail
    refine (mode_ansi n _).mono ?_
    rintro e w0 ⟨rfl, rfl⟩
    go_wp2_with fail
    refine HI.out.mono ?_
    rintro e w1 ⟨rfl, hb⟩
    go_wp2_with fail
    go_ret
    exact ⟨rfl, hb⟩
  · replace hx2 : w.cell? ad = some (.iface 115 (.int .i64 n)) := hx2
    go_enter Tryz.func112, Tryz.ntmps112
    go_wp2_with fail
    refine (mode_dec n _).mono ?_
    rintro e w0 ⟨rfl, rfl⟩
    go_wp2_with fail
    refine HI.out.mono ?_
    rintro e w1 ⟨rfl, hb⟩
    go_wp2_with fail
    go_ret
    exact ⟨rfl, hb⟩
  · replace hx2 : w.cell? ad = some (.iface 117 (.int .i64 n)) := hx2
    go_enter Tryz.func112, Tryz.ntmps112
    go_wp2_with fail
    refine (mode_ansi n _).mono ?_
    rintro e w0 ⟨rfl, rfl⟩
    go_wp2_with fail
    refine HI.out.mono ?_
    rintro e w1 ⟨rfl, hb⟩
    go_wp2_with fail
    go_ret
    exact ⟨rfl, hb⟩
  · replace hx2 : w.cell? ad = some (.iface 115 (.int .i64 n)) := hx2
    go_enter Tryz.func112, Tryz.ntmps112
    go_wp2_with fail
    refine (mode_dec n _).mono ?_
    rintro e w0 ⟨rfl, rfl⟩
    go_wp2_with fail
    refine HI.out.mono ?_
    rintro e w1 ⟨rfl, hb⟩
    go_wp2_with fail
    go_ret
    exact ⟨rfl, hb⟩
/-- Two rows of texts, apart. -/
def Two (w0 w : World) (v7 v8 : Value) (D A : List ByteArray) : Prop :=
  Kd.R Kd.string 9 w w0.heap.size (fun _ => True) v7 D ∧ Kd.R Kd.string 9 w w0.heap.size (fun _ => True) v8 A ∧ v7.ownBlock ≠ v8.ownBlock ∧ (∃ b, v7.ownBlock = some b) ∧ (∃ b, v8.ownBlock = some b) ∧ Below w0.heap.size w0 w
theorem two_below {w0 w w1 : World} {v7 v8 : Value} {D A : List ByteArray} (h : Two w0 w v7 v8 D A) (hb : Below w.heap.size w w1) : Two w0 w1 v7 v8 D A :=
  ⟨Kd.R_below h.1 hb, Kd.R_below h.2.1 hb, h.2.2.1, h.2.2.2.1, h.2.2.2.2.1, h.2.2.2.2.2.trans (hb.mono h.2.2.2.2.2.size)⟩
theorem two_left {w0 w w1 : World} {v7 v8 v : Value} {D A D' : List ByteArray} (h : Two w0 w v7 v8 D A) (ho : Kd.R Kd.string 9 w1 w0.heap.size (fun _ => True) v D') (hb : Below w0.heap.size w0 w1) (hg : w.grownBy w1 v7.ownBlock)
    (hat : v.ownBlock = v7.ownBlock ∨ ∃ b, v.ownBlock = some b ∧ w.heap.size ≤ b) : Two w0 w1 v v8 D' A := by
  obtain ⟨h1, h2, h3, ⟨b7, h4⟩, ⟨b8, h5⟩, h6⟩ := h
  refine ⟨ho, Kd.R_grown1 h2 rfl hg h3, ?_, ?_, ⟨b8, h5⟩, hb⟩
  · rcases hat with e | ⟨b, e, hl⟩
    · rw [e]; exact h3
    · have := Kd.R_lt h2 b8 h5
      rw [e, h5]
      intro e2
      injection e2 with e2
      omega
  · rcases hat with e | ⟨b, e, _⟩
    · exact ⟨b7, e.trans h4⟩
    · exact ⟨b, e⟩
theorem two_right {w0 w w1 : World} {v7 v8 v : Value} {D A A' : List ByteArray} (h : Two w0 w v7 v8 D A) (ho : Kd.R Kd.string 9 w1 w0.heap.size (fun _ => True) v A') (hb : Below w0.heap.size w0 w1) (hg : w.grownBy w1 v8.ownBlock)
    (hat : v.ownBlock = v8.ownBlock ∨ ∃ b, v.ownBlock = some b ∧ w.heap.size ≤ b) : Two w0 w1 v7 v D A' := by
  obtain ⟨h1, h2, h3, ⟨b7, h4⟩, ⟨b8, h5⟩, h6⟩ := h
  refine ⟨Kd.R_grown1 h1 rfl hg (fun e => h3 e.symm), ho, ?_, ⟨b7, h4⟩, ?_, hb⟩
  · rcases hat with e | ⟨b, e, hl⟩
    · rw [e]; exact h3
    · have := Kd.R_lt h1 b7 h4
      rw [e, h4]
      intro e2
      injection e2 with e2
      omega
  · rcases hat with e | ⟨b, e, _⟩
    · exact ⟨b8, e.trans h5⟩
    · exact ⟨b, e⟩
theorem two_new {w0 w w1 : World} {v7 v8 : Value} (h7 : Kd.R Kd.string 9 w w0.heap.size (fun _ => True) v7 []) (o7 : ∃ b, v7.ownBlock = some b ∧ w0.heap.size ≤ b) (h8 : Kd.R Kd.string 9 w1 w0.heap.size (fun _ => True) v8 []) (hb : Below w0.heap.size w0 w1) (hg : w.grownBy w1 none)
    (o8 : ∃ b, v8.ownBlock = some b ∧ w.heap.size ≤ b) : Two w0 w1 v7 v8 [] [] := by
  obtain ⟨b7, h4, _⟩ := o7
  obtain ⟨b8, h5, hl⟩ := o8
  refine ⟨Kd.R_grown1 h7 rfl hg (by rw [h4]; simp), h8, ?_, ⟨b7, h4⟩, ⟨b8, h5⟩, hb⟩
  have := Kd.R_lt h7 b7 h4
  rw [h4, h5]
  intro e2
  injection e2 with e2
  omega
theorem infoS : (Tryz.prog.info? 9).map (fun i => (i.zero, i.size, i.bytes)) = some (some (.string ⟨#[]⟩), 1, 16) := by kernel_rfl
theorem decs_up (ms : List Mo2) (i : Nat) (hi : i < ms.length) (h : ms[i].1 = true) : decs (ms.take (i + 1)) = decs (ms.take i) ++ [tx ms[i]] ∧ ansis (ms.take (i + 1)) = ansis (ms.take i) := by
  unfold decs ansis
  rw [List.take_succ_eq_append_getElem hi, List.filter_append, List.filter_append, List.map_append, List.map_append]
  simp [h]
theorem ansis_up (ms : List Mo2) (i : Nat) (hi : i < ms.length) (h : ms[i].1 = false) : ansis (ms.take (i + 1)) = ansis (ms.take i) ++ [tx ms[i]] ∧ decs (ms.take (i + 1)) = decs (ms.take i) := by
  unfold decs ansis
  rw [List.take_succ_eq_append_getElem hi, List.filter_append, List.filter_append, List.map_append, List.map_append]
  simp [h]
theorem decs_len (ms : List Mo2) : (decs ms).length ≤ ms.length ∧ (ansis ms).length ≤ ms.length := ⟨by unfold decs; rw [List.length_map]; exact List.length_filter_le _ _, by unfold ansis; rw [List.length_map]; exact List.length_filter_le _ _⟩
set_option maxRecDepth 100000 in
set_option maxHeartbeats 4000000 in
theorem setMode_many_false (A0 : Option Addr) (c0 : Nat) (ms : List Mo2) (w : World) (hT : XTab w) (hr : Kd.C kMode w A0 ms.length ms) (hc : ms.length ≤ c0) (h2 : 2 ≤ ms.length) (hl : ms.length ≤ 1000) (hm : ∀ m ∈ ms, NumOk m)
    (k : Nat) (ja jd : ByteArray) (hja : Q.xansi_zzJoin.f k (ansis ms) ⟨#[59]⟩ = some ja) (hjd : Q.xansi_zzJoin.f k (decs ms) ⟨#[59]⟩ = some jd) (hza : ja.size ≤ 10000000) (hzd : jd.size ≤ 10000000) :
    Calls Tryz.prog 112 #[.bool false, .slice A0 ms.length c0] w fun e w' => e = .returned (.string (manyT false (!(ansis ms).isEmpty) (!(decs ms).isEmpty) ja jd)) ∧ Below w.heap.size w w' := by
  have HR := Lib.hid hr
  have HT := Lib.hid (And.intro hT hm)
  have HJ := Lib.hid (And.intro hja hjd)
  clear hr hT hm hja hjd
  have c1 : ((ms.length : Int) == 0) = false := by rw [beq_eq_false_iff_ne]; omega
  have c2 : ((ms.length : Int) == 1) = false := by rw [beq_eq_false_iff_ne]; omega
  have HB := Lib.hid (Below.refl w.heap.size w)
  go_enter Tryz.func112, Tryz.ntmps112
  go_wp2_with (first
    | ((with_reducible refine gate_dst (N := 39) rfl ?_); refine Kd.R_make0 Kd.string (w0 := w) w.heap.size 9 rfl (N := 39) rfl 49 _ _ rfl ((ms.length : Int) / 2) rfl rfl Tryz.underlying49 (.string ⟨#[]⟩) 16 infoS rfl (by decide) (by omega) (ok := fun _ => True) (okp := fun _ => True) (fun _ hk => hk) trivial (by omega) (by omega) (Below.refl _ _) (Nat.le_refl _) ?_; intro v7 w1 h7 hb7 hg7 o7; have H7 := Lib.hid (And.intro h7 o7); have HB := Lib.hid hb7; clear h7 hb7 hg7 o7)
    | ((with_reducible refine gate_dst (N := 43) rfl ?_); refine Kd.R_make0 Kd.string (w0 := w) w.heap.size 9 rfl (N := 43) rfl 49 _ _ rfl ((ms.length : Int) / 2) rfl rfl Tryz.underlying49 (.string ⟨#[]⟩) 16 infoS rfl (by decide) (by omega) (ok := fun _ => True) (okp := fun _ => True) (fun _ hk => hk) trivial (by omega) (by omega) HB.out (below_size HB.out) ?_; intro v8 w2 h8 hb8 hg8 o8; have H8 := Lib.hid (two_new H7.out.1 H7.out.2 h8 hb8 hg8 o8); clear h8 hb8 hg8 o8 H7 HB))
  go_loopg [7, 8, 46] (ms.length + 1) (fun kq v7 v8 v46 w' => ∃ i : Nat, v46 = .int .i64 (i : Int) ∧ kq = ms.length + 1 - i ∧ i ≤ ms.length ∧ Hid (Two w w' v7 v8 (decs (ms.take i)) (ansis (ms.take i))))
  case atStart => exact ⟨0, rfl, rfl, by omega, H8⟩
  case round =>
    obtain ⟨i, rfl, hk, hi3, HO⟩ := hrel
    by_cases hi : i < ms.length
    · have c3 : decide ((i : Int) < (ms.length : Int)) = true := decide_eq_true (by omega)
      have c4 : (0 : Int) ≤ (i : Int) := by omega
      have c5 : (i : Int) < (ms.length : Int) := by omega
      obtain ⟨ad, ea, hx⟩ := at_mode HR.out (i : Int) c4 c5
      subst ea
      rw [Int.toNat_natCast] at hx
      have hrd : rdOf ((false, 0) : Mo2) ms (i : Int) = ms[i] := by simp [rdOf, hi]
      rw [hrd] at hx
      replace hx := (HO.out.2.2.2.2.2.cell (World.block_lt_of_cell? w _ hx)).trans hx
      have HK := Lib.hid (And.intro hk hi3)
      have hnum := HT.out.2 ms[i] (List.getElem_mem hi)
      have HN := Lib.hid hnum
      clear hk hi3 hrd hnum
      rcases Bool.eq_false_or_eq_true ms[i].1 with hd | hd
      · have hv : modeV ms[i].1 ms[i].2 = .iface 115 (.int .i64 ms[i].2) := by rw [hd]; rfl
        rw [hv] at hx
        have HU := Lib.hid (decs_up ms i hi hd)
        clear hv hd
        go_wp2_with fail
        refine (mode_dec ms[i].2 _).mono ?_
        rintro e w5 ⟨rfl, rfl⟩
        go_wp2_with fail
        refine (strconv_Itoa.calls ms[i].2 (tx ms[i]) _ (HT.out.1.below HO.out.2.2.2.2.2) HN.out.1).mono ?_
        rintro e w6 ⟨rfl, hb⟩
        have HO6 := Lib.hid (two_below HO.out hb)
        clear HO hb
        go_wp2_with (first | ((with_reducible refine gate_builtin (b := .append) (xs := #[.tmp 54, .tmp 58]) rfl ?_); at_builtin; refine Kd.R_append Kd.string (w0 := w) w.heap.size rfl (.tmp 54) (.tmp 58) 49 9 (.string ⟨#[]⟩) 16 rfl Tryz.underlying49 infoS rfl (by decide) (by omega) _ (decs (ms.take i)) (tx ms[i]) [.string (tx ms[i])] (fun _ => True) (fun _ => False) rfl rfl ?aP (fun _ hk => hk.elim) ?aF ?aO ?aB ?aS ?aL ?_; (case aP => exact rfl); (case aB => exact HO6.out.2.2.2.2.2); (case aF => exact (fun _ _ => trivial)); (case aO => exact HO6.out.1); (case aS => exact (below_size HO6.out.2.2.2.2.2)); (case aL => have := (decs_len (ms.take i)).1; have := hl; rw [List.length_take] at *; omega); intro v9 w7 ho hb hg hat; have HO7 := Lib.hid (two_left HO6.out ho hb hg hat); clear ho hb hg hat))
        go_roundg (ms.length + 1 - (i + 1))
        case measure => have := HK.out; omega
        case rel => exact ⟨i + 1, by simp, rfl, by omega, (by have e := HO7.out; rw [← HU.out.1, ← HU.out.2] at e; exact e)⟩
      · have hv : modeV ms[i].1 ms[i].2 = .iface 117 (.int .i64 ms[i].2) := by rw [hd]; rfl
        rw [hv] at hx
        have HU := Lib.hid (ansis_up ms i hi hd)
        clear hv hd
        go_wp2_with fail
        refine (mode_ansi ms[i].2 _).mono ?_
        rintro e w5 ⟨rfl, rfl⟩
        go_wp2_with fail
        refine (strconv_Itoa.calls ms[i].2 (tx ms[i]) _ (HT.out.1.below HO.out.2.2.2.2.2) HN.out.1).mono ?_
        rintro e w6 ⟨rfl, hb⟩
        have HO6 := Lib.hid (two_below HO.out hb)
        clear HO hb
        go_wp2_with (first | ((with_reducible refine gate_builtin (b := .append) (xs := #[.tmp 63, .tmp 67]) rfl ?_); at_builtin; refine Kd.R_append Kd.string (w0 := w) w.heap.size rfl (.tmp 63) (.tmp 67) 49 9 (.string ⟨#[]⟩) 16 rfl Tryz.underlying49 infoS rfl (by decide) (by omega) _ (ansis (ms.take i)) (tx ms[i]) [.string (tx ms[i])] (fun _ => True) (fun _ => False) rfl rfl ?aP (fun _ hk => hk.elim) ?aF ?aO ?aB ?aS ?aL ?_; (case aP => exact rfl); (case aB => exact HO6.out.2.2.2.2.2); (case aF => exact (fun _ _ => trivial)); (case aO => exact HO6.out.2.1); (case aS => exact (below_size HO6.out.2.2.2.2.2)); (case aL => have := (decs_len (ms.take i)).2; have := hl; rw [List.length_take] at *; omega); intro v9 w7 ho hb hg hat; have HO7 := Lib.hid (two_right HO6.out ho hb hg hat); clear ho hb hg hat))
        go_roundg (ms.length + 1 - (i + 1))
        case measure => have := HK.out; omega
        case rel => exact ⟨i + 1, by simp, rfl, by omega, (by have e := HO7.out; rw [← HU.out.1, ← HU.out.2] at e; exact e)⟩
    · have c3 : decide ((i : Int) < (ms.length : Int)) = false := decide_eq_false (by omega)
      have hO := HO.out
      rw [List.take_of_length_le (by omega)] at hO
      obtain ⟨p1, p2, p3, p4, p5, p6⟩ := hO
      obtain ⟨A7, c7, rfl⟩ := Kd.R_slice p1
      obtain ⟨A8, c8, rfl⟩ := Kd.R_slice p2
      have P7 := Lib.hid (Kd.R_reads' p1).2
      have P8 := Lib.hid (Kd.R_reads' p2).2
      have P6 := Lib.hid p6
      clear p1 p2 p3 p4 p5 p6 HO
      by_cases ea : (ansis ms) = []
      · have d1 : decide (((ansis ms).length : Int) > 0) = false := decide_eq_false (by rw [ea]; simp)
        have d2 : decide (0 < (ansis ms).length) = false := decide_eq_false (by rw [ea]; simp)
        have e1 : (ansis ms).isEmpty = true := by rw [ea]; rfl
        by_cases ed : (decs ms) = []
        · have d3 : decide (0 < (decs ms).length) = false := decide_eq_false (by rw [ed]; simp)
          have e2 : (decs ms).isEmpty = true := by rw [ed]; rfl
          go_wp2_with fail
          go_ret
          exact ⟨by rw [e1, e2]; rfl, P6.out⟩
        · have d3 : decide (0 < (decs ms).length) = true := decide_eq_true (List.length_pos_iff.2 ed)
          have e2 : (decs ms).isEmpty = false := by rw [List.isEmpty_eq_false_iff]; exact ed
          go_wp2_with fail
          refine (Q.xansi_zzJoin.calls k _ _ (decs ms) ⟨#[59]⟩ jd _ P7.out.2 P7.out.1 HJ.out.2).mono ?_
          rintro e w8 ⟨rfl, ⟨nd, rfl⟩⟩
          go_wp2_with fail
          go_ret
          exact ⟨by rw [e1, e2]; rfl, pw_below_drewN P6.out nd⟩
      · have d2 : decide (0 < (ansis ms).length) = true := decide_eq_true (List.length_pos_iff.2 ea)
        have e1 : (ansis ms).isEmpty = false := by rw [List.isEmpty_eq_false_iff]; exact ea
        by_cases ed : (decs ms) = []
        · have d3 : decide (0 < (decs ms).length) = false := decide_eq_false (by rw [ed]; simp)
          have e2 : (decs ms).isEmpty = true := by rw [ed]; rfl
          go_wp2_with fail
          refine (Q.xansi_zzJoin.calls k _ _ (ansis ms) ⟨#[59]⟩ ja _ P8.out.2 P8.out.1 HJ.out.1).mono ?_
          rintro e w8 ⟨rfl, ⟨nd, rfl⟩⟩
          go_wp2_with fail
          go_ret
          exact ⟨by rw [e1, e2]; rfl, pw_below_drewN P6.out nd⟩
        · have d3 : decide (0 < (decs ms).length) = true := decide_eq_true (List.length_pos_iff.2 ed)
          have e2 : (decs ms).isEmpty = false := by rw [List.isEmpty_eq_false_iff]; exact ed
          go_wp2_with fail
          refine (Q.xansi_zzJoin.calls k _ _ (ansis ms) ⟨#[59]⟩ ja _ P8.out.2 P8.out.1 HJ.out.1).mono ?_
          rintro e w8 ⟨rfl, ⟨nd, rfl⟩⟩
          go_wp2_with fail
          refine (Q.xansi_zzJoin.calls k _ _ (decs ms) ⟨#[59]⟩ jd _ (Kd.C_drewN P7.out.2 nd) P7.out.1 HJ.out.2).mono ?_
          rintro e w9 ⟨rfl, ⟨nd2, rfl⟩⟩
          go_wp2_with fail
          go_ret
          exact ⟨by rw [e1, e2]; rfl, pw_below_drewN P6.out (nd + nd2)⟩
set_option maxRecDepth 100000 in
set_option maxHeartbeats 4000000 in
theorem setMode_many_true (A0 : Option Addr) (c0 : Nat) (ms : List Mo2) (w : World) (hT : XTab w) (hr : Kd.C kMode w A0 ms.length ms) (hc : ms.length ≤ c0) (h2 : 2 ≤ ms.length) (hl : ms.length ≤ 1000) (hm : ∀ m ∈ ms, NumOk m)
    (k : Nat) (ja jd : ByteArray) (hja : Q.xansi_zzJoin.f k (ansis ms) ⟨#[59]⟩ = some ja) (hjd : Q.xansi_zzJoin.f k (decs ms) ⟨#[59]⟩ = some jd) (hza : ja.size ≤ 10000000) (hzd : jd.size ≤ 10000000) :
    Calls Tryz.prog 112 #[.bool true, .slice A0 ms.length c0] w fun e w' => e = .returned (.string (manyT true (!(ansis ms).isEmpty) (!(decs ms).isEmpty) ja jd)) ∧ Below w.heap.size w w' := by
  have HR := Lib.hid hr
  have HT := Lib.hid (And.intro hT hm)
  have HJ := Lib.hid (And.intro hja hjd)
  clear hr hT hm hja hjd
  have c1 : ((ms.length : Int) == 0) = false := by rw [beq_eq_false_iff_ne]; omega
  have c2 : ((ms.length : Int) == 1) = false := by rw [beq_eq_false_iff_ne]; omega
  have HB := Lib.hid (Below.refl w.heap.size w)
  go_enter Tryz.func112, Tryz.ntmps112
  go_wp2_with (first
    | ((with_reducible refine gate_dst (N := 39) rfl ?_); refine Kd.R_make0 Kd.string (w0 := w) w.heap.size 9 rfl (N := 39) rfl 49 _ _ rfl ((ms.length : Int) / 2) rfl rfl Tryz.underlying49 (.string ⟨#[]⟩) 16 infoS rfl (by decide) (by omega) (ok := fun _ => True) (okp := fun _ => True) (fun _ hk => hk) trivial (by omega) (by omega) (Below.refl _ _) (Nat.le_refl _) ?_; intro v7 w1 h7 hb7 hg7 o7; have H7 := Lib.hid (And.intro h7 o7); have HB := Lib.hid hb7; clear h7 hb7 hg7 o7)
    | ((with_reducible refine gate_dst (N := 43) rfl ?_); refine Kd.R_make0 Kd.string (w0 := w) w.heap.size 9 rfl (N := 43) rfl 49 _ _ rfl ((ms.length : Int) / 2) rfl rfl Tryz.underlying49 (.string ⟨#[]⟩) 16 infoS rfl (by decide) (by omega) (ok := fun _ => True) (okp := fun _ => True) (fun _ hk => hk) trivial (by omega) (by omega) HB.out (below_size HB.out) ?_; intro v8 w2 h8 hb8 hg8 o8; have H8 := Lib.hid (two_new H7.out.1 H7.out.2 h8 hb8 hg8 o8); clear h8 hb8 hg8 o8 H7 HB))
  go_loopg [7, 8, 46] (ms.length + 1) (fun kq v7 v8 v46 w' => ∃ i : Nat, v46 = .int .i64 (i : Int) ∧ kq = ms.length + 1 - i ∧ i ≤ ms.length ∧ Hid (Two w w' v7 v8 (decs (ms.take i)) (ansis (ms.take i))))
  case atStart => exact ⟨0, rfl, rfl, by omega, H8⟩
  case round =>
    obtain ⟨i, rfl, hk, hi3, HO⟩ := hrel
    by_cases hi : i < ms.length
    · have c3 : decide ((i : Int) < (ms.length : Int)) = true := decide_eq_true (by omega)
      have c4 : (0 : Int) ≤ (i : Int) := by omega
      have c5 : (i : Int) < (ms.length : Int) := by omega
      obtain ⟨ad, ea, hx⟩ := at_mode HR.out (i : Int) c4 c5
      subst ea
      rw [Int.toNat_natCast] at hx
      have hrd : rdOf ((false, 0) : Mo2) ms (i : Int) = ms[i] := by simp [rdOf, hi]
      rw [hrd] at hx
      replace hx := (HO.out.2.2.2.2.2.cell (World.block_lt_of_cell? w _ hx)).trans hx
      have HK := Lib.hid (And.intro hk hi3)
      have hnum := HT.out.2 ms[i] (List.getElem_mem hi)
      have HN := Lib.hid hnum
      clear hk hi3 hrd hnum
      rcases Bool.eq_false_or_eq_true ms[i].1 with hd | hd
      · have hv : modeV ms[i].1 ms[i].2 = .iface 115 (.int .i64 ms[i].2) := by rw [hd]; rfl
        rw [hv] at hx
        have HU := Lib.hid (decs_up ms i hi hd)
        clear hv hd
        go_wp2_with fail
        refine (mode_dec ms[i].2 _).mono ?_
        rintro e w5 ⟨rfl, rfl⟩
        go_wp2_with fail
        refine (strconv_Itoa.calls ms[i].2 (tx ms[i]) _ (HT.out.1.below HO.out.2.2.2.2.2) HN.out.1).mono ?_
        rintro e w6 ⟨rfl, hb⟩
        have HO6 := Lib.hid (two_below HO.out hb)
        clear HO hb
        go_wp2_with (first | ((with_reducible refine gate_builtin (b := .append) (xs := #[.tmp 54, .tmp 58]) rfl ?_); at_builtin; refine Kd.R_append Kd.string (w0 := w) w.heap.size rfl (.tmp 54) (.tmp 58) 49 9 (.string ⟨#[]⟩) 16 rfl Tryz.underlying49 infoS rfl (by decide) (by omega) _ (decs (ms.take i)) (tx ms[i]) [.string (tx ms[i])] (fun _ => True) (fun _ => False) rfl rfl ?aP (fun _ hk => hk.elim) ?aF ?aO ?aB ?aS ?aL ?_; (case aP => exact rfl); (case aB => exact HO6.out.2.2.2.2.2); (case aF => exact (fun _ _ => trivial)); (case aO => exact HO6.out.1); (case aS => exact (below_size HO6.out.2.2.2.2.2)); (case aL => have := (decs_len (ms.take i)).1; have := hl; rw [List.length_take] at *; omega); intro v9 w7 ho hb hg hat; have HO7 := Lib.hid (two_left HO6.out ho hb hg hat); clear ho hb hg hat))
        go_roundg (ms.length + 1 - (i + 1))
        case measure => have := HK.out; omega
        case rel => exact ⟨i + 1, by simp, rfl, by omega, (by have e := HO7.out; rw [← HU.out.1, ← HU.out.2] at e; exact e)⟩
      · have hv : modeV ms[i].1 ms[i].2 = .iface 117 (.int .i64 ms[i].2) := by rw [hd]; rfl
        rw [hv] at hx
        have HU := Lib.hid (ansis_up ms i hi hd)
        clear hv hd
        go_wp2_with fail
        refine (mode_ansi ms[i].2 _).mono ?_
        rintro e w5 ⟨rfl, rfl⟩
        go_wp2_with fail
        refine (strconv_Itoa.calls ms[i].2 (tx ms[i]) _ (HT.out.1.below HO.out.2.2.2.2.2) HN.out.1).mono ?_
        rintro e w6 ⟨rfl, hb⟩
        have HO6 := Lib.hid (two_below HO.out hb)
        clear HO hb
        go_wp2_with (first | ((with_reducible refine gate_builtin (b := .append) (xs := #[.tmp 63, .tmp 67]) rfl ?_); at_builtin; refine Kd.R_append Kd.string (w0 := w) w.heap.size rfl (.tmp 63) (.tmp 67) 49 9 (.string ⟨#[]⟩) 16 rfl Tryz.underlying49 infoS rfl (by decide) (by omega) _ (ansis (ms.take i)) (tx ms[i]) [.string (tx ms[i])] (fun _ => True) (fun _ => False) rfl rfl ?aP (fun _ hk => hk.elim) ?aF ?aO ?aB ?aS ?aL ?_; (case aP => exact rfl); (case aB => exact HO6.out.2.2.2.2.2); (case aF => exact (fun _ _ => trivial)); (case aO => exact HO6.out.2.1); (case aS => exact (below_size HO6.out.2.2.2.2.2)); (case aL => have := (decs_len (ms.take i)).2; have := hl; rw [List.length_take] at *; omega); intro v9 w7 ho hb hg hat; have HO7 := Lib.hid (two_right HO6.out ho hb hg hat); clear ho hb hg hat))
        go_roundg (ms.length + 1 - (i + 1))
        case measure => have := HK.out; omega
        case rel => exact ⟨i + 1, by simp, rfl, by omega, (by have e := HO7.out; rw [← HU.out.1, ← HU.out.2] at e; exact e)⟩
    · have c3 : decide ((i : Int) < (ms.length : Int)) = false := decide_eq_false (by omega)
      have hO := HO.out
      rw [List.take_of_length_le (by omega)] at hO
      obtain ⟨p1, p2, p3, p4, p5, p6⟩ := hO
      obtain ⟨A7, c7, rfl⟩ := Kd.R_slice p1
      obtain ⟨A8, c8, rfl⟩ := Kd.R_slice p2
      have P7 := Lib.hid (Kd.R_reads' p1).2
      have P8 := Lib.hid (Kd.R_reads' p2).2
      have P6 := Lib.hid p6
      clear p1 p2 p3 p4 p5 p6 HO
      by_cases ea : (ansis ms) = []
      · have d1 : decide (((ansis ms).length : Int) > 0) = false := decide_eq_false (by rw [ea]; simp)
        have d2 : decide (0 < (ansis ms).length) = false := decide_eq_false (by rw [ea]; simp)
        have e1 : (ansis ms).isEmpty = true := by rw [ea]; rfl
        by_cases ed : (decs ms) = []
        · have d3 : decide (0 < (decs ms).length) = false := decide_eq_false (by rw [ed]; simp)
          have e2 : (decs ms).isEmpty = true := by rw [ed]; rfl
          go_wp2_with fail
          go_ret
          exact ⟨by rw [e1, e2]; rfl, P6.out⟩
        · have d3 : decide (0 < (decs ms).length) = true := decide_eq_true (List.length_pos_iff.2 ed)
          have e2 : (decs ms).isEmpty = false := by rw [List.isEmpty_eq_false_iff]; exact ed
          go_wp2_with fail
          refine (Q.xansi_zzJoin.calls k _ _ (decs ms) ⟨#[59]⟩ jd _ P7.out.2 P7.out.1 HJ.out.2).mono ?_
          rintro e w8 ⟨rfl, ⟨nd, rfl⟩⟩
          go_wp2_with fail
          go_ret
          exact ⟨by rw [e1, e2]; rfl, pw_below_drewN P6.out nd⟩
      · have d2 : decide (0 < (ansis ms).length) = true := decide_eq_true (List.length_pos_iff.2 ea)
        have e1 : (ansis ms).isEmpty = false := by rw [List.isEmpty_eq_false_iff]; exact ea
        by_cases ed : (decs ms) = []
        · have d3 : decide (0 < (decs ms).length) = false := decide_eq_false (by rw [ed]; simp)
          have e2 : (decs ms).isEmpty = true := by rw [ed]; rfl
          go_wp2_with fail
          refine (Q.xansi_zzJoin.calls k _ _ (ansis ms) ⟨#[59]⟩ ja _ P8.out.2 P8.out.1 HJ.out.1).mono ?_
          rintro e w8 ⟨rfl, ⟨nd, rfl⟩⟩
          go_wp2_with fail
          go_ret
          exact ⟨by rw [e1, e2]; rfl, pw_below_drewN P6.out nd⟩
        · have d3 : decide (0 < (decs ms).length) = true := decide_eq_true (List.length_pos_iff.2 ed)
          have e2 : (decs ms).isEmpty = false := by rw [List.isEmpty_eq_false_iff]; exact ed
          go_wp2_with fail
          refine (Q.xansi_zzJoin.calls k _ _ (ansis ms) ⟨#[59]⟩ ja _ P8.out.2 P8.out.1 HJ.out.1).mono ?_
          rintro e w8 ⟨rfl, ⟨nd, rfl⟩⟩
          go_wp2_with fail
          refine (Q.xansi_zzJoin.calls k _ _ (decs ms) ⟨#[59]⟩ jd _ (Kd.C_drewN P7.out.2 nd) P7.out.1 HJ.out.2).mono ?_
          rintro e w9 ⟨rfl, ⟨nd2, rfl⟩⟩
          go_wp2_with fail
          go_ret
          exact ⟨by rw [e1, e2]; rfl, pw_below_drewN P6.out (nd + nd2)⟩
def joinB (l : List ByteArray) : Option ByteArray := Q.xansi_zzJoin.f 2000 l ⟨#[59]⟩
/-- What is written for a row of modes. -/
def modesT (r : Bool) (ms : List Mo2) : Option ByteArray :=
  match ms with
  | [] => none
  | [m] => some (soloT r m)
  | _ => (joinB (ansis ms)).bind fun ja => (joinB (decs ms)).bind fun jd => if ja.size ≤ 10000000 ∧ jd.size ≤ 10000000 then some (manyT r (!(ansis ms).isEmpty) (!(decs ms).isEmpty) ja jd) else none
theorem setMode_calls (r : Bool) (A0 : Option Addr) (c0 : Nat) (ms : List Mo2) (t : ByteArray) (w : World) (hT : XTab w) (hr : Kd.C kMode w A0 ms.length ms) (hc : ms.length ≤ c0) (hl : ms.length ≤ 1000) (hm : ∀ m ∈ ms, NumOk m) (ht : modesT r ms = some t) :
    Calls Tryz.prog 112 #[.bool r, .slice A0 ms.length c0] w fun e w' => e = .returned (.string t) ∧ Below w.heap.size w w' := by
  match ms, ht with
  | [m], ht =>
    obtain rfl := Option.some.inj ht
    exact setMode_solo r A0 c0 m w hT hr hc (hm m (by simp))
  | a :: b :: q, ht =>
    obtain ⟨ja, h1, ht⟩ := Option.bind_eq_some_iff.1 (show (joinB (ansis (a :: b :: q))).bind _ = some t from ht)
    obtain ⟨jd, h2, ht⟩ := Option.bind_eq_some_iff.1 ht
    split at ht
    · rename_i hz
      obtain rfl := Option.some.inj ht
      cases r
      · exact setMode_many_false A0 c0 (a :: b :: q) w hT hr hc (by simp) hl hm 2000 ja jd h1 h2 hz.1 hz.2
      · exact setMode_many_true A0 c0 (a :: b :: q) w hT hr hc (by simp) hl hm 2000 ja jd h1 h2 hz.1 hz.2
    · exact absurd ht (by simp)
theorem SetMode_calls (A0 : Option Addr) (c0 : Nat) (ms : List Mo2) (t : ByteArray) (w : World) (hT : XTab w) (hr : Kd.C kMode w A0 ms.length ms) (hc : ms.length ≤ c0) (hl : ms.length ≤ 1000) (hm : ∀ m ∈ ms, NumOk m) (ht : modesT false ms = some t) :
    Calls Tryz.prog 39 #[.slice A0 ms.length c0] w fun e w' => e = .returned (.string t) ∧ Below w.heap.size w w' := by
  have HC := Lib.hid (setMode_calls false A0 c0 ms t w hT hr hc hl hm ht)
  clear hT hr hc hm ht
  go_enter Tryz.func39, Tryz.ntmps39
  go_wp2_with fail
  refine HC.out.mono ?_
  rintro e w1 ⟨rfl, hb⟩
  go_wp2_with fail
  go_ret
  exact ⟨rfl, hb⟩
theorem ResetMode_calls (A0 : Option Addr) (c0 : Nat) (ms : List Mo2) (t : ByteArray) (w : World) (hT : XTab w) (hr : Kd.C kMode w A0 ms.length ms) (hc : ms.length ≤ c0) (hl : ms.length ≤ 1000) (hm : ∀ m ∈ ms, NumOk m) (ht : modesT true ms = some t) :
    Calls Tryz.prog 41 #[.slice A0 ms.length c0] w fun e w' => e = .returned (.string t) ∧ Below w.heap.size w w' := by
  have HC := Lib.hid (setMode_calls true A0 c0 ms t w hT hr hc hl hm ht)
  clear hT hr hc hm ht
  go_enter Tryz.func41, Tryz.ntmps41
  go_wp2_with fail
  refine HC.out.mono ?_
  rintro e w1 ⟨rfl, hb⟩
  go_wp2_with fail
  go_ret
  exact ⟨rfl, hb⟩
instance (m : Mo2) : Decidable (NumOk m) := by unfold NumOk; exact inferInstance
def impl_MakeModes.f (a0 : Int) (l1 : List S23) : Option (ByteArray) :=
  if l1.length ≤ 1000 ∧ (∀ m ∈ l1.map pairOf, NumOk m) ∧ (a0 = 0 ∨ a0 = 1) then modesT (decide (a0 = 1)) (l1.map pairOf) else none
set_option maxRecDepth 100000 in
theorem impl_MakeModes.calls (a0 : Int) (A1 : Option Addr) (c1 : Nat) (l1 : List S23) (r : ByteArray) (w : World) (hT : XTab w) (hr1 : Kd.C k23 w A1 l1.length l1) (hc1 : l1.length ≤ c1) (h : impl_MakeModes.f a0 l1 = some r) :
    Calls Tryz.prog 18 #[.int .i64 a0, .slice A1 l1.length c1] w fun e w' => e = .returned (.string r) ∧ Below w.heap.size w w' := by
  unfold impl_MakeModes.f at h
  split at h
  · rename_i hcond
    obtain ⟨q1, q2, q3⟩ := hcond
    have HM := Lib.hid (modesOf_calls A1 c1 l1 w hr1 hc1 q1)
    have HQ := Lib.hid (And.intro hT (And.intro q1 q2))
    clear hT hr1 q1 q2
    rcases q3 with rfl | rfl
    · have h2 := Lib.hid (show modesT false (l1.map pairOf) = some r from h)
      clear h
      go_enter Tryz.func18, Tryz.ntmps18
      go_wp2_with fail
      refine HM.out.mono ?_
      rintro e w1 ⟨v, rfl, hR, hb⟩
      obtain ⟨Av, cv, rfl⟩ := Kd.R_slice hR
      have HR := Lib.hid (And.intro (Kd.R_reads' hR).2 hb)
      clear hR hb HM
      go_wp2_with fail
      have HS := SetMode_calls _ _ (l1.map pairOf) r w1 (HQ.out.1.below HR.out.2) HR.out.1.2 HR.out.1.1 (by rw [List.length_map]; exact HQ.out.2.1) HQ.out.2.2 h2.out
      simp only [List.length_map] at HS
      refine HS.mono ?_
      rintro e w2 ⟨rfl, hb2⟩
      have HB := Lib.hid (HR.out.2.trans (hb2.mono HR.out.2.size))
      clear hb2
      go_wp2_with fail
      go_ret
      exact ⟨rfl, HB.out⟩
    · have h2 := Lib.hid (show modesT true (l1.map pairOf) = some r from h)
      clear h
      go_enter Tryz.func18, Tryz.ntmps18
      go_wp2_with fail
      refine HM.out.mono ?_
      rintro e w1 ⟨v, rfl, hR, hb⟩
      obtain ⟨Av, cv, rfl⟩ := Kd.R_slice hR
      have HR := Lib.hid (And.intro (Kd.R_reads' hR).2 hb)
      clear hR hb HM
      go_wp2_with fail
      have HS := ResetMode_calls _ _ (l1.map pairOf) r w1 (HQ.out.1.below HR.out.2) HR.out.1.2 HR.out.1.1 (by rw [List.length_map]; exact HQ.out.2.1) HQ.out.2.2 h2.out
      simp only [List.length_map] at HS
      refine HS.mono ?_
      rintro e w2 ⟨rfl, hb2⟩
      have HB := Lib.hid (HR.out.2.trans (hb2.mono HR.out.2.size))
      clear hb2
      go_wp2_with fail
      go_ret
      exact ⟨rfl, HB.out⟩
  · exact absurd h (by simp)
end Go.Proofs.YtjkjnhcnmjknmaaGreatDoor.Y
end
section
namespace Go.Proofs.YtjkjnhcnmjknmaaGreatDoor.Y
open Go.RowKit Go.Proofs.YtjkjnhcnmjknmaaGreatDoorW.PrintWords Go.Proofs.YtjkjnhcnmjknmaaGreatDoorW.PrintLast Go.Proofs.YtjkjnhcnmjknmaaGreatDoorW.PrintMore
attribute [local go_sem] max2_int min2_int max_two min_two max_three min_three max_four min_four   -- for this text's walks alone
set_option linter.unusedVariables false
set_option linter.unusedSimpArgs false
/-! ### laws_FnDrawModes: function 4 -/
mutual
def laws_FnDrawModes.l0 : Nat → List (S43) → List (S45) → ByteArray → List (S43) → Int → Int → Option (Bool)
  | 0, _, _, _, _, _, _ => none
  | k + 1, x0, x3, x4, x12, x13, x14 => if x14 < x13 then (if 0 ≤ x14 then (if x14 < (x12.length : Int) then (if (((rd_T43 x12 x14).f1).length : Int) < 1 then (laws_FnDrawModes.j1 k x0 x3 x4 x12 x13 x14 true ((rd_T43 x12 x14).f0) ((rd_T43 x12 x14).f1)) else (laws_FnDrawModes.j1 k x0 x3 x4 x12 x13 x14 (decide ((((rd_T43 x12 x14).f1).length : Int) > 4)) ((rd_T43 x12 x14).f0) ((rd_T43 x12 x14).f1))) else (none)) else (none)) else (if (x0.length : Int) < 1 then (laws_FnDrawModes.j4 k x3 x4 true) else (laws_FnDrawModes.j4 k x3 x4 (decide ((x0.length : Int) > 8))))
def laws_FnDrawModes.j1 : Nat → List (S43) → List (S45) → ByteArray → List (S43) → Int → Int → Bool → Bool → List (S23) → Option (Bool)
  | 0, _, _, _, _, _, _, _, _, _ => none
  | k + 1, x0, x3, x4, x12, x13, x14, x27, x303000, x303001 => if x27 = true then ((laws_drawAwake.f).bind fun t303 => (some t303)) else (laws_FnDrawModes.l1 k x0 x3 x4 x12 x13 x14 x303001 (x303001.length : Int) 0 x303000 x303001)
def laws_FnDrawModes.l1 : Nat → List (S43) → List (S45) → ByteArray → List (S43) → Int → Int → List (S23) → Int → Int → Bool → List (S23) → Option (Bool)
  | 0, _, _, _, _, _, _, _, _, _, _, _ => none
  | k + 1, x0, x3, x4, x12, x13, x14, x30, x31, x32, x303000, x303001 => if x32 < x31 then (if 0 ≤ x32 then (if x32 < (x30.length : Int) then (if ((rd_T23 x30 x32).f1) < 1 then (laws_FnDrawModes.j3 k x0 x3 x4 x12 x13 x14 x30 x31 x32 true x303000 x303001 ((rd_T23 x30 x32).f0) ((rd_T23 x30 x32).f1)) else (laws_FnDrawModes.j3 k x0 x3 x4 x12 x13 x14 x30 x31 x32 (decide (((rd_T23 x30 x32).f1) > 9999)) x303000 x303001 ((rd_T23 x30 x32).f0) ((rd_T23 x30 x32).f1))) else (none)) else (none)) else (if x303000 = true then ((impl_MakeModes.f 1 x303001).bind fun t313 => (if x4.size + t313.size ≤ 9223372036854775807 then (laws_FnDrawModes.l0 k x0 x3 (x4 ++ t313) x12 x13 (wrap64 (x14 + 1))) else (none))) else ((impl_MakeModes.f 0 x303001).bind fun t314 => (if x4.size + t314.size ≤ 9223372036854775807 then (laws_FnDrawModes.l0 k x0 x3 (x4 ++ t314) x12 x13 (wrap64 (x14 + 1))) else (none))))
def laws_FnDrawModes.j3 : Nat → List (S43) → List (S45) → ByteArray → List (S43) → Int → Int → List (S23) → Int → Int → Bool → Bool → List (S23) → Bool → Int → Option (Bool)
  | 0, _, _, _, _, _, _, _, _, _, _, _, _, _, _ => none
  | k + 1, x0, x3, x4, x12, x13, x14, x30, x31, x32, x43, x303000, x303001, x306000, x306001 => if x43 = true then ((laws_drawAwake.f).bind fun t306 => (some t306)) else ((spec_DrawModeWithout.f k x3 x306000 x306001).bind fun t307 => (if x303000 = true then (laws_FnDrawModes.l1 k x0 t307 x4 x12 x13 x14 x30 x31 (wrap64 (x32 + 1)) x303000 x303001) else (if t307.length < 8796093022208 then (laws_FnDrawModes.l1 k x0 (t307 ++ [(⟨x306000, x306001⟩ : S45)]) x4 x12 x13 x14 x30 x31 (wrap64 (x32 + 1)) x303000 x303001) else (none))))
def laws_FnDrawModes.j4 : Nat → List (S45) → ByteArray → Bool → Option (Bool)
  | 0, _, _, _ => none
  | k + 1, x3, x4, x76 => if x76 = true then ((laws_drawAwake.f).bind fun t315 => (some t315)) else ((gosem_conv.f x4).bind fun t316 => ((impl_Feed.f 32 4096 t316).bind fun t319 => ((laws_drawEvents.f k t319).bind fun t322 => ((spec_DrawModes.f k t322).bind fun t325 => ((spec_SameDrawModes.f k t325 x3).bind fun t328 => (if t328 = true then ((laws_drawAwake.f).bind fun t329 => (some t329)) else (some false)))))))
end
def laws_FnDrawModes.f (k : Nat) (l0 : List (S43)) : Option (Bool) := (laws_zzFits9.f k l0).bind fun t300 => (if t300 = true then (laws_FnDrawModes.l0 k l0 ([] : List (S45)) (⟨#[]⟩ : ByteArray) l0 (l0.length : Int) 0) else (some true))
theorem laws_FnDrawModes.mono_l : ∀ k, (∀ y0 y1 y2 y3 y4 y5, LeO (laws_FnDrawModes.l0 k y0 y1 y2 y3 y4 y5) (laws_FnDrawModes.l0 (k + 1) y0 y1 y2 y3 y4 y5)) ∧ (∀ y0 y1 y2 y3 y4 y5 y6 y7 y8, LeO (laws_FnDrawModes.j1 k y0 y1 y2 y3 y4 y5 y6 y7 y8) (laws_FnDrawModes.j1 (k + 1) y0 y1 y2 y3 y4 y5 y6 y7 y8)) ∧ (∀ y0 y1 y2 y3 y4 y5 y6 y7 y8 y9 y10, LeO (laws_FnDrawModes.l1 k y0 y1 y2 y3 y4 y5 y6 y7 y8 y9 y10) (laws_FnDrawModes.l1 (k + 1) y0 y1 y2 y3 y4 y5 y6 y7 y8 y9 y10)) ∧ (∀ y0 y1 y2 y3 y4 y5 y6 y7 y8 y9 y10 y11 y12 y13, LeO (laws_FnDrawModes.j3 k y0 y1 y2 y3 y4 y5 y6 y7 y8 y9 y10 y11 y12 y13) (laws_FnDrawModes.j3 (k + 1) y0 y1 y2 y3 y4 y5 y6 y7 y8 y9 y10 y11 y12 y13)) ∧ (∀ y0 y1 y2, LeO (laws_FnDrawModes.j4 k y0 y1 y2) (laws_FnDrawModes.j4 (k + 1) y0 y1 y2))
  | 0 => ⟨fun _ _ _ _ _ _ r h => by simp [laws_FnDrawModes.l0] at h, fun _ _ _ _ _ _ _ _ _ r h => by simp [laws_FnDrawModes.j1] at h, fun _ _ _ _ _ _ _ _ _ _ _ r h => by simp [laws_FnDrawModes.l1] at h, fun _ _ _ _ _ _ _ _ _ _ _ _ _ _ r h => by simp [laws_FnDrawModes.j3] at h, fun _ _ _ r h => by simp [laws_FnDrawModes.j4] at h⟩
  | k + 1 => by
    obtain ⟨ih0, ih1, ih2, ih3, ih4⟩ := laws_FnDrawModes.mono_l k
    refine ⟨?_, ?_, ?_, ?_, ?_⟩
    · intro y0 y1 y2 y3 y4 y5
      unfold laws_FnDrawModes.l0
      repeat' first
      | (with_reducible exact ih0 _ _ _ _ _ _)
      | (with_reducible exact ih1 _ _ _ _ _ _ _ _ _)
      | (with_reducible exact ih2 _ _ _ _ _ _ _ _ _ _ _)
      | (with_reducible exact ih3 _ _ _ _ _ _ _ _ _ _ _ _ _ _)
      | (with_reducible exact ih4 _ _ _)
      | (with_reducible exact laws_drawEvents.mono _ _)
      | (with_reducible exact laws_zzFits9.mono _ _)
      | (with_reducible exact spec_DrawModeWithout.mono _ _ _ _)
      | (with_reducible exact spec_DrawModes.mono _ _)
      | (with_reducible exact spec_SameDrawModes.mono _ _ _)
      | (with_reducible exact LeO.refl _)
      | (with_reducible exact LeO.none _)
      | (with_reducible refine LeO.ite ?_ ?_)
      | (with_reducible refine LeO.bind ?_ (fun _ => ?_))
      | exact ih0 _ _ _ _ _ _
      | exact ih1 _ _ _ _ _ _ _ _ _
      | exact ih2 _ _ _ _ _ _ _ _ _ _ _
      | exact ih3 _ _ _ _ _ _ _ _ _ _ _ _ _ _
      | exact ih4 _ _ _
      | exact laws_drawEvents.mono _ _
      | exact laws_zzFits9.mono _ _
      | exact spec_DrawModeWithout.mono _ _ _ _
      | exact spec_DrawModes.mono _ _
      | exact spec_SameDrawModes.mono _ _ _
      | exact LeO.none _
      | refine LeO.ite ?_ ?_
      | refine LeO.bind ?_ (fun _ => ?_)
    · intro y0 y1 y2 y3 y4 y5 y6 y7 y8
      unfold laws_FnDrawModes.j1
      repeat' first
      | (with_reducible exact ih0 _ _ _ _ _ _)
      | (with_reducible exact ih1 _ _ _ _ _ _ _ _ _)
      | (with_reducible exact ih2 _ _ _ _ _ _ _ _ _ _ _)
      | (with_reducible exact ih3 _ _ _ _ _ _ _ _ _ _ _ _ _ _)
      | (with_reducible exact ih4 _ _ _)
      | (with_reducible exact laws_drawEvents.mono _ _)
      | (with_reducible exact laws_zzFits9.mono _ _)
      | (with_reducible exact spec_DrawModeWithout.mono _ _ _ _)
      | (with_reducible exact spec_DrawModes.mono _ _)
      | (with_reducible exact spec_SameDrawModes.mono _ _ _)
      | (with_reducible exact LeO.refl _)
      | (with_reducible exact LeO.none _)
      | (with_reducible refine LeO.ite ?_ ?_)
      | (with_reducible refine LeO.bind ?_ (fun _ => ?_))
      | exact ih0 _ _ _ _ _ _
      | exact ih1 _ _ _ _ _ _ _ _ _
      | exact ih2 _ _ _ _ _ _ _ _ _ _ _
      | exact ih3 _ _ _ _ _ _ _ _ _ _ _ _ _ _
      | exact ih4 _ _ _
      | exact laws_drawEvents.mono _ _
      | exact laws_zzFits9.mono _ _
      | exact spec_DrawModeWithout.mono _ _ _ _
      | exact spec_DrawModes.mono _ _
      | exact spec_SameDrawModes.mono _ _ _
      | exact LeO.none _
      | refine LeO.ite ?_ ?_
      | refine LeO.bind ?_ (fun _ => ?_)
    · intro y0 y1 y2 y3 y4 y5 y6 y7 y8 y9 y10
      unfold laws_FnDrawModes.l1
      repeat' first
      | (with_reducible exact ih0 _ _ _ _ _ _)
      | (with_reducible exact ih1 _ _ _ _ _ _ _ _ _)
      | (with_reducible exact ih2 _ _ _ _ _ _ _ _ _ _ _)
      | (with_reducible exact ih3 _ _ _ _ _ _ _ _ _ _ _ _ _ _)
      | (with_reducible exact ih4 _ _ _)
      | (with_reducible exact laws_drawEvents.mono _ _)
      | (with_reducible exact laws_zzFits9.mono _ _)
      | (with_reducible exact spec_DrawModeWithout.mono _ _ _ _)
      | (with_reducible exact spec_DrawModes.mono _ _)
      | (with_reducible exact spec_SameDrawModes.mono _ _ _)
      | (with_reducible exact LeO.refl _)
      | (with_reducible exact LeO.none _)
      | (with_reducible refine LeO.ite ?_ ?_)
      | (with_reducible refine LeO.bind ?_ (fun _ => ?_))
      | exact ih0 _ _ _ _ _ _
      | exact ih1 _ _ _ _ _ _ _ _ _
      | exact ih2 _ _ _ _ _ _ _ _ _ _ _
      | exact ih3 _ _ _ _ _ _ _ _ _ _ _ _ _ _
      | exact ih4 _ _ _
      | exact laws_drawEvents.mono _ _
      | exact laws_zzFits9.mono _ _
      | exact spec_DrawModeWithout.mono _ _ _ _
      | exact spec_DrawModes.mono _ _
      | exact spec_SameDrawModes.mono _ _ _
      | exact LeO.none _
      | refine LeO.ite ?_ ?_
      | refine LeO.bind ?_ (fun _ => ?_)
    · intro y0 y1 y2 y3 y4 y5 y6 y7 y8 y9 y10 y11 y12 y13
      unfold laws_FnDrawModes.j3
      repeat' first
      | (with_reducible exact ih0 _ _ _ _ _ _)
      | (with_reducible exact ih1 _ _ _ _ _ _ _ _ _)
      | (with_reducible exact ih2 _ _ _ _ _ _ _ _ _ _ _)
      | (with_reducible exact ih3 _ _ _ _ _ _ _ _ _ _ _ _ _ _)
      | (with_reducible exact ih4 _ _ _)
      | (with_reducible exact laws_drawEvents.mono _ _)
      | (with_reducible exact laws_zzFits9.mono _ _)
      | (with_reducible exact spec_DrawModeWithout.mono _ _ _ _)
      | (with_reducible exact spec_DrawModes.mono _ _)
      | (with_reducible exact spec_SameDrawModes.mono _ _ _)
      | (with_reducible exact LeO.refl _)
      | (with_reducible exact LeO.none _)
      | (with_reducible refine LeO.ite ?_ ?_)
      | (with_reducible refine LeO.bind ?_ (fun _ => ?_))
      | exact ih0 _ _ _ _ _ _
      | exact ih1 _ _ _ _ _ _ _ _ _
      | exact ih2 _ _ _ _ _ _ _ _ _ _ _
      | exact ih3 _ _ _ _ _ _ _ _ _ _ _ _ _ _
      | exact ih4 _ _ _
      | exact laws_drawEvents.mono _ _
      | exact laws_zzFits9.mono _ _
      | exact spec_DrawModeWithout.mono _ _ _ _
      | exact spec_DrawModes.mono _ _
      | exact spec_SameDrawModes.mono _ _ _
      | exact LeO.none _
      | refine LeO.ite ?_ ?_
      | refine LeO.bind ?_ (fun _ => ?_)
    · intro y0 y1 y2
      unfold laws_FnDrawModes.j4
      repeat' first
      | (with_reducible exact ih0 _ _ _ _ _ _)
      | (with_reducible exact ih1 _ _ _ _ _ _ _ _ _)
      | (with_reducible exact ih2 _ _ _ _ _ _ _ _ _ _ _)
      | (with_reducible exact ih3 _ _ _ _ _ _ _ _ _ _ _ _ _ _)
      | (with_reducible exact ih4 _ _ _)
      | (with_reducible exact laws_drawEvents.mono _ _)
      | (with_reducible exact laws_zzFits9.mono _ _)
      | (with_reducible exact spec_DrawModeWithout.mono _ _ _ _)
      | (with_reducible exact spec_DrawModes.mono _ _)
      | (with_reducible exact spec_SameDrawModes.mono _ _ _)
      | (with_reducible exact LeO.refl _)
      | (with_reducible exact LeO.none _)
      | (with_reducible refine LeO.ite ?_ ?_)
      | (with_reducible refine LeO.bind ?_ (fun _ => ?_))
      | exact ih0 _ _ _ _ _ _
      | exact ih1 _ _ _ _ _ _ _ _ _
      | exact ih2 _ _ _ _ _ _ _ _ _ _ _
      | exact ih3 _ _ _ _ _ _ _ _ _ _ _ _ _ _
      | exact ih4 _ _ _
      | exact laws_drawEvents.mono _ _
      | exact laws_zzFits9.mono _ _
      | exact spec_DrawModeWithout.mono _ _ _ _
      | exact spec_DrawModes.mono _ _
      | exact spec_SameDrawModes.mono _ _ _
      | exact LeO.none _
      | refine LeO.ite ?_ ?_
      | refine LeO.bind ?_ (fun _ => ?_)
theorem laws_FnDrawModes.mono : ∀ a0 k, LeO (laws_FnDrawModes.f k a0) (laws_FnDrawModes.f (k + 1) a0) := by
  intro a0 k
  obtain ⟨ih0, ih1, ih2, ih3, ih4⟩ := laws_FnDrawModes.mono_l k
  unfold laws_FnDrawModes.f
  repeat' first
      | (with_reducible exact ih0 _ _ _ _ _ _)
      | (with_reducible exact ih1 _ _ _ _ _ _ _ _ _)
      | (with_reducible exact ih2 _ _ _ _ _ _ _ _ _ _ _)
      | (with_reducible exact ih3 _ _ _ _ _ _ _ _ _ _ _ _ _ _)
      | (with_reducible exact ih4 _ _ _)
      | (with_reducible exact laws_drawEvents.mono _ _)
      | (with_reducible exact laws_zzFits9.mono _ _)
      | (with_reducible exact spec_DrawModeWithout.mono _ _ _ _)
      | (with_reducible exact spec_DrawModes.mono _ _)
      | (with_reducible exact spec_SameDrawModes.mono _ _ _)
      | (with_reducible exact LeO.refl _)
      | (with_reducible exact LeO.none _)
      | (with_reducible refine LeO.ite ?_ ?_)
      | (with_reducible refine LeO.bind ?_ (fun _ => ?_))
      | exact ih0 _ _ _ _ _ _
      | exact ih1 _ _ _ _ _ _ _ _ _
      | exact ih2 _ _ _ _ _ _ _ _ _ _ _
      | exact ih3 _ _ _ _ _ _ _ _ _ _ _ _ _ _
      | exact ih4 _ _ _
      | exact laws_drawEvents.mono _ _
      | exact laws_zzFits9.mono _ _
      | exact spec_DrawModeWithout.mono _ _ _ _
      | exact spec_DrawModes.mono _ _
      | exact spec_SameDrawModes.mono _ _ _
      | exact LeO.none _
      | refine LeO.ite ?_ ?_
      | refine LeO.bind ?_ (fun _ => ?_)
end Go.Proofs.YtjkjnhcnmjknmaaGreatDoor.Y
end
