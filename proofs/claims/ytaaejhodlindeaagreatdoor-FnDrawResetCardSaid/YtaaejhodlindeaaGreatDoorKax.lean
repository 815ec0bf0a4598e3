/- Texts of this claim, joined: XSame XPlanRun Y6 Y7 Y8. Of each, what the claim uses. -/
import Derived.Test.YtaaejhodlindeaaGreatDoorKac
import Derived.Test.YtaaejhodlindeaaGreatDoorKaw
import Derived.Lib.Hide
import Derived.Deep.RegionHeld3
import Derived.Deep.DrawnRows
import Derived.Deep.DeepCutAuto
import Derived.Test.YtaaejhodlindeaaGreatDoorKat
section
namespace Go.Proofs.YtaaejhodlindeaaGreatDoor.Y
open Go.RowKit Go.Proofs.YtaaejhodlindeaaGreatDoorW.PrintWords Go.Proofs.YtaaejhodlindeaaGreatDoorW.PrintLast Go.Proofs.YtaaejhodlindeaaGreatDoorW.PrintMore
set_option linter.unusedSimpArgs false
set_option linter.unusedVariables false
def evEq (a b : S88) : Bool := decide (a.f0 = b.f0) && decide (a.f1 = b.f1) && decide (a.f2 = b.f2) && decide (a.f3 = b.f3) && decide (a.f4 = b.f4) && decide (a.f5 = b.f5) && decide (a.f4.length < 1000000) && decide (a.f5.length < 1000000)
theorem evEq_spec {a b : S88} (h : evEq a b = true) : a = b ∧ a.f4.length < 1000000 ∧ a.f5.length < 1000000 := by
  simp only [evEq, Bool.and_eq_true, decide_eq_true_eq] at h
  obtain ⟨⟨⟨⟨⟨⟨⟨h0, h1⟩, h2⟩, h3⟩, h4⟩, h5⟩, h6⟩, h7⟩ := h
  refine ⟨?_, h6, h7⟩
  cases a
  cases b
  simp_all
def evsEq : List S88 → List S88 → Bool
  | [], [] => true
  | a :: l, b :: m => evEq a b && evsEq l m
  | _, _ => false
theorem evsEq_spec : ∀ (l m : List S88), evsEq l m = true → l = m ∧ ∀ e ∈ l, e.f4.length < 1000000 ∧ e.f5.length < 1000000
  | [], [], _ => ⟨rfl, by simp⟩
  | [], _ :: _, h => by simp [evsEq] at h
  | _ :: _, [], h => by simp [evsEq] at h
  | a :: l, b :: m, h => by
    simp only [evsEq, Bool.and_eq_true] at h
    obtain ⟨rfl, h1⟩ := evEq_spec h.1
    obtain ⟨rfl, h2⟩ := evsEq_spec l m h.2
    exact ⟨rfl, fun e he => by
      rcases List.mem_cons.1 he with rfl | he
      · exact h1
      · exact h2 e he⟩
theorem evsEq_of : ∀ (l : List S88), (∀ e ∈ l, e.f4.length < 1000000 ∧ e.f5.length < 1000000) → evsEq l l = true
  | [], _ => rfl
  | a :: l, h => by
    have := h a (by simp)
    simp [evsEq, evEq, this.1, this.2, evsEq_of l (fun e he => h e (List.mem_cons_of_mem _ he))]
def spec_SameEvents.f (l0 : List S88) (l1 : List S88) : Option (Bool) := if evsEq l0 l1 = true then some true else none
theorem q_ints (a : List Int) (hl : a.length < 1000000) : ∀ (m i k : Nat), i + m = a.length → m < k → Q.spec_SameInts.l0 k a a (a.length : Int) (i : Int) = some true
  | 0, i, k + 1, h, hk => by rw [Q.spec_SameInts.l0, if_neg (by omega)]
  | m + 1, i, k + 1, h, hk => by
    rw [Q.spec_SameInts.l0, if_pos (by omega), if_pos (by omega), if_pos (by omega), if_pos (by omega), if_pos rfl, show wrap64 ((i : Int) + 1) = ((i + 1 : Nat) : Int) by unfold wrap64; omega]
    exact q_ints a hl m (i + 1) k (by omega) (by omega)
theorem q_bytes (a : List Int) (hl : a.length < 1000000) : ∀ (m i k : Nat), i + m = a.length → m < k → Q.spec_SameBytes.l0 k a a (a.length : Int) (i : Int) = some true
  | 0, i, k + 1, h, hk => by rw [Q.spec_SameBytes.l0, if_neg (by omega)]
  | m + 1, i, k + 1, h, hk => by
    rw [Q.spec_SameBytes.l0, if_pos (by omega), if_pos (by omega), if_pos (by omega), if_pos (by omega), if_pos rfl, show wrap64 ((i : Int) + 1) = ((i + 1 : Nat) : Int) by unfold wrap64; omega]
    exact q_bytes a hl m (i + 1) k (by omega) (by omega)
theorem ints_same (A0 : Option Addr) (c0 : Nat) (A1 : Option Addr) (c1 : Nat) (l : List Int) (w : World) (h0 : Kd.C (Kd.int .i64) w A0 l.length l) (hc0 : l.length ≤ c0) (h1 : Kd.C (Kd.int .i64) w A1 l.length l) (hc1 : l.length ≤ c1) (hl : l.length < 1000000) :
    Calls Tryz.prog 34 #[.slice A0 l.length c0, .slice A1 l.length c1] w fun e w' => e = .returned (.bool true) ∧ Drawn0 w w' :=
  Q.spec_SameInts.calls (l.length + 1) A0 c0 l A1 c1 l true w h0 hc0 h1 hc1 (by unfold Q.spec_SameInts.f; rw [if_pos rfl]; exact q_ints l hl l.length 0 _ (by omega) (by omega))
theorem bytes_same (A0 : Option Addr) (c0 : Nat) (A1 : Option Addr) (c1 : Nat) (l : List Int) (w : World) (h0 : Kd.C (Kd.int .u8) w A0 l.length l) (hc0 : l.length ≤ c0) (h1 : Kd.C (Kd.int .u8) w A1 l.length l) (hc1 : l.length ≤ c1) (hl : l.length < 1000000) :
    Calls Tryz.prog 84 #[.slice A0 l.length c0, .slice A1 l.length c1] w fun e w' => e = .returned (.bool true) ∧ Drawn0 w w' :=
  Q.spec_SameBytes.calls (l.length + 1) A0 c0 l A1 c1 l true w h0 hc0 h1 hc1 (by unfold Q.spec_SameBytes.f; rw [if_pos rfl]; exact q_bytes l hl l.length 0 _ (by omega) (by omega))
theorem two_below (w : World) (o1 o2 : Obj) : Below w.heap.size w ((w.alloc o1).alloc o2).drew := below_drew (below_alloc (below_alloc (Below.refl _ _) _) _)
theorem two_blocks (w : World) (c1 c2 : Array Value) (t : TypeId) : ((w.alloc (.cells c1 t)).alloc (.cells c2 t)).heap[w.heap.size]? = some (.cells c1 t (0, 0)) ∧ ((w.alloc (.cells c1 t)).alloc (.cells c2 t)).heap[w.heap.size + 1]? = some (.cells c2 t (0, 0)) :=
  ⟨blk_alloc (blk_new w _) _, by have := blk_new (w.alloc (.cells c1 t)) (.cells c2 t); simpa using this⟩
set_option maxRecDepth 200000 in
set_option maxHeartbeats 4000000 in
theorem spec_SameEvents.calls (A0 : Option Addr) (c0 : Nat) (l0 : List S88) (A1 : Option Addr) (c1 : Nat) (l1 : List S88) (r : Bool) (w : World) (hr0 : Kd.C k88 w A0 l0.length l0) (hc0 : l0.length ≤ c0) (hr1 : Kd.C k88 w A1 l1.length l1) (hc1 : l1.length ≤ c1) (h : spec_SameEvents.f l0 l1 = some r) :
    Calls Tryz.prog 24 #[.slice A0 l0.length c0, .slice A1 l1.length c1] w fun e w' => e = .returned (.bool r) ∧ Below w.heap.size w w' := by
  unfold spec_SameEvents.f at h
  split at h
  · rename_i hq
    obtain rfl := Option.some.inj h
    obtain ⟨rfl, hb⟩ := evsEq_spec _ _ hq
    have HA := Lib.hid (And.intro hr0 (And.intro hr1 hb))
    have hsz := hr0.2.1
    clear h hq hb hr0 hr1
    go_enter Tryz.func24, Tryz.ntmps24
    go_wp2_with fail
    go_loopg [15] l0.length (fun kq v15 w' => ∃ i : Nat, v15 = .int .i64 (i : Int) ∧ i + kq = l0.length ∧ Hid (Below w.heap.size w w'))
    case atStart => exact ⟨0, rfl, by omega, Below.refl _ _⟩
    case round =>
      obtain ⟨i, rfl, hk, hB⟩ := hrel
      by_cases hi : i < l0.length
      · have d1 : decide ((i : Int) < (l0.length : Int)) = true := decide_eq_true (by omega)
        have d2 : (0 : Int) ≤ (i : Int) := by omega
        have d4 : (i : Int) < (l0.length : Int) := by omega
        have e20 : IntKind.i64.wrap ((i : Int) + 1) = ((i + 1 : Nat) : Int) := by rw [IntKind.wrap_i64]; omega
        obtain ⟨ad, A4, p4, A5, p5, e, x0, x1, x2, x3, x4, x5, l4, g4, l5, g5⟩ := at_T88 (Kd.C_below HA.out.1 hB.out) (i : Int) d2 (by omega)
        obtain ⟨bd, B4, q4, B5, q5, e', y0, y1, y2, y3, y4, y5, m4, h4, m5, h5⟩ := at_T88 (Kd.C_below HA.out.2.1 hB.out) (i : Int) d2 (by omega)
        subst e
        subst e'
        simp only [Int.toNat_natCast] at x0 x1 x2 x3 x4 x5 y0 y1 y2 y3 y4 y5
        have hE : (rd_T88 l0 (i : Int)).f4.length < 1000000 ∧ (rd_T88 l0 (i : Int)).f5.length < 1000000 := by
          have : rd_T88 l0 (i : Int) = l0[i] := by simp [rd_T88, hi]
          rw [this]
          exact HA.out.2.2 _ (List.getElem_mem hi)
        have HI := Lib.hid (And.intro hE (And.intro (And.intro l4 (And.intro g4 (And.intro l5 g5))) (And.intro m4 (And.intro h4 (And.intro m5 h5)))))
        clear hE l4 g4 l5 g5 m4 h4 m5 h5
        generalize rd_T88 l0 (i : Int) = x at *
        obtain ⟨f0, f1, f2, f3, f4, f5⟩ := x
        simp only at x0 x1 x2 x3 x4 x5 y0 y1 y2 y3 y4 y5
        have HI2 : Hid ((f4.length < 1000000 ∧ f5.length < 1000000) ∧ (f4.length ≤ p4 ∧ Kd.C (Kd.int .i64) wr A4 f4.length f4 ∧ f5.length ≤ p5 ∧ Kd.C (Kd.int .u8) wr A5 f5.length f5) ∧ f4.length ≤ q4 ∧ Kd.C (Kd.int .i64) wr B4 f4.length f4 ∧ f5.length ≤ q5 ∧ Kd.C (Kd.int .u8) wr B5 f5.length f5) := HI.out
        clear HI
        go_upto_region 6 with fail
        go_cut [6, 7] (fun v6 v7 wc => ∃ g1 g2 : Nat, v6 = .pointer (some ⟨g1, 0, none⟩) ∧ v7 = .pointer (some ⟨g2, 0, none⟩) ∧ Hid (Below wr.heap.size wr wc) ∧
          (wc.cell? ⟨g1, 0, none⟩ = some (.int .i64 f0) ∧ wc.cell? ⟨g1, 1, none⟩ = some (.int .i64 f1) ∧ wc.cell? ⟨g1, 2, none⟩ = some (.int .u8 f2) ∧ wc.cell? ⟨g1, 3, none⟩ = some (.int .i64 f3) ∧ wc.cell? ⟨g1, 4, none⟩ = some (.slice A4 f4.length p4) ∧ wc.cell? ⟨g1, 5, none⟩ = some (.slice A5 f5.length p5)) ∧
          (wc.cell? ⟨g2, 0, none⟩ = some (.int .i64 f0) ∧ wc.cell? ⟨g2, 1, none⟩ = some (.int .i64 f1) ∧ wc.cell? ⟨g2, 2, none⟩ = some (.int .u8 f2) ∧ wc.cell? ⟨g2, 3, none⟩ = some (.int .i64 f3) ∧ wc.cell? ⟨g2, 4, none⟩ = some (.slice B4 f4.length q4) ∧ wc.cell? ⟨g2, 5, none⟩ = some (.slice B5 f5.length q5)))
        case first =>
          go_region_held3 (fun w' => w'.cell? (ad.add (i * 6)) = some (.int .i64 f0) ∧ w'.cell? ⟨(ad.add (i * 6)).block, (ad.add (i * 6)).off + 1, none⟩ = some (.int .i64 f1) ∧ w'.cell? ⟨(ad.add (i * 6)).block, (ad.add (i * 6)).off + 2, none⟩ = some (.int .u8 f2) ∧ w'.cell? ⟨(ad.add (i * 6)).block, (ad.add (i * 6)).off + 3, none⟩ = some (.int .i64 f3) ∧ w'.cell? ⟨(ad.add (i * 6)).block, (ad.add (i * 6)).off + 4, none⟩ = some (.slice A4 f4.length p4) ∧ w'.cell? ⟨(ad.add (i * 6)).block, (ad.add (i * 6)).off + 5, none⟩ = some (.slice A5 f5.length p5) ∧
            w'.cell? (bd.add (i * 6)) = some (.int .i64 f0) ∧ w'.cell? ⟨(bd.add (i * 6)).block, (bd.add (i * 6)).off + 1, none⟩ = some (.int .i64 f1) ∧ w'.cell? ⟨(bd.add (i * 6)).block, (bd.add (i * 6)).off + 2, none⟩ = some (.int .u8 f2) ∧ w'.cell? ⟨(bd.add (i * 6)).block, (bd.add (i * 6)).off + 3, none⟩ = some (.int .i64 f3) ∧ w'.cell? ⟨(bd.add (i * 6)).block, (bd.add (i * 6)).off + 4, none⟩ = some (.slice B4 f4.length q4) ∧ w'.cell? ⟨(bd.add (i * 6)).block, (bd.add (i * 6)).off + 5, none⟩ = some (.slice B5 f5.length q5)) (go_keep) (fail)
          all_goals (go_wp2_with fail; go_meet)
          case rel =>
            refine ⟨wr.heap.size, wr.heap.size + 1, rfl, rfl, two_below wr _ _, ?_, ?_⟩
            · have h := blk_drew (two_blocks wr #[.int .i64 f0, .int .i64 f1, .int .u8 f2, .int .i64 f3, .slice A4 f4.length p4, .slice A5 f5.length p5] #[.int .i64 f0, .int .i64 f1, .int .u8 f2, .int .i64 f3, .slice B4 f4.length q4, .slice B5 f5.length q5] 88).1
              exact ⟨blk_cell h 0, blk_cell h 1, blk_cell h 2, blk_cell h 3, blk_cell h 4, blk_cell h 5⟩
            · have h := blk_drew (two_blocks wr #[.int .i64 f0, .int .i64 f1, .int .u8 f2, .int .i64 f3, .slice A4 f4.length p4, .slice A5 f5.length p5] #[.int .i64 f0, .int .i64 f1, .int .u8 f2, .int .i64 f3, .slice B4 f4.length q4, .slice B5 f5.length q5] 88).2
              exact ⟨blk_cell h 0, blk_cell h 1, blk_cell h 2, blk_cell h 3, blk_cell h 4, blk_cell h 5⟩
          case rel =>
            refine ⟨wr.heap.size + 1, wr.heap.size, rfl, rfl, two_below wr _ _, ?_, ?_⟩
            · have h := blk_drew (two_blocks wr #[.int .i64 f0, .int .i64 f1, .int .u8 f2, .int .i64 f3, .slice B4 f4.length q4, .slice B5 f5.length q5] #[.int .i64 f0, .int .i64 f1, .int .u8 f2, .int .i64 f3, .slice A4 f4.length p4, .slice A5 f5.length p5] 88).2
              exact ⟨blk_cell h 0, blk_cell h 1, blk_cell h 2, blk_cell h 3, blk_cell h 4, blk_cell h 5⟩
            · have h := blk_drew (two_blocks wr #[.int .i64 f0, .int .i64 f1, .int .u8 f2, .int .i64 f3, .slice B4 f4.length q4, .slice B5 f5.length q5] #[.int .i64 f0, .int .i64 f1, .int .u8 f2, .int .i64 f3, .slice A4 f4.length p4, .slice A5 f5.length p5] 88).1
              exact ⟨blk_cell h 0, blk_cell h 1, blk_cell h 2, blk_cell h 3, blk_cell h 4, blk_cell h 5⟩
        case rest =>
          obtain ⟨g1, g2, rfl, rfl, hW, ⟨a0, a1, a2, a3, a4, a5⟩, b0, b1, b2, b3, b4, b5⟩ := hcut
          clear x0 x1 x2 x3 x4 x5 y0 y1 y2 y3 y4 y5
          go_wp2_with fail
          with_reducible refine (ints_same _ _ _ _ _ _ (Kd.C_below HI2.out.2.1.2.1 hW.out) HI2.out.2.1.1 (Kd.C_below HI2.out.2.2.2.1 hW.out) HI2.out.2.2.1 HI2.out.1.1).mono ?_
          rintro e w2 ⟨rfl, ⟨n2, rfl⟩⟩
          go_wp2_with fail
          with_reducible refine (bytes_same _ _ _ _ _ _ (Kd.C_drewN (Kd.C_below HI2.out.2.1.2.2.2 hW.out) n2) HI2.out.2.1.2.2.1 (Kd.C_drewN (Kd.C_below HI2.out.2.2.2.2.2 hW.out) n2) HI2.out.2.2.2.2.1 HI2.out.1.2).mono ?_
          rintro e w3 ⟨rfl, ⟨n3, rfl⟩⟩
          go_wp2_with fail
          go_roundg (l0.length - (i + 1))
          case measure => omega
          case rel => exact ⟨i + 1, by simp, by omega, pw_below_drewN (hB.out.trans (hW.out.mono hB.out.size)) _⟩
      · have d1 : decide ((i : Int) < (l0.length : Int)) = false := decide_eq_false (by omega)
        go_wp2_with fail
        go_ret
        exact ⟨rfl, hB.out⟩
  · exact absurd h (by simp)
end Go.Proofs.YtaaejhodlindeaaGreatDoor.Y
end
section
namespace Go.Proofs.YtaaejhodlindeaaGreatDoor.Y
open Go.RowKit Go.Proofs.YtaaejhodlindeaaGreatDoorW.PrintWords Go.Proofs.YtaaejhodlindeaaGreatDoorW.PrintLast Go.Proofs.YtaaejhodlindeaaGreatDoorW.PrintMore
set_option linter.unusedSimpArgs false
set_option linter.unusedVariables false
abbrev ints (l : List Nat) : List Int := l.map fun (n : Nat) => (n : Int)
theorem bytesOf_ints (s : ByteArray) : bytesOf s = ints (X.nb s) := by simp [bytesOf, X.nb, Function.comp_def]
theorem feed_l (l : List Nat) (hl : l.length ≤ 100000000000) {st : X.PS} {evs : List X.Ev} (hr : X.run .gr l = some (st, evs)) : impl_Feed.f 32 4096 (ints l) = some (evs.map X.toS) := by
  have hp : ∀ x ∈ ints l, 0 ≤ x := fun x hx => by
    obtain ⟨b, _, rfl⟩ := List.mem_map.1 hx
    omega
  have hm : (ints l).map Int.toNat = l := by simp [ints, Function.comp_def]
  unfold impl_Feed.f
  rw [if_pos ⟨rfl, rfl, by simpa [ints] using hl, hp⟩, hm, hr]
  rfl
def EvFit (e : X.Ev) : Prop := e.params.length < 1000000 ∧ e.data.length < 1000000
theorem same_evs (evs : List X.Ev) (h : ∀ e ∈ evs, EvFit e) : spec_SameEvents.f ((evs.map X.toS).map cv) ((evs.map X.toS).map cv) = some true := by
  unfold spec_SameEvents.f
  rw [if_pos (evsEq_of _ (fun e he => ?_))]
  obtain ⟨x, hx, rfl⟩ := List.mem_map.1 he
  obtain ⟨y, hy, rfl⟩ := List.mem_map.1 hx
  exact h y hy
/-- A plan's operations, each with its text and its events. -/
def Made (l : List Op) (ps : List (ByteArray × List X.Ev)) : Prop :=
  ps.length = l.length ∧ ∀ i p (h : i < l.length), ps[i]? = some p → (∀ k, 200 ≤ k → laws_drawMade.f k l[i].f0 l[i].f1 l[i].f2 l[i].f3 l[i].f4 = some p.1) ∧ MadeAs l[i] p.1 p.2
theorem plan_made (l : List Op) (h : RightPlan l) : ∃ ps, Made l ps := by
  obtain ⟨ps, h1, h2⟩ := X.list_of (fun i (p : ByteArray × List X.Ev) => ∀ h : i < l.length, (∀ k, 200 ≤ k → laws_drawMade.f k l[i].f0 l[i].f1 l[i].f2 l[i].f3 l[i].f4 = some p.1) ∧ MadeAs l[i] p.1 p.2) l.length (fun i hi => by
    obtain ⟨t, evs, m1, m2⟩ := made l[i] (h.1 _ (List.getElem_mem hi)) 200 (by omega)
    exact ⟨(t, evs), fun _ => ⟨fun k hk => lift (laws_drawMade.mono _ _ _ _ _) hk m1, m2⟩⟩)
  exact ⟨ps, h1, fun i p hi hp => h2 i p hp hi⟩
theorem madeAs_size {o : Op} {t : ByteArray} {evs : List X.Ev} (h : MadeAs o t evs) : t.size ≤ 100 ∧ 1 ≤ t.size := by
  rcases h with ⟨_, rfl, _, hp⟩ | ⟨_, e, _, ho⟩
  · exact ⟨by have := hp.2.2; omega, hp.2.1⟩
  · exact ⟨ho.size, ho.pos⟩
theorem madeAs_run {o : Op} {t : ByteArray} {evs : List X.Ev} (h : MadeAs o t evs) : X.run .gr (X.nb t) = some (.gr, evs) := by
  rcases h with ⟨_, rfl, rfl, hp⟩ | ⟨_, e, rfl, ho⟩
  · exact text_run _ hp.1
  · exact ho.run
theorem madeAs_fit {o : Op} {t : ByteArray} {evs : List X.Ev} (h : MadeAs o t evs) : ∀ e ∈ evs, EvFit e := by
  rcases h with ⟨_, rfl, rfl, hp⟩ | ⟨_, e, rfl, ho⟩
  · intro e he
    obtain ⟨b, _, rfl⟩ := List.mem_map.1 he
    exact ⟨by simp [X.evPrint], by simp [X.evPrint]⟩
  · intro x hx
    rw [List.mem_singleton.1 hx]
    have := ho.pars
    exact ⟨by omega, by omega⟩
theorem madeAs_few {o : Op} {t : ByteArray} {evs : List X.Ev} (h : MadeAs o t evs) : evs.length ≤ 20 := by
  rcases h with ⟨_, rfl, rfl, hp⟩ | ⟨_, e, rfl, ho⟩
  · have := hp.2.2
    simp only [charEvs, List.length_map]
    rw [data_length]
    exact this
  · simp
/-- Texts joined. -/
def joinT : List ByteArray → ByteArray → ByteArray
  | [], x => x
  | t :: r, x => joinT r (x ++ t)
theorem nb_join : ∀ (ts : List ByteArray) (x : ByteArray), X.nb (joinT ts x) = X.nb x ++ (ts.map X.nb).flatten
  | [], x => by simp [joinT]
  | t :: r, x => by rw [joinT, nb_join r, X.nb_append]; simp
theorem join_size : ∀ (ts : List ByteArray) (x : ByteArray), (∀ t ∈ ts, t.size ≤ 100) → (joinT ts x).size ≤ x.size + 100 * ts.length
  | [], x, _ => by simp [joinT]
  | t :: r, x, h => by
    have h1 := h t (by simp)
    have h2 := join_size r (x ++ t) (fun u hu => h u (List.mem_cons_of_mem _ hu))
    rw [joinT]
    simp only [ByteArray.size_append, List.length_cons] at h2 ⊢
    omega
theorem made_mem {l : List Op} {ps : List (ByteArray × List X.Ev)} (h : Made l ps) (p : ByteArray × List X.Ev) (hp : p ∈ ps) : ∃ o, MadeAs o p.1 p.2 := by
  obtain ⟨i, hi, rfl⟩ := List.mem_iff_getElem.1 hp
  exact ⟨_, (h.2 i _ (by rw [← h.1]; exact hi) (List.getElem?_eq_getElem hi)).2⟩
theorem run_parts : ∀ (ps : List (ByteArray × List X.Ev)), (∀ p ∈ ps, ∃ o, MadeAs o p.1 p.2) → X.run .gr ((ps.map fun p => X.nb p.1).flatten) = some (.gr, (ps.map (·.2)).flatten)
  | [], _ => rfl
  | p :: ps, h => by
    obtain ⟨o, ho⟩ := h p (by simp)
    simp only [List.map_cons, List.flatten_cons]
    exact X.run_of (madeAs_run ho) (run_parts ps (fun q hq => h q (List.mem_cons_of_mem _ hq)))
theorem few_parts : ∀ (ps : List (ByteArray × List X.Ev)), (∀ p ∈ ps, ∃ o, MadeAs o p.1 p.2) → ((ps.map (·.2)).flatten).length ≤ 20 * ps.length
  | [], _ => by simp
  | p :: ps, h => by
    obtain ⟨o, ho⟩ := h p (by simp)
    have := few_parts ps (fun q hq => h q (List.mem_cons_of_mem _ hq))
    have := madeAs_few ho
    simp only [List.map_cons, List.flatten_cons, List.length_append, List.length_cons]
    omega
theorem text_l0 (l : List Op) (hl : l.length ≤ 20) (ps : List (ByteArray × List X.Ev)) (h : Made l ps) : ∀ (m i k : Nat) (x : ByteArray), i + m = l.length → 300 + m ≤ k → x.size ≤ 100 * i →
    laws_drawText.l0 k x l (l.length : Int) (i : Int) = some (bytesOf (joinT ((ps.drop i).map (·.1)) x))
  | 0, i, k + 1, x, hi, hk, hx => by
    have hpl := h.1
    rw [laws_drawText.l0, if_neg (by omega), conv_f x (by omega), Option.bind_some, List.drop_of_length_le (by omega)]
    rfl
  | m + 1, i, k + 1, x, hi, hk, hx => by
    have hpl := h.1
    have hil : i < l.length := by omega
    have hip : i < ps.length := by omega
    obtain ⟨q1, q2⟩ := h.2 i ps[i] hil (List.getElem?_eq_getElem hip)
    have hs := (madeAs_size q2).1
    rw [laws_drawText.l0, if_pos (by omega), if_pos (by omega), if_pos (by omega), rdO_at l i hil, q1 k (by omega), Option.bind_some, if_pos (by omega), wrap_up i (by omega)]
    rw [text_l0 l hl ps h m (i + 1) k _ (by omega) (by omega) (by rw [ByteArray.size_append]; omega), List.drop_eq_getElem_cons hip, List.map_cons, joinT]
/-- What a right plan's text is, and what it runs to. -/
theorem plan_run (l : List Op) (h : RightPlan l) : ∃ ps T, Made l ps ∧ (∀ k, 400 ≤ k → laws_drawText.f k l = some (ints T)) ∧ T = (ps.map fun p => X.nb p.1).flatten ∧ T.length ≤ 2000 ∧ X.run .gr T = some (.gr, (ps.map (·.2)).flatten) ∧
    (∀ e ∈ (ps.map (·.2)).flatten, EvFit e) ∧ ((ps.map (·.2)).flatten).length ≤ 400 := by
  obtain ⟨ps, hps⟩ := plan_made l h
  have hl := h.2.2
  have hpl := hps.1
  have hmem := made_mem hps
  refine ⟨ps, (ps.map fun p => X.nb p.1).flatten, hps, fun k hk => ?_, rfl, ?_, run_parts ps hmem, ?_, ?_⟩
  · have := text_l0 l hl ps hps l.length 0 k ⟨#[]⟩ (by omega) (by omega) (by decide)
    unfold laws_drawText.f
    rw [List.drop_zero] at this
    refine this.trans ?_
    rw [bytesOf_ints, nb_join, List.map_map]
    rfl
  · have h1 := join_size (ps.map (·.1)) ⟨#[]⟩ (fun t ht => by
      obtain ⟨p, hp, rfl⟩ := List.mem_map.1 ht
      obtain ⟨o, ho⟩ := hmem p hp
      exact (madeAs_size ho).1)
    have h2 := nb_join (ps.map (·.1)) ⟨#[]⟩
    have h3 := X.nb_len (joinT (ps.map (·.1)) ⟨#[]⟩)
    rw [h2, List.map_map] at h3
    have h4 : (X.nb ⟨#[]⟩ ++ ((ps.map (X.nb ∘ fun x => x.1)).flatten)).length = ((ps.map fun p => X.nb p.1).flatten).length := rfl
    have h5 : (⟨#[]⟩ : ByteArray).size = 0 := rfl
    rw [List.length_map] at h1
    omega
  · intro e he
    obtain ⟨evs, hevs, he2⟩ := List.mem_flatten.1 he
    obtain ⟨p, hp, rfl⟩ := List.mem_map.1 hevs
    obtain ⟨o, ho⟩ := hmem p hp
    exact madeAs_fit ho e he2
  · have := few_parts ps hmem
    omega
end Go.Proofs.YtaaejhodlindeaaGreatDoor.Y
end
section
namespace Go.Proofs.YtaaejhodlindeaaGreatDoor.Y
open Go.RowKit Go.Proofs.YtaaejhodlindeaaGreatDoorW.PrintWords Go.Proofs.YtaaejhodlindeaaGreatDoorW.PrintLast Go.Proofs.YtaaejhodlindeaaGreatDoorW.PrintMore
attribute [local go_sem] max2_int min2_int max_two min_two max_three min_three max_four min_four   -- for this text's walks alone
set_option linter.unusedVariables false
set_option linter.unusedSimpArgs false
set_option maxHeartbeats 8000000 in
set_option maxRecDepth 100000 in
theorem spec_IsDrawNumber.calls (a0 : Int) (r : Bool) (w : World) (h : spec_IsDrawNumber.f a0 = some r) :
    Calls Tryz.prog 31 #[.int .i64 a0] w fun e w' => e = .returned (.bool r) ∧ Drawn0 w w' := by
  have H : (if a0 ≥ 0 then (if a0 ≤ 22 then (if a0 = 7 then (some false) else (some (a0 != 8))) else (some false)) else (some false)) = some r := h
  clear h
  by_cases c2 : a0 ≥ 0
  · rw [if_pos c2] at H
    have c2b0 : decide (0 ≤ a0) = true := decide_eq_true c2
    clear c2
    by_cases c3 : a0 ≤ 22
    · rw [if_pos c3] at H
      have c3b0 : decide (a0 ≤ 22) = true := decide_eq_true c3
      clear c3
      by_cases c4 : a0 = 7
      · rw [if_pos c4] at H
        have c4b0 : (a0 == 7) = true := beq_iff_eq.mpr c4
        have c4b1 : (a0 != 7) = false := bne_eq_false_iff_eq.mpr c4
        clear c4
        obtain rfl := Option.some.inj H
        go_enter Tryz.func31, Tryz.ntmps31
        go_wp2
        go_ret
        exact ⟨by first | rfl | (simp; done) | (simp [*]; done), by repeat (first | exact Drawn0.refl _ | apply Drawn0.step)⟩
      · rw [if_neg c4] at H
        have c4b0 : (a0 == 7) = false := beq_eq_false_iff_ne.mpr c4
        have c4b1 : (a0 != 7) = true := bne_iff_ne.mpr c4
        obtain rfl := Option.some.inj H
        go_enter Tryz.func31, Tryz.ntmps31
        go_wp2
        go_ret
        exact ⟨by first | rfl | (simp; done) | (simp [*]; done), by repeat (first | exact Drawn0.refl _ | apply Drawn0.step)⟩
    · rw [if_neg c3] at H
      have c3b0 : decide (a0 ≤ 22) = false := decide_eq_false c3
      clear c3
      obtain rfl := Option.some.inj H
      go_enter Tryz.func31, Tryz.ntmps31
      go_wp2
      go_ret
      exact ⟨by first | rfl | (simp; done) | (simp [*]; done), by repeat (first | exact Drawn0.refl _ | apply Drawn0.step)⟩
  · rw [if_neg c2] at H
    have c2b0 : decide (0 ≤ a0) = false := decide_eq_false c2
    clear c2
    obtain rfl := Option.some.inj H
    go_enter Tryz.func31, Tryz.ntmps31
    go_wp2
    go_ret
    exact ⟨by first | rfl | (simp; done) | (simp [*]; done), by repeat (first | exact Drawn0.refl _ | apply Drawn0.step)⟩
end Go.Proofs.YtaaejhodlindeaaGreatDoor.Y
end
section
namespace Go.Proofs.YtaaejhodlindeaaGreatDoor.Y
open Go.RowKit Go.Proofs.YtaaejhodlindeaaGreatDoorW.PrintWords Go.Proofs.YtaaejhodlindeaaGreatDoorW.PrintLast Go.Proofs.YtaaejhodlindeaaGreatDoorW.PrintMore
attribute [local go_sem] max2_int min2_int max_two min_two max_three min_three max_four min_four   -- for this text's walks alone
set_option linter.unusedVariables false
set_option linter.unusedSimpArgs false
set_option maxHeartbeats 8000000 in
set_option maxRecDepth 100000 in
theorem spec_drawAttributes.calls (k : Nat) (A0 : Option Addr) (c0 : Nat) (l0 : List Int) (r : Bool) (w : World) (hr0 : Kd.C (Kd.int .i64) w A0 l0.length l0) (hc0 : l0.length ≤ c0) (h : spec_drawAttributes.f k l0 = some r) :
    Calls Tryz.prog 117 #[.slice A0 l0.length c0] w fun e w' => e = .returned (.bool r) ∧ Drawn0 w w' := by
  have HR0 := Aside0.mk hr0
  have HC0 := Aside0.mk hc0
  clear hr0 hc0
  have H : (spec_drawAttributes.l0 k l0 l0 (l0.length : Int) 0) = some r := h
  clear h
  have H' := Aside0.mk H
  clear H
  go_enter Tryz.func117, Tryz.ntmps117
  go_wp2
  go_loopg [7] k (fun kq v7 w' => ∃ (x7_1 : Int), v7 = .int .i64 x7_1 ∧ Aside0 (spec_drawAttributes.l0 kq l0 l0 (l0.length : Int) x7_1 = some r) ∧ Aside0 (kq ≤ k) ∧ Drawn0 w w')
  case atStart => exact ⟨(0), (by first | rfl | (simp; done) | (simp [*]; done)), H', ⟨Nat.le_refl _⟩, by repeat (first | exact Drawn0.refl _ | apply Drawn0.step)⟩
  case round =>
    clear H'
    try clear c1
    obtain ⟨x7_1, rfl, HA, HK1, ⟨m1, rfl⟩⟩ := hrel
    cases gk with
    | zero => exact absurd HA.out (by simp [spec_drawAttributes.l0])
    | succ k1 =>
      have H := HA.out
      clear HA
      simp only [spec_drawAttributes.l0] at H
      by_cases c2 : x7_1 < (l0.length : Int)
      · rw [if_pos c2] at H
        have c2b0 : decide (x7_1 < (l0.length : Int)) = true := decide_eq_true c2
        clear c2
        by_cases c3 : 0 ≤ x7_1
        · rw [if_pos c3] at H
          have c3b0 : decide (0 ≤ x7_1) = true := decide_eq_true c3
          clear c3
          by_cases c4 : x7_1 < (l0.length : Int)
          · rw [if_pos c4] at H
            have c4b0 : decide (x7_1 < (l0.length : Int)) = true := decide_eq_true c4
            clear c4
            by_cases c5 : (rd l0 x7_1) < 0
            · rw [if_pos c5] at H
              have c5b0 : decide ((rd l0 x7_1) < 0) = true := decide_eq_true c5
              clear c5
              obtain rfl := Option.some.inj H
              have p114 : 0 ≤ (x7_1 : Int) := of_decide_eq_true (by first | (with_reducible assumption) | assumption)
              have q114 : x7_1 < (l0.length : Int) := of_decide_eq_true (by first | (with_reducible assumption) | assumption)
              obtain ⟨ad114, e114, hx114_0⟩ := Kd.at_int HR0.out x7_1 p114 q114
              cases e114
              replace p114 := eq_true p114
              replace q114 := eq_true q114
              go_wp2
              go_ret
              exact ⟨by first | rfl | (simp; done) | (simp [*]; done), by repeat (first | exact Drawn0.refl _ | apply Drawn0.step)⟩
            · rw [if_neg c5] at H
              have c5b0 : decide ((rd l0 x7_1) < 0) = false := decide_eq_false c5
              clear c5
              by_cases c6 : (rd l0 x7_1) > 29
              · rw [if_pos c6] at H
                have c6b0 : decide (29 < (rd l0 x7_1)) = true := decide_eq_true c6
                clear c6
                obtain rfl := Option.some.inj H
                have p114 : 0 ≤ (x7_1 : Int) := of_decide_eq_true (by first | (with_reducible assumption) | assumption)
                have q114 : x7_1 < (l0.length : Int) := of_decide_eq_true (by first | (with_reducible assumption) | assumption)
                obtain ⟨ad114, e114, hx114_0⟩ := Kd.at_int HR0.out x7_1 p114 q114
                cases e114
                replace p114 := eq_true p114
                replace q114 := eq_true q114
                go_wp2
                go_ret
                exact ⟨by first | rfl | (simp; done) | (simp [*]; done), by repeat (first | exact Drawn0.refl _ | apply Drawn0.step)⟩
              · rw [if_neg c6] at H
                have c6b0 : decide (29 < (rd l0 x7_1)) = false := decide_eq_false c6
                clear c6
                by_cases c7 : (rd l0 x7_1) > 9
                · rw [if_pos c7] at H
                  have c7b0 : decide (9 < (rd l0 x7_1)) = true := decide_eq_true c7
                  clear c7
                  by_cases c8 : (rd l0 x7_1) < 22
                  · rw [if_pos c8] at H
                    have c8b0 : decide ((rd l0 x7_1) < 22) = true := decide_eq_true c8
                    clear c8
                    obtain rfl := Option.some.inj H
                    have p114 : 0 ≤ (x7_1 : Int) := of_decide_eq_true (by first | (with_reducible assumption) | assumption)
                    have q114 : x7_1 < (l0.length : Int) := of_decide_eq_true (by first | (with_reducible assumption) | assumption)
                    obtain ⟨ad114, e114, hx114_0⟩ := Kd.at_int HR0.out x7_1 p114 q114
                    cases e114
                    replace p114 := eq_true p114
                    replace q114 := eq_true q114
                    go_wp2
                    go_ret
                    exact ⟨by first | rfl | (simp; done) | (simp [*]; done), by repeat (first | exact Drawn0.refl _ | apply Drawn0.step)⟩
                  · rw [if_neg c8] at H
                    have c8b0 : decide ((rd l0 x7_1) < 22) = false := decide_eq_false c8
                    clear c8
                    by_cases c9 : (rd l0 x7_1) = 26
                    · rw [if_pos c9] at H
                      have c9b0 : ((rd l0 x7_1) == 26) = true := beq_iff_eq.mpr c9
                      have c9b1 : ((rd l0 x7_1) != 26) = false := bne_eq_false_iff_eq.mpr c9
                      clear c9
                      obtain rfl := Option.some.inj H
                      have p114 : 0 ≤ (x7_1 : Int) := of_decide_eq_true (by first | (with_reducible assumption) | assumption)
                      have q114 : x7_1 < (l0.length : Int) := of_decide_eq_true (by first | (with_reducible assumption) | assumption)
                      obtain ⟨ad114, e114, hx114_0⟩ := Kd.at_int HR0.out x7_1 p114 q114
                      cases e114
                      replace p114 := eq_true p114
                      replace q114 := eq_true q114
                      go_wp2
                      go_ret
                      exact ⟨by first | rfl | (simp; done) | (simp [*]; done), by repeat (first | exact Drawn0.refl _ | apply Drawn0.step)⟩
                    · rw [if_neg c9] at H
                      have c9b0 : ((rd l0 x7_1) == 26) = false := beq_eq_false_iff_ne.mpr c9
                      have c9b1 : ((rd l0 x7_1) != 26) = true := bne_iff_ne.mpr c9
                      have H' := Aside0.mk H
                      clear H
                      have p114 : 0 ≤ (x7_1 : Int) := of_decide_eq_true (by first | (with_reducible assumption) | assumption)
                      have q114 : x7_1 < (l0.length : Int) := of_decide_eq_true (by first | (with_reducible assumption) | assumption)
                      obtain ⟨ad114, e114, hx114_0⟩ := Kd.at_int HR0.out x7_1 p114 q114
                      cases e114
                      replace p114 := eq_true p114
                      replace q114 := eq_true q114
                      go_wp2
                      go_roundg k1
                      case measure => have := HK1.out; omega
                      case rel => exact ⟨(wrap64 (x7_1 + 1)), (by first | rfl | (simp; done) | (simp [*]; done)), H', ⟨by have := HK1.out; omega⟩, by repeat (first | exact Drawn0.refl _ | apply Drawn0.step)⟩
                · rw [if_neg c7] at H
                  have c7b0 : decide (9 < (rd l0 x7_1)) = false := decide_eq_false c7
                  clear c7
                  by_cases c10 : (rd l0 x7_1) = 26
                  · rw [if_pos c10] at H
                    have c10b0 : ((rd l0 x7_1) == 26) = true := beq_iff_eq.mpr c10
                    have c10b1 : ((rd l0 x7_1) != 26) = false := bne_eq_false_iff_eq.mpr c10
                    clear c10
                    obtain rfl := Option.some.inj H
                    have p114 : 0 ≤ (x7_1 : Int) := of_decide_eq_true (by first | (with_reducible assumption) | assumption)
                    have q114 : x7_1 < (l0.length : Int) := of_decide_eq_true (by first | (with_reducible assumption) | assumption)
                    obtain ⟨ad114, e114, hx114_0⟩ := Kd.at_int HR0.out x7_1 p114 q114
                    cases e114
                    replace p114 := eq_true p114
                    replace q114 := eq_true q114
                    go_wp2
                    go_ret
                    exact ⟨by first | rfl | (simp; done) | (simp [*]; done), by repeat (first | exact Drawn0.refl _ | apply Drawn0.step)⟩
                  · rw [if_neg c10] at H
                    have c10b0 : ((rd l0 x7_1) == 26) = false := beq_eq_false_iff_ne.mpr c10
                    have c10b1 : ((rd l0 x7_1) != 26) = true := bne_iff_ne.mpr c10
                    have H' := Aside0.mk H
                    clear H
                    have p114 : 0 ≤ (x7_1 : Int) := of_decide_eq_true (by first | (with_reducible assumption) | assumption)
                    have q114 : x7_1 < (l0.length : Int) := of_decide_eq_true (by first | (with_reducible assumption) | assumption)
                    obtain ⟨ad114, e114, hx114_0⟩ := Kd.at_int HR0.out x7_1 p114 q114
                    cases e114
                    replace p114 := eq_true p114
                    replace q114 := eq_true q114
                    go_wp2
                    go_roundg k1
                    case measure => have := HK1.out; omega
                    case rel => exact ⟨(wrap64 (x7_1 + 1)), (by first | rfl | (simp; done) | (simp [*]; done)), H', ⟨by have := HK1.out; omega⟩, by repeat (first | exact Drawn0.refl _ | apply Drawn0.step)⟩
          · rw [if_neg c4] at H
            exact absurd H (by simp)
        · rw [if_neg c3] at H
          exact absurd H (by simp)
      · rw [if_neg c2] at H
        have c2b0 : decide (x7_1 < (l0.length : Int)) = false := decide_eq_false c2
        clear c2
        by_cases c11 : (l0.length : Int) ≥ 1
        · rw [if_pos c11] at H
          have c11b0 : decide (1 ≤ (l0.length : Int)) = true := decide_eq_true c11
          have c11b1 : decide (1 ≤ l0.length) = true := decide_eq_true (by omega)
          clear c11
          obtain rfl := Option.some.inj H
          go_wp2
          go_ret
          exact ⟨by first | rfl | (simp; done) | (simp [*]; done), by repeat (first | exact Drawn0.refl _ | apply Drawn0.step)⟩
        · rw [if_neg c11] at H
          have c11b0 : decide (1 ≤ (l0.length : Int)) = false := decide_eq_false c11
          have c11b1 : decide (1 ≤ l0.length) = false := decide_eq_false (by omega)
          clear c11
          obtain rfl := Option.some.inj H
          go_wp2
          go_ret
          exact ⟨by first | rfl | (simp; done) | (simp [*]; done), by repeat (first | exact Drawn0.refl _ | apply Drawn0.step)⟩
end Go.Proofs.YtaaejhodlindeaaGreatDoor.Y
end
section
namespace Go.Proofs.YtaaejhodlindeaaGreatDoor.Y
open Go.RowKit Go.Proofs.YtaaejhodlindeaaGreatDoorW.PrintWords Go.Proofs.YtaaejhodlindeaaGreatDoorW.PrintLast Go.Proofs.YtaaejhodlindeaaGreatDoorW.PrintMore
attribute [local go_sem] max2_int min2_int max_two min_two max_three min_three max_four min_four   -- for this text's walks alone
set_option linter.unusedVariables false
set_option linter.unusedSimpArgs false
set_option maxHeartbeats 8000000 in
set_option maxRecDepth 100000 in
theorem spec_DrawPlain.calls (k : Nat) (a0 : ByteArray) (a1 : Int) (r : Bool) (w : World) (h : spec_DrawPlain.f k a0 a1 = some r) :
    Calls Tryz.prog 118 #[.string a0, .int .i64 a1] w fun e w' => e = .returned (.bool r) ∧ Drawn0 w w' := by
  have H : (spec_DrawPlain.l0 k a0 a1 (a0.size : Int) 0) = some r := h
  clear h
  have H' := Aside0.mk H
  clear H
  go_enter Tryz.func118, Tryz.ntmps118
  go_wp2
  go_loopg [8] k (fun kq v8 w' => ∃ (x8_1 : Int), v8 = .int .i64 x8_1 ∧ Aside0 (spec_DrawPlain.l0 kq a0 a1 (a0.size : Int) x8_1 = some r) ∧ Aside0 (kq ≤ k) ∧ Drawn0 w w')
  case atStart => exact ⟨(0), (by first | rfl | (simp; done) | (simp [*]; done)), H', ⟨Nat.le_refl _⟩, by repeat (first | exact Drawn0.refl _ | apply Drawn0.step)⟩
  case round =>
    clear H'
    try clear c1
    try clear p2
    obtain ⟨x8_1, rfl, HA, HK1, ⟨m1, rfl⟩⟩ := hrel
    cases gk with
    | zero => exact absurd HA.out (by simp [spec_DrawPlain.l0])
    | succ k1 =>
      have H := HA.out
      clear HA
      simp only [spec_DrawPlain.l0] at H
      by_cases c3 : x8_1 < (a0.size : Int)
      · rw [if_pos c3] at H
        have c3b0 : decide (x8_1 < (a0.size : Int)) = true := decide_eq_true c3
        clear c3
        by_cases c4 : 0 ≤ x8_1
        · rw [if_pos c4] at H
          have c4b0 : decide (0 ≤ x8_1) = true := decide_eq_true c4
          clear c4
          by_cases c5 : x8_1 < (a0.size : Int)
          · rw [if_pos c5] at H
            have c5b0 : decide (x8_1 < (a0.size : Int)) = true := decide_eq_true c5
            clear c5
            by_cases c7 : (bt a0 x8_1) < 32
            · rw [if_pos c7] at H
              have c7b0 : decide ((bt a0 x8_1) < 32) = true := decide_eq_true c7
              clear c7
              obtain rfl := Option.some.inj H
              have p6 : 0 ≤ (x8_1 : Int) := of_decide_eq_true (by first | (with_reducible assumption) | assumption)
              have q6 : x8_1 < (a0.size : Int) := of_decide_eq_true (by first | (with_reducible assumption) | assumption)
              have hx6 := bt_at a0 x8_1
              replace p6 := eq_true p6
              replace q6 := eq_true q6
              go_wp2
              go_ret
              exact ⟨by first | rfl | (simp; done) | (simp [*]; done), by repeat (first | exact Drawn0.refl _ | apply Drawn0.step)⟩
            · rw [if_neg c7] at H
              have c7b0 : decide ((bt a0 x8_1) < 32) = false := decide_eq_false c7
              clear c7
              by_cases c9 : (bt a0 x8_1) > 126
              · rw [if_pos c9] at H
                have c9b0 : decide (126 < (bt a0 x8_1)) = true := decide_eq_true c9
                clear c9
                obtain rfl := Option.some.inj H
                have p6 : 0 ≤ (x8_1 : Int) := of_decide_eq_true (by first | (with_reducible assumption) | assumption)
                have q6 : x8_1 < (a0.size : Int) := of_decide_eq_true (by first | (with_reducible assumption) | assumption)
                have hx6 := bt_at a0 x8_1
                replace p6 := eq_true p6
                replace q6 := eq_true q6
                have p8 : 0 ≤ (x8_1 : Int) := of_decide_eq_true (by first | (with_reducible assumption) | assumption)
                have q8 : x8_1 < (a0.size : Int) := of_decide_eq_true (by first | (with_reducible assumption) | assumption)
                have hx8 := bt_at a0 x8_1
                replace p8 := eq_true p8
                replace q8 := eq_true q8
                go_wp2
                go_ret
                exact ⟨by first | rfl | (simp; done) | (simp [*]; done), by repeat (first | exact Drawn0.refl _ | apply Drawn0.step)⟩
              · rw [if_neg c9] at H
                have c9b0 : decide (126 < (bt a0 x8_1)) = false := decide_eq_false c9
                clear c9
                have H' := Aside0.mk H
                clear H
                have p6 : 0 ≤ (x8_1 : Int) := of_decide_eq_true (by first | (with_reducible assumption) | assumption)
                have q6 : x8_1 < (a0.size : Int) := of_decide_eq_true (by first | (with_reducible assumption) | assumption)
                have hx6 := bt_at a0 x8_1
                replace p6 := eq_true p6
                replace q6 := eq_true q6
                have p8 : 0 ≤ (x8_1 : Int) := of_decide_eq_true (by first | (with_reducible assumption) | assumption)
                have q8 : x8_1 < (a0.size : Int) := of_decide_eq_true (by first | (with_reducible assumption) | assumption)
                have hx8 := bt_at a0 x8_1
                replace p8 := eq_true p8
                replace q8 := eq_true q8
                go_wp2
                go_roundg k1
                case measure => have := HK1.out; omega
                case rel => exact ⟨(wrap64 (x8_1 + 1)), (by first | rfl | (simp; done) | (simp [*]; done)), H', ⟨by have := HK1.out; omega⟩, by repeat (first | exact Drawn0.refl _ | apply Drawn0.step)⟩
          · rw [if_neg c5] at H
            exact absurd H (by simp)
        · rw [if_neg c4] at H
          exact absurd H (by simp)
      · rw [if_neg c3] at H
        have c3b0 : decide (x8_1 < (a0.size : Int)) = false := decide_eq_false c3
        clear c3
        by_cases c10 : (a0.size : Int) ≥ 1
        · rw [if_pos c10] at H
          have c10b0 : decide (1 ≤ (a0.size : Int)) = true := decide_eq_true c10
          have c10b1 : decide (1 ≤ a0.size) = true := decide_eq_true (by omega)
          clear c10
          obtain rfl := Option.some.inj H
          go_wp2
          go_ret
          exact ⟨by first | rfl | (simp; done) | (simp [*]; done), by repeat (first | exact Drawn0.refl _ | apply Drawn0.step)⟩
        · rw [if_neg c10] at H
          have c10b0 : decide (1 ≤ (a0.size : Int)) = false := decide_eq_false c10
          have c10b1 : decide (1 ≤ a0.size) = false := decide_eq_false (by omega)
          clear c10
          obtain rfl := Option.some.inj H
          go_wp2
          go_ret
          exact ⟨by first | rfl | (simp; done) | (simp [*]; done), by repeat (first | exact Drawn0.refl _ | apply Drawn0.step)⟩
end Go.Proofs.YtaaejhodlindeaaGreatDoor.Y
end
