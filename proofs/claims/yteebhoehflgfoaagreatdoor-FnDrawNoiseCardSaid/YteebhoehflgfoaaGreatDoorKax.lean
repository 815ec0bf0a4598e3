/- Texts of this claim, joined: XDrawRead. Of each, what the claim uses. -/
import Derived.Test.YteebhoehflgfoaaGreatDoorKaw
import Derived.StillTailTactics
import Derived.Test.YteebhoehflgfoaaGreatDoorKac
section
namespace Go.Proofs.YteebhoehflgfoaaGreatDoor.Y
open Go.RowKit Go.Proofs.YteebhoehflgfoaaGreatDoorW.PrintWords Go.Proofs.YteebhoehflgfoaaGreatDoorW.PrintLast Go.Proofs.YteebhoehflgfoaaGreatDoorW.PrintMore
set_option linter.unusedSimpArgs false
set_option linter.unusedVariables false
set_option maxRecDepth 100000
set_option maxHeartbeats 8000000
theorem wp_letter {P : Program} {c : Code} {E : Exit → Act → World → Prop} {a : Act} {W : World} (h : ∀ W', W' = W → Code.wp P c E a W') : Code.wp P c E a W := h W rfl
theorem wpl_letter {P : Program} {ops : Array Oper} {Q : Exit → Act → World → Prop} {l : List Oper} {a : Act} {W : World} (h : ∀ W', W' = W → wpList P ops Q l a W') : wpList P ops Q l a W := h W rfl
/-- The text of one character. -/
def chr (n : Int) : ByteArray := strOfNums [n % 256]
/-- The last operation is a text. -/
def lastText (acc : List S38) : Option S38 := match acc.getLast? with
 | some o => if o.f0 = 60 then some o else none
 | none => none
/-- What one event adds. -/
def rdStep (acc : List S38) (e : S137) : Option (List S38) :=
 if e.f0 = 0 then if 32 ≤ e.f1 ∧ e.f1 ≤ 126 then match lastText acc with
   | some o => if o.f3.size ≤ 1000000 then some (acc.set (acc.length - 1) ⟨o.f0, o.f1, o.f2, o.f3 ++ chr e.f1, o.f4⟩) else none
   | none => some (acc ++ [⟨60, 0, 0, chr e.f1, []⟩])
  else none
 else if e.f0 = 1 then if 0 ≤ e.f2 ∧ e.f2 ≤ 255 then some (acc ++ [⟨61, e.f2, 0, ⟨#[]⟩, []⟩]) else none
 else if e.f0 = 2 then (spec_drawControl.f e.f3 e.f4).bind fun x => if x.2.2.2.2.2 = true then some (acc ++ [⟨x.1, x.2.1, x.2.2.1, x.2.2.2.1, x.2.2.2.2.1⟩]) else none
 else if e.f0 = 3 ∧ (e.f3 = 55 ∨ e.f3 = 56) then some (acc ++ [⟨e.f3 - 5, 0, 0, ⟨#[]⟩, []⟩]) else none
def rdAll : List S38 → List S137 → Option (List S38)
 | acc, [] => some acc
 | acc, e :: l => (rdStep acc e).bind fun a => rdAll a l
def spec_DrawRead.f (l0 : List S137) : Option (List S38 × Bool) := if l0.length ≤ 1000000 then (rdAll [] l0).map fun r => (r, true) else none
theorem rd_cases {acc a : List S38} {e : S137} (h : rdStep acc e = some a) :
  (e.f0 = 1 ∧ (0 ≤ e.f2 ∧ e.f2 ≤ 255) ∧ a = acc ++ [⟨61, e.f2, 0, ⟨#[]⟩, []⟩]) ∨ (e.f0 = 2 ∧ ∃ t0 t1 t2 t3 t4, spec_drawControl.f e.f3 e.f4 = some (t0, t1, t2, t3, t4, true) ∧ a = acc ++ [⟨t0, t1, t2, t3, t4⟩]) ∨
  (e.f0 = 3 ∧ (e.f3 = 55 ∨ e.f3 = 56) ∧ a = acc ++ [⟨e.f3 - 5, 0, 0, ⟨#[]⟩, []⟩]) ∨
  (e.f0 = 0 ∧ (32 ≤ e.f1 ∧ e.f1 ≤ 126) ∧ ((lastText acc = none ∧ a = acc ++ [⟨60, 0, 0, chr e.f1, []⟩]) ∨ ∃ o, lastText acc = some o ∧ o.f3.size ≤ 1000000 ∧ a = acc.set (acc.length - 1) ⟨o.f0, o.f1, o.f2, o.f3 ++ chr e.f1, o.f4⟩)) := by
 unfold rdStep at h
 by_cases c0 : e.f0 = 0
 ·rw [if_pos c0] at h
  by_cases c1 : 32 ≤ e.f1 ∧ e.f1 ≤ 126
  ·rw [if_pos c1] at h
   refine Or.inr (Or.inr (Or.inr ⟨c0, c1, ?_⟩))
   cases hl : lastText acc with
   | none =>
    simp only [hl] at h
    exact Or.inl ⟨rfl, (Option.some.inj h).symm⟩
   | some o =>
    simp only [hl] at h
    by_cases c2 : o.f3.size ≤ 1000000
    ·rw [if_pos c2] at h
     exact Or.inr ⟨o, rfl, c2, (Option.some.inj h).symm⟩
    ·rw [if_neg c2] at h
     cases h
  ·rw [if_neg c1] at h
   cases h
 rw [if_neg c0] at h
 by_cases c1 : e.f0 = 1
 ·rw [if_pos c1] at h
  by_cases c2 : 0 ≤ e.f2 ∧ e.f2 ≤ 255
  ·rw [if_pos c2] at h
   exact Or.inl ⟨c1, c2, (Option.some.inj h).symm⟩
  ·rw [if_neg c2] at h
   cases h
 rw [if_neg c1] at h
 by_cases c2 : e.f0 = 2
 ·rw [if_pos c2] at h
  obtain ⟨⟨t0, t1, t2, t3, t4, t5⟩, h1, h2⟩ := Option.bind_eq_some_iff.1 h
  cases t5 with
  | false => simp at h2
  | true => exact Or.inr (Or.inl ⟨c2, t0, t1, t2, t3, t4, h1, by simpa using h2.symm⟩)
 rw [if_neg c2] at h
 by_cases c3 : e.f0 = 3 ∧ (e.f3 = 55 ∨ e.f3 = 56)
 ·rw [if_pos c3] at h
  exact Or.inr (Or.inr (Or.inl ⟨c3.1, c3.2, (Option.some.inj h).symm⟩))
 ·rw [if_neg c3] at h
  cases h
theorem last_text {acc : List S38} : (∀ o, lastText acc = some o → 0 < acc.length ∧ rd_T38 acc ((acc.length : Int) - 1) = o ∧ o.f0 = 60) ∧ (lastText acc = none → acc.length = 0 ∨ (0 < acc.length ∧ (rd_T38 acc ((acc.length : Int) - 1)).f0 ≠ 60)) := by
 unfold lastText
 rcases List.eq_nil_or_concat acc with rfl | ⟨l, b, rfl⟩
 ·simp
 ·rw [List.concat_eq_append]
  have hb : rd_T38 (l ++ [b]) (((l ++ [b]).length : Int) - 1) = b := by
   rw [show (((l ++ [b]).length : Int) - 1) = ((l.length : Nat) : Int) by simp]
   simp [rd_T38]
  rw [hb]
  simp only [List.getLast?_append, List.getLast?_singleton, Option.some_or]
  constructor
  ·intro o h
   split at h
   ·rename_i h6
    cases h
    exact ⟨by simp, rfl, h6⟩
   ·cases h
  ·intro h
   split at h
   ·cases h
   ·rename_i h6
    exact Or.inr ⟨by simp, h6⟩
theorem rd_len {acc a : List S38} {e : S137} (h : rdStep acc e = some a) : a.length ≤ acc.length + 1 := by
 unfold rdStep at h
 split at h
 ·split at h
  ·split at h
   ·split at h
    ·cases h
     simp
    ·cases h
   ·cases h
    simp
  ·cases h
 ·split at h
  ·split at h
   ·cases h
    simp
   ·cases h
  ·split at h
   ·obtain ⟨x, _, h2⟩ := Option.bind_eq_some_iff.1 h
    split at h2
    ·cases h2
     simp
    ·cases h2
   ·split at h
    ·cases h
     simp
    ·cases h
theorem rd_next {acc r : List S38} {l : List S137} {i : Nat} (hi : i < l.length) (h : rdAll acc (l.drop i) = some r) : ∃ a, rdStep acc (rd_T137 l (i : Int)) = some a ∧ rdAll a (l.drop (i + 1)) = some r := by
 rw [List.drop_eq_getElem_cons hi, rdAll] at h
 obtain ⟨a, h1, h2⟩ := Option.bind_eq_some_iff.1 h
 exact ⟨a, by rw [show rd_T137 l (i : Int) = l[i] by simp [rd_T137, hi]]; exact h1, h2⟩
theorem spec_DrawRead.calls (A0 : Option Addr) (c0 : Nat) (l0 : List S137) (r1 : List S38) (r2 : Bool) (w : World) (hr0 : Kd.C k137 w A0 l0.length l0) (hc0 : l0.length ≤ c0) (h : spec_DrawRead.f l0 = some (r1, r2)) :
  Calls Tryz.prog 63 #[.slice A0 l0.length c0] w fun e w' => ∃ v0_ : Value, e = .returned (.tuple #[v0_, .bool r2]) ∧ Kd.S k38 38 w' w.heap.size (fun _ => True) v0_ r1 ∧ Below w.heap.size w w' := by
 unfold spec_DrawRead.f at h
 split at h
 case isFalse => cases h
 rename_i hlen
 obtain ⟨rr, hall, he⟩ := Option.map_eq_some_iff.1 h
 cases he
 clear h
 have HR := Lib.hid (And.intro hr0 (And.intro hc0 hlen))
 clear hr0 hc0
 have hu76 := Tryz.underlying137
 have hu42 := Tryz.underlying38
 go_enter Tryz.func63, Tryz.ntmps63
 go_wp2_with fail
 go_loopg [4, 12] l0.length (fun kq v4 v12 w' => ∃ (i : Nat) (acc : List S38), v12 = .int .i64 (i : Int) ∧ i + kq = l0.length ∧ Hid (rdAll acc (l0.drop i) = some r1 ∧ acc.length ≤ i ∧ Kd.S k38 38 w' w.heap.size (fun _ => True) v4 acc ∧ Below w.heap.size w w'))
 case atStart => exact ⟨0, [], rfl, by omega, hall, Nat.le_refl _, Kd.S_nil _ _ _ _ _, Below.refl _ _⟩
 case round =>
  clear hall
  obtain ⟨i, acc, rfl, hk, hI⟩ := hrel
  by_cases hi : i < l0.length
  ·have d3 : (i : Int) < (l0.length : Int) := by omega
   have e1 : IntKind.i64.wrap ((i : Int) + 1) = ((i + 1 : Nat) : Int) := by rw [IntKind.wrap_i64]; omega
   obtain ⟨acc2, hs0, hs1⟩ := rd_next hi hI.out.1
   have hl2 := rd_len hs0
   have hlacc := hI.out.2.1
   have p0 : 0 ≤ (i : Int) := by omega
   obtain ⟨ad, A4, c4, A5, c5, e, x0, x1, x2, x3, x4, x5, l4, g4, l5, g5⟩ := at_T137 HR.out.1 (i : Int) p0 d3
   cases e
   generalize rd_T137 l0 (i : Int) = ev at hs0 x0 x1 x2 x3 x4 x5 l4 g4 l5 g5
   have HB := hI.out.2.2.2
   replace x0 := (HB.cell (World.block_lt_of_cell? w _ x0)).trans x0
   replace x1 := (HB.cell (World.block_lt_of_cell? w _ x1)).trans x1
   replace x2 := (HB.cell (World.block_lt_of_cell? w _ x2)).trans x2
   replace x3 := (HB.cell (World.block_lt_of_cell? w _ x3)).trans x3
   replace x4 := (HB.cell (World.block_lt_of_cell? w _ x4)).trans x4
   replace x5 := (HB.cell (World.block_lt_of_cell? w _ x5)).trans x5
   simp only [Int.toNat_natCast] at x0 x1 x2 x3 x4 x5
   have HS := Lib.hid (And.intro hs0 (And.intro hs1 (And.intro (show acc2.length ≤ i + 1 by omega) (And.intro l4 g4))))
   have HA := Lib.hid (show acc.length ≤ 1000000 by omega)
   clear hs0 hs1 hl2 l4 g4 l5 g5 HB hlacc
   replace p0 := eq_true p0
   go_upto_region 6 with (first | ((with_reducible refine gate_dst (N := 6) rfl ?_); refine box_event ?hg (N := 6) ?hd (cs := #[.int .i64 0, .int .i64 0, .int .u8 0, .int .i64 0, .slice none 0 0, .slice none 0 0]) (t := 137) ?hr ?_; (case hd => rfl); (case hg => rfl); (case hr => first | (go_simp; done) | (go_simp; rfl)); intro ga hg_ga wa hbox_ga hb_ga; have cga_0 : wa.cell? ⟨ga, 0, none⟩ = some (.int .i64 0) := (blk_cell hbox_ga 0).trans rfl; have fga_0 := blk_frozen hbox_ga 0; have cga_1 : wa.cell? ⟨ga, 1, none⟩ = some (.int .i64 0) := (blk_cell hbox_ga 1).trans rfl; have fga_1 := blk_frozen hbox_ga 1; have cga_2 : wa.cell? ⟨ga, 2, none⟩ = some (.int .u8 0) := (blk_cell hbox_ga 2).trans rfl; have fga_2 := blk_frozen hbox_ga 2; have cga_3 : wa.cell? ⟨ga, 3, none⟩ = some (.int .i64 0) := (blk_cell hbox_ga 3).trans rfl; have fga_3 := blk_frozen hbox_ga 3; have cga_4 : wa.cell? ⟨ga, 4, none⟩ = some (.slice none 0 0) := (blk_cell hbox_ga 4).trans rfl; have fga_4 := blk_frozen hbox_ga 4; have cga_5 : wa.cell? ⟨ga, 5, none⟩ = some (.slice none 0 0) := (blk_cell hbox_ga 5).trans rfl; have fga_5 := blk_frozen hbox_ga 5; have Kga := Lib.hid (And.intro hbox_ga (And.intro hb_ga hg_ga)); clear hbox_ga hb_ga hg_ga) | ((with_reducible refine gate_dst (N := 7) rfl ?_); refine wpl_letter (fun wa6 hwa6 => ?_); refine box_event ?hg (N := 7) ?hd (cs := #[.int .i64 0, .int .i64 0, .int .i64 0, .string (⟨#[]⟩ : ByteArray), .slice none 0 0]) (t := 38) ?hr ?_; (case hd => rfl); (case hg => rfl); (case hr => first | (go_simp; done) | (go_simp; rfl)); intro gb hg_gb wb hbox_gb hb_gb; have cgb_0 : wb.cell? ⟨gb, 0, none⟩ = some (.int .i64 0) := (blk_cell hbox_gb 0).trans rfl; have fgb_0 := blk_frozen hbox_gb 0; have cgb_1 : wb.cell? ⟨gb, 1, none⟩ = some (.int .i64 0) := (blk_cell hbox_gb 1).trans rfl; have fgb_1 := blk_frozen hbox_gb 1; have cgb_2 : wb.cell? ⟨gb, 2, none⟩ = some (.int .i64 0) := (blk_cell hbox_gb 2).trans rfl; have fgb_2 := blk_frozen hbox_gb 2; have cgb_3 : wb.cell? ⟨gb, 3, none⟩ = some (.string (⟨#[]⟩ : ByteArray)) := (blk_cell hbox_gb 3).trans rfl; have fgb_3 := blk_frozen hbox_gb 3; have cgb_4 : wb.cell? ⟨gb, 4, none⟩ = some (.slice none 0 0) := (blk_cell hbox_gb 4).trans rfl; have fgb_4 := blk_frozen hbox_gb 4; have Kgb := Lib.hid (And.intro hbox_gb (And.intro hb_gb hg_gb)); clear hbox_gb hb_gb hg_gb))
   refine wp_letter (fun W1 hW1 => ?_)
   clear x0 x1 x2 x3 x4 x5 cga_0 fga_0 cga_1 fga_1 cga_2 fga_2 cga_3 fga_3 cga_4 fga_4 cga_5 fga_5 cgb_0 fgb_0 cgb_1 fgb_1 cgb_2 fgb_2 cgb_3 fgb_3 cgb_4 fgb_4
   have hga : wa6.heap[ga]? = some (.cells #[.int .i64 ev.f0, .int .i64 ev.f1, .int .u8 ev.f2, .int .i64 ev.f3, .slice A4 ev.f4.length c4, .slice A5 ev.f5.length c5] 137 (0, 0)) := by rw [hwa6]; exact (blk_put (blk_put (blk_put (blk_put (blk_put (blk_put Kga.out.1 0 (.int .i64 ev.f0) rfl) 1 (.int .i64 ev.f1) rfl) 2 (.int .u8 ev.f2) rfl) 3 (.int .i64 ev.f3) rfl) 4 (.slice A4 ev.f4.length c4) rfl) 5 (.slice A5 ev.f5.length c5) rfl)
   have hal := blk_lt hga
   have hga0 := Kga.out.2.2
   have hgb0 := Kgb.out.2.2
   have hba : Below wr.heap.size wr wa6 := by rw [hwa6]; exact (below_set (below_set (below_set (below_set (below_set (below_set Kga.out.2.1 (by omega)) (by omega)) (by omega)) (by omega)) (by omega)) (by omega))
   have hwb : Below wr.heap.size wr wb := below_step hba Kgb.out.2.1
   have hsz := below_size hba
   have hne : ga ≠ gb := by omega
   have hgbl : wr.heap.size ≤ gb := by omega
   have hb1 : Below wr.heap.size wr W1 := by rw [hW1]; exact (below_set (below_set (below_set (below_set (below_set hwb hgbl) hgbl) hgbl) hgbl) hgbl)
   have K1 : W1.heap[ga]? = some (.cells #[.int .i64 ev.f0, .int .i64 ev.f1, .int .u8 ev.f2, .int .i64 ev.f3, .slice A4 ev.f4.length c4, .slice A5 ev.f5.length c5] 137 (0, 0)) := by
    rw [hW1, Below.heap_setCell _ _ _ _ hne, Below.heap_setCell _ _ _ _ hne, Below.heap_setCell _ _ _ _ hne, Below.heap_setCell _ _ _ _ hne, Below.heap_setCell _ _ _ _ hne]
    exact (Kgb.out.2.1.block _ hal).trans hga
   have K2 : W1.heap[gb]? = some (.cells #[.int .i64 0, .int .i64 0, .int .i64 0, .string (⟨#[]⟩ : ByteArray), .slice none 0 0] 38 (0, 0)) := by rw [hW1]; exact (blk_put (blk_put (blk_put (blk_put (blk_put Kgb.out.1 0 (.int .i64 0) rfl) 1 (.int .i64 0) rfl) 2 (.int .i64 0) rfl) 3 (.string (⟨#[]⟩ : ByteArray)) rfl) 4 (.slice none 0 0) rfl)
   have hS : Kd.S k38 38 W1 w.heap.size (fun k => k < wr.heap.size) u4 acc := Kd.S_below (Kd.S_mono (Kd.S_bound hI.out.2.2.1) (fun k hk => hk.2.2.1)) hb1
   have hb2 : Below w.heap.size w W1 := below_step hI.out.2.2.2 hb1
   have HX := Lib.hid (And.intro hS (And.intro hb2 (And.intro K2 (And.intro hgbl (And.intro (below_size hI.out.2.2.2) (Kd.C_below HS.out.2.2.2.2 hI.out.2.2.2))))))
   have cga_0 : W1.cell? ⟨ga, 0, none⟩ = some (.int .i64 ev.f0) := (blk_cell K1 0).trans rfl
   have cga_1 : W1.cell? ⟨ga, 1, none⟩ = some (.int .i64 ev.f1) := (blk_cell K1 1).trans rfl
   have cga_2 : W1.cell? ⟨ga, 2, none⟩ = some (.int .u8 ev.f2) := (blk_cell K1 2).trans rfl
   have cga_3 : W1.cell? ⟨ga, 3, none⟩ = some (.int .i64 ev.f3) := (blk_cell K1 3).trans rfl
   have cga_4 : W1.cell? ⟨ga, 4, none⟩ = some (.slice A4 ev.f4.length c4) := (blk_cell K1 4).trans rfl
   have cga_5 : W1.cell? ⟨ga, 5, none⟩ = some (.slice A5 ev.f5.length c5) := (blk_cell K1 5).trans rfl
   have cgb_0 : W1.cell? ⟨gb, 0, none⟩ = some (.int .i64 0) := (blk_cell K2 0).trans rfl
   have fgb_0 := blk_frozen K2 0
   have cgb_1 : W1.cell? ⟨gb, 1, none⟩ = some (.int .i64 0) := (blk_cell K2 1).trans rfl
   have fgb_1 := blk_frozen K2 1
   have cgb_2 : W1.cell? ⟨gb, 2, none⟩ = some (.int .i64 0) := (blk_cell K2 2).trans rfl
   have fgb_2 := blk_frozen K2 2
   have cgb_3 : W1.cell? ⟨gb, 3, none⟩ = some (.string (⟨#[]⟩ : ByteArray)) := (blk_cell K2 3).trans rfl
   have fgb_3 := blk_frozen K2 3
   have cgb_4 : W1.cell? ⟨gb, 4, none⟩ = some (.slice none 0 0) := (blk_cell K2 4).trans rfl
   have fgb_4 := blk_frozen K2 4
   clear hga hal hga0 hgb0 hba hwb hsz hb1 K1 K2 hS hb2 hW1 hwa6 Kga Kgb hI hne hgbl
   rcases rd_cases HS.out.1 with ⟨ek, hn, ea⟩ | ⟨ek, t0, t1, t2, t3, t4, hdc, ea⟩ | ⟨ek, hn, ea⟩ | ⟨ek, hn, ⟨hlt, ea⟩ | ⟨ol, hlt, hol, ea⟩⟩
   ·have eb : ev.f2 % 256 = ev.f2 := by omega
    have k0 : (ev.f0 == 0) = false := beq_eq_false_iff_ne.2 (by omega)
    have k1 : (ev.f0 == 1) = true := beq_iff_eq.2 ek
    go_upto_region 21 with fail
    refine wp_letter (fun W2 hW2 => ?_)
    have K3 : W2.heap[gb]? = some (.cells #[.int .i64 61, .int .i64 ev.f2, .int .i64 0, .string (⟨#[]⟩ : ByteArray), .slice none 0 0] 38 (0, 0)) := by rw [hW2]; exact (blk_put (blk_put (blk_put (blk_put (blk_put HX.out.2.2.1 0 (.int .i64 61) rfl) 1 (.int .i64 ev.f2) rfl) 2 (.int .i64 0) rfl) 3 (.string (⟨#[]⟩ : ByteArray)) rfl) 4 (.slice none 0 0) rfl)
    have hS2 : Kd.S k38 38 W2 w.heap.size (fun k => k < wr.heap.size) u4 acc := by
     rw [hW2]
     exact (Kd.S_far (Kd.S_far (Kd.S_far (Kd.S_far (Kd.S_far HX.out.1 (fun k hk => by have := HX.out.2.2.2.1; show k ≠ gb; omega) _) (fun k hk => by have := HX.out.2.2.2.1; show k ≠ gb; omega) _) (fun k hk => by have := HX.out.2.2.2.1; show k ≠ gb; omega) _) (fun k hk => by have := HX.out.2.2.2.1; show k ≠ gb; omega) _) (fun k hk => by have := HX.out.2.2.2.1; show k ≠ gb; omega) _)
    have hgw : w.heap.size ≤ gb := Nat.le_trans HX.out.2.2.2.2.1 HX.out.2.2.2.1
    have hb3 : Below w.heap.size w W2 := by rw [hW2]; exact (below_set (below_set (below_set (below_set (below_set HX.out.2.1 hgw) hgw) hgw) hgw) hgw)
    have HY := Lib.hid (And.intro hS2 (And.intro hb3 K3))
    clear cga_0 cga_1 cga_2 cga_3 cga_4 cga_5 cgb_0 fgb_0 cgb_1 fgb_1 cgb_2 fgb_2 cgb_3 fgb_3 cgb_4 fgb_4
    have cgb_0 : W2.cell? ⟨gb, 0, none⟩ = some (.int .i64 61) := (blk_cell K3 0).trans rfl
    have cgb_1 : W2.cell? ⟨gb, 1, none⟩ = some (.int .i64 ev.f2) := (blk_cell K3 1).trans rfl
    have cgb_2 : W2.cell? ⟨gb, 2, none⟩ = some (.int .i64 0) := (blk_cell K3 2).trans rfl
    have cgb_3 : W2.cell? ⟨gb, 3, none⟩ = some (.string (⟨#[]⟩ : ByteArray)) := (blk_cell K3 3).trans rfl
    have cgb_4 : W2.cell? ⟨gb, 4, none⟩ = some (.slice none 0 0) := (blk_cell K3 4).trans rfl
    clear hS2 hb3 K3 hW2 hgw
    obtain ⟨Ao, co, eo⟩ := Kd.S_slice HY.out.1
    subst eo
    go_wp2_with ((with_reducible refine gate_builtin (b := .append) (xs := #[.tmp 92, .tmp 94]) rfl ?_); at_builtin; refine Kd.S_append k38 (w0 := w) w.heap.size rfl (.tmp 92) (.tmp 94) 22 38 (.agg #[(.int .i64 0), (.int .i64 0), (.int .i64 0), (.string ⟨#[]⟩), (.slice none 0 0)]) 64 rfl Tryz.underlying22 info38 rfl (by decide) (by omega) (.slice Ao acc.length co) acc (⟨61, ev.f2, 0, (⟨#[]⟩ : ByteArray), ([] : List Int)⟩ : S38) [.int .i64 61, .int .i64 ev.f2, .int .i64 0, .string (⟨#[]⟩ : ByteArray), .slice none 0 0] (fun k => k < wr.heap.size ∨ w.heap.size ≤ k) (fun _ => False) rfl (by first | (go_simp; done) | (go_simp; rfl)) ?aP (fun k_ hk_ => hk_.elim) ?aF ?aO ?aB ?aS ?aL ?_; (case aP => exact k38_mkM _ _ _ (⟨61, ev.f2, 0, (⟨#[]⟩ : ByteArray), ([] : List Int)⟩ : S38) (Kd.R_nil _ _ _ _ _)); (case aB => exact HY.out.2.1); (case aF => exact fun k hk => Or.inr (Nat.le_trans (below_size HY.out.2.1) hk)); (case aO => exact Kd.S_mono HY.out.1 (fun k hk => ⟨Or.inl hk, fun e => e⟩)); (case aS => exact below_size HY.out.2.1); (case aL => have := HA.out; omega); intro v189 w10 ho hb hg hat)
    have HZ := Lib.hid (And.intro ho hb)
    clear ho hb hg hat
    go_roundg (l0.length - (i + 1))
    case measure => omega
    case rel => exact ⟨i + 1, acc2, by simp, by omega, HS.out.2.1, HS.out.2.2.1, by rw [ea]; exact Kd.S_mono HZ.out.1 (fun _ _ => trivial), HZ.out.2⟩
   ·have k0 : (ev.f0 == 0) = false := beq_eq_false_iff_ne.2 (by omega)
    have k1 : (ev.f0 == 1) = false := beq_eq_false_iff_ne.2 (by omega)
    have k2 : (ev.f0 == 2) = true := beq_iff_eq.2 ek
    go_wp2_with fail
    with_reducible refine (spec_drawControl.calls _ _ _ _ t0 t1 t2 t3 t4 true _ (Kd.C_below HS.out.2.2.2.2 HX.out.2.1) HS.out.2.2.2.1 hdc).mono ?_
    rintro e w4 ⟨v, rfl, hv, hbw⟩
    obtain ⟨Av, cv, rfl⟩ := Kd.R_slice hv
    have K4 : w4.heap[gb]? = some (.cells #[.int .i64 0, .int .i64 0, .int .i64 0, .string (⟨#[]⟩ : ByteArray), .slice none 0 0] 38 (0, 0)) := (hbw.block gb (blk_lt HX.out.2.2.1)).trans HX.out.2.2.1
    have HV := Lib.hid (And.intro (Kd.R_lower (Kd.R_mono (ok' := fun k => W1.heap.size ≤ k) (Kd.R_bound hv) (fun k hk => hk.2.1)) (below_size HX.out.2.1)) (And.intro K4 (And.intro (blk_lt HX.out.2.2.1) (And.intro (Kd.S_below HX.out.1 hbw) (And.intro (below_step HX.out.2.1 hbw) (And.intro (below_size hbw) (Nat.le_trans HX.out.2.2.2.1 (Nat.le_of_lt (blk_lt HX.out.2.2.1)))))))))
    clear cga_0 cga_1 cga_2 cga_3 cga_4 cga_5 cgb_0 fgb_0 cgb_1 fgb_1 cgb_2 fgb_2 cgb_3 fgb_3 cgb_4 fgb_4
    have cgb_0 : w4.cell? ⟨gb, 0, none⟩ = some (.int .i64 0) := (blk_cell K4 0).trans rfl
    have fgb_0 := blk_frozen K4 0
    have cgb_1 : w4.cell? ⟨gb, 1, none⟩ = some (.int .i64 0) := (blk_cell K4 1).trans rfl
    have fgb_1 := blk_frozen K4 1
    have cgb_2 : w4.cell? ⟨gb, 2, none⟩ = some (.int .i64 0) := (blk_cell K4 2).trans rfl
    have fgb_2 := blk_frozen K4 2
    have cgb_3 : w4.cell? ⟨gb, 3, none⟩ = some (.string (⟨#[]⟩ : ByteArray)) := (blk_cell K4 3).trans rfl
    have fgb_3 := blk_frozen K4 3
    have cgb_4 : w4.cell? ⟨gb, 4, none⟩ = some (.slice none 0 0) := (blk_cell K4 4).trans rfl
    have fgb_4 := blk_frozen K4 4
    clear K4 hv hbw
    go_upto_region 21 with fail
    refine wp_letter (fun W2 hW2 => ?_)
    have K3 : W2.heap[gb]? = some (.cells #[.int .i64 t0, .int .i64 t1, .int .i64 t2, .string t3, .slice Av t4.length cv] 38 (0, 0)) := by rw [hW2]; exact (blk_put (blk_put (blk_put (blk_put (blk_put HV.out.2.1 0 (.int .i64 t0) rfl) 1 (.int .i64 t1) rfl) 2 (.int .i64 t2) rfl) 3 (.string t3) rfl) 4 (.slice Av t4.length cv) rfl)
    have hS2 : Kd.S k38 38 W2 w.heap.size (fun k => k < wr.heap.size) u4 acc := by
     rw [hW2]
     exact (Kd.S_far (Kd.S_far (Kd.S_far (Kd.S_far (Kd.S_far HV.out.2.2.2.1 (fun k hk => by have := HX.out.2.2.2.1; show k ≠ gb; omega) _) (fun k hk => by have := HX.out.2.2.2.1; show k ≠ gb; omega) _) (fun k hk => by have := HX.out.2.2.2.1; show k ≠ gb; omega) _) (fun k hk => by have := HX.out.2.2.2.1; show k ≠ gb; omega) _) (fun k hk => by have := HX.out.2.2.2.1; show k ≠ gb; omega) _)
    have hgw : w.heap.size ≤ gb := Nat.le_trans HX.out.2.2.2.2.1 HX.out.2.2.2.1
    have hb3 : Below w.heap.size w W2 := by rw [hW2]; exact (below_set (below_set (below_set (below_set (below_set HV.out.2.2.2.2.1 hgw) hgw) hgw) hgw) hgw)
    have HW : Hid (Kd.R (Kd.int .i64) 2 W2 w.heap.size (fun k => W1.heap.size ≤ k) (.slice Av t4.length cv) t4) := by
     show Kd.R (Kd.int .i64) 2 W2 w.heap.size (fun k => W1.heap.size ≤ k) (.slice Av t4.length cv) t4
     rw [hW2]
     exact (Kd.R_far (Kd.R_far (Kd.R_far (Kd.R_far (Kd.R_far HV.out.1 (fun k hk => by have := HV.out.2.2.1; show k ≠ gb; omega) _) (fun k hk => by have := HV.out.2.2.1; show k ≠ gb; omega) _) (fun k hk => by have := HV.out.2.2.1; show k ≠ gb; omega) _) (fun k hk => by have := HV.out.2.2.1; show k ≠ gb; omega) _) (fun k hk => by have := HV.out.2.2.1; show k ≠ gb; omega) _)
    have HY := Lib.hid (And.intro hS2 (And.intro hb3 K3))
    clear cgb_0 fgb_0 cgb_1 fgb_1 cgb_2 fgb_2 cgb_3 fgb_3 cgb_4 fgb_4
    have cgb_0 : W2.cell? ⟨gb, 0, none⟩ = some (.int .i64 t0) := (blk_cell K3 0).trans rfl
    have cgb_1 : W2.cell? ⟨gb, 1, none⟩ = some (.int .i64 t1) := (blk_cell K3 1).trans rfl
    have cgb_2 : W2.cell? ⟨gb, 2, none⟩ = some (.int .i64 t2) := (blk_cell K3 2).trans rfl
    have cgb_3 : W2.cell? ⟨gb, 3, none⟩ = some (.string t3) := (blk_cell K3 3).trans rfl
    have cgb_4 : W2.cell? ⟨gb, 4, none⟩ = some (.slice Av t4.length cv) := (blk_cell K3 4).trans rfl
    clear hS2 hb3 K3 hW2 hgw
    obtain ⟨Ao, co, eo⟩ := Kd.S_slice HY.out.1
    subst eo
    go_wp2_with ((with_reducible refine gate_builtin (b := .append) (xs := #[.tmp 92, .tmp 94]) rfl ?_); at_builtin; refine Kd.S_append k38 (w0 := w) w.heap.size rfl (.tmp 92) (.tmp 94) 22 38 (.agg #[(.int .i64 0), (.int .i64 0), (.int .i64 0), (.string ⟨#[]⟩), (.slice none 0 0)]) 64 rfl Tryz.underlying22 info38 rfl (by decide) (by omega) (.slice Ao acc.length co) acc (⟨t0, t1, t2, t3, t4⟩ : S38) [.int .i64 t0, .int .i64 t1, .int .i64 t2, .string t3, .slice Av t4.length cv] (fun k => k < wr.heap.size ∨ w.heap.size ≤ k) (fun k => W1.heap.size ≤ k) rfl (by first | (go_simp; done) | (go_simp; rfl)) ?aP (fun k hk => ⟨Or.inr (Nat.le_trans (below_size HX.out.2.1) hk), fun e => absurd ((Kd.S_R HY.out.1).1 k e.symm) (by show ¬ k < wr.heap.size; have h9 : W1.heap.size ≤ k := hk; have := HV.out.2.2.2.2.2.2; omega)⟩) ?aF ?aO ?aB ?aS ?aL ?_; (case aP => exact k38_mkM _ _ _ (⟨t0, t1, t2, t3, t4⟩ : S38) HW.out); (case aB => exact HY.out.2.1); (case aF => exact fun k hk => Or.inr (Nat.le_trans (below_size HY.out.2.1) hk)); (case aO => exact Kd.S_mono HY.out.1 (fun k hk => ⟨Or.inl hk, fun e => (by have h9 : W1.heap.size ≤ k := e; have h8 : k < wr.heap.size := hk; have := HV.out.2.2.2.2.2.2; omega)⟩)); (case aS => exact below_size HY.out.2.1); (case aL => have := HA.out; omega); intro v189 w10 ho hb hg hat)
    have HZ := Lib.hid (And.intro ho hb)
    clear ho hb hg hat
    go_roundg (l0.length - (i + 1))
    case measure => omega
    case rel => exact ⟨i + 1, acc2, by simp, by omega, HS.out.2.1, HS.out.2.2.1, by rw [ea]; exact Kd.S_mono HZ.out.1 (fun _ _ => trivial), HZ.out.2⟩
   ·have k0 : (ev.f0 == 0) = false := beq_eq_false_iff_ne.2 (by omega)
    have k1 : (ev.f0 == 1) = false := beq_eq_false_iff_ne.2 (by omega)
    have k2 : (ev.f0 == 2) = false := beq_eq_false_iff_ne.2 (by omega)
    have k3 : (ev.f0 == 3) = true := beq_iff_eq.2 ek
    rcases hn with hn | hn
    ·have kc : (ev.f3 == 55) = true := beq_iff_eq.2 hn
     have kd : (ev.f3 == 56) = false := beq_eq_false_iff_ne.2 (by omega)
     rw [hn] at ea
     go_upto_region 21 with fail
     refine wp_letter (fun W2 hW2 => ?_)
     have K3 : W2.heap[gb]? = some (.cells #[.int .i64 50, .int .i64 0, .int .i64 0, .string (⟨#[]⟩ : ByteArray), .slice none 0 0] 38 (0, 0)) := by rw [hW2]; exact (blk_put (blk_put (blk_put (blk_put (blk_put HX.out.2.2.1 0 (.int .i64 50) rfl) 1 (.int .i64 0) rfl) 2 (.int .i64 0) rfl) 3 (.string (⟨#[]⟩ : ByteArray)) rfl) 4 (.slice none 0 0) rfl)
     have hS2 : Kd.S k38 38 W2 w.heap.size (fun k => k < wr.heap.size) u4 acc := by
      rw [hW2]
      exact (Kd.S_far (Kd.S_far (Kd.S_far (Kd.S_far (Kd.S_far HX.out.1 (fun k hk => by have := HX.out.2.2.2.1; show k ≠ gb; omega) _) (fun k hk => by have := HX.out.2.2.2.1; show k ≠ gb; omega) _) (fun k hk => by have := HX.out.2.2.2.1; show k ≠ gb; omega) _) (fun k hk => by have := HX.out.2.2.2.1; show k ≠ gb; omega) _) (fun k hk => by have := HX.out.2.2.2.1; show k ≠ gb; omega) _)
     have hgw : w.heap.size ≤ gb := Nat.le_trans HX.out.2.2.2.2.1 HX.out.2.2.2.1
     have hb3 : Below w.heap.size w W2 := by rw [hW2]; exact (below_set (below_set (below_set (below_set (below_set HX.out.2.1 hgw) hgw) hgw) hgw) hgw)
     have HY := Lib.hid (And.intro hS2 (And.intro hb3 K3))
     clear cga_0 cga_1 cga_2 cga_3 cga_4 cga_5 cgb_0 fgb_0 cgb_1 fgb_1 cgb_2 fgb_2 cgb_3 fgb_3 cgb_4 fgb_4
     have cgb_0 : W2.cell? ⟨gb, 0, none⟩ = some (.int .i64 50) := (blk_cell K3 0).trans rfl
     have cgb_1 : W2.cell? ⟨gb, 1, none⟩ = some (.int .i64 0) := (blk_cell K3 1).trans rfl
     have cgb_2 : W2.cell? ⟨gb, 2, none⟩ = some (.int .i64 0) := (blk_cell K3 2).trans rfl
     have cgb_3 : W2.cell? ⟨gb, 3, none⟩ = some (.string (⟨#[]⟩ : ByteArray)) := (blk_cell K3 3).trans rfl
     have cgb_4 : W2.cell? ⟨gb, 4, none⟩ = some (.slice none 0 0) := (blk_cell K3 4).trans rfl
     clear hS2 hb3 K3 hW2 hgw
     obtain ⟨Ao, co, eo⟩ := Kd.S_slice HY.out.1
     subst eo
     go_wp2_with ((with_reducible refine gate_builtin (b := .append) (xs := #[.tmp 92, .tmp 94]) rfl ?_); at_builtin; refine Kd.S_append k38 (w0 := w) w.heap.size rfl (.tmp 92) (.tmp 94) 22 38 (.agg #[(.int .i64 0), (.int .i64 0), (.int .i64 0), (.string ⟨#[]⟩), (.slice none 0 0)]) 64 rfl Tryz.underlying22 info38 rfl (by decide) (by omega) (.slice Ao acc.length co) acc (⟨50, 0, 0, (⟨#[]⟩ : ByteArray), ([] : List Int)⟩ : S38) [.int .i64 50, .int .i64 0, .int .i64 0, .string (⟨#[]⟩ : ByteArray), .slice none 0 0] (fun k => k < wr.heap.size ∨ w.heap.size ≤ k) (fun _ => False) rfl (by first | (go_simp; done) | (go_simp; rfl)) ?aP (fun k_ hk_ => hk_.elim) ?aF ?aO ?aB ?aS ?aL ?_; (case aP => exact k38_mkM _ _ _ (⟨50, 0, 0, (⟨#[]⟩ : ByteArray), ([] : List Int)⟩ : S38) (Kd.R_nil _ _ _ _ _)); (case aB => exact HY.out.2.1); (case aF => exact fun k hk => Or.inr (Nat.le_trans (below_size HY.out.2.1) hk)); (case aO => exact Kd.S_mono HY.out.1 (fun k hk => ⟨Or.inl hk, fun e => e⟩)); (case aS => exact below_size HY.out.2.1); (case aL => have := HA.out; omega); intro v189 w10 ho hb hg hat)
     have HZ := Lib.hid (And.intro ho hb)
     clear ho hb hg hat
     go_roundg (l0.length - (i + 1))
     case measure => omega
     case rel => exact ⟨i + 1, acc2, by simp, by omega, HS.out.2.1, HS.out.2.2.1, by rw [ea]; exact Kd.S_mono HZ.out.1 (fun _ _ => trivial), HZ.out.2⟩
    ·have kc : (ev.f3 == 55) = false := beq_eq_false_iff_ne.2 (by omega)
     have kd : (ev.f3 == 56) = true := beq_iff_eq.2 hn
     rw [hn] at ea
     go_upto_region 21 with fail
     refine wp_letter (fun W2 hW2 => ?_)
     have K3 : W2.heap[gb]? = some (.cells #[.int .i64 51, .int .i64 0, .int .i64 0, .string (⟨#[]⟩ : ByteArray), .slice none 0 0] 38 (0, 0)) := by rw [hW2]; exact (blk_put (blk_put (blk_put (blk_put (blk_put HX.out.2.2.1 0 (.int .i64 51) rfl) 1 (.int .i64 0) rfl) 2 (.int .i64 0) rfl) 3 (.string (⟨#[]⟩ : ByteArray)) rfl) 4 (.slice none 0 0) rfl)
     have hS2 : Kd.S k38 38 W2 w.heap.size (fun k => k < wr.heap.size) u4 acc := by
      rw [hW2]
      exact (Kd.S_far (Kd.S_far (Kd.S_far (Kd.S_far (Kd.S_far HX.out.1 (fun k hk => by have := HX.out.2.2.2.1; show k ≠ gb; omega) _) (fun k hk => by have := HX.out.2.2.2.1; show k ≠ gb; omega) _) (fun k hk => by have := HX.out.2.2.2.1; show k ≠ gb; omega) _) (fun k hk => by have := HX.out.2.2.2.1; show k ≠ gb; omega) _) (fun k hk => by have := HX.out.2.2.2.1; show k ≠ gb; omega) _)
     have hgw : w.heap.size ≤ gb := Nat.le_trans HX.out.2.2.2.2.1 HX.out.2.2.2.1
     have hb3 : Below w.heap.size w W2 := by rw [hW2]; exact (below_set (below_set (below_set (below_set (below_set HX.out.2.1 hgw) hgw) hgw) hgw) hgw)
     have HY := Lib.hid (And.intro hS2 (And.intro hb3 K3))
     clear cga_0 cga_1 cga_2 cga_3 cga_4 cga_5 cgb_0 fgb_0 cgb_1 fgb_1 cgb_2 fgb_2 cgb_3 fgb_3 cgb_4 fgb_4
     have cgb_0 : W2.cell? ⟨gb, 0, none⟩ = some (.int .i64 51) := (blk_cell K3 0).trans rfl
     have cgb_1 : W2.cell? ⟨gb, 1, none⟩ = some (.int .i64 0) := (blk_cell K3 1).trans rfl
     have cgb_2 : W2.cell? ⟨gb, 2, none⟩ = some (.int .i64 0) := (blk_cell K3 2).trans rfl
     have cgb_3 : W2.cell? ⟨gb, 3, none⟩ = some (.string (⟨#[]⟩ : ByteArray)) := (blk_cell K3 3).trans rfl
     have cgb_4 : W2.cell? ⟨gb, 4, none⟩ = some (.slice none 0 0) := (blk_cell K3 4).trans rfl
     clear hS2 hb3 K3 hW2 hgw
     obtain ⟨Ao, co, eo⟩ := Kd.S_slice HY.out.1
     subst eo
     go_wp2_with ((with_reducible refine gate_builtin (b := .append) (xs := #[.tmp 92, .tmp 94]) rfl ?_); at_builtin; refine Kd.S_append k38 (w0 := w) w.heap.size rfl (.tmp 92) (.tmp 94) 22 38 (.agg #[(.int .i64 0), (.int .i64 0), (.int .i64 0), (.string ⟨#[]⟩), (.slice none 0 0)]) 64 rfl Tryz.underlying22 info38 rfl (by decide) (by omega) (.slice Ao acc.length co) acc (⟨51, 0, 0, (⟨#[]⟩ : ByteArray), ([] : List Int)⟩ : S38) [.int .i64 51, .int .i64 0, .int .i64 0, .string (⟨#[]⟩ : ByteArray), .slice none 0 0] (fun k => k < wr.heap.size ∨ w.heap.size ≤ k) (fun _ => False) rfl (by first | (go_simp; done) | (go_simp; rfl)) ?aP (fun k_ hk_ => hk_.elim) ?aF ?aO ?aB ?aS ?aL ?_; (case aP => exact k38_mkM _ _ _ (⟨51, 0, 0, (⟨#[]⟩ : ByteArray), ([] : List Int)⟩ : S38) (Kd.R_nil _ _ _ _ _)); (case aB => exact HY.out.2.1); (case aF => exact fun k hk => Or.inr (Nat.le_trans (below_size HY.out.2.1) hk)); (case aO => exact Kd.S_mono HY.out.1 (fun k hk => ⟨Or.inl hk, fun e => e⟩)); (case aS => exact below_size HY.out.2.1); (case aL => have := HA.out; omega); intro v189 w10 ho hb hg hat)
     have HZ := Lib.hid (And.intro ho hb)
     clear ho hb hg hat
     go_roundg (l0.length - (i + 1))
     case measure => omega
     case rel => exact ⟨i + 1, acc2, by simp, by omega, HS.out.2.1, HS.out.2.2.1, by rw [ea]; exact Kd.S_mono HZ.out.1 (fun _ _ => trivial), HZ.out.2⟩
   ·have k0 : (ev.f0 == 0) = true := beq_iff_eq.2 ek
    have r0 : decide (ev.f1 < 32) = false := decide_eq_false (by omega)
    have r1 : decide (126 < ev.f1) = false := decide_eq_false (by omega)
    obtain ⟨Ao, co, eo⟩ := Kd.S_slice HX.out.1
    subst eo
    clear hn
    go_upto_region 12 with ((with_reducible refine gate_dst (N := 32) rfl ?_); refine Kd.R_lit (Kd.int .u8) _ 5 ?hg (N := 32) ?hd (xs := ([ev.f1 % 256] : List Int)) (inner := [.int .u8 (ev.f1 % 256)]) (ok := fun _ => True) (okp := fun _ => True) ?hr ?hp (fun _ hk => hk) trivial (Below.refl _ _) (Nat.le_refl _) (by simp) ?_; (case hd => rfl); (case hg => rfl); (case hr => first | (go_simp; done) | (go_simp; rfl)); (case hp => exact (Reps.one (show Kd.M (Kd.int .u8) _ _ _ (ev.f1 % 256) [.int .u8 (ev.f1 % 256)] from rfl) (Reps.none _ _))); intro v158 w4 ho23 hbw hg_ hnew_; have hcv24 := own_string (P := Tryz.prog) Tryz.underlying23 Tryz.underlying5 Tryz.underlying9 (Kd.own_of_R ho23); have K4 : w4.heap[gb]? = some (.cells #[.int .i64 0, .int .i64 0, .int .i64 0, .string (⟨#[]⟩ : ByteArray), .slice none 0 0] 38 (0, 0)) := (hbw.block gb (blk_lt HX.out.2.2.1)).trans HX.out.2.2.1; have dgb_0 : w4.cell? ⟨gb, 0, none⟩ = some (.int .i64 0) := (blk_cell K4 0).trans rfl; have egb_0 := blk_frozen K4 0; have dgb_1 : w4.cell? ⟨gb, 1, none⟩ = some (.int .i64 0) := (blk_cell K4 1).trans rfl; have egb_1 := blk_frozen K4 1; have dgb_2 : w4.cell? ⟨gb, 2, none⟩ = some (.int .i64 0) := (blk_cell K4 2).trans rfl; have egb_2 := blk_frozen K4 2; have dgb_3 : w4.cell? ⟨gb, 3, none⟩ = some (.string (⟨#[]⟩ : ByteArray)) := (blk_cell K4 3).trans rfl; have egb_3 := blk_frozen K4 3; have dgb_4 : w4.cell? ⟨gb, 4, none⟩ = some (.slice none 0 0) := (blk_cell K4 4).trans rfl; have egb_4 := blk_frozen K4 4; have HV := Lib.hid (And.intro hbw K4); clear hbw K4 hg_ hnew_ ho23)
    refine wp_letter (fun W3 hW3 => ?_)
    have K5 : W3.heap[gb]? = some (.cells #[.int .i64 60, .int .i64 0, .int .i64 0, .string (strOfNums [ev.f1 % 256]), .slice none 0 0] 38 (0, 0)) := by rw [hW3]; exact (blk_put (blk_put (blk_put (blk_put (blk_put HV.out.2 0 (.int .i64 60) rfl) 1 (.int .i64 0) rfl) 2 (.int .i64 0) rfl) 3 (.string (strOfNums [ev.f1 % 256])) rfl) 4 (.slice none 0 0) rfl)
    have hS5 : Kd.S k38 38 W3 w.heap.size (fun k => k < wr.heap.size) (.slice Ao acc.length co) acc := by
     rw [hW3]
     exact (Kd.S_far (Kd.S_far (Kd.S_far (Kd.S_far (Kd.S_far (Kd.S_below HX.out.1 HV.out.1) (fun k hk => by have := HX.out.2.2.2.1; show k ≠ gb; omega) _) (fun k hk => by have := HX.out.2.2.2.1; show k ≠ gb; omega) _) (fun k hk => by have := HX.out.2.2.2.1; show k ≠ gb; omega) _) (fun k hk => by have := HX.out.2.2.2.1; show k ≠ gb; omega) _) (fun k hk => by have := HX.out.2.2.2.1; show k ≠ gb; omega) _)
    have hgw : w.heap.size ≤ gb := Nat.le_trans HX.out.2.2.2.2.1 HX.out.2.2.2.1
    have hb5 : Below w.heap.size w W3 := by rw [hW3]; exact (below_set (below_set (below_set (below_set (below_set (below_step HX.out.2.1 HV.out.1) hgw) hgw) hgw) hgw) hgw)
    have HY := Lib.hid (And.intro hS5 (And.intro hb5 K5))
    clear cga_0 cga_1 cga_2 cga_3 cga_4 cga_5 cgb_0 fgb_0 cgb_1 fgb_1 cgb_2 fgb_2 cgb_3 fgb_3 cgb_4 fgb_4 dgb_0 egb_0 dgb_1 egb_1 dgb_2 egb_2 dgb_3 egb_3 dgb_4 egb_4
    have cgb_0 : W3.cell? ⟨gb, 0, none⟩ = some (.int .i64 60) := (blk_cell K5 0).trans rfl
    have cgb_1 : W3.cell? ⟨gb, 1, none⟩ = some (.int .i64 0) := (blk_cell K5 1).trans rfl
    have cgb_2 : W3.cell? ⟨gb, 2, none⟩ = some (.int .i64 0) := (blk_cell K5 2).trans rfl
    have cgb_3 : W3.cell? ⟨gb, 3, none⟩ = some (.string (strOfNums [ev.f1 % 256])) := (blk_cell K5 3).trans rfl
    have cgb_4 : W3.cell? ⟨gb, 4, none⟩ = some (.slice none 0 0) := (blk_cell K5 4).trans rfl
    clear hS5 hb5 K5 hW3 hgw hcv24
    rcases last_text.2 hlt with hz | ⟨hz, HL⟩
    ·have z1 : decide (0 < (acc.length : Int)) = false := decide_eq_false (by omega)
     have z2 : decide (0 < acc.length) = false := decide_eq_false (by omega)
     clear hz
     go_wp2_with ((with_reducible refine gate_builtin (b := .append) (xs := #[.tmp 92, .tmp 94]) rfl ?_); at_builtin; refine Kd.S_append k38 (w0 := w) w.heap.size rfl (.tmp 92) (.tmp 94) 22 38 (.agg #[(.int .i64 0), (.int .i64 0), (.int .i64 0), (.string ⟨#[]⟩), (.slice none 0 0)]) 64 rfl Tryz.underlying22 info38 rfl (by decide) (by omega) (.slice Ao acc.length co) acc (⟨60, 0, 0, chr ev.f1, ([] : List Int)⟩ : S38) [.int .i64 60, .int .i64 0, .int .i64 0, .string (strOfNums [ev.f1 % 256]), .slice none 0 0] (fun k => k < wr.heap.size ∨ w.heap.size ≤ k) (fun _ => False) rfl (by first | (go_simp; done) | (go_simp; rfl)) ?aP (fun k_ hk_ => hk_.elim) ?aF ?aO ?aB ?aS ?aL ?_; (case aP => exact k38_mkM _ _ _ (⟨60, 0, 0, chr ev.f1, ([] : List Int)⟩ : S38) (Kd.R_nil _ _ _ _ _)); (case aB => exact HY.out.2.1); (case aF => exact fun k hk => Or.inr (Nat.le_trans (below_size HY.out.2.1) hk)); (case aO => exact Kd.S_mono HY.out.1 (fun k hk => ⟨Or.inl hk, fun e => e⟩)); (case aS => exact below_size HY.out.2.1); (case aL => have := HA.out; omega); intro v189 w10 ho hb hg hat)
     have HZ := Lib.hid (And.intro ho hb)
     clear ho hb hg hat
     go_roundg (l0.length - (i + 1))
     case measure => omega
     case rel => exact ⟨i + 1, acc2, by simp, by omega, HS.out.2.1, HS.out.2.2.1, by rw [ea]; exact Kd.S_mono HZ.out.1 (fun _ _ => trivial), HZ.out.2⟩
    ·obtain ⟨j, hj⟩ : ∃ j : Int, (acc.length : Int) - 1 = j := ⟨_, rfl⟩
     rw [hj] at HL
     have p1 : 0 ≤ j := by omega
     have q1 : j < (acc.length : Int) := by omega
     have e9 : IntKind.i64.wrap ((acc.length : Int) - 1) = j := by rw [hj, IntKind.wrap_i64]; have := HA.out; omega
     have z1 : decide (0 < (acc.length : Int)) = true := decide_eq_true (by omega)
     have z2 : decide (0 < acc.length) = true := decide_eq_true hz
     obtain ⟨ado, Ae, ce, eo, y0, y1, y2, y3, y4, _, _⟩ := at_T38 (Kd.S_reads' HY.out.1).2.2 j p1 q1
     subst eo
     have z3 : ((rd_T38 acc j).f0 == 60) = false := beq_eq_false_iff_ne.2 HL
     clear hj HL hz
     replace p1 := eq_true p1
     replace q1 := eq_true q1
     go_wp2_with ((with_reducible refine gate_builtin (b := .append) (xs := #[.tmp 92, .tmp 94]) rfl ?_); at_builtin; refine Kd.S_append k38 (w0 := w) w.heap.size rfl (.tmp 92) (.tmp 94) 22 38 (.agg #[(.int .i64 0), (.int .i64 0), (.int .i64 0), (.string ⟨#[]⟩), (.slice none 0 0)]) 64 rfl Tryz.underlying22 info38 rfl (by decide) (by omega) (.slice (some ado) acc.length co) acc (⟨60, 0, 0, chr ev.f1, ([] : List Int)⟩ : S38) [.int .i64 60, .int .i64 0, .int .i64 0, .string (strOfNums [ev.f1 % 256]), .slice none 0 0] (fun k => k < wr.heap.size ∨ w.heap.size ≤ k) (fun _ => False) rfl (by first | (go_simp; done) | (go_simp; rfl)) ?aP (fun k_ hk_ => hk_.elim) ?aF ?aO ?aB ?aS ?aL ?_; (case aP => exact k38_mkM _ _ _ (⟨60, 0, 0, chr ev.f1, ([] : List Int)⟩ : S38) (Kd.R_nil _ _ _ _ _)); (case aB => exact HY.out.2.1); (case aF => exact fun k hk => Or.inr (Nat.le_trans (below_size HY.out.2.1) hk)); (case aO => exact Kd.S_mono HY.out.1 (fun k hk => ⟨Or.inl hk, fun e => e⟩)); (case aS => exact below_size HY.out.2.1); (case aL => have := HA.out; omega); intro v189 w10 ho hb hg hat)
     have HZ := Lib.hid (And.intro ho hb)
     clear ho hb hg hat
     go_roundg (l0.length - (i + 1))
     case measure => omega
     case rel => exact ⟨i + 1, acc2, by simp, by omega, HS.out.2.1, HS.out.2.2.1, by rw [ea]; exact Kd.S_mono HZ.out.1 (fun _ _ => trivial), HZ.out.2⟩
   ·have k0 : (ev.f0 == 0) = true := beq_iff_eq.2 ek
    have r0 : decide (ev.f1 < 32) = false := decide_eq_false (by omega)
    have r1 : decide (126 < ev.f1) = false := decide_eq_false (by omega)
    obtain ⟨Ao, co, eo⟩ := Kd.S_slice HX.out.1
    subst eo
    clear hn
    go_upto_region 12 with ((with_reducible refine gate_dst (N := 32) rfl ?_); refine Kd.R_lit (Kd.int .u8) _ 5 ?hg (N := 32) ?hd (xs := ([ev.f1 % 256] : List Int)) (inner := [.int .u8 (ev.f1 % 256)]) (ok := fun _ => True) (okp := fun _ => True) ?hr ?hp (fun _ hk => hk) trivial (Below.refl _ _) (Nat.le_refl _) (by simp) ?_; (case hd => rfl); (case hg => rfl); (case hr => first | (go_simp; done) | (go_simp; rfl)); (case hp => exact (Reps.one (show Kd.M (Kd.int .u8) _ _ _ (ev.f1 % 256) [.int .u8 (ev.f1 % 256)] from rfl) (Reps.none _ _))); intro v158 w4 ho23 hbw hg_ hnew_; have hcv24 := own_string (P := Tryz.prog) Tryz.underlying23 Tryz.underlying5 Tryz.underlying9 (Kd.own_of_R ho23); have K4 : w4.heap[gb]? = some (.cells #[.int .i64 0, .int .i64 0, .int .i64 0, .string (⟨#[]⟩ : ByteArray), .slice none 0 0] 38 (0, 0)) := (hbw.block gb (blk_lt HX.out.2.2.1)).trans HX.out.2.2.1; have dgb_0 : w4.cell? ⟨gb, 0, none⟩ = some (.int .i64 0) := (blk_cell K4 0).trans rfl; have egb_0 := blk_frozen K4 0; have dgb_1 : w4.cell? ⟨gb, 1, none⟩ = some (.int .i64 0) := (blk_cell K4 1).trans rfl; have egb_1 := blk_frozen K4 1; have dgb_2 : w4.cell? ⟨gb, 2, none⟩ = some (.int .i64 0) := (blk_cell K4 2).trans rfl; have egb_2 := blk_frozen K4 2; have dgb_3 : w4.cell? ⟨gb, 3, none⟩ = some (.string (⟨#[]⟩ : ByteArray)) := (blk_cell K4 3).trans rfl; have egb_3 := blk_frozen K4 3; have dgb_4 : w4.cell? ⟨gb, 4, none⟩ = some (.slice none 0 0) := (blk_cell K4 4).trans rfl; have egb_4 := blk_frozen K4 4; have HV := Lib.hid (And.intro hbw K4); clear hbw K4 hg_ hnew_ ho23)
    refine wp_letter (fun W3 hW3 => ?_)
    have K5 : W3.heap[gb]? = some (.cells #[.int .i64 60, .int .i64 0, .int .i64 0, .string (strOfNums [ev.f1 % 256]), .slice none 0 0] 38 (0, 0)) := by rw [hW3]; exact (blk_put (blk_put (blk_put (blk_put (blk_put HV.out.2 0 (.int .i64 60) rfl) 1 (.int .i64 0) rfl) 2 (.int .i64 0) rfl) 3 (.string (strOfNums [ev.f1 % 256])) rfl) 4 (.slice none 0 0) rfl)
    have hS5 : Kd.S k38 38 W3 w.heap.size (fun k => k < wr.heap.size) (.slice Ao acc.length co) acc := by
     rw [hW3]
     exact (Kd.S_far (Kd.S_far (Kd.S_far (Kd.S_far (Kd.S_far (Kd.S_below HX.out.1 HV.out.1) (fun k hk => by have := HX.out.2.2.2.1; show k ≠ gb; omega) _) (fun k hk => by have := HX.out.2.2.2.1; show k ≠ gb; omega) _) (fun k hk => by have := HX.out.2.2.2.1; show k ≠ gb; omega) _) (fun k hk => by have := HX.out.2.2.2.1; show k ≠ gb; omega) _) (fun k hk => by have := HX.out.2.2.2.1; show k ≠ gb; omega) _)
    have hgw : w.heap.size ≤ gb := Nat.le_trans HX.out.2.2.2.2.1 HX.out.2.2.2.1
    have hb5 : Below w.heap.size w W3 := by rw [hW3]; exact (below_set (below_set (below_set (below_set (below_set (below_step HX.out.2.1 HV.out.1) hgw) hgw) hgw) hgw) hgw)
    have HY := Lib.hid (And.intro hS5 (And.intro hb5 K5))
    clear cga_0 cga_1 cga_2 cga_3 cga_4 cga_5 cgb_0 fgb_0 cgb_1 fgb_1 cgb_2 fgb_2 cgb_3 fgb_3 cgb_4 fgb_4 dgb_0 egb_0 dgb_1 egb_1 dgb_2 egb_2 dgb_3 egb_3 dgb_4 egb_4
    have cgb_0 : W3.cell? ⟨gb, 0, none⟩ = some (.int .i64 60) := (blk_cell K5 0).trans rfl
    have cgb_1 : W3.cell? ⟨gb, 1, none⟩ = some (.int .i64 0) := (blk_cell K5 1).trans rfl
    have cgb_2 : W3.cell? ⟨gb, 2, none⟩ = some (.int .i64 0) := (blk_cell K5 2).trans rfl
    have cgb_3 : W3.cell? ⟨gb, 3, none⟩ = some (.string (strOfNums [ev.f1 % 256])) := (blk_cell K5 3).trans rfl
    have cgb_4 : W3.cell? ⟨gb, 4, none⟩ = some (.slice none 0 0) := (blk_cell K5 4).trans rfl
    clear hS5 hb5 K5 hW3 hgw hcv24
    obtain ⟨hz, HL, h60⟩ := last_text.1 _ hlt
    obtain ⟨go, cap, eo, g1, g2, gcl⟩ := Kd.S_form HY.out.1 hz
    injection eo with ea _ ec
    subst ea ec
    obtain ⟨j, hj⟩ : ∃ j : Int, (acc.length : Int) - 1 = j := ⟨_, rfl⟩
    rw [hj] at HL
    have p1 : 0 ≤ j := by omega
    have q1 : j < (acc.length : Int) := by omega
    have e9 : IntKind.i64.wrap ((acc.length : Int) - 1) = j := by rw [hj, IntKind.wrap_i64]; have := HA.out; omega
    have z1 : decide (0 < (acc.length : Int)) = true := decide_eq_true (by omega)
    have z2 : decide (0 < acc.length) = true := decide_eq_true hz
    obtain ⟨_, ce, hcl, hM, hcc, hfr, _, _⟩ := Kd.S_elem HY.out.1 z38 j p1 q1
    obtain ⟨ve, rfl, ge⟩ := k38_openM hM
    have HL2 : acc.getD j.toNat z38 = ol := HL
    rw [HL2] at hcc ge
    have y0 : W3.cell? ⟨go, j.toNat * 5, none⟩ = some (.int .i64 ol.f0) := hcc 0 _ rfl
    have y3 : W3.cell? ⟨go, j.toNat * 5 + 3, none⟩ = some (.string ol.f3) := hcc 3 _ rfl
    have w3 : W3.drew.cell? ⟨go, j.toNat * 5 + 3, none⟩ = some (.string ol.f3) := hcc 3 _ rfl
    have f3 : W3.drew.frozen? ⟨go, j.toNat * 5 + 3, none⟩ = false := hfr 3
    have s1 : (strOfNums [ev.f1 % 256]).size = 1 := rfl
    have c1 := eq_true (show ol.f3.size + (strOfNums [ev.f1 % 256]).size ≤ 9223372036854775807 by omega)
    have c2 : (9223372036854775807 < ol.f3.size + (strOfNums [ev.f1 % 256]).size) = False := eq_false (by omega)
    clear s1 hol
    obtain ⟨oki, ce2, hcl2, hM2, hcc2, hfr2, hoki2, hH2⟩ := Kd.S_elem (Kd.S_mono (ok' := fun k => (k < wr.heap.size) ∧ ¬ (fun _ => False) k) HY.out.1 (fun k hk => ⟨hk, fun e => e⟩)) z38 j p1 q1
    obtain ⟨ve2, rfl, ge2⟩ := k38_openM hM2
    rw [HL2] at ge2
    try rw [HL2] at hH2
    have HP := Lib.hid (Kd.S_seg hH2 p1 q1 (seg := [.string (ol.f3 ++ strOfNums [ev.f1 % 256])]) (j := 3) (show 4 ≤ 5 from by decide) (x' := (⟨ol.f0, ol.f1, ol.f2, ol.f3 ++ strOfNums [ev.f1 % 256], ol.f4⟩ : S38)) (k38_mkM _ _ _ (⟨ol.f0, ol.f1, ol.f2, ol.f3 ++ strOfNums [ev.f1 % 256], ol.f4⟩ : S38) ge2) (fun _ hk => Or.inl hk) (fun _ hk => hk.elim)).1
    have z3 : (ol.f0 == 60) = true := beq_iff_eq.2 h60
    have hjn := Lib.hid (show j.toNat = acc.length - 1 by omega)
    clear hM hcc hfr ge hcl hM2 hcc2 hfr2 ge2 hcl2 hH2 hoki2 h60 hz g2 hj HL HL2 hlt
    replace p1 := eq_true p1
    replace q1 := eq_true q1
    go_wp2_with fail
    go_still_tail 11, (by kernel_rfl)
    change wpList _ _ _ _ _ W3.drew
    go_wp2_with fail
    go_roundg (l0.length - (i + 1))
    case measure => omega
    case rel => exact ⟨i + 1, acc2, by simp, by omega, HS.out.2.1, HS.out.2.2.1, by rw [ea, ← hjn.out]; exact Kd.S_mono (Kd.S_drew HP.out) (fun _ _ => trivial), below_drew1 (below_set HY.out.2.1 g1)⟩
  ·have d3 : decide ((i : Int) < (l0.length : Int)) = false := decide_eq_false (by omega)
   have hfin : acc = r1 := by
    have h1 := hI.out.1
    rw [List.drop_of_length_le (by omega)] at h1
    exact Option.some.inj h1
   subst hfin
   go_wp2_with fail
   go_ret2
   exact ⟨_, rfl, hI.out.2.2.1, hI.out.2.2.2⟩
end Go.Proofs.YteebhoehflgfoaaGreatDoor.Y
end
