/- Texts of this claim, joined: XTab. Of each, what the claim uses. -/
import Derived.Test.YteebhoehflgfoaaGreatDoorKae
section
namespace Go.Proofs.YteebhoehflgfoaaGreatDoor.X
open Go.RowKit Go.Proofs.YteebhoehflgfoaaGreatDoorW.PrintWords Go.Proofs.YteebhoehflgfoaaGreatDoorW.PrintLast Go.Proofs.YteebhoehflgfoaaGreatDoorW.PrintMore
/-- The text that an operation indexes. -/
def opText : Option Oper → ByteArray
 | some { op := .index _ (.const (.string t)) _, .. } => t
 | _ => ⟨#[]⟩
/-- The text that the third region's second operation indexes. -/
def codeText : Option Code → ByteArray
 | some (.seq _ (.seq _ (.seq (.region _ ops _) _))) => opText ops.toList[1]?
 | _ => ⟨#[]⟩
noncomputable def tab : ByteArray := codeText Tryz.f152.body
/-- What the table says at a place. -/
noncomputable def tv (i : Nat) : Nat := (tab.data.toList.getD i 0).toNat
theorem tv_of (T : ByteArray) (i : Nat) (h : i < T.size) (e : T = tab) : (T[i]).toNat = tv i := by
 subst e
 have h1 : i < tab.data.size := h
 have h2 : (tab.data.toList.getD i 0) = tab.data[i] := by
  rw [List.getD_eq_getElem?_getD, Array.getElem?_toList, Array.getElem?_eq_getElem h1]
  rfl
 rw [tv, h2]
 rfl
theorem tv_lt (i : Nat) : tv i < 256 := UInt8.toNat_lt _
theorem tv_end (x i : Nat) (e : x = tv i) : Ending.returned (.tuple #[.int .u8 (bits .and .u8 (x : Int) 15), .int .u8 ((x : Int) / 16)]) = Ending.returned (.tuple #[.int .u8 ((tv i : Int) % 16), .int .u8 ((tv i : Int) / 16)]) := by
 subst e
 rw [u8_and15 _ (by omega) (by have := tv_lt i; omega)]
theorem table_calls (w : World) : Calls Tryz.prog 151 #[] w fun e w' => e = .returned (.agg #[]) ∧ Below w.heap.size w w' := by
 go_enter Tryz.func151, Tryz.ntmps151
 go_wp2_with fail
 refine bodyPost_ret (results_cell_row rfl _ _ w.heap.size _ #[] (0, 0) (.struct #[]) rfl (heap_alloc_new _ _) (by kernel_rfl) rfl (by kernel_rfl)) rfl ?_
 exact ⟨rfl, below_alloc (Below.refl _ _) _⟩
set_option maxRecDepth 200000 in
set_option maxHeartbeats 8000000 in
theorem transition_calls (w : World) (s b : Nat) (hs1 : s < 16) (hb1 : b ≤ 255) :
  Calls Tryz.prog 152 #[.agg #[], .int .u8 s, .int .u8 b] w fun e w' => e = .returned (.tuple #[.int .u8 ((tv (s * 256 + b) : Int) % 16), .int .u8 ((tv (s * 256 + b) : Int) / 16)]) ∧ Below w.heap.size w w' := by
 have e1 : bits .or .i64 ((s : Int) * 256) (b : Int) = ((s * 256 + b : Nat) : Int) := by rw [or_low _ _ (by omega) (by omega) (by omega) (by omega) (by omega)]; omega
 have e2 : (0 : Int) ≤ ((s * 256 + b : Nat) : Int) := by omega
 have e3 : ((s * 256 + b : Nat) : Int) < 4096 := by omega
 generalize hi : s * 256 + b = i at *
 go_enter Tryz.func152, Tryz.ntmps152
 go_wp2_with fail
 go_ret2
 exact ⟨tv_end _ i (tv_of _ i _ (by kernel_rfl)), below_alloc (Below.refl _ _) _⟩
theorem transition_calls2 (w : World) (s b s' a : Nat) (hs1 : s < 16) (hb1 : b ≤ 255) (hs' : s' < 16) (ht : tv (s * 256 + b) = s' + 16 * a) :
  Calls Tryz.prog 152 #[.agg #[], .int .u8 (s : Int), .int .u8 (b : Int)] w fun e w' => e = .returned (.tuple #[.int .u8 (s' : Int), .int .u8 (a : Int)]) ∧ Below w.heap.size w w' := by
 refine (transition_calls w s b hs1 hb1).mono ?_
 rintro e w' ⟨rfl, hB⟩
 refine ⟨?_, hB⟩
 rw [ht, show ((s' + 16 * a : Nat) : Int) % 16 = (s' : Int) by omega, show ((s' + 16 * a : Nat) : Int) / 16 = (a : Int) by omega]
/-- What the table says in a state, of the bytes of a range: the next state, the action. -/
theorem tab_range (s lo n st act : Nat) (h : ((List.range n).all fun k => tv (s * 256 + (lo + k)) == st + 16 * act) = true) (b : Nat) (hl : lo ≤ b) (hh : b < lo + n) : tv (s * 256 + b) = st + 16 * act := by
 have := List.all_eq_true.1 h (b - lo) (List.mem_range.2 (by omega))
 simp only [beq_iff_eq] at this
 rw [← this]
 congr 2
 omega
theorem t_gr_print (b : Nat) (h0 : 32 ≤ b) (h1 : b ≤ 126) : tv (0 * 256 + b) = 0 + 16 * 9 := tab_range 0 32 95 0 9 (by kernel_rfl) b h0 (by omega)
theorem t_gr_esc (b : Nat) (h0 : 27 ≤ b) (h1 : b ≤ 27) : tv (0 * 256 + b) = 8 + 16 * 1 := tab_range 0 27 1 8 1 (by kernel_rfl) b h0 (by omega)
theorem t_gr_ex0 (b : Nat) (h0 : 0 ≤ b) (h1 : b ≤ 26) : tv (0 * 256 + b) = 0 + 16 * 5 := tab_range 0 0 27 0 5 (by kernel_rfl) b h0 (by omega)
theorem t_gr_ex1 (b : Nat) (h0 : 28 ≤ b) (h1 : b ≤ 31) : tv (0 * 256 + b) = 0 + 16 * 5 := tab_range 0 28 4 0 5 (by kernel_rfl) b h0 (by omega)
theorem t_csi1_col (b : Nat) (h0 : 32 ≤ b) (h1 : b ≤ 47) : tv (1 * 256 + b) = 2 + 16 * 2 := tab_range 1 32 16 2 2 (by kernel_rfl) b h0 (by omega)
theorem t_csi1_end (b : Nat) (h0 : 64 ≤ b) (h1 : b ≤ 126) : tv (1 * 256 + b) = 0 + 16 * 4 := tab_range 1 64 63 0 4 (by kernel_rfl) b h0 (by omega)
theorem t_csi1_par (b : Nat) (h0 : 48 ≤ b) (h1 : b ≤ 59) : tv (1 * 256 + b) = 3 + 16 * 8 := tab_range 1 48 12 3 8 (by kernel_rfl) b h0 (by omega)
theorem t_csi2_end (b : Nat) (h0 : 64 ≤ b) (h1 : b ≤ 126) : tv (2 * 256 + b) = 0 + 16 * 4 := tab_range 2 64 63 0 4 (by kernel_rfl) b h0 (by omega)
theorem t_csi3_col (b : Nat) (h0 : 32 ≤ b) (h1 : b ≤ 47) : tv (3 * 256 + b) = 2 + 16 * 2 := tab_range 3 32 16 2 2 (by kernel_rfl) b h0 (by omega)
theorem t_csi3_end (b : Nat) (h0 : 64 ≤ b) (h1 : b ≤ 126) : tv (3 * 256 + b) = 0 + 16 * 4 := tab_range 3 64 63 0 4 (by kernel_rfl) b h0 (by omega)
theorem t_csi3_par (b : Nat) (h0 : 48 ≤ b) (h1 : b ≤ 59) : tv (3 * 256 + b) = 3 + 16 * 8 := tab_range 3 48 12 3 8 (by kernel_rfl) b h0 (by omega)
theorem t_csi1_pre (b : Nat) (h0 : 60 ≤ b) (h1 : b ≤ 63) : tv (1 * 256 + b) = 3 + 16 * 3 := tab_range 1 60 4 3 3 (by kernel_rfl) b h0 (by omega)
theorem t_dcs4_par (b : Nat) (h0 : 48 ≤ b) (h1 : b ≤ 59) : tv (4 * 256 + b) = 6 + 16 * 8 := tab_range 4 48 12 6 8 (by kernel_rfl) b h0 (by omega)
theorem t_dcs4_end (b : Nat) (h0 : 64 ≤ b) (h1 : b ≤ 126) : tv (4 * 256 + b) = 7 + 16 * 6 := tab_range 4 64 63 7 6 (by kernel_rfl) b h0 (by omega)
theorem t_dcs6_par (b : Nat) (h0 : 48 ≤ b) (h1 : b ≤ 59) : tv (6 * 256 + b) = 6 + 16 * 8 := tab_range 6 48 12 6 8 (by kernel_rfl) b h0 (by omega)
theorem t_dcs6_end (b : Nat) (h0 : 64 ≤ b) (h1 : b ≤ 126) : tv (6 * 256 + b) = 7 + 16 * 6 := tab_range 6 64 63 7 6 (by kernel_rfl) b h0 (by omega)
theorem t_dstr_put (b : Nat) (h0 : 32 ≤ b) (h1 : b ≤ 126) : tv (7 * 256 + b) = 7 + 16 * 7 := tab_range 7 32 95 7 7 (by kernel_rfl) b h0 (by omega)
theorem t_dstr_esc (b : Nat) (h0 : 27 ≤ b) (h1 : b ≤ 27) : tv (7 * 256 + b) = 8 + 16 * 4 := tab_range 7 27 1 8 4 (by kernel_rfl) b h0 (by omega)
theorem t_esc_csi (b : Nat) (h0 : 91 ≤ b) (h1 : b ≤ 91) : tv (8 * 256 + b) = 1 + 16 * 1 := tab_range 8 91 1 1 1 (by kernel_rfl) b h0 (by omega)
theorem t_esc_osc (b : Nat) (h0 : 93 ≤ b) (h1 : b ≤ 93) : tv (8 * 256 + b) = 10 + 16 * 6 := tab_range 8 93 1 10 6 (by kernel_rfl) b h0 (by omega)
theorem t_esc_dcs (b : Nat) (h0 : 80 ≤ b) (h1 : b ≤ 80) : tv (8 * 256 + b) = 4 + 16 * 1 := tab_range 8 80 1 4 1 (by kernel_rfl) b h0 (by omega)
theorem t_esc_apc (b : Nat) (h0 : 95 ≤ b) (h1 : b ≤ 95) : tv (8 * 256 + b) = 13 + 16 * 6 := tab_range 8 95 1 13 6 (by kernel_rfl) b h0 (by omega)
theorem t_esc_55 (b : Nat) (h0 : 55 ≤ b) (h1 : b ≤ 56) : tv (8 * 256 + b) = 0 + 16 * 4 := tab_range 8 55 2 0 4 (by kernel_rfl) b h0 (by omega)
theorem t_esc_92 (b : Nat) (h0 : 92 ≤ b) (h1 : b ≤ 92) : tv (8 * 256 + b) = 0 + 16 * 4 := tab_range 8 92 1 0 4 (by kernel_rfl) b h0 (by omega)
theorem t_osc_put (b : Nat) (h0 : 32 ≤ b) (h1 : b ≤ 126) : tv (10 * 256 + b) = 10 + 16 * 7 := tab_range 10 32 95 10 7 (by kernel_rfl) b h0 (by omega)
theorem t_osc_bel (b : Nat) (h0 : 7 ≤ b) (h1 : b ≤ 7) : tv (10 * 256 + b) = 0 + 16 * 4 := tab_range 10 7 1 0 4 (by kernel_rfl) b h0 (by omega)
theorem t_osc_esc (b : Nat) (h0 : 27 ≤ b) (h1 : b ≤ 27) : tv (10 * 256 + b) = 8 + 16 * 4 := tab_range 10 27 1 8 4 (by kernel_rfl) b h0 (by omega)
theorem t_apc_put (b : Nat) (h0 : 32 ≤ b) (h1 : b ≤ 126) : tv (13 * 256 + b) = 13 + 16 * 7 := tab_range 13 32 95 13 7 (by kernel_rfl) b h0 (by omega)
theorem t_apc_esc (b : Nat) (h0 : 27 ≤ b) (h1 : b ≤ 27) : tv (13 * 256 + b) = 8 + 16 * 4 := tab_range 13 27 1 8 4 (by kernel_rfl) b h0 (by omega)
end Go.Proofs.YteebhoehflgfoaaGreatDoor.X
end
