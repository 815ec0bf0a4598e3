/- Texts of this claim, joined: XB64 Y58D XLawClip Y48. Of each, what the claim uses. -/
import Derived.Test.YtjkjnhcnmjknmaaDoorKad
import Derived.Laws.CopyOwn
import Derived.Deep.RegionLaw
import Derived.Lib.Hide
import Derived.Laws.BitsLemmas
import Derived.Laws.Closers25b
import Derived.Test.YtjkjnhcnmjknmaaDoorKax
import Derived.Test.YtjkjnhcnmjknmaaDoorKaq
section
namespace Go.Proofs.YtjkjnhcnmjknmaaDoor.X
open Go.RowKit Go.Proofs.YtjkjnhcnmjknmaaDoorW.PrintWords Go.Proofs.YtjkjnhcnmjknmaaDoorW.PrintLast Go.Proofs.YtjkjnhcnmjknmaaDoorW.PrintMore
set_option linter.unusedSimpArgs false
set_option linter.unusedVariables false
/-- The 64 letters. -/
def let64 : ByteArray := ⟨#[65, 66, 67, 68, 69, 70, 71, 72, 73, 74, 75, 76, 77, 78, 79, 80, 81, 82, 83, 84, 85, 86, 87, 88, 89, 90, 97, 98, 99, 100, 101, 102, 103, 104, 105, 106, 107, 108, 109, 110, 111, 112, 113, 114, 115, 116, 117, 118, 119, 120, 121, 122, 48, 49, 50, 51, 52, 53, 54, 55, 56, 57, 43, 47]⟩
/-- Three bytes as one number. -/
def three (a b c : Int) : Int := Go.bits .or .u32 (Go.bits .or .u32 (a * 65536) (b * 256)) c
def four (n : Nat) (a b c : Int) : List Int :=
  [bt let64 (Go.bits .and .u32 (three a b c / 262144) 63), bt let64 (Go.bits .and .u32 (three a b c / 4096) 63), if 2 ≤ n then bt let64 (Go.bits .and .u32 (three a b c / 64) 63) else 61, if 3 ≤ n then bt let64 (Go.bits .and .u32 (three a b c) 63) else 61]
def b64 : List Int → List Int
  | [] => []
  | [a] => four 1 a 0 0
  | [a, b] => four 2 a b 0
  | a :: b :: c :: r => four 3 a b c ++ b64 r
def at3 (l : List Int) (j : Nat) : Int := l.getD j 0
theorem b64_step (l : List Int) (h : 0 < l.length) : b64 l = four (min 3 l.length) (at3 l 0) (at3 l 1) (at3 l 2) ++ b64 (l.drop 3) := by
  match l, h with
  | [a], _ => simp [b64, at3]
  | [a, b], _ => simp [b64, at3]
  | a :: b :: c :: r, _ =>
    have : min 3 (a :: b :: c :: r).length = 3 := by simp only [List.length_cons]; omega
    rw [this]
    simp [b64, at3]
/-- The block behind the copy. -/
def cells3 (l : List Int) : List Value := (l.take 3).map (.int .u8)
theorem splice_cells (l : List Int) (h : 0 < l.length) : splice [Value.int .u8 0, .int .u8 0, .int .u8 0] 0 (cells3 l) = [.int .u8 (at3 l 0), .int .u8 (at3 l 1), .int .u8 (at3 l 2)] := by
  match l, h with
  | [a], _ => simp [splice, cells3, at3]
  | [a, b], _ => simp [splice, cells3, at3]
  | a :: b :: c :: r, _ => simp [splice, cells3, at3]
theorem cells3_len (l : List Int) : (cells3 l).length = min 3 l.length := by simp [cells3]
theorem at3_byte (l : List Int) (hb : ∀ x ∈ l, 0 ≤ x ∧ x ≤ 255) (j : Nat) : 0 ≤ at3 l j ∧ at3 l j ≤ 255 := by
  unfold at3
  rw [List.getD_eq_getElem?_getD]
  cases h : l[j]? with
  | none => simp
  | some x => exact hb x (List.mem_of_getElem? h)
theorem add_add2 (a : Addr) (m n : Nat) : (a.add m).add n = a.add (m + n) := by
  unfold Addr.add
  by_cases hm : m = 0
  · subst hm; simp
  · by_cases hn : n = 0
    · subst hn; simp [hm]
    · simp [hm, hn, Nat.add_assoc]
theorem and63 (v : Int) (h0 : 0 ≤ v) (h1 : v ≤ 4294967295) : 0 ≤ Go.bits .and .u32 v 63 ∧ Go.bits .and .u32 v 63 < 64 := by
  have := bits_mask .u32 32 (by decide) (fun n h0 h1 => by rw [IntKind.wrap_u32]; omega) 6 (by decide) v h0 (by omega)
  rw [show (63 : Int) = 2 ^ 6 - 1 by decide, this]
  omega
theorem three_range (a b c : Int) : 0 ≤ three a b c ∧ three a b c ≤ 4294967295 := ⟨bits_lo_u32 _ _ _, bits_hi_u32 _ _ _⟩
theorem infoB : (Tryd.prog.info? 5).map (fun i => (i.zero, i.size, i.bytes)) = some (some (.int .u8 0), 1, 1) := by kernel_rfl
attribute [local go_sem] max2_int min2_int max_two min_two
set_option maxHeartbeats 4000000 in
set_option maxRecDepth 100000 in
theorem base64_calls (A0 : Option Addr) (c0 : Nat) (l : List Int) (w : World) (hr : Kd.C (Kd.int .u8) w A0 l.length l) (hc : l.length ≤ c0) (hl : l.length ≤ 1000) (hb : ∀ x ∈ l, 0 ≤ x ∧ x ≤ 255) :
    Calls Tryd.prog 11 #[.slice A0 l.length c0] w fun e w' => e = .returned (.string (strOfNums (b64 l))) ∧ Below w.heap.size w w' := by
  have HR := Lib.hid hr
  have HL := Lib.hid (And.intro hl hb)
  clear hr hb
  go_enter Tryd.func11, Tryd.ntmps11
  go_wp2_with fail
  go_loopg [3, 4] (l.length + 3) (fun kq v3 v4 w' => ∃ (i : Nat) (acc : List Int), v4 = .int .i64 (i : Int) ∧ kq = l.length + 3 - i ∧ i ≤ l.length + 2 ∧ Hid (acc ++ b64 (l.drop i) = b64 l ∧ acc.length ≤ 4 * i) ∧ Hid (Kd.R (Kd.int .u8) 5 w' w.heap.size (fun _ => True) v3 acc) ∧ Hid (Below w.heap.size w w'))
  case atStart => exact ⟨0, [], rfl, by omega, by omega, ⟨by simp, by simp⟩, Kd.R_nil _ _ _ _ _, Below.refl _ _⟩
  case round =>
    obtain ⟨i, acc, rfl, hk, hi3, HA, HO, HB⟩ := hrel
    have HK := Lib.hid (And.intro hk hi3)
    clear hk hi3
    by_cases hi : i < l.length
    · have c1 : decide ((i : Int) < (l.length : Int)) = true := decide_eq_true (by omega)
      have c2 : (0 : Int) ≤ (i : Int) := by omega
      have c3 : (i : Int) ≤ (l.length : Int) := by omega
      have c4 : ((i : Int)).toNat = i := by omega
      obtain ⟨ad, ea, _⟩ := Kd.at_int HR.out (i : Int) c2 (by omega)
      subst ea
      have hr0 : 0 < (l.drop i).length := by rw [List.length_drop]; omega
      have hsrc : ∀ j v, (cells3 (l.drop i))[j]? = some v → w.cell? ((ad.add i).add j) = some v := fun j v hv => by
        have hj : j < (cells3 (l.drop i)).length := (List.getElem?_eq_some_iff.1 hv).1
        rw [cells3_len, List.length_drop] at hj
        obtain ⟨ad2, ea2, hx⟩ := Kd.at_int HR.out ((i + j : Nat) : Int) (by omega) (by omega)
        injection ea2 with ea2
        subst ea2
        rw [Int.toNat_natCast] at hx
        rw [X.add_add2, hx]
        simp only [cells3, List.getElem?_map] at hv
        rw [List.getElem?_take_of_lt (by omega), List.getElem?_drop, List.getElem?_eq_getElem (show i + j < l.length by omega)] at hv
        rw [← Option.some.inj hv]
        rw [rd, Int.toNat_natCast]
        simp [show i + j < l.length by omega]
      have HS := Lib.hid hsrc
      clear hsrc
      go_wp2_with fail
      have hg : (wr.alloc (.cells [Value.int .u8 0, .int .u8 0, .int .u8 0].toArray 53 (0, 0))).heap[wr.heap.size]? = some (.cells [Value.int .u8 0, .int .u8 0, .int .u8 0].toArray 53 (0, 0)) := blk_new wr _
      have hb1 : Below wr.heap.size wr (wr.alloc (.cells [Value.int .u8 0, .int .u8 0, .int .u8 0].toArray 53 (0, 0))) := below_alloc (Below.refl _ _) _
      generalize (wr.alloc (.cells [Value.int .u8 0, .int .u8 0, .int .u8 0].toArray 53 (0, 0))) = w1 at hg hb1 ⊢
      generalize hgz : wr.heap.size = g at hg hb1 ⊢
      have hb0 : Below w.heap.size w w1 := HB.out.trans (hb1.mono (by rw [← hgz]; exact HB.out.size))
      have HX := Lib.hid (And.intro hg (And.intro hb1 (And.intro hb0 hgz)))
      have hn : (cells3 (l.drop i)).length = Nat.min (l.length - i) 3 := by rw [cells3_len, List.length_drop, Nat.min_comm]
      have HN := Lib.hid hn
      have h1c : ∀ v ∈ cells3 (l.drop i), v.oneCell' = true := fun v hv => by
        obtain ⟨x, _, rfl⟩ := List.mem_map.1 hv
        rfl
      have H1 := Lib.hid h1c
      have hfit : 0 + (cells3 (l.drop i)).length ≤ 3 := by rw [cells3_len]; omega
      have HF := Lib.hid hfit
      clear hg hb1 hb0 hgz hn h1c hfit
      have c5 : (l.length : Int) ≤ (c0 : Int) := by omega
      have c6 : (c0 = i) = False := eq_false (by omega)
      go_region_law (refine step_copy_splice rfl (.tmp 15) (.tmp 18) 28 28 rfl 5 Tryd.underlying28 (by kernel_rfl) (some ⟨g, 0, none⟩) (some (ad.add i)) 3 3 (l.length - i) (c0 - i) (by simp [Act.eval, Act.put]) (by simp [Act.eval, Act.put, c6]) g 0 [Value.int .u8 0, .int .u8 0, .int .u8 0] 53 (blk_drew HX.out.1) (cells3 (l.drop i)) HN.out (fun _ => ⟨rfl, _, rfl, fun j v hv => ((below_drew1 HX.out.2.2.1).cell (World.block_lt_of_cell? w _ (HS.out j v hv))).trans (HS.out j v hv)⟩) HF.out H1.out g wr (below_drew1 HX.out.2.1) (Nat.le_refl _) ?_; intro w4 hg4 hb4)
      have hbr : ∀ x ∈ l.drop i, 0 ≤ x ∧ x ≤ 255 := fun x hx => HL.out.2 x (List.mem_of_mem_drop hx)
      have hx := hg4.out
      rw [splice_cells (l.drop i) hr0] at hx
      have qa := at3_byte (l.drop i) hbr 0
      have qb := at3_byte (l.drop i) hbr 1
      have qc := at3_byte (l.drop i) hbr 2
      have hstep := b64_step (l.drop i) hr0
      have hgz := HX.out.2.2.2
      have ho4 : Kd.R (Kd.int .u8) 5 w4 w.heap.size (fun _ => True) u3 acc := Kd.R_below HO.out (by rw [hgz]; exact hb4)
      have hb5 : Below w.heap.size w w4 := HB.out.trans (hb4.mono (by rw [← hgz]; exact HB.out.size))
      rw [List.drop_drop] at hstep
      rw [← cells3_len] at hstep
      have hn1 : 1 ≤ (cells3 (l.drop i)).length ∧ (cells3 (l.drop i)).length ≤ 3 := by rw [cells3_len]; omega
      clear HX HN H1 HF HS hgz hg4 hb4 HO HB hbr hr0
      generalize (cells3 (l.drop i)).length = n at hstep hn1 ⊢
      generalize at3 (l.drop i) 0 = a at hx hstep qa
      generalize at3 (l.drop i) 1 = b at hx hstep qb
      generalize at3 (l.drop i) 2 = c at hx hstep qc
      have hx0 : w4.cell? ⟨g, 0, none⟩ = some (.int .u8 a) := (blk_cell hx 0).trans rfl
      have hx1 : w4.cell? ⟨g, 1, none⟩ = some (.int .u8 b) := (blk_cell hx 1).trans rfl
      have hx2 : w4.cell? ⟨g, 2, none⟩ = some (.int .u8 c) := (blk_cell hx 2).trans rfl
      have HO := Lib.hid ho4
      have HB := Lib.hid hb5
      have HT := Lib.hid (And.intro hstep (And.intro hn1 (And.intro qa (And.intro qb qc))))
      clear hx ho4 hb5 hstep hn1 qa qb qc
      have ma : a % 4294967296 = a := by have := HT.out; omega
      have mb : b % 4294967296 = b := by have := HT.out; omega
      have mc : c % 4294967296 = c := by have := HT.out; omega
      have ma2 : a * 65536 % 4294967296 = a * 65536 := by have := HT.out; omega
      have mb2 : b * 256 % 4294967296 = b * 256 := by have := HT.out; omega
      go_wp2_with fail
      clear ma mb mc ma2 mb2
      obtain ⟨F, hF⟩ : ∃ F, F = four n a b c := ⟨_, rfl⟩
      obtain ⟨V, hV⟩ : ∃ V, V = three a b c := ⟨_, rfl⟩
      have hV2 : bits BinOp.or IntKind.u32 (bits BinOp.or IntKind.u32 (a * 65536) (b * 256)) c = V := hV.symm
      rw [hV2]
      have HV := Lib.hid (And.intro hF hV)
      clear hF hV hV2
      go_loopg [3, 33] 5 (fun kq v3 v33 w' => ∃ k : Nat, v33 = .int .i64 (k : Int) ∧ kq = 5 - k ∧ k ≤ 4 ∧ Hid (Kd.R (Kd.int .u8) 5 w' w.heap.size (fun _ => True) v3 (acc ++ F.take k)) ∧ Hid (Below w.heap.size w w'))
      case atStart => exact ⟨0, rfl, rfl, by omega, (by have e := HO.out; show Kd.R _ _ _ _ _ _ (acc ++ F.take 0); rw [List.take_zero, List.append_nil]; exact e), HB.out⟩
      case round =>
        clear HO HB
        obtain ⟨k, rfl, hkk, hk4, HO, HB⟩ := hrel
        by_cases hk : k < 4
        · have hk2 : k = 0 ∨ k = 1 ∨ k = 2 ∨ k = 3 := by omega
          have c1 : decide ((k : Int) < 4) = true := decide_eq_true (by omega)
          rcases hk2 with rfl | rfl | rfl | rfl
          · have c2 : decide ((0 : Int) ≤ (n : Int)) = true := decide_eq_true (by have := HT.out; omega)
            have hd := bt_at (⟨#[65, 66, 67, 68, 69, 70, 71, 72, 73, 74, 75, 76, 77, 78, 79, 80, 81, 82, 83, 84, 85, 86, 87, 88, 89, 90, 97, 98, 99, 100, 101, 102, 103, 104, 105, 106, 107, 108, 109, 110, 111, 112, 113, 114, 115, 116, 117, 118, 119, 120, 121, 122, 48, 49, 50, 51, 52, 53, 54, 55, 56, 57, 43, 47]⟩ : ByteArray) (bits BinOp.and IntKind.u32 (V / 262144) 63)
            have hr63 := and63 (V / 262144) (by have := three_range a b c; have := HV.out.2; omega) (by have := three_range a b c; have := HV.out.2; omega)
            have i0 := hr63.1
            have i1 := hr63.2
            have i2 := decide_eq_true hr63.1
            have i3 := decide_eq_true hr63.2
            clear hr63
            obtain ⟨D, hD⟩ : ∃ D, D = bt (⟨#[65, 66, 67, 68, 69, 70, 71, 72, 73, 74, 75, 76, 77, 78, 79, 80, 81, 82, 83, 84, 85, 86, 87, 88, 89, 90, 97, 98, 99, 100, 101, 102, 103, 104, 105, 106, 107, 108, 109, 110, 111, 112, 113, 114, 115, 116, 117, 118, 119, 120, 121, 122, 48, 49, 50, 51, 52, 53, 54, 55, 56, 57, 43, 47]⟩ : ByteArray) (bits BinOp.and IntKind.u32 (V / 262144) 63) := ⟨_, rfl⟩
            rw [← hD] at hd
            have HD := Lib.hid hD
            clear hD
            go_wp2_with (first | ((with_reducible refine gate_builtin (b := .append) (xs := #[.tmp 39, .tmp 47]) rfl ?_); at_builtin; refine Kd.R_append (Kd.int .u8) (w0 := w) w.heap.size rfl (.tmp 39) (.tmp 47) 28 5 (.int .u8 0) 1 rfl Tryd.underlying28 infoB rfl (by decide) (by omega) _ (acc ++ F.take 0) D [.int .u8 D] (fun _ => True) (fun _ => False) rfl rfl ?aP (fun _ hk => hk.elim) ?aF ?aO ?aB ?aS ?aL ?_; (case aP => exact rfl); (case aB => exact HB.out); (case aF => exact (fun _ _ => trivial)); (case aO => exact HO.out); (case aS => exact (below_size HB.out)); (case aL => have := HA.out.2; have := HL.out.1; have := HK.out; simp only [List.length_append, List.length_take]; omega); intro v103 w6 ho hb hg hat; have HO2 := Lib.hid ho; have HB2 := Lib.hid hb; clear ho hb hg hat))
            go_roundg (5 - 1)
            case measure => omega
            case rel =>
              refine ⟨1, by simp, rfl, by omega, ?_, HB2.out⟩
              have e := HO2.out
              have hF := HV.out.1
              have hVV := HV.out.2
              subst hF
              have hDD := HD.out
              rw [hDD, hVV] at e
              have e2 : acc ++ (four n a b c).take 1 = acc ++ (four n a b c).take 0 ++ [bt let64 (bits BinOp.and IntKind.u32 (three a b c / 262144) 63)] := by
                simp [four]
              rw [e2]
              exact e
          · have c2 : decide ((1 : Int) ≤ (n : Int)) = true := decide_eq_true (by have := HT.out; omega)
            have hd := bt_at (⟨#[65, 66, 67, 68, 69, 70, 71, 72, 73, 74, 75, 76, 77, 78, 79, 80, 81, 82, 83, 84, 85, 86, 87, 88, 89, 90, 97, 98, 99, 100, 101, 102, 103, 104, 105, 106, 107, 108, 109, 110, 111, 112, 113, 114, 115, 116, 117, 118, 119, 120, 121, 122, 48, 49, 50, 51, 52, 53, 54, 55, 56, 57, 43, 47]⟩ : ByteArray) (bits BinOp.and IntKind.u32 (V / 4096) 63)
            have hr63 := and63 (V / 4096) (by have := three_range a b c; have := HV.out.2; omega) (by have := three_range a b c; have := HV.out.2; omega)
            have i0 := hr63.1
            have i1 := hr63.2
            have i2 := decide_eq_true hr63.1
            have i3 := decide_eq_true hr63.2
            clear hr63
            obtain ⟨D, hD⟩ : ∃ D, D = bt (⟨#[65, 66, 67, 68, 69, 70, 71, 72, 73, 74, 75, 76, 77, 78, 79, 80, 81, 82, 83, 84, 85, 86, 87, 88, 89, 90, 97, 98, 99, 100, 101, 102, 103, 104, 105, 106, 107, 108, 109, 110, 111, 112, 113, 114, 115, 116, 117, 118, 119, 120, 121, 122, 48, 49, 50, 51, 52, 53, 54, 55, 56, 57, 43, 47]⟩ : ByteArray) (bits BinOp.and IntKind.u32 (V / 4096) 63) := ⟨_, rfl⟩
            rw [← hD] at hd
            have HD := Lib.hid hD
            clear hD
            go_wp2_with (first | ((with_reducible refine gate_builtin (b := .append) (xs := #[.tmp 39, .tmp 47]) rfl ?_); at_builtin; refine Kd.R_append (Kd.int .u8) (w0 := w) w.heap.size rfl (.tmp 39) (.tmp 47) 28 5 (.int .u8 0) 1 rfl Tryd.underlying28 infoB rfl (by decide) (by omega) _ (acc ++ F.take 1) D [.int .u8 D] (fun _ => True) (fun _ => False) rfl rfl ?aP (fun _ hk => hk.elim) ?aF ?aO ?aB ?aS ?aL ?_; (case aP => exact rfl); (case aB => exact HB.out); (case aF => exact (fun _ _ => trivial)); (case aO => exact HO.out); (case aS => exact (below_size HB.out)); (case aL => have := HA.out.2; have := HL.out.1; have := HK.out; simp only [List.length_append, List.length_take]; omega); intro v103 w6 ho hb hg hat; have HO2 := Lib.hid ho; have HB2 := Lib.hid hb; clear ho hb hg hat))
            go_roundg (5 - 2)
            case measure => omega
            case rel =>
              refine ⟨2, by simp, rfl, by omega, ?_, HB2.out⟩
              have e := HO2.out
              have hF := HV.out.1
              have hVV := HV.out.2
              subst hF
              have hDD := HD.out
              rw [hDD, hVV] at e
              have e2 : acc ++ (four n a b c).take 2 = acc ++ (four n a b c).take 1 ++ [bt let64 (bits BinOp.and IntKind.u32 (three a b c / 4096) 63)] := by
                simp [four]
              rw [e2]
              exact e
          · by_cases hq : 2 ≤ n
            · have c2 : decide ((2 : Int) ≤ (n : Int)) = true := decide_eq_true (by omega)
              have hd := bt_at (⟨#[65, 66, 67, 68, 69, 70, 71, 72, 73, 74, 75, 76, 77, 78, 79, 80, 81, 82, 83, 84, 85, 86, 87, 88, 89, 90, 97, 98, 99, 100, 101, 102, 103, 104, 105, 106, 107, 108, 109, 110, 111, 112, 113, 114, 115, 116, 117, 118, 119, 120, 121, 122, 48, 49, 50, 51, 52, 53, 54, 55, 56, 57, 43, 47]⟩ : ByteArray) (bits BinOp.and IntKind.u32 (V / 64) 63)
              have hr63 := and63 (V / 64) (by have := three_range a b c; have := HV.out.2; omega) (by have := three_range a b c; have := HV.out.2; omega)
              have i0 := hr63.1
              have i1 := hr63.2
              have i2 := decide_eq_true hr63.1
              have i3 := decide_eq_true hr63.2
              clear hr63
              obtain ⟨D, hD⟩ : ∃ D, D = bt (⟨#[65, 66, 67, 68, 69, 70, 71, 72, 73, 74, 75, 76, 77, 78, 79, 80, 81, 82, 83, 84, 85, 86, 87, 88, 89, 90, 97, 98, 99, 100, 101, 102, 103, 104, 105, 106, 107, 108, 109, 110, 111, 112, 113, 114, 115, 116, 117, 118, 119, 120, 121, 122, 48, 49, 50, 51, 52, 53, 54, 55, 56, 57, 43, 47]⟩ : ByteArray) (bits BinOp.and IntKind.u32 (V / 64) 63) := ⟨_, rfl⟩
              rw [← hD] at hd
              have HD := Lib.hid hD
              clear hD
              go_wp2_with (first | ((with_reducible refine gate_builtin (b := .append) (xs := #[.tmp 39, .tmp 47]) rfl ?_); at_builtin; refine Kd.R_append (Kd.int .u8) (w0 := w) w.heap.size rfl (.tmp 39) (.tmp 47) 28 5 (.int .u8 0) 1 rfl Tryd.underlying28 infoB rfl (by decide) (by omega) _ (acc ++ F.take 2) D [.int .u8 D] (fun _ => True) (fun _ => False) rfl rfl ?aP (fun _ hk => hk.elim) ?aF ?aO ?aB ?aS ?aL ?_; (case aP => exact rfl); (case aB => exact HB.out); (case aF => exact (fun _ _ => trivial)); (case aO => exact HO.out); (case aS => exact (below_size HB.out)); (case aL => have := HA.out.2; have := HL.out.1; have := HK.out; simp only [List.length_append, List.length_take]; omega); intro v103 w6 ho hb hg hat; have HO2 := Lib.hid ho; have HB2 := Lib.hid hb; clear ho hb hg hat))
              go_roundg (5 - 3)
              case measure => omega
              case rel =>
                refine ⟨3, by simp, rfl, by omega, ?_, HB2.out⟩
                have e := HO2.out
                have hF := HV.out.1
                have hVV := HV.out.2
                subst hF
                have hDD := HD.out
                rw [hDD, hVV] at e
                have e2 : acc ++ (four n a b c).take 3 = acc ++ (four n a b c).take 2 ++ [bt let64 (bits BinOp.and IntKind.u32 (three a b c / 64) 63)] := by
                  simp [four, hq]
                rw [e2]
                exact e
            · have c2 : decide ((2 : Int) ≤ (n : Int)) = false := decide_eq_false (by omega)
              obtain ⟨D, hD⟩ : ∃ D : Int, D = 61 := ⟨_, rfl⟩
              have HD := Lib.hid hD
              go_wp2_with (first | ((with_reducible refine gate_builtin (b := .append) (xs := #[.tmp 49, .tmp 50]) rfl ?_); at_builtin; refine Kd.R_append (Kd.int .u8) (w0 := w) w.heap.size rfl (.tmp 49) (.tmp 50) 28 5 (.int .u8 0) 1 rfl Tryd.underlying28 infoB rfl (by decide) (by omega) _ (acc ++ F.take 2) 61 [.int .u8 61] (fun _ => True) (fun _ => False) rfl rfl ?aP (fun _ hk => hk.elim) ?aF ?aO ?aB ?aS ?aL ?_; (case aP => exact rfl); (case aB => exact HB.out); (case aF => exact (fun _ _ => trivial)); (case aO => exact HO.out); (case aS => exact (below_size HB.out)); (case aL => have := HA.out.2; have := HL.out.1; have := HK.out; simp only [List.length_append, List.length_take]; omega); intro v103 w6 ho hb hg hat; have HO2 := Lib.hid ho; have HB2 := Lib.hid hb; clear ho hb hg hat))
              go_roundg (5 - 3)
              case measure => omega
              case rel =>
                refine ⟨3, by simp, rfl, by omega, ?_, HB2.out⟩
                have e := HO2.out
                have hF := HV.out.1
                have hVV := HV.out.2
                subst hF
                have hDD := HD.out
                have e2 : acc ++ (four n a b c).take 3 = acc ++ (four n a b c).take 2 ++ [61] := by
                  simp [four, hq]
                rw [e2]
                exact e
          · by_cases hq : 3 ≤ n
            · have c2 : decide ((3 : Int) ≤ (n : Int)) = true := decide_eq_true (by omega)
              have hd := bt_at (⟨#[65, 66, 67, 68, 69, 70, 71, 72, 73, 74, 75, 76, 77, 78, 79, 80, 81, 82, 83, 84, 85, 86, 87, 88, 89, 90, 97, 98, 99, 100, 101, 102, 103, 104, 105, 106, 107, 108, 109, 110, 111, 112, 113, 114, 115, 116, 117, 118, 119, 120, 121, 122, 48, 49, 50, 51, 52, 53, 54, 55, 56, 57, 43, 47]⟩ : ByteArray) (bits BinOp.and IntKind.u32 V 63)
              have hr63 := and63 V (by have := three_range a b c; have := HV.out.2; omega) (by have := three_range a b c; have := HV.out.2; omega)
              have i0 := hr63.1
              have i1 := hr63.2
              have i2 := decide_eq_true hr63.1
              have i3 := decide_eq_true hr63.2
              clear hr63
              obtain ⟨D, hD⟩ : ∃ D, D = bt (⟨#[65, 66, 67, 68, 69, 70, 71, 72, 73, 74, 75, 76, 77, 78, 79, 80, 81, 82, 83, 84, 85, 86, 87, 88, 89, 90, 97, 98, 99, 100, 101, 102, 103, 104, 105, 106, 107, 108, 109, 110, 111, 112, 113, 114, 115, 116, 117, 118, 119, 120, 121, 122, 48, 49, 50, 51, 52, 53, 54, 55, 56, 57, 43, 47]⟩ : ByteArray) (bits BinOp.and IntKind.u32 V 63) := ⟨_, rfl⟩
              rw [← hD] at hd
              have HD := Lib.hid hD
              clear hD
              go_wp2_with (first | ((with_reducible refine gate_builtin (b := .append) (xs := #[.tmp 39, .tmp 47]) rfl ?_); at_builtin; refine Kd.R_append (Kd.int .u8) (w0 := w) w.heap.size rfl (.tmp 39) (.tmp 47) 28 5 (.int .u8 0) 1 rfl Tryd.underlying28 infoB rfl (by decide) (by omega) _ (acc ++ F.take 3) D [.int .u8 D] (fun _ => True) (fun _ => False) rfl rfl ?aP (fun _ hk => hk.elim) ?aF ?aO ?aB ?aS ?aL ?_; (case aP => exact rfl); (case aB => exact HB.out); (case aF => exact (fun _ _ => trivial)); (case aO => exact HO.out); (case aS => exact (below_size HB.out)); (case aL => have := HA.out.2; have := HL.out.1; have := HK.out; simp only [List.length_append, List.length_take]; omega); intro v103 w6 ho hb hg hat; have HO2 := Lib.hid ho; have HB2 := Lib.hid hb; clear ho hb hg hat))
              go_roundg (5 - 4)
              case measure => omega
              case rel =>
                refine ⟨4, by simp, rfl, by omega, ?_, HB2.out⟩
                have e := HO2.out
                have hF := HV.out.1
                have hVV := HV.out.2
                subst hF
                have hDD := HD.out
                rw [hDD, hVV] at e
                have e2 : acc ++ (four n a b c).take 4 = acc ++ (four n a b c).take 3 ++ [bt let64 (bits BinOp.and IntKind.u32 (three a b c) 63)] := by
                  simp [four, hq]
                rw [e2]
                exact e
            · have c2 : decide ((3 : Int) ≤ (n : Int)) = false := decide_eq_false (by omega)
              obtain ⟨D, hD⟩ : ∃ D : Int, D = 61 := ⟨_, rfl⟩
              have HD := Lib.hid hD
              go_wp2_with (first | ((with_reducible refine gate_builtin (b := .append) (xs := #[.tmp 49, .tmp 50]) rfl ?_); at_builtin; refine Kd.R_append (Kd.int .u8) (w0 := w) w.heap.size rfl (.tmp 49) (.tmp 50) 28 5 (.int .u8 0) 1 rfl Tryd.underlying28 infoB rfl (by decide) (by omega) _ (acc ++ F.take 3) 61 [.int .u8 61] (fun _ => True) (fun _ => False) rfl rfl ?aP (fun _ hk => hk.elim) ?aF ?aO ?aB ?aS ?aL ?_; (case aP => exact rfl); (case aB => exact HB.out); (case aF => exact (fun _ _ => trivial)); (case aO => exact HO.out); (case aS => exact (below_size HB.out)); (case aL => have := HA.out.2; have := HL.out.1; have := HK.out; simp only [List.length_append, List.length_take]; omega); intro v103 w6 ho hb hg hat; have HO2 := Lib.hid ho; have HB2 := Lib.hid hb; clear ho hb hg hat))
              go_roundg (5 - 4)
              case measure => omega
              case rel =>
                refine ⟨4, by simp, rfl, by omega, ?_, HB2.out⟩
                have e := HO2.out
                have hF := HV.out.1
                have hVV := HV.out.2
                subst hF
                have hDD := HD.out
                have e2 : acc ++ (four n a b c).take 4 = acc ++ (four n a b c).take 3 ++ [61] := by
                  simp [four, hq]
                rw [e2]
                exact e
        · obtain rfl : k = 4 := by omega
          go_wp2_with fail
          go_roundg (l.length + 3 - (i + 3))
          case measure => have := HK.out; omega
          case rel =>
            have hA := HA.out
            have hT := HT.out.1
            have hF := HV.out.1
            have hlen : (four n a b c).length = 4 := by simp [four]
            refine ⟨i + 3, acc ++ F, by simp, rfl, by omega, ⟨?_, ?_⟩, ?_, HB.out⟩
            · rw [hF, List.append_assoc, ← hT]
              exact hA.1
            · rw [hF, List.length_append, hlen]
              omega
            · have e := HO.out
              rw [List.take_of_length_le (by rw [hF, hlen]; exact Nat.le_refl _)] at e
              exact e
    · have c1 : decide ((i : Int) < (l.length : Int)) = false := decide_eq_false (by omega)
      have hcv := own_string (P := Tryd.prog) Tryd.underlying28 Tryd.underlying5 Tryd.underlying9 (Kd.own_of_R HO.out)
      go_wp2_with fail
      go_ret
      have e0 : l.drop i = [] := List.drop_of_length_le (by omega)
      have e1 := HA.out.1
      rw [e0, b64, List.append_nil] at e1
      exact ⟨by rw [e1]; rfl, HB.out⟩
end Go.Proofs.YtjkjnhcnmjknmaaDoor.X
namespace Go.Proofs.YtjkjnhcnmjknmaaDoor.Y
open Go.RowKit Go.Proofs.YtjkjnhcnmjknmaaDoorW.PrintWords Go.Proofs.YtjkjnhcnmjknmaaDoorW.PrintLast Go.Proofs.YtjkjnhcnmjknmaaDoorW.PrintMore
def spec_Base64.f (l0 : List Int) : Option (ByteArray) := if l0.length ≤ 1000 ∧ ∀ x ∈ l0, 0 ≤ x ∧ x ≤ 255 then some (strOfNums (X.b64 l0)) else none
theorem spec_Base64.calls (A0 : Option Addr) (c0 : Nat) (l0 : List Int) (r : ByteArray) (w : World) (hr0 : Kd.C (Kd.int .u8) w A0 l0.length l0) (hc0 : l0.length ≤ c0) (h : spec_Base64.f l0 = some r) :
    Calls Tryd.prog 11 #[.slice A0 l0.length c0] w fun e w' => e = .returned (.string r) ∧ Below w.heap.size w w' := by
  unfold spec_Base64.f at h
  split at h
  · rename_i hc
    obtain rfl := Option.some.inj h
    exact X.base64_calls A0 c0 l0 w hr0 hc0 hc.1 hc.2
  · exact absurd h (by simp)
end Go.Proofs.YtjkjnhcnmjknmaaDoor.Y
end
section
namespace Go.Proofs.YtjkjnhcnmjknmaaDoor.Y
open Go.RowKit Go.Proofs.YtjkjnhcnmjknmaaDoorW.PrintWords Go.Proofs.YtjkjnhcnmjknmaaDoorW.PrintLast Go.Proofs.YtjkjnhcnmjknmaaDoorW.PrintMore
attribute [local go_sem] max2_int min2_int max_two min_two max_three min_three max_four min_four   -- for this text's walks alone
set_option linter.unusedVariables false
set_option linter.unusedSimpArgs false
/-! ### laws_FnDrawClipboard: function 4 -/
def laws_FnDrawClipboard.j0 : Nat → Int → ByteArray → Bool → Option (Bool)
  | 0, _, _, _ => none
  | k + 1, x0, x1, x19 => if x19 = true then ((laws_drawAwake.f).bind fun t208 => (some t208)) else ((some (([x0] : List Int) : List Int)).bind fun y209 => (if (strOfNums y209).size + 1 ≤ 9223372036854775807 then ((gosem_conv.f x1).bind fun t212 => ((spec_Base64.f t212).bind fun t215 => (if (strOfNums y209).size + 1 + t215.size ≤ 9223372036854775807 then ((impl_MakeClipboard.f k 0 x0 x1).bind fun t216 => ((gosem_conv.f t216).bind fun t217 => ((impl_Feed.f 32 4096 t217).bind fun t220 => ((laws_drawEvents.f k t220).bind fun t223 => ((spec_DrawTold.f k t223 (([52] : List Int))).bind fun t229 => (if 0 < (t229.length : Int) then (if (rdOf ByteArray.empty t229 0).toList = (((strOfNums y209) ++ (⟨#[59]⟩ : ByteArray)) ++ t215).toList then ((laws_drawAwake.f).bind fun t233 => (some t233)) else (some false)) else (none))))))) else (none)))) else (none)))
def laws_FnDrawClipboard.f (k : Nat) (a0 : Int) (a1 : ByteArray) : Option (Bool) := if (a1.size : Int) > 2147483647 then (some true) else (if a0 < 97 then (laws_FnDrawClipboard.j0 k a0 a1 true) else (if a0 > 122 then (laws_FnDrawClipboard.j0 k a0 a1 true) else (laws_FnDrawClipboard.j0 k a0 a1 (decide ((a1.size : Int) > 40)))))
theorem laws_FnDrawClipboard.mono_l : ∀ k, (∀ y0 y1 y2, LeO (laws_FnDrawClipboard.j0 k y0 y1 y2) (laws_FnDrawClipboard.j0 (k + 1) y0 y1 y2))
  | 0 => fun _ _ _ r h => by simp [laws_FnDrawClipboard.j0] at h
  | k + 1 => by
    have ih0 := laws_FnDrawClipboard.mono_l k
    · intro y0 y1 y2
      unfold laws_FnDrawClipboard.j0
      repeat' first
      | (with_reducible exact ih0 _ _ _)
      | (with_reducible exact impl_MakeClipboard.mono _ _ _ _)
      | (with_reducible exact laws_drawEvents.mono _ _)
      | (with_reducible exact spec_DrawTold.mono _ _ _)
      | (with_reducible exact LeO.refl _)
      | (with_reducible exact LeO.none _)
      | (with_reducible refine LeO.ite ?_ ?_)
      | (with_reducible refine LeO.bind ?_ (fun _ => ?_))
      | exact ih0 _ _ _
      | exact impl_MakeClipboard.mono _ _ _ _
      | exact laws_drawEvents.mono _ _
      | exact spec_DrawTold.mono _ _ _
      | exact LeO.none _
      | refine LeO.ite ?_ ?_
      | refine LeO.bind ?_ (fun _ => ?_)
theorem laws_FnDrawClipboard.mono : ∀ a0 a1 k, LeO (laws_FnDrawClipboard.f k a0 a1) (laws_FnDrawClipboard.f (k + 1) a0 a1) := by
  intro a0 a1 k
  have ih0 := laws_FnDrawClipboard.mono_l k
  unfold laws_FnDrawClipboard.f
  repeat' first
      | (with_reducible exact ih0 _ _ _)
      | (with_reducible exact impl_MakeClipboard.mono _ _ _ _)
      | (with_reducible exact laws_drawEvents.mono _ _)
      | (with_reducible exact spec_DrawTold.mono _ _ _)
      | (with_reducible exact LeO.refl _)
      | (with_reducible exact LeO.none _)
      | (with_reducible refine LeO.ite ?_ ?_)
      | (with_reducible refine LeO.bind ?_ (fun _ => ?_))
      | exact ih0 _ _ _
      | exact impl_MakeClipboard.mono _ _ _ _
      | exact laws_drawEvents.mono _ _
      | exact spec_DrawTold.mono _ _ _
      | exact LeO.none _
      | refine LeO.ite ?_ ?_
      | refine LeO.bind ?_ (fun _ => ?_)
def laws_FnDrawClipboard.T5 : Bool × List (List Nat × List Nat) := (true, [([], []), ([0], [0]), ([1], [1]), ([2], [2]), ([], []), ([4], [4]), ([5], [5]), ([3, 6], [3, 6]), ([7, 6, 0, 1, 2, 3, 4, 5, 6, 7], [7])])
def laws_FnDrawClipboard.B5 : List Nat := [0, 1, 3, 7, 0, 16, 48, 127, 255]
theorem laws_FnDrawClipboard.tab5 : rtab .any (opsOf Tryd.f4 5) = laws_FnDrawClipboard.T5 := by kernel_rfl
theorem laws_FnDrawClipboard.bits5 : waitsOk laws_FnDrawClipboard.T5.2 laws_FnDrawClipboard.B5 = true := by kernel_rfl
end Go.Proofs.YtjkjnhcnmjknmaaDoor.Y
end
section
namespace Go.Proofs.YtjkjnhcnmjknmaaDoor.Y
set_option linter.unusedSimpArgs false
open Go.RowKit Go.Proofs.YtjkjnhcnmjknmaaDoorW.PrintWords Go.Proofs.YtjkjnhcnmjknmaaDoorW.PrintLast Go.Proofs.YtjkjnhcnmjknmaaDoorW.PrintMore
open X (b64 four three let64 at3)
theorem or_zero (x : Int) (h0 : 0 ≤ x) (h1 : x ≤ 4294967295) : Go.bits .or .u32 x 0 = x := by
  have := bits_join .u32 32 (by decide) (fun n h0 h1 => by rw [IntKind.wrap_u32]; omega) 0 x 0 h0 (by omega) (by omega) (by omega) (by omega) (by omega)
  rw [this, Int.add_zero]
theorem or_range (x y : Int) : 0 ≤ Go.bits .or .u32 x y ∧ Go.bits .or .u32 x y ≤ 4294967295 := ⟨bits_lo_u32 _ _ _, bits_hi_u32 _ _ _⟩
theorem at_drop (L : List Int) (i j : Nat) : at3 (L.drop i) j = rd L ((i + j : Nat) : Int) := by
  unfold at3 rd
  rw [Int.toNat_natCast, List.getD_eq_getElem?_getD, List.getD_eq_getElem?_getD, List.getElem?_drop]
theorem at_none (L : List Int) (i j : Nat) (h : L.length ≤ i + j) : at3 (L.drop i) j = 0 := by
  unfold at3
  rw [List.getD_eq_getElem?_getD, List.getElem?_drop, List.getElem?_eq_none h]
  rfl
theorem wupB (i : Nat) (h : i < 1000000000000) : wrap64 ((i : Int) + 2) = ((i + 2 : Nat) : Int) := by rw [wrap64_of _ (by omega) (by omega)]; omega
theorem wupC (i : Nat) (h : i < 1000000000000) : wrap64 ((i : Int) + 3) = ((i + 3 : Nat) : Int) := by rw [wrap64_of _ (by omega) (by omega)]; omega
theorem mod_hi (x : Int) (h0 : 0 ≤ x) (h1 : x ≤ 255) : x % 4294967296 * 65536 % 4294967296 = x * 65536 := by omega
theorem mod_mid (x : Int) (h0 : 0 ≤ x) (h1 : x ≤ 255) : x % 4294967296 * 256 % 4294967296 = x * 256 := by omega
theorem mod_lo (x : Int) (h0 : 0 ≤ x) (h1 : x ≤ 255) : x % 4294967296 = x := by omega
theorem hi_range (x : Int) (h0 : 0 ≤ x) (h1 : x ≤ 255) : 0 ≤ x * 65536 ∧ x * 65536 ≤ 4294967295 := by omega
theorem cut2 (a : Nat) (h : a < 100000) : wrap64 (((a + 4 : Nat) : Int) - 2) = ((a + 2 : Nat) : Int) := by rw [wrap64_of _ (by omega) (by omega)]; omega
theorem cut1 (a : Nat) (h : a < 100000) : wrap64 (((a + 4 : Nat) : Int) - 1) = ((a + 3 : Nat) : Int) := by rw [wrap64_of _ (by omega) (by omega)]; omega
theorem rng18 (v : Int) (h0 : 0 ≤ v) (h1 : v ≤ 4294967295) : 0 ≤ v / 262144 ∧ v / 262144 ≤ 4294967295 := by omega
theorem rng12 (v : Int) (h0 : 0 ≤ v) (h1 : v ≤ 4294967295) : 0 ≤ v / 4096 ∧ v / 4096 ≤ 4294967295 := by omega
theorem rng6 (v : Int) (h0 : 0 ≤ v) (h1 : v ≤ 4294967295) : 0 ≤ v / 64 ∧ v / 64 ≤ 4294967295 := by omega
theorem zz_j2 (s : ByteArray) (acc : List Int) (i k : Nat) (v : Int) (hv0 : 0 ≤ v) (hv1 : v ≤ 4294967295) (hs : s.size ≤ 1000) (hi : i < s.size) (ha : acc.length ≤ 4 * i) (n : Nat) (hn : n = min 3 (s.size - i)) (r : List Int)
    (hr : r = [bt let64 (Go.bits .and .u32 (v / 262144) 63), bt let64 (Go.bits .and .u32 (v / 4096) 63), if 2 ≤ n then bt let64 (Go.bits .and .u32 (v / 64) 63) else 61, if 3 ≤ n then bt let64 (Go.bits .and .u32 v 63) else 61]) :
    xansi_zzBase64.j2 (k + 1) s acc (i : Int) v = xansi_zzBase64.l0 k s (acc ++ r) ((i + 3 : Nat) : Int) := by
  have b1 : i < 1000000000000 := by omega
  have b2 : acc.length < 100000 := by omega
  have p1 : s.size ≤ i + 1 → n = 1 ∧ ((i + 1 : Nat) : Int) ≥ (s.size : Int) ∧ ((i + 2 : Nat) : Int) ≥ (s.size : Int) := fun _ => by omega
  have p2 : ¬ s.size ≤ i + 1 → ¬ ((i + 1 : Nat) : Int) ≥ (s.size : Int) := fun _ => by omega
  have p3 : ¬ s.size ≤ i + 1 → s.size ≤ i + 2 → n = 2 ∧ ((i + 2 : Nat) : Int) ≥ (s.size : Int) := fun _ _ => by omega
  have p4 : ¬ s.size ≤ i + 2 → n = 3 ∧ ¬ ((i + 2 : Nat) : Int) ≥ (s.size : Int) := fun _ => by omega
  have p5 : acc.length + 4 < 140737488355328 := by omega
  have p6 : (0 : Int) ≤ ((acc.length + 2 : Nat) : Int) := by omega
  have p7 : (0 : Int) ≤ ((acc.length + 3 : Nat) : Int) := by omega
  have p8 : ((acc.length + 2 : Nat) : Int) < ((acc.length + 4 : Nat) : Int) := by omega
  have p9 : ((acc.length + 3 : Nat) : Int) < ((acc.length + 4 : Nat) : Int) := by omega
  have w1 := wup i b1
  have w2 := wupB i b1
  have w3 := wupC i b1
  have l2 := cut2 acc.length b2
  have l1 := cut1 acc.length b2
  have r1 : 0 ≤ v / 262144 ∧ v / 262144 ≤ 4294967295 := rng18 v hv0 hv1
  have r2 : 0 ≤ v / 4096 ∧ v / 4096 ≤ 4294967295 := rng12 v hv0 hv1
  have r3 : 0 ≤ v / 64 ∧ v / 64 ≤ 4294967295 := rng6 v hv0 hv1
  have a1 := X.and63 (v / 262144) r1.1 r1.2
  have a2 := X.and63 (v / 4096) r2.1 r2.2
  have a3 := X.and63 (v / 64) r3.1 r3.2
  have a4 := X.and63 v hv0 hv1
  rw [xansi_zzBase64.j2, if_pos a1.1, if_pos a1.2, if_pos a2.1, if_pos a2.2, if_pos a3.1, if_pos a3.2, if_pos a4.1, if_pos a4.2]
  clear a1 a2 a3 a4
  have hlet : (⟨#[65, 66, 67, 68, 69, 70, 71, 72, 73, 74, 75, 76, 77, 78, 79, 80, 81, 82, 83, 84, 85, 86, 87, 88, 89, 90, 97, 98, 99, 100, 101, 102, 103, 104, 105, 106, 107, 108, 109, 110, 111, 112, 113, 114, 115, 116, 117, 118, 119, 120, 121, 122, 48, 49, 50, 51, 52, 53, 54, 55, 56, 57, 43, 47]⟩ : ByteArray) = let64 := rfl
  rw [hlet]
  obtain ⟨d0, h0⟩ : ∃ d, d = bt let64 (Go.bits .and .u32 (v / 262144) 63) := ⟨_, rfl⟩
  obtain ⟨d1, h1⟩ : ∃ d, d = bt let64 (Go.bits .and .u32 (v / 4096) 63) := ⟨_, rfl⟩
  obtain ⟨d2, h2⟩ : ∃ d, d = bt let64 (Go.bits .and .u32 (v / 64) 63) := ⟨_, rfl⟩
  obtain ⟨d3, h3⟩ : ∃ d, d = bt let64 (Go.bits .and .u32 v 63) := ⟨_, rfl⟩
  rw [← h0, ← h1, ← h2, ← h3] at hr ⊢
  clear h0 h1 h2 h3 hlet
  have hL : (acc ++ [d0, d1, d2, d3]).length = acc.length + 4 := by simp
  have s2 : ∀ x : Int, (acc ++ [d0, d1, x, d3]).set (acc.length + 3) 61 = acc ++ [d0, d1, x, 61] := fun x => by simp [List.set_append]
  have s1 : (acc ++ [d0, d1, d2, d3]).set (acc.length + 2) 61 = acc ++ [d0, d1, 61, d3] := by simp [List.set_append]
  have l4 : acc.length + [d0, d1, d2, d3].length < 140737488355328 := p5
  rw [Option.bind_some, if_pos l4, Option.bind_some, hL, l1, l2, w1, w2, w3, Int.toNat_natCast, Int.toNat_natCast]
  by_cases c1 : s.size ≤ i + 1
  · obtain ⟨hn1, q1, q2⟩ := p1 c1
    rw [if_pos q1, if_pos p6, if_pos p8, Option.bind_some, if_pos q2, if_pos p7, if_pos p9, s1, s2]
    rw [hn1, if_neg (by decide), if_neg (by decide)] at hr
    rw [hr]
  · rw [if_neg (p2 c1)]
    by_cases c2 : s.size ≤ i + 2
    · obtain ⟨hn2, q2⟩ := p3 c1 c2
      rw [if_pos q2, if_pos p7, if_pos p9, s2]
      rw [hn2, if_pos (by decide), if_neg (by decide)] at hr
      rw [hr]
    · obtain ⟨hn3, q3⟩ := p4 c2
      rw [if_neg q3]
      rw [hn3, if_pos (by decide), if_pos (by decide)] at hr
      rw [hr]
theorem zz_l0 (s : ByteArray) (hs : s.size ≤ 1000) : ∀ (m i k : Nat) (acc : List Int), s.size ≤ i + 3 * m → 3 * m + 1 ≤ k → acc.length ≤ 4 * i →
    xansi_zzBase64.l0 k s acc (i : Int) = some (strOfNums (acc ++ b64 ((bytesOf s).drop i)))
  | 0, i, k + 1, acc, h, hk, ha => by
    have hL : (bytesOf s).length = s.size := bytesOf_length s
    rw [xansi_zzBase64.l0, if_neg (by omega), List.drop_of_length_le (by omega), b64, List.append_nil]
  | m + 1, i, k, acc, h, hk, ha => by
    have hL : (bytesOf s).length = s.size := bytesOf_length s
    by_cases hi : i < s.size
    · obtain ⟨k, rfl⟩ : ∃ k', k = k' + 3 := ⟨k - 3, by omega⟩
      have hd : 0 < ((bytesOf s).drop i).length := by rw [List.length_drop]; omega
      have ih := fun r : List Int => fun hr : r.length = 4 => zz_l0 s hs m (i + 3) k (acc ++ r) (by omega) (by omega) (by rw [List.length_append, hr]; omega)
      have b1 : i < 1000000000000 := by omega
      have q1 : (i : Int) < (s.size : Int) := by omega
      have q2 : (0 : Int) ≤ (i : Int) := by omega
      have q3 : (0 : Int) ≤ ((i + 1 : Nat) : Int) := by omega
      have q4 : (0 : Int) ≤ ((i + 2 : Nat) : Int) := by omega
      have hmin : min 3 ((bytesOf s).drop i).length = min 3 (s.size - i) := by rw [List.length_drop, hL]
      have x1 : ¬ i + 1 < s.size → (bytesOf s).length ≤ i + 1 ∧ ¬ ((i + 1 : Nat) : Int) < (s.size : Int) := fun _ => ⟨by omega, by omega⟩
      have x2 : ¬ i + 2 < s.size → (bytesOf s).length ≤ i + 2 ∧ ¬ ((i + 2 : Nat) : Int) < (s.size : Int) := fun _ => ⟨by omega, by omega⟩
      have y1 : i + 1 < s.size → ((i + 1 : Nat) : Int) < (s.size : Int) := fun _ => by omega
      have y2 : i + 2 < s.size → ((i + 2 : Nat) : Int) < (s.size : Int) := fun _ => by omega
      have y3 : ¬ i + 1 < s.size → ¬ i + 2 < s.size := fun _ => by omega
      have w1 := wup i b1
      have w2 := wupB i b1
      have hb := X.b64_step _ hd
      rw [hmin, List.drop_drop] at hb
      have r0 := bt_range s (i : Int)
      have r1 := bt_range s ((i + 1 : Nat) : Int)
      have r2 := bt_range s ((i + 2 : Nat) : Int)
      have f0 : at3 ((bytesOf s).drop i) 0 = bt s (i : Int) := by rw [at_drop, rd_bytesOf]; rfl
      have last : ∀ v : Int, three (at3 ((bytesOf s).drop i) 0) (at3 ((bytesOf s).drop i) 1) (at3 ((bytesOf s).drop i) 2) = v → xansi_zzBase64.j2 (k + 1) s acc (i : Int) v = some (strOfNums (acc ++ b64 ((bytesOf s).drop i))) := fun v e => by
        rw [← e, zz_j2 s acc i k _ (X.three_range _ _ _).1 (X.three_range _ _ _).2 hs hi ha _ rfl (four (min 3 (s.size - i)) (at3 ((bytesOf s).drop i) 0) (at3 ((bytesOf s).drop i) 1) (at3 ((bytesOf s).drop i) 2)) rfl, ih _ (by simp [four]), hb, List.append_assoc]
      rw [xansi_zzBase64.l0, if_pos q1, if_pos q2, w1, mod_hi _ r0.1 r0.2, mod_mid _ r1.1 r1.2]
      by_cases c1 : i + 1 < s.size
      · have f1 : at3 ((bytesOf s).drop i) 1 = bt s ((i + 1 : Nat) : Int) := by rw [at_drop, rd_bytesOf]
        rw [if_pos (y1 c1), if_pos q3, xansi_zzBase64.j1, w2, mod_lo _ r2.1 r2.2]
        by_cases c2 : i + 2 < s.size
        · have f2 : at3 ((bytesOf s).drop i) 2 = bt s ((i + 2 : Nat) : Int) := by rw [at_drop, rd_bytesOf]
          rw [if_pos (y2 c2), if_pos q4]
          exact last _ (by rw [f0, f1, f2]; rfl)
        · have f2 : at3 ((bytesOf s).drop i) 2 = 0 := at_none _ _ _ (x2 c2).1
          rw [if_neg (x2 c2).2]
          exact last _ (by rw [f0, f1, f2]; exact or_zero _ (or_range _ _).1 (or_range _ _).2)
      · have f1 : at3 ((bytesOf s).drop i) 1 = 0 := at_none _ _ _ (x1 c1).1
        have f2 : at3 ((bytesOf s).drop i) 2 = 0 := at_none _ _ _ (x2 (y3 c1)).1
        rw [if_neg (x1 c1).2, xansi_zzBase64.j1, w2, if_neg (x2 (y3 c1)).2]
        refine last _ ?_
        rw [f0, f1, f2]
        show Go.bits .or .u32 (Go.bits .or .u32 (bt s (i : Int) * 65536) 0) 0 = _
        rw [or_zero _ (hi_range _ r0.1 r0.2).1 (hi_range _ r0.1 r0.2).2, or_zero _ (hi_range _ r0.1 r0.2).1 (hi_range _ r0.1 r0.2).2]
    · obtain ⟨k, rfl⟩ : ∃ k', k = k' + 1 := ⟨k - 1, by omega⟩
      rw [xansi_zzBase64.l0, if_neg (by omega), List.drop_of_length_le (by omega), b64, List.append_nil]
theorem zz_f (s : ByteArray) (hs : s.size ≤ 1000) (k : Nat) (hk : 2000 ≤ k) : xansi_zzBase64.f k s = some (strOfNums (b64 (bytesOf s))) := by
  unfold xansi_zzBase64.f
  have := zz_l0 s hs (s.size / 3 + 1) 0 k [] (by omega) (by omega) (by simp)
  simpa using this
/-- What the letters are. -/
theorem let_range : ((List.range 64).all fun j => decide (43 ≤ bt let64 (j : Int) ∧ bt let64 (j : Int) ≤ 122)) = true := by kernel_rfl
theorem let_at (v : Int) (h0 : 0 ≤ v) (h1 : v ≤ 4294967295) : 43 ≤ bt let64 (Go.bits .and .u32 v 63) ∧ bt let64 (Go.bits .and .u32 v 63) ≤ 122 := by
  have h := X.and63 v h0 h1
  obtain ⟨j, hj⟩ := Int.eq_ofNat_of_zero_le h.1
  rw [hj] at h ⊢
  exact of_decide_eq_true (List.all_eq_true.1 let_range j (List.mem_range.2 (by omega)))
theorem four_range (n : Nat) (a b c : Int) : ∀ x ∈ four n a b c, 43 ≤ x ∧ x ≤ 122 := by
  have h := X.three_range a b c
  have h1 := let_at (three a b c / 262144) (by omega) (by omega)
  have h2 := let_at (three a b c / 4096) (by omega) (by omega)
  have h3 := let_at (three a b c / 64) (by omega) (by omega)
  have h4 := let_at (three a b c) h.1 h.2
  intro x hx
  unfold four at hx
  simp only [List.mem_cons, List.not_mem_nil, or_false] at hx
  rcases hx with rfl | rfl | rfl | rfl
  · exact h1
  · exact h2
  · split
    · exact h3
    · omega
  · split
    · exact h4
    · omega
theorem b64_range : ∀ (m : Nat) (l : List Int), l.length ≤ m → (∀ x ∈ b64 l, 43 ≤ x ∧ x ≤ 122) ∧ (b64 l).length ≤ 4 * l.length
  | 0, l, h => by
    rw [List.length_eq_zero_iff.1 (by omega : l.length = 0)]
    exact ⟨fun x hx => by simp [b64] at hx, by simp [b64]⟩
  | m + 1, l, h => by
    by_cases hl : 0 < l.length
    · obtain ⟨i1, i2⟩ := b64_range m (l.drop 3) (by rw [List.length_drop]; omega)
      rw [X.b64_step l hl]
      refine ⟨fun x hx => ?_, ?_⟩
      · rcases List.mem_append.1 hx with hx | hx
        · exact four_range _ _ _ _ x hx
        · exact i1 x hx
      · have h4 : (four (min 3 l.length) (at3 l 0) (at3 l 1) (at3 l 2)).length = 4 := by simp [four]
        rw [List.length_append, h4]
        rw [List.length_drop] at i2
        omega
    · rw [List.length_eq_zero_iff.1 (by omega : l.length = 0)]
      exact ⟨fun x hx => by simp [b64] at hx, by simp [b64]⟩
theorem strOf_data (l : List Int) : (strOfNums l).data.toList = l.map fun x => UInt8.ofNat x.toNat := by
  simp [strOfNums, Function.comp_def]
theorem enc_ok : ((List.range 26).all fun j => decide (Utf8.encode ((97 + j : Nat) : Int) = strOfNums [((97 + j : Nat) : Int)])) = true := by kernel_rfl
theorem enc_at (a : Int) (h0 : 97 ≤ a) (h1 : a ≤ 122) : Utf8.encode a = strOfNums [a] := by
  obtain ⟨j, rfl⟩ : ∃ j : Nat, a = ((97 + j : Nat) : Int) := ⟨(a - 97).toNat, by omega⟩
  exact of_decide_eq_true (List.all_eq_true.1 enc_ok j (List.mem_range.2 (by omega)))
theorem clip_text (a : Int) (h0 : 97 ≤ a) (h1 : a ≤ 122) (s : ByteArray) (hs : s.size ≤ 40) (k : Nat) (hk : 3000 ≤ k) :
    impl_MakeClipboard.f k 0 a s = some (((((⟨#[27, 93, 53, 50, 59]⟩ : ByteArray) ++ strOfNums [a]) ++ (⟨#[59]⟩ : ByteArray)) ++ strOfNums (b64 (bytesOf s))) ++ (⟨#[7]⟩ : ByteArray)) ∧ (strOfNums (b64 (bytesOf s))).size ≤ 160 ∧ (strOfNums [a]).size = 1 := by
  have hL : (bytesOf s).length = s.size := bytesOf_length s
  have hz : (strOfNums (b64 (bytesOf s))).size ≤ 160 := by
    rw [← data_length, strOf_data, List.length_map]
    have := (b64_range _ (bytesOf s) (Nat.le_refl _)).2
    omega
  have h1z : (strOfNums [a]).size = 1 := by rw [← data_length, strOf_data]; rfl
  refine ⟨?_, hz, h1z⟩
  unfold impl_MakeClipboard.f xansi_SetClipboard.f
  rw [if_pos rfl, enc_at a h0 h1]
  by_cases he : s.toList = []
  · have hs0 : s = (⟨#[]⟩ : ByteArray) := by
      rw [ByteArray.toList_eq] at he
      apply ByteArray.ext
      apply Array.toList_inj.1
      exact he
    have hb : strOfNums (b64 (bytesOf s)) = s := by rw [hs0]; rfl
    rw [if_pos he, if_pos (by omega), if_pos (by omega), if_pos (by omega), if_pos (by omega), Option.bind_some, hb]
  · rw [if_neg he, zz_f s (by omega) k (by omega), Option.bind_some, if_pos (by omega), if_pos (by omega), if_pos (by omega), if_pos (by omega), Option.bind_some]
theorem clip_q (a : Int) (h0 : 97 ≤ a) (h1 : a ≤ 122) (l : List Int) (hl : ∀ x ∈ l, 43 ≤ x ∧ x ≤ 122) :
    ∀ b ∈ (strOfNums [a]).data.toList ++ 59 :: (strOfNums l).data.toList, 32 ≤ b.toNat ∧ b.toNat ≤ 126 := by
  intro b hb
  rw [strOf_data, strOf_data] at hb
  have hn : ∀ x : Int, 43 ≤ x → x ≤ 122 → 32 ≤ (UInt8.ofNat x.toNat).toNat ∧ (UInt8.ofNat x.toNat).toNat ≤ 126 := fun x q1 q2 => by
    have : (UInt8.ofNat x.toNat).toNat = x.toNat := by
      simp
      omega
    omega
  rcases List.mem_append.1 hb with hb | hb
  · obtain ⟨x, hx, rfl⟩ := List.mem_map.1 hb
    rw [List.mem_singleton.1 hx]
    exact hn a (by omega) h1
  · rcases List.mem_cons.1 hb with rfl | hb
    · decide
    · obtain ⟨x, hx, rfl⟩ := List.mem_map.1 hb
      exact hn x (hl x hx).1 (hl x hx).2
theorem FnDrawClipboard_true (a : Int) (_ : (Lit.int .u8 a).wf = true) (s : ByteArray) (_ : s.size ≤ maxLen) : laws_FnDrawClipboard.f 10000 a s = some true := by
  have bad : laws_FnDrawClipboard.j0 10000 a s true = some true := by rw [laws_FnDrawClipboard.j0, if_pos rfl, awake, Option.bind_some]
  unfold laws_FnDrawClipboard.f
  by_cases c0 : (s.size : Int) > 2147483647
  · rw [if_pos c0]
  rw [if_neg c0]
  by_cases c1 : a < 97
  · rw [if_pos c1, bad]
  rw [if_neg c1]
  by_cases c2 : a > 122
  · rw [if_pos c2, bad]
  rw [if_neg c2]
  by_cases c3 : (s.size : Int) > 40
  · rw [decide_eq_true c3, bad]
  rw [decide_eq_false c3, laws_FnDrawClipboard.j0, if_neg (by simp)]
  have hL : (bytesOf s).length = s.size := bytesOf_length s
  obtain ⟨t1, t2, t3⟩ := clip_text a (by omega) (by omega) s (by omega) 9999 (by omega)
  have hB : spec_Base64.f (bytesOf s) = some (strOfNums (b64 (bytesOf s))) := by
    unfold spec_Base64.f
    rw [if_pos ⟨by omega, fun x hx => by
      obtain ⟨b, _, rfl⟩ := List.mem_map.1 hx
      have := b.toNat_lt
      omega⟩]
  have hrg := (b64_range _ (bytesOf s) (Nat.le_refl _)).1
  have hq := clip_q a (by omega) (by omega) (b64 (bytesOf s)) hrg
  have hz1 : (strOfNums [a]).data.toList.length = 1 := by rw [data_length, t3]
  have hz2 : (strOfNums (b64 (bytesOf s))).data.toList.length ≤ 160 := by rw [data_length]; exact t2
  rw [Option.bind_some, if_pos (by omega), conv_f s (by omega), Option.bind_some, hB, Option.bind_some, if_pos (by omega), t1, Option.bind_some]
  generalize strOfNums (b64 (bytesOf s)) = B at t1 t2 hB hq hz2 ⊢
  generalize strOfNums [a] = A at t1 t3 hq hz1 ⊢
  have hrun : X.run .gr (X.nb (((((⟨#[27, 93, 53, 50, 59]⟩ : ByteArray) ++ A) ++ (⟨#[59]⟩ : ByteArray)) ++ B) ++ (⟨#[7]⟩ : ByteArray))) = some (.gr, [X.evOsc 52 (nums ([53, 50] ++ 59 :: (A.data.toList ++ 59 :: B.data.toList)))]) := by
    have h := osc_run 52 (by decide) [53, 50] rfl (A.data.toList ++ 59 :: B.data.toList) hq (by simp only [List.length_append, List.length_cons, List.length_nil]; omega)
    have e : X.nb (((((⟨#[27, 93, 53, 50, 59]⟩ : ByteArray) ++ A) ++ (⟨#[59]⟩ : ByteArray)) ++ B) ++ (⟨#[7]⟩ : ByteArray)) = [27, 93] ++ nn [53, 50] ++ [59] ++ nn (A.data.toList ++ 59 :: B.data.toList) ++ [7] := by
      rw [X.nb_append, X.nb_append, X.nb_append, X.nb_append]
      have e1 : X.nb (⟨#[27, 93, 53, 50, 59]⟩ : ByteArray) = [27, 93] ++ nn [53, 50] ++ [59] := rfl
      have e2 : X.nb (⟨#[59]⟩ : ByteArray) = [59] := rfl
      have e3 : X.nb (⟨#[7]⟩ : ByteArray) = [7] := rfl
      rw [e1, e2, e3]
      simp [X.nb, nn]
    rw [e]
    exact h
  have hsz : (((((⟨#[27, 93, 53, 50, 59]⟩ : ByteArray) ++ A) ++ (⟨#[59]⟩ : ByteArray)) ++ B) ++ (⟨#[7]⟩ : ByteArray)).size ≤ 1000 := by
    have e1 : (⟨#[27, 93, 53, 50, 59]⟩ : ByteArray).size = 5 := rfl
    have e2 : (⟨#[59]⟩ : ByteArray).size = 1 := rfl
    have e3 : (⟨#[7]⟩ : ByteArray).size = 1 := rfl
    simp only [ByteArray.size_append]
    omega
  have hbeh := behind_f [53, 50] (A.data.toList ++ 59 :: B.data.toList) (by decide) (by simp only [List.length_append, List.length_cons, List.length_nil]; omega) 10 (by decide)
  have hbeh2 : spec_drawBehind.f 10 (strOfNums (cv (X.toS (X.evOsc 52 (nums ([53, 50] ++ 59 :: (A.data.toList ++ 59 :: B.data.toList)))))).f5) 1 = some ⟨(A.data.toList ++ 59 :: B.data.toList).toArray⟩ := hbeh
  have hT := told_f (fun _ : Unit => cv (X.toS (X.evOsc 52 (nums ([53, 50] ++ 59 :: (A.data.toList ++ 59 :: B.data.toList)))))) (fun _ => 52) (fun _ => ⟨(A.data.toList ++ 59 :: B.data.toList).toArray⟩) 10 [52] (by decide) [()] (by simp) (fun _ _ => ⟨rfl, rfl, hbeh2⟩) 9999 (by simp only [List.length_cons, List.length_nil]; omega)
  rw [conv_f _ (by omega), Option.bind_some, feed_f _ (by omega) hrun, Option.bind_some, drawEvents_f _ (by simp) 9999 (by simp), Option.bind_some]
  have e4 : ([X.evOsc 52 (nums ([53, 50] ++ 59 :: (A.data.toList ++ 59 :: B.data.toList)))].map X.toS).map cv = [()].map (fun _ : Unit => cv (X.toS (X.evOsc 52 (nums ([53, 50] ++ 59 :: (A.data.toList ++ 59 :: B.data.toList)))))) := rfl
  rw [e4, hT, Option.bind_some]
  have e5 : List.foldl (fun v (_ : Unit) => tell [52] 52 (⟨(A.data.toList ++ 59 :: B.data.toList).toArray⟩ : ByteArray) v) (List.replicate ([52] : List Int).length ⟨#[]⟩) [()] = [⟨(A.data.toList ++ 59 :: B.data.toList).toArray⟩] := by simp [tell, List.replicate]
  have e6 : (⟨(A.data.toList ++ 59 :: B.data.toList).toArray⟩ : ByteArray) = (A ++ (⟨#[59]⟩ : ByteArray)) ++ B := by
    apply ByteArray.ext
    apply Array.toList_inj.1
    simp [ByteArray.data_append]
  rw [e5, if_pos (by simp)]
  have e7 : rdOf ByteArray.empty [(⟨(A.data.toList ++ 59 :: B.data.toList).toArray⟩ : ByteArray)] 0 = ⟨(A.data.toList ++ 59 :: B.data.toList).toArray⟩ := rfl
  rw [e7, e6, if_pos rfl, awake, Option.bind_some]
end Go.Proofs.YtjkjnhcnmjknmaaDoor.Y
end
section
namespace Go.Proofs.YtjkjnhcnmjknmaaDoor.Y
open Go.RowKit Go.Proofs.YtjkjnhcnmjknmaaDoorW.PrintWords Go.Proofs.YtjkjnhcnmjknmaaDoorW.PrintLast Go.Proofs.YtjkjnhcnmjknmaaDoorW.PrintMore
attribute [local go_sem] max2_int min2_int max_two min_two max_three min_three max_four min_four   -- for this text's walks alone
set_option linter.unusedVariables false
set_option linter.unusedSimpArgs false
set_option maxHeartbeats 8000000 in
set_option maxRecDepth 100000 in
theorem spec_drawBehind.calls (k : Nat) (a0 : ByteArray) (a1 : Int) (r : ByteArray) (w : World) (h : spec_drawBehind.f k a0 a1 = some r) :
    Calls Tryd.prog 55 #[.string a0, .int .i64 a1] w fun e w' => e = .returned (.string r) ∧ Drawn0 w w' := by
  have H : (spec_drawBehind.l0 k a0 a1 (a0.size : Int) 0) = some r := h
  clear h
  have H' := Aside0.mk H
  clear H
  go_enter Tryd.func55, Tryd.ntmps55
  go_wp2
  go_loopg [1, 8] k (fun kq v1 v8 w' => ∃ (x1_1 : Int) (x8_1 : Int), v1 = .int .i64 x1_1 ∧ v8 = .int .i64 x8_1 ∧ Aside0 (spec_drawBehind.l0 kq a0 x1_1 (a0.size : Int) x8_1 = some r) ∧ Aside0 (kq ≤ k) ∧ Drawn0 w w')
  case atStart => exact ⟨(a1), (0), (by first | rfl | (simp; done) | (simp [*]; done)), (by first | rfl | (simp; done) | (simp [*]; done)), H', ⟨Nat.le_refl _⟩, by repeat (first | exact Drawn0.refl _ | apply Drawn0.step)⟩
  case round =>
    clear H'
    try clear p2
    obtain ⟨x1_1, x8_1, rfl, rfl, HA, HK1, ⟨m1, rfl⟩⟩ := hrel
    cases gk with
    | zero => exact absurd HA.out (by simp [spec_drawBehind.l0])
    | succ k1 =>
      have H := HA.out
      clear HA
      simp only [spec_drawBehind.l0] at H
      by_cases c3 : x8_1 < (a0.size : Int)
      · rw [if_pos c3] at H
        have c3b0 : decide (x8_1 < (a0.size : Int)) = true := decide_eq_true c3
        clear c3
        by_cases c4 : 0 ≤ x8_1
        · rw [if_pos c4] at H
          have c4b0 : decide (0 ≤ x8_1) = true := decide_eq_true c4
          clear c4
          by_cases c5 : x8_1 < (a0.size : Int)
          · rw [if_pos c5] at H
            have c5b0 : decide (x8_1 < (a0.size : Int)) = true := decide_eq_true c5
            clear c5
            by_cases c7 : (bt a0 x8_1) = 59
            · rw [if_pos c7] at H
              have c7b0 : ((bt a0 x8_1) == 59) = true := beq_iff_eq.mpr c7
              have c7b1 : ((bt a0 x8_1) != 59) = false := bne_eq_false_iff_eq.mpr c7
              clear c7
              by_cases c8 : (wrap64 (x1_1 - 1)) = 0
              · rw [if_pos c8] at H
                have c8b0 : ((wrap64 (x1_1 - 1)) == 0) = true := beq_iff_eq.mpr c8
                have c8b1 : ((wrap64 (x1_1 - 1)) != 0) = false := bne_eq_false_iff_eq.mpr c8
                clear c8
                obtain ⟨ji9, hji9⟩ : ∃ j_ : Int, (wrap64 (x8_1 + 1)) = j_ := ⟨_, rfl⟩
                replace H : (if 0 ≤ (ji9) then (if (ji9) ≤ (a0.size : Int) then (some (a0.extract ((ji9) : Int).toNat a0.size)) else (none)) else (none)) = some r := by first | (rw [hji9] at H; exact H) | (simp only [hji9] at H ⊢; exact H)
                have hji9w : (IntKind.i64.wrap (x8_1 + 1)) = ji9 := (i64_w _).trans hji9
                by_cases c10 : 0 ≤ (ji9)
                · rw [if_pos c10] at H
                  have c10b0 := eq_true c10
                  have c10b1 : decide (0 ≤ (ji9)) = true := decide_eq_true c10
                  clear c10
                  by_cases c11 : (ji9) ≤ (a0.size : Int)
                  · rw [if_pos c11] at H
                    have c11b0 := eq_true c11
                    have c11b1 : decide ((ji9) ≤ (a0.size : Int)) = true := decide_eq_true c11
                    clear c11
                    obtain rfl := Option.some.inj H
                    have p6 : 0 ≤ (x8_1 : Int) := of_decide_eq_true (by first | (with_reducible assumption) | assumption)
                    have q6 : x8_1 < (a0.size : Int) := of_decide_eq_true (by first | (with_reducible assumption) | assumption)
                    have hx6 := bt_at a0 x8_1
                    replace p6 := eq_true p6
                    replace q6 := eq_true q6
                    go_wp2
                    go_ret
                    exact ⟨by first | rfl | (simp; done) | (simp only [← hji9] <;> (first | rfl | simp)) | (simp [*]; done), by repeat (first | exact Drawn0.refl _ | apply Drawn0.step)⟩
                  · rw [if_neg c11] at H
                    exact absurd H (by simp)
                · rw [if_neg c10] at H
                  exact absurd H (by simp)
              · rw [if_neg c8] at H
                have c8b0 : ((wrap64 (x1_1 - 1)) == 0) = false := beq_eq_false_iff_ne.mpr c8
                have c8b1 : ((wrap64 (x1_1 - 1)) != 0) = true := bne_iff_ne.mpr c8
                have H' := Aside0.mk H
                clear H
                have p6 : 0 ≤ (x8_1 : Int) := of_decide_eq_true (by first | (with_reducible assumption) | assumption)
                have q6 : x8_1 < (a0.size : Int) := of_decide_eq_true (by first | (with_reducible assumption) | assumption)
                have hx6 := bt_at a0 x8_1
                replace p6 := eq_true p6
                replace q6 := eq_true q6
                go_wp2
                go_roundg k1
                case measure => have := HK1.out; omega
                case rel => exact ⟨(wrap64 (x1_1 - 1)), (wrap64 (x8_1 + 1)), (by first | rfl | (simp; done) | (simp [*]; done)), (by first | rfl | (simp; done) | (simp [*]; done)), H', ⟨by have := HK1.out; omega⟩, by repeat (first | exact Drawn0.refl _ | apply Drawn0.step)⟩
            · rw [if_neg c7] at H
              have c7b0 : ((bt a0 x8_1) == 59) = false := beq_eq_false_iff_ne.mpr c7
              have c7b1 : ((bt a0 x8_1) != 59) = true := bne_iff_ne.mpr c7
              have H' := Aside0.mk H
              clear H
              have p6 : 0 ≤ (x8_1 : Int) := of_decide_eq_true (by first | (with_reducible assumption) | assumption)
              have q6 : x8_1 < (a0.size : Int) := of_decide_eq_true (by first | (with_reducible assumption) | assumption)
              have hx6 := bt_at a0 x8_1
              replace p6 := eq_true p6
              replace q6 := eq_true q6
              go_wp2
              go_roundg k1
              case measure => have := HK1.out; omega
              case rel => exact ⟨(x1_1), (wrap64 (x8_1 + 1)), (by first | rfl | (simp; done) | (simp [*]; done)), (by first | rfl | (simp; done) | (simp [*]; done)), H', ⟨by have := HK1.out; omega⟩, by repeat (first | exact Drawn0.refl _ | apply Drawn0.step)⟩
          · rw [if_neg c5] at H
            exact absurd H (by simp)
        · rw [if_neg c4] at H
          exact absurd H (by simp)
      · rw [if_neg c3] at H
        have c3b0 : decide (x8_1 < (a0.size : Int)) = false := decide_eq_false c3
        clear c3
        obtain rfl := Option.some.inj H
        go_wp2
        go_ret
        exact ⟨by first | rfl | (simp; done) | (simp [*]; done), by repeat (first | exact Drawn0.refl _ | apply Drawn0.step)⟩
end Go.Proofs.YtjkjnhcnmjknmaaDoor.Y
end
