/- Texts of this claim, joined: XNew XSetH XListen XFeed Y38D Y39D Y40D Y41D Y42D XText XDraw XDigs Y45D Y43D Y44D XNums XLit. Of each, what the claim uses. -/
import Derived.Test.YtkklhlakklcnbaaDoorKap
import Derived.Laws.MakeOwn
import Derived.Deep.MidRow
import Derived.Test.YtkklhlakklcnbaaDoorKac
import Derived.Lib.ItoaNum
import Derived.Great.BuildSlice
section
namespace Go.Proofs.YtkklhlakklcnbaaDoor.X
open Go.RowKit Go.Proofs.YtkklhlakklcnbaaDoorW.PrintWords Go.Proofs.YtkklhlakklcnbaaDoorW.PrintLast Go.Proofs.YtkklhlakklcnbaaDoorW.PrintMore
/-- A parser's block, before it has handlers. -/
def newCells (fs : List Value) (p9 p10 : Value) : Array Value := (fs ++ [p9, p10, .int .i64 0, .int .i64 0, .int .i64 0, .int .u8 0]).toArray
def zeros (n : Nat) : List Int := List.replicate n 0
theorem made_int (k : IntKind) (n : Nat) : madeCells #[.int k 0] n = ints k (zeros n) := by
  apply Array.ext
  · simp [madeCells, ints, zeros]
  · intro i h1 h2
    simp [madeCells, ints, zeros, Nat.mod_one]
theorem infoInt : (Tryd.prog.info? 3).map (fun i => (i.zero, i.size, i.bytes)) = some (some (.int .i64 0), 1, 8) := by kernel_rfl
theorem infoByte : (Tryd.prog.info? 5).map (fun i => (i.zero, i.size, i.bytes)) = some (some (.int .u8 0), 1, 1) := by kernel_rfl
theorem make_ints (n : Nat) (hn : n ≤ 65536) (w : World) : (Instr.makeSlice 64 (.int .i64 (n : Int)) (.int .i64 (n : Int))).run Tryd.prog w = .ok (.slice (some ⟨w.heap.size, 0, none⟩) n n) (w.alloc (.cells (ints .i64 (zeros n)) 3)) := by
  obtain ⟨i0, hi, hzz⟩ := Option.map_eq_some_iff.1 infoInt
  simp only [Prod.mk.injEq] at hzz
  obtain ⟨hz0, hz1, hz2⟩ := hzz
  have := run_make (P := Tryd.prog) w 64 3 i0 (.int .i64 0) (by kernel_rfl) hi hz0 .i64 .i64 (n : Int) (n : Int) (by omega) (by omega) (by rw [hz2]; omega) (by omega)
  rw [hz1] at this
  simp only [Int.toNat_natCast, Nat.mul_one] at this
  rw [this, show Value.cells (.int .i64 0) = #[.int .i64 0] from rfl, made_int]
theorem make_bytes (n : Nat) (hn : n ≤ 65536) (w : World) : (Instr.makeSlice 28 (.int .i64 (n : Int)) (.int .i64 (n : Int))).run Tryd.prog w = .ok (.slice (some ⟨w.heap.size, 0, none⟩) n n) (w.alloc (.cells (ints .u8 (zeros n)) 5)) := by
  obtain ⟨i0, hi, hzz⟩ := Option.map_eq_some_iff.1 infoByte
  simp only [Prod.mk.injEq] at hzz
  obtain ⟨hz0, hz1, hz2⟩ := hzz
  have := run_make (P := Tryd.prog) w 28 5 i0 (.int .u8 0) (by kernel_rfl) hi hz0 .i64 .i64 (n : Int) (n : Int) (by omega) (by omega) (by rw [hz2]; omega) (by omega)
  rw [hz1] at this
  simp only [Int.toNat_natCast, Nat.mul_one] at this
  rw [this, show Value.cells (.int .u8 0) = #[.int .u8 0] from rfl, made_int]
theorem nine (fs : List Value) (hf : fs.length = 9) (p9 p10 : Value) : (newCells fs p9 p10)[9]? = some p9 ∧ (newCells fs p9 p10)[10]? = some p10 ∧ (∀ x, (newCells fs p9 p10).setIfInBounds 9 x = newCells fs x p10) ∧ (∀ x, (newCells fs p9 p10).setIfInBounds 10 x = newCells fs p9 x) := by
  match fs, hf with
  | [_, _, _, _, _, _, _, _, _], _ => exact ⟨rfl, rfl, fun _ => rfl, fun _ => rfl⟩
/-- What setting a size leaves. -/
structure Sized (w w' : World) (g q : Nat) (cs ds : Array Value) (t : Nat) : Prop where
  new : w.heap.size ≤ q
  blk : w'.heap[g]? = some (.cells cs 66 (0, 0))
  row : w'.heap[q]? = some (.cells ds t (0, 0))
  size : w.heap.size ≤ w'.heap.size
  keep : ∀ i, i < w.heap.size → i ≠ g → w'.heap[i]? = w.heap[i]?
  below : ∀ B, B ≤ g → B ≤ w.heap.size → Below B w w'
theorem sized_of {w : World} {g : Nat} {cs cs' ds : Array Value} {t j : Nat} {v : Value} (h : w.heap[g]? = some (.cells cs 66 (0, 0))) (hc : cs.setIfInBounds j v = cs') : Sized w ((w.alloc (.cells ds t)).setCell ⟨g, j, none⟩ v) g w.heap.size cs' ds t := by
  have hlt := blk_lt h
  have h1 := blk_alloc h (.cells ds t)
  refine ⟨Nat.le_refl _, ?_, ?_, ?_, fun i hi hne => ?_, fun B hB hBw => ?_⟩
  · rw [← hc]; exact blk_set h1 j v
  · exact blk_far (blk_new w _) (p := ⟨g, j, none⟩) (by simp only; omega) v
  · exact (((below_alloc (Below.refl w.heap.size w) (.cells ds t)).mono (Nat.zero_le _)).setCell (p := ⟨g, j, none⟩) (Nat.zero_le _) v).size
  · exact (Below.heap_setCell _ ⟨g, j, none⟩ v i hne).trans (Below.heap_alloc w _ i hi)
  · exact (below_alloc (Below.refl _ _) _).mono hBw |>.setCell hB v
set_option maxRecDepth 200000 in
theorem setParams_calls (n : Nat) (hn : n ≤ 65536) (w : World) (g : Nat) (fs : List Value) (hf : fs.length = 9) (p9 p10 : Value) (h : w.heap[g]? = some (.cells (newCells fs p9 p10) 66 (0, 0))) :
    Calls Tryd.prog 53 #[.pointer (some ⟨g, 0, none⟩), .int .i64 (n : Int)] w fun e w' => e = .returned (.tuple #[]) ∧ ∃ q, Sized w w' g q (newCells fs (.slice (some ⟨q, 0, none⟩) n n) p10) (ints .i64 (zeros n)) 3 := by
  have f9 := blk_frozen (blk_alloc h (.cells (ints .i64 (zeros n)) 3)) 9
  have hs := sized_of (ds := ints .i64 (zeros n)) (t := 3) h ((nine fs hf p9 p10).2.2.1 (.slice (some ⟨w.heap.size, 0, none⟩) n n))
  have c9 : (w.alloc (.cells (ints .i64 (zeros n)) 3)).cell? ⟨g, 9, none⟩ = some p9 := by
    rw [blk_cell (blk_alloc h _)]
    exact (nine fs hf p9 p10).1
  have mk := make_ints n hn w
  have HS := Lib.hid hs
  clear hs h
  go_enter Tryd.func53, Tryd.ntmps53
  go_wp2_with fail
  go_end0
  exact ⟨rfl, _, HS.out⟩
set_option maxRecDepth 200000 in
theorem setData_calls (n : Nat) (hn0 : 0 < n) (hn : n ≤ 65536) (w : World) (g : Nat) (fs : List Value) (hf : fs.length = 9) (p9 p10 : Value) (h : w.heap[g]? = some (.cells (newCells fs p9 p10) 66 (0, 0))) :
    Calls Tryd.prog 54 #[.pointer (some ⟨g, 0, none⟩), .int .i64 (n : Int)] w fun e w' => e = .returned (.tuple #[]) ∧ ∃ q, Sized w w' g q (newCells fs p9 (.slice (some ⟨q, 0, none⟩) n n)) (ints .u8 (zeros n)) 5 := by
  have f9 := blk_frozen (blk_alloc h (.cells (ints .u8 (zeros n)) 5)) 10
  have hs := sized_of (ds := ints .u8 (zeros n)) (t := 5) h ((nine fs hf p9 p10).2.2.2 (.slice (some ⟨w.heap.size, 0, none⟩) n n))
  have c9 : (w.alloc (.cells (ints .u8 (zeros n)) 5)).cell? ⟨g, 10, none⟩ = some p10 := by
    rw [blk_cell (blk_alloc h _)]
    exact (nine fs hf p9 p10).2.1
  have mk := make_bytes n hn w
  have e0 : decide ((n : Int) ≤ 0) = false := decide_eq_false (by omega)
  have HS := Lib.hid hs
  have e1 : n ≠ 0 := by omega
  have e2 : ¬ ((n : Int) ≤ 0) := by omega
  clear hs h
  go_enter Tryd.func54, Tryd.ntmps54
  go_wp2_with fail
  go_end0
  exact ⟨rfl, _, HS.out⟩
def nofs : List Value := [.nilFunc, .nilFunc, .nilFunc, .nilFunc, .nilFunc, .nilFunc, .nilFunc, .nilFunc, .nilFunc]
/-- A parser with its two rows, in a world that keeps what was there. -/
structure Made (w w' : World) (fs : List Value) (g q d n m : Nat) : Prop where
  ng : w.heap.size ≤ g
  nq : w.heap.size ≤ q
  nd : w.heap.size ≤ d
  blk : w'.heap[g]? = some (.cells (newCells fs (.slice (some ⟨q, 0, none⟩) n n) (.slice (some ⟨d, 0, none⟩) m m)) 66 (0, 0))
  row : w'.heap[q]? = some (.cells (ints .i64 (zeros n)) 3 (0, 0))
  dat : w'.heap[d]? = some (.cells (ints .u8 (zeros m)) 5 (0, 0))
  below : Below w.heap.size w w'
set_option maxRecDepth 200000 in
theorem newParser0_calls (w : World) :
    Calls Tryd.prog 52 #[] w fun e w' => ∃ g p9 p10, e = .returned (.pointer (some ⟨g, 0, none⟩)) ∧ w.heap.size ≤ g ∧ w'.heap[g]? = some (.cells (newCells nofs p9 p10) 66 (0, 0)) ∧ Below w.heap.size w w' := by
  have h0 : (w.alloc (.cells (newCells nofs (.slice none 0 0) (.slice none 0 0)) 66)).heap[w.heap.size]? = some (.cells (newCells nofs (.slice none 0 0) (.slice none 0 0)) 66 (0, 0)) := blk_new w _
  have H0 := Lib.hid h0
  clear h0
  go_enter Tryd.func52, Tryd.ntmps52
  go_wp2_with (first
    | (
      go_at_call 53
      refine (setParams_calls 32 (by omega) _ w.heap.size nofs rfl _ _ H0.out).mono ?_
      rintro e w1 ⟨rfl, q, hs⟩
      have H1 := Lib.hid hs
      clear hs)
    | (
      go_at_call 54
      refine (setData_calls 65536 (by omega) (by omega) _ w.heap.size nofs rfl _ _ H1.out.blk).mono ?_
      rintro e w2 ⟨rfl, d, hs⟩
      have H2 := Lib.hid hs
      clear hs))
  go_ret
  refine ⟨_, _, _, rfl, Nat.le_refl _, H2.out.blk, ?_⟩
  have ha := (below_alloc (Below.refl w.heap.size w) (.cells (newCells nofs (.slice none 0 0) (.slice none 0 0)) 66))
  have h1 := H1.out.below w.heap.size (Nat.le_refl _) ha.size
  have h2 := H2.out.below w.heap.size (Nat.le_refl _) (Nat.le_trans ha.size h1.size)
  exact ha.trans (h1.trans h2)
set_option maxRecDepth 200000 in
theorem newParser_calls (w : World) :
    Calls Tryd.prog 44 #[.int .i64 32, .int .i64 4096] w fun e w' => ∃ g q d, e = .returned (.pointer (some ⟨g, 0, none⟩)) ∧ Made w w' nofs g q d 32 4096 := by
  go_enter Tryd.func44, Tryd.ntmps44
  go_wp2_with (first
    | (
      go_at_call 52
      refine (newParser0_calls _).mono ?_
      rintro e w0 ⟨g, p9, p10, rfl, hg, h0, hb⟩
      have H0 := Lib.hid h0
      have HG := Lib.hid hg
      have HB := Lib.hid hb
      clear h0 hg hb)
    | (
      go_at_call 53
      refine (setParams_calls 32 (by omega) _ g nofs rfl _ _ H0.out).mono ?_
      rintro e w1 ⟨rfl, q, hs⟩
      have H1 := Lib.hid hs
      clear hs)
    | (
      go_at_call 54
      refine (setData_calls 4096 (by omega) (by omega) _ g nofs rfl _ _ H1.out.blk).mono ?_
      rintro e w2 ⟨rfl, d, hs⟩
      have H2 := Lib.hid hs
      clear hs))
  go_ret
  have s0 := HB.out.size
  have s1 := H1.out.size
  have n1 := H1.out.new
  have n2 := H2.out.new
  have l1 := blk_lt H1.out.row
  have hne : q ≠ g := by have := blk_lt H0.out; omega
  exact ⟨g, q, d, rfl, HG.out, by omega, by omega, H2.out.blk, (H2.out.keep q l1 hne).trans H1.out.row, H2.out.row, HB.out.trans ((H1.out.below _ HG.out s0).trans (H2.out.below _ HG.out (by omega)))⟩
end Go.Proofs.YtkklhlakklcnbaaDoor.X
end
section
namespace Go.Proofs.YtkklhlakklcnbaaDoor.X
open Go.RowKit Go.Proofs.YtkklhlakklcnbaaDoorW.PrintWords Go.Proofs.YtkklhlakklcnbaaDoorW.PrintLast Go.Proofs.YtkklhlakklcnbaaDoorW.PrintMore
/-- The nine handlers, which hold the box b. -/
def hfs (b : Nat) : List Value := [.func (.func 56) #[] #[.pointer (some ⟨b, 0, none⟩)], .func (.func 57) #[] #[.pointer (some ⟨b, 0, none⟩)], .func (.func 58) #[] #[.pointer (some ⟨b, 0, none⟩)], .func (.func 60) #[] #[.pointer (some ⟨b, 0, none⟩)], .func (.func 61) #[] #[.pointer (some ⟨b, 0, none⟩)], .func (.func 62) #[] #[.pointer (some ⟨b, 0, none⟩)], .func (.func 63) #[] #[.pointer (some ⟨b, 0, none⟩)], .func (.func 64) #[] #[.pointer (some ⟨b, 0, none⟩)], .func (.func 65) #[] #[.pointer (some ⟨b, 0, none⟩)]]
/-- The parser's cells: nine handlers, then the six others. -/
def pblock (fs tl : List Value) : Array Value := (fs ++ tl).toArray
/-- What setting the handlers leaves. -/
structure Handed (w w' : World) (g b : Nat) (tl : List Value) : Prop where
  blk : w'.heap[g]? = some (.cells (pblock (hfs b) tl) 66 (0, 0))
  size : w.heap.size ≤ w'.heap.size
  keep : ∀ i, i < w.heap.size → i ≠ g → w'.heap[i]? = w.heap[i]?
  below : ∀ B, B ≤ g → B ≤ w.heap.size → Below B w w'
theorem handed_of {b : Nat} {w : World} {g : Nat} {fs : List Value} (hf : fs.length = 9) {tl : List Value} (hl : tl.length = 6) (h : w.heap[g]? = some (.cells (pblock fs tl) 66 (0, 0))) (o : Obj) : Handed w ((w.alloc o).setCells g 0 (hfs b)) g b tl := by
  have h1 := blk_alloc h o
  have ha := below_alloc (Below.refl w.heap.size w) o
  obtain ⟨s1, s2, s3, s4⟩ := setCells_same g (hfs b) 0 (w.alloc o)
  have hsz : w.heap.size ≤ ((w.alloc o).setCells g 0 (hfs b)).heap.size := by rw [s4]; exact ha.size
  have hkeep : ∀ i, i < w.heap.size → i ≠ g → ((w.alloc o).setCells g 0 (hfs b)).heap[i]? = w.heap[i]? := fun i hi hne => (setCells_far (hfs b) 0 i hne).trans (ha.block i hi)
  refine ⟨?_, hsz, hkeep, fun B hB hBw => ⟨s1.trans ha.os, s2.trans ha.tape, s3.trans ha.output, hsz, fun i hi => hkeep i (by omega) (by omega)⟩⟩
  match fs, hf, tl, hl with
  | [_, _, _, _, _, _, _, _, _], _, [t0, t1, t2, t3, t4, t5], _ =>
    obtain ⟨cur', c1, c2, c3⟩ := setCells_row (hfs b) 0 (w.alloc o) _ h1 (by simp [hfs, pblock])
    rw [c1]
    have : cur' = pblock (hfs b) [t0, t1, t2, t3, t4, t5] := by
      apply Array.toList_inj.1
      rw [c3]
      rfl
    rw [this]
theorem infoHandler : (Tryd.prog.info? 63).map (·.size) = some 9 := by kernel_rfl
theorem one_hfs (b : Nat) : (hfs b).toArray.all (·.oneCell') = true := by simp [hfs, Value.oneCell']
theorem there_of {w : World} {g : Nat} {fs : List Value} (hf : fs.length = 9) {tl : List Value} (hl : tl.length = 6) (h : w.heap[g]? = some (.cells (pblock fs tl) 66 (0, 0))) (o : Obj) : (w.alloc o).there g 0 9 := by
  intro j hj
  have h1 := blk_alloc h o
  rw [Nat.zero_add, blk_cell h1 j]
  refine ⟨?_, blk_frozen h1 j⟩
  match fs, hf, tl, hl with
  | [_, _, _, _, _, _, _, _, _], _, [_, _, _, _, _, _], _ => simp [pblock]; omega
set_option maxRecDepth 200000 in
set_option maxHeartbeats 4000000 in
theorem setHandler_calls (b : Nat) (w : World) (g : Nat) (fs : List Value) (hf : fs.length = 9) (tl : List Value) (hl : tl.length = 6) (h : w.heap[g]? = some (.cells (pblock fs tl) 66 (0, 0))) :
    Calls Tryd.prog 55 #[.pointer (some ⟨g, 0, none⟩), .agg #[.func (.func 56) #[] #[.pointer (some ⟨b, 0, none⟩)], .func (.func 57) #[] #[.pointer (some ⟨b, 0, none⟩)], .func (.func 58) #[] #[.pointer (some ⟨b, 0, none⟩)], .func (.func 60) #[] #[.pointer (some ⟨b, 0, none⟩)], .func (.func 61) #[] #[.pointer (some ⟨b, 0, none⟩)], .func (.func 62) #[] #[.pointer (some ⟨b, 0, none⟩)], .func (.func 63) #[] #[.pointer (some ⟨b, 0, none⟩)], .func (.func 64) #[] #[.pointer (some ⟨b, 0, none⟩)], .func (.func 65) #[] #[.pointer (some ⟨b, 0, none⟩)]]] w fun e w' => e = .returned (.tuple #[]) ∧ Handed w w' g b tl := by
  have HH := Lib.hid h
  clear h
  go_enter Tryd.func55, Tryd.ntmps55
  go_wp2_with (
    (with_reducible refine gate_store (t := 63) (p := 7) (v := .tmp 5) rfl ?_)
    refine wpList_store_mid rfl 63 (.tmp 7) (.tmp 5) rfl g 0 #[.func (.func 56) #[] #[.pointer (some ⟨b, 0, none⟩)], .func (.func 57) #[] #[.pointer (some ⟨b, 0, none⟩)], .func (.func 58) #[] #[.pointer (some ⟨b, 0, none⟩)], .func (.func 60) #[] #[.pointer (some ⟨b, 0, none⟩)], .func (.func 61) #[] #[.pointer (some ⟨b, 0, none⟩)], .func (.func 62) #[] #[.pointer (some ⟨b, 0, none⟩)], .func (.func 63) #[] #[.pointer (some ⟨b, 0, none⟩)], .func (.func 64) #[] #[.pointer (some ⟨b, 0, none⟩)], .func (.func 65) #[] #[.pointer (some ⟨b, 0, none⟩)]] rfl rfl (there_of hf hl HH.out _) infoHandler (one_hfs b) ?_
    have HS := Lib.hid (handed_of (b := b) hf hl HH.out (.cells #[.func (.func 56) #[] #[.pointer (some ⟨b, 0, none⟩)], .func (.func 57) #[] #[.pointer (some ⟨b, 0, none⟩)], .func (.func 58) #[] #[.pointer (some ⟨b, 0, none⟩)], .func (.func 60) #[] #[.pointer (some ⟨b, 0, none⟩)], .func (.func 61) #[] #[.pointer (some ⟨b, 0, none⟩)], .func (.func 62) #[] #[.pointer (some ⟨b, 0, none⟩)], .func (.func 63) #[] #[.pointer (some ⟨b, 0, none⟩)], .func (.func 64) #[] #[.pointer (some ⟨b, 0, none⟩)], .func (.func 65) #[] #[.pointer (some ⟨b, 0, none⟩)]] 63))
    change wpList _ _ _ _ _ ((w.alloc (.cells #[.func (.func 56) #[] #[.pointer (some ⟨b, 0, none⟩)], .func (.func 57) #[] #[.pointer (some ⟨b, 0, none⟩)], .func (.func 58) #[] #[.pointer (some ⟨b, 0, none⟩)], .func (.func 60) #[] #[.pointer (some ⟨b, 0, none⟩)], .func (.func 61) #[] #[.pointer (some ⟨b, 0, none⟩)], .func (.func 62) #[] #[.pointer (some ⟨b, 0, none⟩)], .func (.func 63) #[] #[.pointer (some ⟨b, 0, none⟩)], .func (.func 64) #[] #[.pointer (some ⟨b, 0, none⟩)], .func (.func 65) #[] #[.pointer (some ⟨b, 0, none⟩)]] 63)).setCells g 0 (hfs b))
    generalize (w.alloc (.cells #[.func (.func 56) #[] #[.pointer (some ⟨b, 0, none⟩)], .func (.func 57) #[] #[.pointer (some ⟨b, 0, none⟩)], .func (.func 58) #[] #[.pointer (some ⟨b, 0, none⟩)], .func (.func 60) #[] #[.pointer (some ⟨b, 0, none⟩)], .func (.func 61) #[] #[.pointer (some ⟨b, 0, none⟩)], .func (.func 62) #[] #[.pointer (some ⟨b, 0, none⟩)], .func (.func 63) #[] #[.pointer (some ⟨b, 0, none⟩)], .func (.func 64) #[] #[.pointer (some ⟨b, 0, none⟩)], .func (.func 65) #[] #[.pointer (some ⟨b, 0, none⟩)]] 63)).setCells g 0 (hfs b) = w2 at HS ⊢)
  go_end0
  exact ⟨rfl, HS.out⟩
end Go.Proofs.YtkklhlakklcnbaaDoor.X
end
section
namespace Go.Proofs.YtkklhlakklcnbaaDoor.X
open Go.RowKit Go.Proofs.YtkklhlakklcnbaaDoorW.PrintWords Go.Proofs.YtkklhlakklcnbaaDoorW.PrintLast Go.Proofs.YtkklhlakklcnbaaDoorW.PrintMore
set_option maxRecDepth 200000 in
set_option maxHeartbeats 4000000 in
theorem listen_calls (o : Nat) (w : World) (g : Nat) (fs : List Value) (hf : fs.length = 9) (tl : List Value) (hl : tl.length = 6) (h : w.heap[g]? = some (.cells (pblock fs tl) 66 (0, 0))) :
    Calls Tryd.prog 45 #[.pointer (some ⟨g, 0, none⟩), .pointer (some ⟨o, 0, none⟩)] w fun e w' => e = .returned (.tuple #[]) ∧ ∃ b, w.heap.size ≤ b ∧ Handed w w' g b tl ∧ w'.heap[b]? = some (.cells #[.pointer (some ⟨o, 0, none⟩)] 42 (0, 0)) := by
  have hb := blk_new w (.cells #[.pointer (some ⟨o, 0, none⟩)] 42)
  have h1 := blk_alloc h (.cells #[.pointer (some ⟨o, 0, none⟩)] 42)
  have ha := below_alloc (Below.refl w.heap.size w) (.cells #[.pointer (some ⟨o, 0, none⟩)] 42)
  have hlt := blk_lt h
  have HH := Lib.hid (And.intro hb (And.intro h1 ha))
  clear h hb h1 ha
  go_enter Tryd.func45, Tryd.ntmps45
  go_wp2_with (
    go_at_call 55
    refine (setHandler_calls w.heap.size _ g fs hf tl hl HH.out.2.1).mono ?_
    rintro e w1 ⟨rfl, hs⟩
    have HS := Lib.hid hs
    clear hs)
  go_end0
  obtain ⟨hb, h1, ha⟩ := HH.out
  have hs := HS.out
  refine ⟨rfl, w.heap.size, Nat.le_refl _, ⟨hs.blk, Nat.le_trans ha.size hs.size, fun i hi hne => (hs.keep i (Nat.lt_of_lt_of_le hi ha.size) hne).trans (ha.block i hi), fun B hB hBw => (ha.mono hBw).trans (hs.below B hB (Nat.le_trans hBw ha.size))⟩, ?_⟩
  exact (hs.keep _ (blk_lt hb) (by omega)).trans hb
end Go.Proofs.YtkklhlakklcnbaaDoor.X
end
section
namespace Go.Proofs.YtkklhlakklcnbaaDoor.Y
open Go.RowKit Go.Proofs.YtkklhlakklcnbaaDoorW.PrintWords Go.Proofs.YtkklhlakklcnbaaDoorW.PrintLast Go.Proofs.YtkklhlakklcnbaaDoorW.PrintMore
/-- What Feed tells. -/
def impl_Feed.f (a0 : Int) (a1 : Int) (l2 : List Int) : Option (List S30) :=
  if a0 = 32 ∧ a1 = 4096 ∧ l2.length ≤ 100000000000 ∧ (∀ x ∈ l2, 0 ≤ x) then (X.run .gr (l2.map Int.toNat)).map fun y => y.2.map X.toS else none
end Go.Proofs.YtkklhlakklcnbaaDoor.Y
namespace Go.Proofs.YtkklhlakklcnbaaDoor.X
open Go.RowKit Go.Proofs.YtkklhlakklcnbaaDoorW.PrintWords Go.Proofs.YtkklhlakklcnbaaDoorW.PrintLast Go.Proofs.YtkklhlakklcnbaaDoorW.PrintMore
theorem step_one (s : PS) (b : Nat) {s2 : PS} {e : List Ev} (h : step s b = some (s2, e)) : e.length ≤ 1 := by
  cases s <;> simp only [step] at h <;> (repeat' split at h) <;> first | (simp only [Option.some.injEq, Prod.mk.injEq] at h; obtain ⟨_, rfl⟩ := h; simp; done) | simp at h
/-- Where the loop over the bytes stands: i bytes are read, the events so far are evs, and the rest gives the rest. -/
def FeedAt (w4 wr : World) (L : Loc) (l : List Int) (fin : List Ev) (i : Nat) : Prop :=
  ∃ s r evs e2 s2, Inv w4 wr L r evs ∧ Rel s r ∧ evs.length ≤ i ∧ run s ((l.drop i).map Int.toNat) = some (s2, e2) ∧ evs ++ e2 = fin
theorem feed_step {w4 wr : World} {L : Loc} {l : List Int} {fin : List Ev} {i : Nat} (hi : i < l.length) (hl : l.length ≤ 100000000000) (h0 : 0 ≤ l.getD i 0) (h : FeedAt w4 wr L l fin i) :
    Calls Tryd.prog 47 #[.pointer (some ⟨L.P, 0, none⟩), .int .u8 (l.getD i 0)] wr fun e w' => ∃ v, e = .returned v ∧ FeedAt w4 w' L l fin (i + 1) := by
  obtain ⟨s, r, evs, e2, s2, hI, hR, hn, hrun, hfin⟩ := h
  have hd : l.drop i = l.getD i 0 :: l.drop (i + 1) := by
    rw [List.drop_eq_getElem_cons hi]
    simp [hi]
  rw [hd, List.map_cons, run] at hrun
  cases hs : step s (l.getD i 0).toNat with
  | none => rw [hs] at hrun; simp at hrun
  | some x =>
    obtain ⟨s3, e3⟩ := x
    rw [hs] at hrun
    simp only [Option.bind_some, Option.map_eq_some_iff] at hrun
    obtain ⟨⟨s5, e5⟩, hrun2, he⟩ := hrun
    simp only [Prod.mk.injEq] at he
    have hb := byte_calls hI s hR (by omega) (l.getD i 0).toNat hs
    unfold ByteCalls at hb
    rw [Int.toNat_of_nonneg h0] at hb
    refine hb.mono ?_
    rintro e w' ⟨v, rfl, r2, hI2, hR2⟩
    refine ⟨v, rfl, s3, r2, evs ++ e3, e5, s5, hI2, hR2, ?_, hrun2, ?_⟩
    · have := step_one _ _ hs
      rw [List.length_append]
      omega
    · rw [List.append_assoc, he.2, hfin]
theorem zeros_len (n : Nat) : (zeros n).length = n := by simp [zeros]
theorem feed_begin {w w1 w3 w4 : World} {g q d b : Nat} {l : List Int} {fin : List Ev} {s2 : PS} {Ad : Option Addr} {cd : Nat} (hM : Made w w1 nofs g q d 32 4096)
    (hH : Handed (w1.alloc (.cells #[.slice none 0 0] 26)) w3 g b [.slice (some ⟨q, 0, none⟩) 32 32, .slice (some ⟨d, 0, none⟩) 4096 4096, .int .i64 0, .int .i64 0, .int .i64 0, .int .u8 0])
    (hbox : w3.heap[b]? = some (.cells #[.pointer (some ⟨w1.heap.size, 0, none⟩)] 42 (0, 0))) (hB4 : Below w3.heap.size w3 w4)
    (hD : Kd.R (Kd.int .u8) 5 w4 w3.heap.size (fun _ => True) (.slice Ad l.length cd) l) (hrun : run .gr (l.map Int.toNat) = some (s2, fin)) :
    ∃ L : Loc, L.P = g ∧ L.out = w1.heap.size ∧ L.B = w.heap.size ∧ (l ≠ [] → Ad = some ⟨L.own, 0, none⟩) ∧ FeedAt w4 w4 L l fin 0 := by
  have lg := blk_lt hM.blk
  have lq := blk_lt hM.row
  have ld := blk_lt hM.dat
  have ha := below_alloc (Below.refl w1.heap.size w1) (.cells #[.slice none 0 0] 26)
  have hsz2 := ha.size
  have hnew := blk_new w1 (.cells #[.slice none 0 0] 26)
  have lnew := blk_lt hnew
  have hqg : q ≠ g := blk_ne hM.row hM.blk (by decide)
  have hdg : d ≠ g := blk_ne hM.dat hM.blk (by decide)
  have up : ∀ {i : Nat} {o : Obj}, i ≠ g → (w1.alloc (.cells #[.slice none 0 0] 26)).heap[i]? = some o → w4.heap[i]? = some o := fun {i} {o} hne hi =>
    blk_below ((hH.keep i (blk_lt hi) hne).trans hi) hB4
  have b3 := hH.size
  have b4 := hB4.size
  have hP : w4.heap[g]? = some (.cells (newCells (hfs b) (.slice (some ⟨q, 0, none⟩) 32 32) (.slice (some ⟨d, 0, none⟩) 4096 4096)) 66 (0, 0)) := blk_below hH.blk hB4
  have hQ := up hqg (blk_alloc hM.row (.cells #[.slice none 0 0] 26))
  have hDt := up hdg (blk_alloc hM.dat (.cells #[.slice none 0 0] 26))
  have hX := blk_below hbox hB4
  have hO := up (by omega) hnew
  have ex : ∃ own : Nat, (l ≠ [] → Ad = some ⟨own, 0, none⟩) ∧ own < w4.heap.size ∧ own ≠ g ∧ own ≠ q ∧ own ≠ d ∧ own ≠ w1.heap.size := by
    by_cases hl : l = []
    · exact ⟨b, fun h => absurd hl h, blk_lt hX, blk_ne hX hP (by decide), blk_ne hX hQ (by decide), blk_ne hX hDt (by decide), blk_ne hX hO (by decide)⟩
    · obtain ⟨k, c, e, hk, hk2, _⟩ := Kd.R_form hD (List.length_pos_iff.2 hl)
      injection e with e _ _
      exact ⟨k, fun _ => e, hk2, by omega, by omega, by omega, by omega⟩
  obtain ⟨own, ho, ho1, ho2, ho3, ho4, ho5⟩ := ex
  refine ⟨⟨w.heap.size, w4.heap.size, g, q, d, b, w1.heap.size, own⟩, rfl, rfl, rfl, ho, .gr, ⟨0, 0, 0, 0, zeros 32, zeros 4096⟩, [], fin, s2, ?_, ⟨⟨0, by omega, rfl⟩, rfl⟩, by simp, by simpa using hrun, by simp⟩
  have hb := hM.below.size
  exact ⟨⟨hP, hQ, hDt, hX, zeros_len _, zeros_len _, hM.ng, hM.nq, hM.nd, hb, by simp only; omega, by simp only; omega, by simp only; omega, by simp only; omega, blk_lt hX, by simp only; omega, Nat.le_refl _⟩, ⟨_, hO, Kd.S_nil _ _ _ _ _⟩, Below.refl _ _, fun _ _ _ _ _ _ => rfl, ho1, ho2, ho3, ho4, ho5⟩
theorem feed_end {w4 wr : World} {L : Loc} {l : List Int} {fin : List Ev} {i : Nat} (hi : l.length ≤ i) (h : FeedAt w4 wr L l fin i) :
    ∃ v, wr.cell? ⟨L.out, 0, none⟩ = some v ∧ Kd.S kEv 30 wr L.B (fun _ => True) v (fin.map toS) ∧ Below L.B w4 wr := by
  obtain ⟨s, r, evs, e2, s2, hI, hR, hn, hrun, hfin⟩ := h
  rw [List.drop_of_length_le hi] at hrun
  simp only [List.map_nil, run, Option.some.injEq, Prod.mk.injEq] at hrun
  obtain ⟨_, rfl⟩ := hrun
  rw [List.append_nil] at hfin
  subst hfin
  obtain ⟨v, hv, hS⟩ := hI.evs
  exact ⟨v, blk_cell hv 0, Kd.S_mono (Kd.S_lower hS hI.raw.bL) (fun _ _ => trivial), hI.below⟩
theorem feed_cell {w4 wr : World} {L : Loc} {l : List Int} {fin : List Ev} {i base cd : Nat} (hi : i < l.length) (h : FeedAt w4 wr L l fin i) (hD : Kd.R (Kd.int .u8) 5 w4 base (fun _ => True) (.slice (some ⟨L.own, 0, none⟩) l.length cd) l) :
    wr.cell? ⟨L.own, i, none⟩ = some (.int .u8 (l.getD i 0)) := by
  obtain ⟨s, r, evs, e2, s2, hI, _⟩ := h
  obtain ⟨q1, _⟩ := Kd.R_celln (0 : Int) hD (i : Int) (by omega) (by omega)
  rw [Int.toNat_natCast] at q1
  rw [World.cell?_of_block (w := w4) (by exact hI.own _ hI.olt hI.oP hI.opp hI.opd hI.oout), q1]
  simp [rdOf, hi]
end Go.Proofs.YtkklhlakklcnbaaDoor.X
namespace Go.Proofs.YtkklhlakklcnbaaDoor.Y
open Go.RowKit Go.Proofs.YtkklhlakklcnbaaDoorW.PrintWords Go.Proofs.YtkklhlakklcnbaaDoorW.PrintLast Go.Proofs.YtkklhlakklcnbaaDoorW.PrintMore
set_option maxRecDepth 200000 in
set_option maxHeartbeats 4000000 in
theorem impl_Feed.calls (a0 : Int) (a1 : Int) (A2 : Option Addr) (c2 : Nat) (l2 : List Int) (r : List S30) (w : World) (hr2 : Kd.C (Kd.int .u8) w A2 l2.length l2) (hc2 : l2.length ≤ c2) (h : impl_Feed.f a0 a1 l2 = some r) :
    Calls Tryd.prog 6 #[.int .i64 a0, .int .i64 a1, .slice A2 l2.length c2] w fun e w' => ∃ v0_ : Value, e = .returned (v0_) ∧ Kd.S k30 30 w' w.heap.size (fun _ => True) v0_ r ∧ Below w.heap.size w w' := by
  unfold impl_Feed.f at h
  split at h
  · rename_i hc
    obtain ⟨rfl, rfl, hl, hpos⟩ := hc
    obtain ⟨⟨s2, fin⟩, hrun, rfl⟩ := Option.map_eq_some_iff.1 h
    have HC := Lib.hid (And.intro hr2 (And.intro hpos hrun))
    clear h hr2 hpos hrun
    go_enter Tryd.func6, Tryd.ntmps6
    go_wp2_with (first
      | (
        go_at_call 44
        refine (X.newParser_calls _).mono ?_
        rintro e w1 ⟨g, q, d, rfl, hM⟩
        have HM := Lib.hid hM
        clear hM)
      | (
        go_at_call 45
        refine (X.listen_calls w1.heap.size _ g X.nofs rfl _ rfl (blk_alloc HM.out.blk _)).mono ?_
        rintro e w3 ⟨rfl, b, hbn, hH, hbox⟩
        have HH := Lib.hid hH
        have HX := Lib.hid hbox
        clear hbn hH hbox)
      | (
        go_at_call 46
        have hB3 := HM.out.below.trans (((below_alloc (Below.refl w1.heap.size w1) _).mono HM.out.below.size).trans (HH.out.below w.heap.size HM.out.ng (Nat.le_trans HM.out.below.size (below_alloc (Below.refl w1.heap.size w1) _).size)))
        refine (X.own_calls _ _ _ _ (Kd.C_below HC.out.1 hB3) hc2 (by omega)).mono ?_
        rintro e w4 ⟨dv, rfl, hD, hB4⟩
        obtain ⟨Ad, cd, rfl⟩ := Kd.R_slice hD
        have HB := Lib.hid (And.intro hB3 (And.intro hB4 hD))
        clear hB3 hD hB4))
    obtain ⟨L, rfl, ho, hLB, hA, hF⟩ := X.feed_begin HM.out HH.out HX.out HB.out.2.1 HB.out.2.2 HC.out.2.2
    have HA := Lib.hid hA
    have HO := Lib.hid ho
    have HLB := Lib.hid hLB
    clear hA ho hLB
    go_loopg [29] l2.length (fun kq v29 w' => ∃ i : Nat, v29 = .int .i64 (i : Int) ∧ i + kq = l2.length ∧ X.FeedAt w4 w' L l2 fin i)
    case atStart => exact ⟨0, rfl, by omega, hF⟩
    case round =>
      clear hF
      obtain ⟨i, rfl, hk, hF⟩ := hrel
      have e20 : IntKind.i64.wrap ((i : Int) + 1) = ((i + 1 : Nat) : Int) := by rw [IntKind.wrap_i64]; omega
      by_cases hi : i < l2.length
      · have c1 : decide ((i : Int) < (l2.length : Int)) = true := decide_eq_true (by omega)
        have c2 : (0 : Int) ≤ (i : Int) := by omega
        have c4 : (i : Int) < (l2.length : Int) := by omega
        have hne : l2 ≠ [] := fun e => by rw [e] at hi; simp at hi
        obtain rfl := HA.out hne
        have hcell := X.feed_cell hi hF HB.out.2.2
        have h0 : 0 ≤ l2.getD i 0 := by
          have := HC.out.2.1 (l2[i]) (List.getElem_mem hi)
          simpa [hi] using this
        have HS := Lib.hid (X.feed_step hi hl h0 hF)
        generalize l2.getD i 0 = x at hcell HS h0
        clear hF hne h0
        go_wp2_with (
          go_at_call 47
          refine HS.out.mono ?_
          rintro e w5 ⟨v5, rfl, hF2⟩
          have HF := Lib.hid hF2
          clear hF2)
        go_roundg (l2.length - (i + 1))
        case measure => omega
        case rel => exact ⟨i + 1, by simp, by omega, HF.out⟩
      · have c1 : decide ((i : Int) < (l2.length : Int)) = false := decide_eq_false (by omega)
        obtain ⟨v, hv, hS, hB⟩ := X.feed_end (by omega) hF
        rw [HO.out] at hv
        rw [HLB.out] at hS hB
        have HE := Lib.hid (And.intro hS hB)
        clear hS hB hF
        go_wp2_with fail
        go_ret
        exact ⟨_, rfl, HE.out.1, HB.out.1.trans ((HB.out.2.1.mono HB.out.1.size).trans HE.out.2)⟩
  · exact absurd h (by simp)
end Go.Proofs.YtkklhlakklcnbaaDoor.Y
end
section
namespace Go.Proofs.YtkklhlakklcnbaaDoor.Y
open Go.RowKit Go.Proofs.YtkklhlakklcnbaaDoorW.PrintWords Go.Proofs.YtkklhlakklcnbaaDoorW.PrintLast Go.Proofs.YtkklhlakklcnbaaDoorW.PrintMore
attribute [local go_sem] max2_int min2_int max_two min_two max_three min_three max_four min_four   -- for this text's walks alone
set_option linter.unusedVariables false
set_option linter.unusedSimpArgs false
/-! ### laws_drawAwake: function 4 -/
def laws_drawAwake.f  : Option (Bool) := (impl_MakeNumber.f 0 3).bind fun t113 => ((gosem_conv.f t113).bind fun t114 => ((impl_Feed.f 32 4096 t114).bind fun t117 => (if (t117.length : Int) = 1 then (if 0 < (t117.length : Int) then (if ((rd_T30 t117 0).f0) = 2 then (some (((rd_T30 t117 0).f3) == 65)) else (some false)) else (none)) else (some false))))
end Go.Proofs.YtkklhlakklcnbaaDoor.Y
end
section
namespace Go.Proofs.YtkklhlakklcnbaaDoor.Y
open Go.RowKit Go.Proofs.YtkklhlakklcnbaaDoorW.PrintWords Go.Proofs.YtkklhlakklcnbaaDoorW.PrintLast Go.Proofs.YtkklhlakklcnbaaDoorW.PrintMore
attribute [local go_sem] max2_int min2_int max_two min_two max_three min_three max_four min_four   -- for this text's walks alone
set_option linter.unusedVariables false
set_option linter.unusedSimpArgs false
/-! ### spec_Value: function 76 -/
def spec_Value.f (a0 : Int) : Option (Int) := some (Go.bits .and .i64 a0 2147483647)
end Go.Proofs.YtkklhlakklcnbaaDoor.Y
end
section
namespace Go.Proofs.YtkklhlakklcnbaaDoor.Y
open Go.RowKit Go.Proofs.YtkklhlakklcnbaaDoorW.PrintWords Go.Proofs.YtkklhlakklcnbaaDoorW.PrintLast Go.Proofs.YtkklhlakklcnbaaDoorW.PrintMore
attribute [local go_sem] max2_int min2_int max_two min_two max_three min_three max_four min_four   -- for this text's walks alone
set_option linter.unusedVariables false
set_option linter.unusedSimpArgs false
/-! ### spec_Or: function 68 -/
def spec_Or.f (a0 : Int) (a1 : Int) : Option (Int) := (spec_Value.f a0).bind fun t122 => (if t122 = 2147483647 then (some a1) else ((spec_Value.f a0).bind fun t123 => (some t123)))
end Go.Proofs.YtkklhlakklcnbaaDoor.Y
end
section
namespace Go.Proofs.YtkklhlakklcnbaaDoor.Y
open Go.RowKit Go.Proofs.YtkklhlakklcnbaaDoorW.PrintWords Go.Proofs.YtkklhlakklcnbaaDoorW.PrintLast Go.Proofs.YtkklhlakklcnbaaDoorW.PrintMore
attribute [local go_sem] max2_int min2_int max_two min_two max_three min_three max_four min_four   -- for this text's walks alone
set_option linter.unusedVariables false
set_option linter.unusedSimpArgs false
/-! ### spec_DrawParam: function 48 -/
def spec_DrawParam.f (l0 : List Int) (a1 : Int) (a2 : Int) : Option (Int) := if a1 ≥ (l0.length : Int) then (some a2) else (if 0 ≤ a1 then (if a1 < (l0.length : Int) then ((spec_Or.f (rd l0 a1) a2).bind fun t125 => (some t125)) else (none)) else (none))
end Go.Proofs.YtkklhlakklcnbaaDoor.Y
end
section
namespace Go.Proofs.YtkklhlakklcnbaaDoor.Y
open Go.RowKit Go.Proofs.YtkklhlakklcnbaaDoorW.PrintWords Go.Proofs.YtkklhlakklcnbaaDoorW.PrintLast Go.Proofs.YtkklhlakklcnbaaDoorW.PrintMore
attribute [local go_sem] max2_int min2_int max_two min_two max_three min_three max_four min_four   -- for this text's walks alone
set_option linter.unusedVariables false
set_option linter.unusedSimpArgs false
/-! ### spec_DrawNumbers: function 7 -/
mutual
def spec_DrawNumbers.j0 : Nat → List (S33) → Bool → Option (Int × List Int × Bool)
  | 0, _, _ => none
  | k + 1, x0, x16 => if x16 = true then (some (0, ([] : List Int), false)) else (if 0 < (x0.length : Int) then (spec_DrawNumbers.l0 k x0 ([] : List Int) (((rd_T33 x0 0).f4).length : Int) 0) else (none))
def spec_DrawNumbers.l0 : Nat → List (S33) → List Int → Int → Int → Option (Int × List Int × Bool)
  | 0, _, _, _, _ => none
  | k + 1, x0, x5, x21, x22 => if x22 < x21 then (if 0 < (x0.length : Int) then ((spec_DrawParam.f ((rd_T33 x0 0).f4) x22 (-1)).bind fun t129 => (if x5.length < 17592186044416 then (spec_DrawNumbers.l0 k x0 (x5 ++ [t129]) x21 (wrap64 (x22 + 1))) else (none))) else (none)) else (if 0 < (x0.length : Int) then (some ((rd_T33 x0 0).f3, x5, true)) else (none))
end
def spec_DrawNumbers.f (k : Nat) (l0 : List (S33)) : Option (Int × List Int × Bool) := if (l0.length : Int) = 1 then (if 0 < (l0.length : Int) then (spec_DrawNumbers.j0 k l0 (((rd_T33 l0 0).f0) != 2)) else (none)) else (spec_DrawNumbers.j0 k l0 true)
theorem spec_DrawNumbers.mono_l : ∀ k, (∀ y0 y1, LeO (spec_DrawNumbers.j0 k y0 y1) (spec_DrawNumbers.j0 (k + 1) y0 y1)) ∧ (∀ y0 y1 y2 y3, LeO (spec_DrawNumbers.l0 k y0 y1 y2 y3) (spec_DrawNumbers.l0 (k + 1) y0 y1 y2 y3))
  | 0 => ⟨fun _ _ r h => by simp [spec_DrawNumbers.j0] at h, fun _ _ _ _ r h => by simp [spec_DrawNumbers.l0] at h⟩
  | k + 1 => by
    obtain ⟨ih0, ih1⟩ := spec_DrawNumbers.mono_l k
    refine ⟨?_, ?_⟩
    · intro y0 y1
      unfold spec_DrawNumbers.j0
      repeat' first
      | (with_reducible exact ih0 _ _)
      | (with_reducible exact ih1 _ _ _ _)
      | (with_reducible exact LeO.refl _)
      | (with_reducible exact LeO.none _)
      | (with_reducible refine LeO.ite ?_ ?_)
      | (with_reducible refine LeO.bind ?_ (fun _ => ?_))
      | exact ih0 _ _
      | exact ih1 _ _ _ _
      | exact LeO.none _
      | refine LeO.ite ?_ ?_
      | refine LeO.bind ?_ (fun _ => ?_)
    · intro y0 y1 y2 y3
      unfold spec_DrawNumbers.l0
      repeat' first
      | (with_reducible exact ih0 _ _)
      | (with_reducible exact ih1 _ _ _ _)
      | (with_reducible exact LeO.refl _)
      | (with_reducible exact LeO.none _)
      | (with_reducible refine LeO.ite ?_ ?_)
      | (with_reducible refine LeO.bind ?_ (fun _ => ?_))
      | exact ih0 _ _
      | exact ih1 _ _ _ _
      | exact LeO.none _
      | refine LeO.ite ?_ ?_
      | refine LeO.bind ?_ (fun _ => ?_)
theorem spec_DrawNumbers.mono : ∀ a0 k, LeO (spec_DrawNumbers.f k a0) (spec_DrawNumbers.f (k + 1) a0) := by
  intro a0 k
  obtain ⟨ih0, ih1⟩ := spec_DrawNumbers.mono_l k
  unfold spec_DrawNumbers.f
  repeat' first
      | (with_reducible exact ih0 _ _)
      | (with_reducible exact ih1 _ _ _ _)
      | (with_reducible exact LeO.refl _)
      | (with_reducible exact LeO.none _)
      | (with_reducible refine LeO.ite ?_ ?_)
      | (with_reducible refine LeO.bind ?_ (fun _ => ?_))
      | exact ih0 _ _
      | exact ih1 _ _ _ _
      | exact LeO.none _
      | refine LeO.ite ?_ ?_
      | refine LeO.bind ?_ (fun _ => ?_)
end Go.Proofs.YtkklhlakklcnbaaDoor.Y
end
section
namespace Go.Proofs.YtkklhlakklcnbaaDoor.X
open Go.RowKit Go.Proofs.YtkklhlakklcnbaaDoorW.PrintWords
set_option linter.unusedSimpArgs false
/-- A text's bytes, as numbers. -/
def nb (s : ByteArray) : List Nat := s.data.toList.map UInt8.toNat
theorem nb_bytesOf (s : ByteArray) : (bytesOf s).map Int.toNat = nb s := by simp [bytesOf, nb, Function.comp_def]
theorem nb_append (a b : ByteArray) : nb (a ++ b) = nb a ++ nb b := by
  simp only [nb, ByteArray.data_append, Array.toList_append, List.map_append]
end Go.Proofs.YtkklhlakklcnbaaDoor.X
end
section
namespace Go.Proofs.YtkklhlakklcnbaaDoor.Y
open Go.RowKit Go.Proofs.YtkklhlakklcnbaaDoorW.PrintWords Go.Proofs.YtkklhlakklcnbaaDoorW.PrintLast Go.Proofs.YtkklhlakklcnbaaDoorW.PrintMore
theorem awake : laws_drawAwake.f = some true := by kernel_rfl
theorem wrap64_of (n : Int) (h0 : -9223372036854775808 ≤ n) (h1 : n ≤ 9223372036854775807) : wrap64 n = n := by unfold wrap64; omega
/-- An event, as the specification has it. -/
def cv (e : S30) : S33 := ⟨e.f0, e.f1, e.f2, e.f3, e.f4, e.f5⟩
theorem rdT_at (l : List S30) (i : Nat) (h : i < l.length) : rd_T30 l (i : Int) = l[i] := by
  simp [rd_T30, h]
theorem rdU_at (l : List S33) (i : Nat) (h : i < l.length) : rd_T33 l (i : Int) = l[i] := by
  simp [rd_T33, h]
theorem conv_f (s : ByteArray) (h : s.size ≤ 100000000000) : gosem_conv.f s = some (bytesOf s) := by
  unfold gosem_conv.f
  rw [if_pos (by omega)]
theorem feed_f (s : ByteArray) (h : s.size ≤ 100000000000) {st : X.PS} {evs : List X.Ev} (hr : X.run .gr (X.nb s) = some (st, evs)) : impl_Feed.f 32 4096 (bytesOf s) = some (evs.map X.toS) := by
  have hp : ∀ x ∈ bytesOf s, 0 ≤ x := fun x hx => by
    obtain ⟨b, _, rfl⟩ := List.mem_map.1 hx
    omega
  have hl : (bytesOf s).length ≤ 100000000000 := by rw [bytesOf_length]; exact h
  unfold impl_Feed.f
  rw [if_pos ⟨rfl, rfl, hl, hp⟩, X.nb_bytesOf, hr]
  rfl
end Go.Proofs.YtkklhlakklcnbaaDoor.Y
end
section
namespace Go.Proofs.YtkklhlakklcnbaaDoor.X
open Go.RowKit Go.Proofs.YtkklhlakklcnbaaDoorW.PrintWords
end Go.Proofs.YtkklhlakklcnbaaDoor.X
end
section
namespace Go.Proofs.YtkklhlakklcnbaaDoor.Y
open Go.RowKit Go.Proofs.YtkklhlakklcnbaaDoorW.PrintWords Go.Proofs.YtkklhlakklcnbaaDoorW.PrintLast Go.Proofs.YtkklhlakklcnbaaDoorW.PrintMore
attribute [local go_sem] max2_int min2_int max_two min_two max_three min_three max_four min_four   -- for this text's walks alone
set_option linter.unusedVariables false
set_option linter.unusedSimpArgs false
/-! ### spec_SameInts: function 9 -/
def spec_SameInts.l0 : Nat → List Int → List Int → Int → Int → Option (Bool)
  | 0, _, _, _, _ => none
  | k + 1, x0, x1, x12, x13 => if x13 < x12 then (if 0 ≤ x13 then (if x13 < (x0.length : Int) then (if x13 < (x1.length : Int) then (if (rd x0 x13) = (rd x1 x13) then (spec_SameInts.l0 k x0 x1 x12 (wrap64 (x13 + 1))) else (some false)) else (none)) else (none)) else (none)) else (some true)
def spec_SameInts.f (k : Nat) (l0 : List Int) (l1 : List Int) : Option (Bool) := if (l0.length : Int) = (l1.length : Int) then (spec_SameInts.l0 k l0 l1 (l0.length : Int) 0) else (some false)
theorem spec_SameInts.mono_l : ∀ k, (∀ y0 y1 y2 y3, LeO (spec_SameInts.l0 k y0 y1 y2 y3) (spec_SameInts.l0 (k + 1) y0 y1 y2 y3))
  | 0 => fun _ _ _ _ r h => by simp [spec_SameInts.l0] at h
  | k + 1 => by
    have ih0 := spec_SameInts.mono_l k
    · intro y0 y1 y2 y3
      unfold spec_SameInts.l0
      repeat' first
      | (with_reducible exact ih0 _ _ _ _)
      | (with_reducible exact LeO.refl _)
      | (with_reducible exact LeO.none _)
      | (with_reducible refine LeO.ite ?_ ?_)
      | (with_reducible refine LeO.bind ?_ (fun _ => ?_))
      | exact ih0 _ _ _ _
      | exact LeO.none _
      | refine LeO.ite ?_ ?_
      | refine LeO.bind ?_ (fun _ => ?_)
theorem spec_SameInts.mono : ∀ a0 a1 k, LeO (spec_SameInts.f k a0 a1) (spec_SameInts.f (k + 1) a0 a1) := by
  intro a0 a1 k
  have ih0 := spec_SameInts.mono_l k
  unfold spec_SameInts.f
  repeat' first
      | (with_reducible exact ih0 _ _ _ _)
      | (with_reducible exact LeO.refl _)
      | (with_reducible exact LeO.none _)
      | (with_reducible refine LeO.ite ?_ ?_)
      | (with_reducible refine LeO.bind ?_ (fun _ => ?_))
      | exact ih0 _ _ _ _
      | exact LeO.none _
      | refine LeO.ite ?_ ?_
      | refine LeO.bind ?_ (fun _ => ?_)
end Go.Proofs.YtkklhlakklcnbaaDoor.Y
end
section
namespace Go.Proofs.YtkklhlakklcnbaaDoor.Y
open Go.RowKit Go.Proofs.YtkklhlakklcnbaaDoorW.PrintWords Go.Proofs.YtkklhlakklcnbaaDoorW.PrintLast Go.Proofs.YtkklhlakklcnbaaDoorW.PrintMore
attribute [local go_sem] max2_int min2_int max_two min_two max_three min_three max_four min_four   -- for this text's walks alone
set_option linter.unusedVariables false
set_option linter.unusedSimpArgs false
/-! ### xansi_Command: function 49 -/
def xansi_Command.f (a0 : Int) (a1 : Int) (a2 : Int) : Option (Int) := some (Go.bits .or .i64 (Go.bits .or .i64 (wrap64 (a2)) (wrap64 ((wrap64 (a0)) * 256))) (wrap64 ((wrap64 (a1)) * 65536)))
end Go.Proofs.YtkklhlakklcnbaaDoor.Y
end
section
namespace Go.Proofs.YtkklhlakklcnbaaDoor.Y
open Go.RowKit Go.Proofs.YtkklhlakklcnbaaDoorW.PrintWords Go.Proofs.YtkklhlakklcnbaaDoorW.PrintLast Go.Proofs.YtkklhlakklcnbaaDoorW.PrintMore
attribute [local go_sem] max2_int min2_int max_two min_two max_three min_three max_four min_four   -- for this text's walks alone
set_option linter.unusedVariables false
set_option linter.unusedSimpArgs false
/-! ### impl_Pack: function 8 -/
def impl_Pack.f (a0 : Int) (a1 : Int) (a2 : Int) : Option (Int) := (xansi_Command.f a0 a1 a2).bind fun t134 => (some t134)
end Go.Proofs.YtkklhlakklcnbaaDoor.Y
end
section
namespace Go.Proofs.YtkklhlakklcnbaaDoor.Y
open Go.RowKit Go.Proofs.YtkklhlakklcnbaaDoorW.PrintWords Go.Proofs.YtkklhlakklcnbaaDoorW.PrintLast Go.Proofs.YtkklhlakklcnbaaDoorW.PrintMore
theorem bits_low (a : Nat) (h : a < 2147483648) : Go.bits .and .i64 (a : Int) 2147483647 = (a : Int) := by
  have := bits_mask .i64 40 (by decide) (fun n h0 h1 => by rw [IntKind.wrap_i64]; omega) 31 (by decide) (a : Int) (by omega) (by omega)
  rw [show (2147483647 : Int) = 2 ^ 31 - 1 by decide, this]
  omega
theorem value_f (a : Int) (h0 : 0 ≤ a) (h1 : a < 2147483648) : spec_Value.f a = some a := by
  obtain ⟨n, rfl⟩ := Int.eq_ofNat_of_zero_le h0
  unfold spec_Value.f
  rw [bits_low n (by omega)]
theorem or_f (a d : Int) (h0 : 0 ≤ a) (h1 : a < 2147483647) : spec_Or.f a d = some a := by
  unfold spec_Or.f
  rw [value_f a h0 (by omega), Option.bind_some, if_neg (by omega), Option.bind_some]
theorem rd_at (l : List Int) (i : Nat) (h : i < l.length) : rd l (i : Int) = l[i] := by simp [rd, h]
/-- A parameter that is there. -/
theorem param_f (l : List Int) (i : Nat) (d : Int) (hi : i < l.length) (h0 : 0 ≤ l[i]) (h1 : l[i] < 2147483647) : spec_DrawParam.f l (i : Int) d = some l[i] := by
  unfold spec_DrawParam.f
  rw [if_neg (by omega), if_pos (by omega), if_pos (by omega), rd_at l i hi, or_f _ d h0 h1, Option.bind_some]
theorem numbers_l0 (e : S33) (hl : e.f4.length < 1000000) (hv : ∀ p ∈ e.f4, 0 ≤ p ∧ p < 2147483647) :
    ∀ (m i k : Nat), i + m = e.f4.length → m < k → spec_DrawNumbers.l0 k [e] (e.f4.take i) (e.f4.length : Int) (i : Int) = some (e.f3, e.f4, true)
  | 0, i, k + 1, h, hk => by
    have g : rd_T33 [e] 0 = e := rdU_at [e] 0 (by simp)
    rw [spec_DrawNumbers.l0, if_neg (by omega), if_pos (by simp), g, List.take_of_length_le (by omega)]
  | m + 1, i, k + 1, h, hk => by
    have g : rd_T33 [e] 0 = e := rdU_at [e] 0 (by simp)
    have hi : i < e.f4.length := by omega
    obtain ⟨p0, p1⟩ := hv _ (List.getElem_mem hi)
    rw [spec_DrawNumbers.l0, if_pos (by omega), if_pos (by simp), g, param_f _ i _ hi p0 p1, Option.bind_some, if_pos (by rw [List.length_take]; omega), wrap64_of _ (by omega) (by omega)]
    have e3 : e.f4.take i ++ [e.f4[i]] = e.f4.take (i + 1) := (List.take_succ_eq_append_getElem hi).symm
    rw [e3]
    exact numbers_l0 e hl hv m (i + 1) k (by omega) (by omega)
/-- One control sequence: its command, all its parameters. -/
theorem numbers_f (e : S33) (hk2 : e.f0 = 2) (hl : e.f4.length < 1000000) (hv : ∀ p ∈ e.f4, 0 ≤ p ∧ p < 2147483647) (k : Nat) (hk : e.f4.length + 1 < k) :
    spec_DrawNumbers.f k [e] = some (e.f3, e.f4, true) := by
  obtain ⟨k, rfl⟩ : ∃ k', k = k' + 1 := ⟨k - 1, by omega⟩
  have g : rd_T33 [e] 0 = e := rdU_at [e] 0 (by simp)
  unfold spec_DrawNumbers.f
  rw [if_pos (by simp), if_pos (by simp), g, hk2, spec_DrawNumbers.j0, if_neg (by simp), if_pos (by simp), g]
  exact numbers_l0 e hl hv e.f4.length 0 k (by omega) (by omega)
theorem same_l0 (a : List Int) (hl : a.length < 1000000) : ∀ (m i k : Nat), i + m = a.length → m < k → spec_SameInts.l0 k a a (a.length : Int) (i : Int) = some true
  | 0, i, k + 1, h, hk => by rw [spec_SameInts.l0, if_neg (by omega)]
  | m + 1, i, k + 1, h, hk => by
    rw [spec_SameInts.l0, if_pos (by omega), if_pos (by omega), if_pos (by omega), if_pos (by omega), if_pos rfl, wrap64_of _ (by omega) (by omega)]
    exact same_l0 a hl m (i + 1) k (by omega) (by omega)
theorem same_f (a : List Int) (hl : a.length < 1000000) (k : Nat) (hk : a.length < k) : spec_SameInts.f k a a = some true := by
  unfold spec_SameInts.f
  rw [if_pos rfl]
  exact same_l0 a hl a.length 0 k (by omega) hk
end Go.Proofs.YtkklhlakklcnbaaDoor.Y
end
section
namespace Go.Proofs.YtkklhlakklcnbaaDoorW.PrintWords
open Go.RowKit
theorem lit_run {P : Program} {W : World} {ev : Operand → Value} {o : Oper} (t e n s : Nat) (parts : Array (Nat × Operand)) (vs inner : List Value)
    (ho : o.op = .buildSlice t n parts) (hu : P.underlying t = some (.slice e)) (hs : (P.info? e).map (·.size) = some s) (hz : ((P.info? e).bind (·.zero)).map (·.cells.size) = some s)
    (hs0 : 0 < s) (hn : vs.length = n) (hn0 : 0 < n) (hsm : n * s ≤ 16777216)
    (hparts : (parts.map fun (x : Nat × Operand) => (x.1, ev x.2)).toList = (vs.zipIdx 0).map fun x => (x.2, x.1))
    (hv : ∀ v ∈ vs, v.cells.size = s) (hin : (vs.flatMap fun v => v.cells.toList) = inner) :
    (execOp ev o).run P W = .ok (.value (.slice (some ⟨W.heap.size, 0, none⟩) n n)) (W.alloc (.cells inner.toArray e)) := by
  cases hie : P.info? e with
  | none => simp [hie] at hs
  | some ie =>
    simp only [hie, Option.map_some, Option.some.injEq, Option.bind_some] at hs hz
    cases hzz : ie.zero with
    | none => simp [hzz] at hz
    | some z =>
      have h : Instr.fill (fun i => some (i * ie.size, ie.size)) ((Array.range (n * ie.size)).map (z.cells[· % z.cells.size]!)) (parts.map fun (x : Nat × Operand) => (x.1, ev x.2)).toList = some inner.toArray := by
        rw [hparts, hs, ← hin]
        exact Great.fill_whole hs0 vs _ hv (by simp [hn])
      have h0 : 0 < n * s := Nat.mul_pos hn0 hs0
      unfold execOp
      simp only [ho, Sem.run_bind]
      rw [run_buildSlice W t e n _ inner.toArray ie z hu hie hzz (by rw [hs]; omega) (by rw [hs]; omega) h]
      rfl
end Go.Proofs.YtkklhlakklcnbaaDoorW.PrintWords
end
