/- Texts of this claim, joined: XNew XSetH XListen XFeed Y38D Y50D XText XDraw Y2 Y28 Y29 Y33. Of each, what the claim uses. -/
import Derived.Test.YtjkjnhcnmjknmaaDoorKap
import Derived.Laws.MakeOwn
import Derived.Deep.MidRow
import Derived.Test.YtjkjnhcnmjknmaaDoorKad
import Derived.Test.YtjkjnhcnmjknmaaDoorKac
import Derived.Lib.ItoaNum
section
namespace Go.Proofs.YtjkjnhcnmjknmaaDoor.X
open Go.RowKit Go.Proofs.YtjkjnhcnmjknmaaDoorW.PrintWords Go.Proofs.YtjkjnhcnmjknmaaDoorW.PrintLast Go.Proofs.YtjkjnhcnmjknmaaDoorW.PrintMore
/-- A parser's block, before it has handlers. -/
def newCells (fs : List Value) (p9 p10 : Value) : Array Value := (fs ++ [p9, p10, .int .i64 0, .int .i64 0, .int .i64 0, .int .u8 0]).toArray
def zeros (n : Nat) : List Int := List.replicate n 0
theorem made_int (k : IntKind) (n : Nat) : madeCells #[.int k 0] n = ints k (zeros n) := by
  apply Array.ext
  · simp [madeCells, ints, zeros]
  · intro i h1 h2
    simp [madeCells, ints, zeros, Nat.mod_one]
theorem infoInt : (Tryd.prog.info? 3).map (fun i => (i.zero, i.size, i.bytes)) = some (some (.int .i64 0), 1, 8) := by kernel_rfl
theorem infoByte : (Tryd.prog.info? 5).map (fun i => (i.zero, i.size, i.bytes)) = some (some (.int .u8 0), 1, 1) := by kernel_rfl
theorem make_ints (n : Nat) (hn : n ≤ 65536) (w : World) : (Instr.makeSlice 77 (.int .i64 (n : Int)) (.int .i64 (n : Int))).run Tryd.prog w = .ok (.slice (some ⟨w.heap.size, 0, none⟩) n n) (w.alloc (.cells (ints .i64 (zeros n)) 3)) := by
  obtain ⟨i0, hi, hzz⟩ := Option.map_eq_some_iff.1 infoInt
  simp only [Prod.mk.injEq] at hzz
  obtain ⟨hz0, hz1, hz2⟩ := hzz
  have := run_make (P := Tryd.prog) w 77 3 i0 (.int .i64 0) (by kernel_rfl) hi hz0 .i64 .i64 (n : Int) (n : Int) (by omega) (by omega) (by rw [hz2]; omega) (by omega)
  rw [hz1] at this
  simp only [Int.toNat_natCast, Nat.mul_one] at this
  rw [this, show Value.cells (.int .i64 0) = #[.int .i64 0] from rfl, made_int]
theorem make_bytes (n : Nat) (hn : n ≤ 65536) (w : World) : (Instr.makeSlice 28 (.int .i64 (n : Int)) (.int .i64 (n : Int))).run Tryd.prog w = .ok (.slice (some ⟨w.heap.size, 0, none⟩) n n) (w.alloc (.cells (ints .u8 (zeros n)) 5)) := by
  obtain ⟨i0, hi, hzz⟩ := Option.map_eq_some_iff.1 infoByte
  simp only [Prod.mk.injEq] at hzz
  obtain ⟨hz0, hz1, hz2⟩ := hzz
  have := run_make (P := Tryd.prog) w 28 5 i0 (.int .u8 0) (by kernel_rfl) hi hz0 .i64 .i64 (n : Int) (n : Int) (by omega) (by omega) (by rw [hz2]; omega) (by omega)
  rw [hz1] at this
  simp only [Int.toNat_natCast, Nat.mul_one] at this
  rw [this, show Value.cells (.int .u8 0) = #[.int .u8 0] from rfl, made_int]
theorem nine (fs : List Value) (hf : fs.length = 9) (p9 p10 : Value) : (newCells fs p9 p10)[9]? = some p9 ∧ (newCells fs p9 p10)[10]? = some p10 ∧ (∀ x, (newCells fs p9 p10).setIfInBounds 9 x = newCells fs x p10) ∧ (∀ x, (newCells fs p9 p10).setIfInBounds 10 x = newCells fs p9 x) := by
  match fs, hf with
  | [_, _, _, _, _, _, _, _, _], _ => exact ⟨rfl, rfl, fun _ => rfl, fun _ => rfl⟩
/-- What setting a size leaves. -/
structure Sized (w w' : World) (g q : Nat) (cs ds : Array Value) (t : Nat) : Prop where
  new : w.heap.size ≤ q
  blk : w'.heap[g]? = some (.cells cs 79 (0, 0))
  row : w'.heap[q]? = some (.cells ds t (0, 0))
  size : w.heap.size ≤ w'.heap.size
  keep : ∀ i, i < w.heap.size → i ≠ g → w'.heap[i]? = w.heap[i]?
  below : ∀ B, B ≤ g → B ≤ w.heap.size → Below B w w'
theorem sized_of {w : World} {g : Nat} {cs cs' ds : Array Value} {t j : Nat} {v : Value} (h : w.heap[g]? = some (.cells cs 79 (0, 0))) (hc : cs.setIfInBounds j v = cs') : Sized w ((w.alloc (.cells ds t)).setCell ⟨g, j, none⟩ v) g w.heap.size cs' ds t := by
  have hlt := blk_lt h
  have h1 := blk_alloc h (.cells ds t)
  refine ⟨Nat.le_refl _, ?_, ?_, ?_, fun i hi hne => ?_, fun B hB hBw => ?_⟩
  · rw [← hc]; exact blk_set h1 j v
  · exact blk_far (blk_new w _) (p := ⟨g, j, none⟩) (by simp only; omega) v
  · exact (((below_alloc (Below.refl w.heap.size w) (.cells ds t)).mono (Nat.zero_le _)).setCell (p := ⟨g, j, none⟩) (Nat.zero_le _) v).size
  · exact (Below.heap_setCell _ ⟨g, j, none⟩ v i hne).trans (Below.heap_alloc w _ i hi)
  · exact (below_alloc (Below.refl _ _) _).mono hBw |>.setCell hB v
set_option maxRecDepth 200000 in
theorem setParams_calls (n : Nat) (hn : n ≤ 65536) (w : World) (g : Nat) (fs : List Value) (hf : fs.length = 9) (p9 p10 : Value) (h : w.heap[g]? = some (.cells (newCells fs p9 p10) 79 (0, 0))) :
    Calls Tryd.prog 64 #[.pointer (some ⟨g, 0, none⟩), .int .i64 (n : Int)] w fun e w' => e = .returned (.tuple #[]) ∧ ∃ q, Sized w w' g q (newCells fs (.slice (some ⟨q, 0, none⟩) n n) p10) (ints .i64 (zeros n)) 3 := by
  have f9 := blk_frozen (blk_alloc h (.cells (ints .i64 (zeros n)) 3)) 9
  have hs := sized_of (ds := ints .i64 (zeros n)) (t := 3) h ((nine fs hf p9 p10).2.2.1 (.slice (some ⟨w.heap.size, 0, none⟩) n n))
  have c9 : (w.alloc (.cells (ints .i64 (zeros n)) 3)).cell? ⟨g, 9, none⟩ = some p9 := by
    rw [blk_cell (blk_alloc h _)]
    exact (nine fs hf p9 p10).1
  have mk := make_ints n hn w
  have HS := Lib.hid hs
  clear hs h
  go_enter Tryd.func64, Tryd.ntmps64
  go_wp2_with fail
  go_end0
  exact ⟨rfl, _, HS.out⟩
set_option maxRecDepth 200000 in
theorem setData_calls (n : Nat) (hn0 : 0 < n) (hn : n ≤ 65536) (w : World) (g : Nat) (fs : List Value) (hf : fs.length = 9) (p9 p10 : Value) (h : w.heap[g]? = some (.cells (newCells fs p9 p10) 79 (0, 0))) :
    Calls Tryd.prog 65 #[.pointer (some ⟨g, 0, none⟩), .int .i64 (n : Int)] w fun e w' => e = .returned (.tuple #[]) ∧ ∃ q, Sized w w' g q (newCells fs p9 (.slice (some ⟨q, 0, none⟩) n n)) (ints .u8 (zeros n)) 5 := by
  have f9 := blk_frozen (blk_alloc h (.cells (ints .u8 (zeros n)) 5)) 10
  have hs := sized_of (ds := ints .u8 (zeros n)) (t := 5) h ((nine fs hf p9 p10).2.2.2 (.slice (some ⟨w.heap.size, 0, none⟩) n n))
  have c9 : (w.alloc (.cells (ints .u8 (zeros n)) 5)).cell? ⟨g, 10, none⟩ = some p10 := by
    rw [blk_cell (blk_alloc h _)]
    exact (nine fs hf p9 p10).2.1
  have mk := make_bytes n hn w
  have e0 : decide ((n : Int) ≤ 0) = false := decide_eq_false (by omega)
  have HS := Lib.hid hs
  have e1 : n ≠ 0 := by omega
  have e2 : ¬ ((n : Int) ≤ 0) := by omega
  clear hs h
  go_enter Tryd.func65, Tryd.ntmps65
  go_wp2_with fail
  go_end0
  exact ⟨rfl, _, HS.out⟩
def nofs : List Value := [.nilFunc, .nilFunc, .nilFunc, .nilFunc, .nilFunc, .nilFunc, .nilFunc, .nilFunc, .nilFunc]
/-- A parser with its two rows, in a world that keeps what was there. -/
structure Made (w w' : World) (fs : List Value) (g q d n m : Nat) : Prop where
  ng : w.heap.size ≤ g
  nq : w.heap.size ≤ q
  nd : w.heap.size ≤ d
  blk : w'.heap[g]? = some (.cells (newCells fs (.slice (some ⟨q, 0, none⟩) n n) (.slice (some ⟨d, 0, none⟩) m m)) 79 (0, 0))
  row : w'.heap[q]? = some (.cells (ints .i64 (zeros n)) 3 (0, 0))
  dat : w'.heap[d]? = some (.cells (ints .u8 (zeros m)) 5 (0, 0))
  below : Below w.heap.size w w'
set_option maxRecDepth 200000 in
theorem newParser0_calls (w : World) :
    Calls Tryd.prog 63 #[] w fun e w' => ∃ g p9 p10, e = .returned (.pointer (some ⟨g, 0, none⟩)) ∧ w.heap.size ≤ g ∧ w'.heap[g]? = some (.cells (newCells nofs p9 p10) 79 (0, 0)) ∧ Below w.heap.size w w' := by
  have h0 : (w.alloc (.cells (newCells nofs (.slice none 0 0) (.slice none 0 0)) 79)).heap[w.heap.size]? = some (.cells (newCells nofs (.slice none 0 0) (.slice none 0 0)) 79 (0, 0)) := blk_new w _
  have H0 := Lib.hid h0
  clear h0
  go_enter Tryd.func63, Tryd.ntmps63
  go_wp2_with (first
    | (
      go_at_call 64
      refine (setParams_calls 32 (by omega) _ w.heap.size nofs rfl _ _ H0.out).mono ?_
      rintro e w1 ⟨rfl, q, hs⟩
      have H1 := Lib.hid hs
      clear hs)
    | (
      go_at_call 65
      refine (setData_calls 65536 (by omega) (by omega) _ w.heap.size nofs rfl _ _ H1.out.blk).mono ?_
      rintro e w2 ⟨rfl, d, hs⟩
      have H2 := Lib.hid hs
      clear hs))
  go_ret
  refine ⟨_, _, _, rfl, Nat.le_refl _, H2.out.blk, ?_⟩
  have ha := (below_alloc (Below.refl w.heap.size w) (.cells (newCells nofs (.slice none 0 0) (.slice none 0 0)) 79))
  have h1 := H1.out.below w.heap.size (Nat.le_refl _) ha.size
  have h2 := H2.out.below w.heap.size (Nat.le_refl _) (Nat.le_trans ha.size h1.size)
  exact ha.trans (h1.trans h2)
set_option maxRecDepth 200000 in
theorem newParser_calls (w : World) :
    Calls Tryd.prog 49 #[.int .i64 32, .int .i64 4096] w fun e w' => ∃ g q d, e = .returned (.pointer (some ⟨g, 0, none⟩)) ∧ Made w w' nofs g q d 32 4096 := by
  go_enter Tryd.func49, Tryd.ntmps49
  go_wp2_with (first
    | (
      go_at_call 63
      refine (newParser0_calls _).mono ?_
      rintro e w0 ⟨g, p9, p10, rfl, hg, h0, hb⟩
      have H0 := Lib.hid h0
      have HG := Lib.hid hg
      have HB := Lib.hid hb
      clear h0 hg hb)
    | (
      go_at_call 64
      refine (setParams_calls 32 (by omega) _ g nofs rfl _ _ H0.out).mono ?_
      rintro e w1 ⟨rfl, q, hs⟩
      have H1 := Lib.hid hs
      clear hs)
    | (
      go_at_call 65
      refine (setData_calls 4096 (by omega) (by omega) _ g nofs rfl _ _ H1.out.blk).mono ?_
      rintro e w2 ⟨rfl, d, hs⟩
      have H2 := Lib.hid hs
      clear hs))
  go_ret
  have s0 := HB.out.size
  have s1 := H1.out.size
  have n1 := H1.out.new
  have n2 := H2.out.new
  have l1 := blk_lt H1.out.row
  have hne : q ≠ g := by have := blk_lt H0.out; omega
  exact ⟨g, q, d, rfl, HG.out, by omega, by omega, H2.out.blk, (H2.out.keep q l1 hne).trans H1.out.row, H2.out.row, HB.out.trans ((H1.out.below _ HG.out s0).trans (H2.out.below _ HG.out (by omega)))⟩
end Go.Proofs.YtjkjnhcnmjknmaaDoor.X
end
section
namespace Go.Proofs.YtjkjnhcnmjknmaaDoor.X
open Go.RowKit Go.Proofs.YtjkjnhcnmjknmaaDoorW.PrintWords Go.Proofs.YtjkjnhcnmjknmaaDoorW.PrintLast Go.Proofs.YtjkjnhcnmjknmaaDoorW.PrintMore
/-- The nine handlers, which hold the box b. -/
def hfs (b : Nat) : List Value := [.func (.func 67) #[] #[.pointer (some ⟨b, 0, none⟩)], .func (.func 68) #[] #[.pointer (some ⟨b, 0, none⟩)], .func (.func 69) #[] #[.pointer (some ⟨b, 0, none⟩)], .func (.func 71) #[] #[.pointer (some ⟨b, 0, none⟩)], .func (.func 72) #[] #[.pointer (some ⟨b, 0, none⟩)], .func (.func 73) #[] #[.pointer (some ⟨b, 0, none⟩)], .func (.func 74) #[] #[.pointer (some ⟨b, 0, none⟩)], .func (.func 75) #[] #[.pointer (some ⟨b, 0, none⟩)], .func (.func 76) #[] #[.pointer (some ⟨b, 0, none⟩)]]
/-- The parser's cells: nine handlers, then the six others. -/
def pblock (fs tl : List Value) : Array Value := (fs ++ tl).toArray
/-- What setting the handlers leaves. -/
structure Handed (w w' : World) (g b : Nat) (tl : List Value) : Prop where
  blk : w'.heap[g]? = some (.cells (pblock (hfs b) tl) 79 (0, 0))
  size : w.heap.size ≤ w'.heap.size
  keep : ∀ i, i < w.heap.size → i ≠ g → w'.heap[i]? = w.heap[i]?
  below : ∀ B, B ≤ g → B ≤ w.heap.size → Below B w w'
theorem handed_of {b : Nat} {w : World} {g : Nat} {fs : List Value} (hf : fs.length = 9) {tl : List Value} (hl : tl.length = 6) (h : w.heap[g]? = some (.cells (pblock fs tl) 79 (0, 0))) (o : Obj) : Handed w ((w.alloc o).setCells g 0 (hfs b)) g b tl := by
  have h1 := blk_alloc h o
  have ha := below_alloc (Below.refl w.heap.size w) o
  obtain ⟨s1, s2, s3, s4⟩ := setCells_same g (hfs b) 0 (w.alloc o)
  have hsz : w.heap.size ≤ ((w.alloc o).setCells g 0 (hfs b)).heap.size := by rw [s4]; exact ha.size
  have hkeep : ∀ i, i < w.heap.size → i ≠ g → ((w.alloc o).setCells g 0 (hfs b)).heap[i]? = w.heap[i]? := fun i hi hne => (setCells_far (hfs b) 0 i hne).trans (ha.block i hi)
  refine ⟨?_, hsz, hkeep, fun B hB hBw => ⟨s1.trans ha.os, s2.trans ha.tape, s3.trans ha.output, hsz, fun i hi => hkeep i (by omega) (by omega)⟩⟩
  match fs, hf, tl, hl with
  | [_, _, _, _, _, _, _, _, _], _, [t0, t1, t2, t3, t4, t5], _ =>
    obtain ⟨cur', c1, c2, c3⟩ := setCells_row (hfs b) 0 (w.alloc o) _ h1 (by simp [hfs, pblock])
    rw [c1]
    have : cur' = pblock (hfs b) [t0, t1, t2, t3, t4, t5] := by
      apply Array.toList_inj.1
      rw [c3]
      rfl
    rw [this]
theorem infoHandler : (Tryd.prog.info? 76).map (·.size) = some 9 := by kernel_rfl
theorem one_hfs (b : Nat) : (hfs b).toArray.all (·.oneCell') = true := by simp [hfs, Value.oneCell']
theorem there_of {w : World} {g : Nat} {fs : List Value} (hf : fs.length = 9) {tl : List Value} (hl : tl.length = 6) (h : w.heap[g]? = some (.cells (pblock fs tl) 79 (0, 0))) (o : Obj) : (w.alloc o).there g 0 9 := by
  intro j hj
  have h1 := blk_alloc h o
  rw [Nat.zero_add, blk_cell h1 j]
  refine ⟨?_, blk_frozen h1 j⟩
  match fs, hf, tl, hl with
  | [_, _, _, _, _, _, _, _, _], _, [_, _, _, _, _, _], _ => simp [pblock]; omega
set_option maxRecDepth 200000 in
set_option maxHeartbeats 4000000 in
theorem setHandler_calls (b : Nat) (w : World) (g : Nat) (fs : List Value) (hf : fs.length = 9) (tl : List Value) (hl : tl.length = 6) (h : w.heap[g]? = some (.cells (pblock fs tl) 79 (0, 0))) :
    Calls Tryd.prog 66 #[.pointer (some ⟨g, 0, none⟩), .agg #[.func (.func 67) #[] #[.pointer (some ⟨b, 0, none⟩)], .func (.func 68) #[] #[.pointer (some ⟨b, 0, none⟩)], .func (.func 69) #[] #[.pointer (some ⟨b, 0, none⟩)], .func (.func 71) #[] #[.pointer (some ⟨b, 0, none⟩)], .func (.func 72) #[] #[.pointer (some ⟨b, 0, none⟩)], .func (.func 73) #[] #[.pointer (some ⟨b, 0, none⟩)], .func (.func 74) #[] #[.pointer (some ⟨b, 0, none⟩)], .func (.func 75) #[] #[.pointer (some ⟨b, 0, none⟩)], .func (.func 76) #[] #[.pointer (some ⟨b, 0, none⟩)]]] w fun e w' => e = .returned (.tuple #[]) ∧ Handed w w' g b tl := by
  have HH := Lib.hid h
  clear h
  go_enter Tryd.func66, Tryd.ntmps66
  go_wp2_with (
    (with_reducible refine gate_store (t := 76) (p := 7) (v := .tmp 5) rfl ?_)
    refine wpList_store_mid rfl 76 (.tmp 7) (.tmp 5) rfl g 0 #[.func (.func 67) #[] #[.pointer (some ⟨b, 0, none⟩)], .func (.func 68) #[] #[.pointer (some ⟨b, 0, none⟩)], .func (.func 69) #[] #[.pointer (some ⟨b, 0, none⟩)], .func (.func 71) #[] #[.pointer (some ⟨b, 0, none⟩)], .func (.func 72) #[] #[.pointer (some ⟨b, 0, none⟩)], .func (.func 73) #[] #[.pointer (some ⟨b, 0, none⟩)], .func (.func 74) #[] #[.pointer (some ⟨b, 0, none⟩)], .func (.func 75) #[] #[.pointer (some ⟨b, 0, none⟩)], .func (.func 76) #[] #[.pointer (some ⟨b, 0, none⟩)]] rfl rfl (there_of hf hl HH.out _) infoHandler (one_hfs b) ?_
    have HS := Lib.hid (handed_of (b := b) hf hl HH.out (.cells #[.func (.func 67) #[] #[.pointer (some ⟨b, 0, none⟩)], .func (.func 68) #[] #[.pointer (some ⟨b, 0, none⟩)], .func (.func 69) #[] #[.pointer (some ⟨b, 0, none⟩)], .func (.func 71) #[] #[.pointer (some ⟨b, 0, none⟩)], .func (.func 72) #[] #[.pointer (some ⟨b, 0, none⟩)], .func (.func 73) #[] #[.pointer (some ⟨b, 0, none⟩)], .func (.func 74) #[] #[.pointer (some ⟨b, 0, none⟩)], .func (.func 75) #[] #[.pointer (some ⟨b, 0, none⟩)], .func (.func 76) #[] #[.pointer (some ⟨b, 0, none⟩)]] 76))
    change wpList _ _ _ _ _ ((w.alloc (.cells #[.func (.func 67) #[] #[.pointer (some ⟨b, 0, none⟩)], .func (.func 68) #[] #[.pointer (some ⟨b, 0, none⟩)], .func (.func 69) #[] #[.pointer (some ⟨b, 0, none⟩)], .func (.func 71) #[] #[.pointer (some ⟨b, 0, none⟩)], .func (.func 72) #[] #[.pointer (some ⟨b, 0, none⟩)], .func (.func 73) #[] #[.pointer (some ⟨b, 0, none⟩)], .func (.func 74) #[] #[.pointer (some ⟨b, 0, none⟩)], .func (.func 75) #[] #[.pointer (some ⟨b, 0, none⟩)], .func (.func 76) #[] #[.pointer (some ⟨b, 0, none⟩)]] 76)).setCells g 0 (hfs b))
    generalize (w.alloc (.cells #[.func (.func 67) #[] #[.pointer (some ⟨b, 0, none⟩)], .func (.func 68) #[] #[.pointer (some ⟨b, 0, none⟩)], .func (.func 69) #[] #[.pointer (some ⟨b, 0, none⟩)], .func (.func 71) #[] #[.pointer (some ⟨b, 0, none⟩)], .func (.func 72) #[] #[.pointer (some ⟨b, 0, none⟩)], .func (.func 73) #[] #[.pointer (some ⟨b, 0, none⟩)], .func (.func 74) #[] #[.pointer (some ⟨b, 0, none⟩)], .func (.func 75) #[] #[.pointer (some ⟨b, 0, none⟩)], .func (.func 76) #[] #[.pointer (some ⟨b, 0, none⟩)]] 76)).setCells g 0 (hfs b) = w2 at HS ⊢)
  go_end0
  exact ⟨rfl, HS.out⟩
end Go.Proofs.YtjkjnhcnmjknmaaDoor.X
end
section
namespace Go.Proofs.YtjkjnhcnmjknmaaDoor.X
open Go.RowKit Go.Proofs.YtjkjnhcnmjknmaaDoorW.PrintWords Go.Proofs.YtjkjnhcnmjknmaaDoorW.PrintLast Go.Proofs.YtjkjnhcnmjknmaaDoorW.PrintMore
set_option maxRecDepth 200000 in
set_option maxHeartbeats 4000000 in
theorem listen_calls (o : Nat) (w : World) (g : Nat) (fs : List Value) (hf : fs.length = 9) (tl : List Value) (hl : tl.length = 6) (h : w.heap[g]? = some (.cells (pblock fs tl) 79 (0, 0))) :
    Calls Tryd.prog 50 #[.pointer (some ⟨g, 0, none⟩), .pointer (some ⟨o, 0, none⟩)] w fun e w' => e = .returned (.tuple #[]) ∧ ∃ b, w.heap.size ≤ b ∧ Handed w w' g b tl ∧ w'.heap[b]? = some (.cells #[.pointer (some ⟨o, 0, none⟩)] 48 (0, 0)) := by
  have hb := blk_new w (.cells #[.pointer (some ⟨o, 0, none⟩)] 48)
  have h1 := blk_alloc h (.cells #[.pointer (some ⟨o, 0, none⟩)] 48)
  have ha := below_alloc (Below.refl w.heap.size w) (.cells #[.pointer (some ⟨o, 0, none⟩)] 48)
  have hlt := blk_lt h
  have HH := Lib.hid (And.intro hb (And.intro h1 ha))
  clear h hb h1 ha
  go_enter Tryd.func50, Tryd.ntmps50
  go_wp2_with (
    go_at_call 66
    refine (setHandler_calls w.heap.size _ g fs hf tl hl HH.out.2.1).mono ?_
    rintro e w1 ⟨rfl, hs⟩
    have HS := Lib.hid hs
    clear hs)
  go_end0
  obtain ⟨hb, h1, ha⟩ := HH.out
  have hs := HS.out
  refine ⟨rfl, w.heap.size, Nat.le_refl _, ⟨hs.blk, Nat.le_trans ha.size hs.size, fun i hi hne => (hs.keep i (Nat.lt_of_lt_of_le hi ha.size) hne).trans (ha.block i hi), fun B hB hBw => (ha.mono hBw).trans (hs.below B hB (Nat.le_trans hBw ha.size))⟩, ?_⟩
  exact (hs.keep _ (blk_lt hb) (by omega)).trans hb
end Go.Proofs.YtjkjnhcnmjknmaaDoor.X
end
section
namespace Go.Proofs.YtjkjnhcnmjknmaaDoor.Y
open Go.RowKit Go.Proofs.YtjkjnhcnmjknmaaDoorW.PrintWords Go.Proofs.YtjkjnhcnmjknmaaDoorW.PrintLast Go.Proofs.YtjkjnhcnmjknmaaDoorW.PrintMore
/-- What Feed tells. -/
def impl_Feed.f (a0 : Int) (a1 : Int) (l2 : List Int) : Option (List S30) :=
  if a0 = 32 ∧ a1 = 4096 ∧ l2.length ≤ 100000000000 ∧ (∀ x ∈ l2, 0 ≤ x) then (X.run .gr (l2.map Int.toNat)).map fun y => y.2.map X.toS else none
end Go.Proofs.YtjkjnhcnmjknmaaDoor.Y
namespace Go.Proofs.YtjkjnhcnmjknmaaDoor.X
open Go.RowKit Go.Proofs.YtjkjnhcnmjknmaaDoorW.PrintWords Go.Proofs.YtjkjnhcnmjknmaaDoorW.PrintLast Go.Proofs.YtjkjnhcnmjknmaaDoorW.PrintMore
theorem step_one (s : PS) (b : Nat) {s2 : PS} {e : List Ev} (h : step s b = some (s2, e)) : e.length ≤ 1 := by
  cases s <;> simp only [step] at h <;> (repeat' split at h) <;> first | (simp only [Option.some.injEq, Prod.mk.injEq] at h; obtain ⟨_, rfl⟩ := h; simp; done) | simp at h
/-- Where the loop over the bytes stands: i bytes are read, the events so far are evs, and the rest gives the rest. -/
def FeedAt (w4 wr : World) (L : Loc) (l : List Int) (fin : List Ev) (i : Nat) : Prop :=
  ∃ s r evs e2 s2, Inv w4 wr L r evs ∧ Rel s r ∧ evs.length ≤ i ∧ run s ((l.drop i).map Int.toNat) = some (s2, e2) ∧ evs ++ e2 = fin
theorem feed_step {w4 wr : World} {L : Loc} {l : List Int} {fin : List Ev} {i : Nat} (hi : i < l.length) (hl : l.length ≤ 100000000000) (h0 : 0 ≤ l.getD i 0) (h : FeedAt w4 wr L l fin i) :
    Calls Tryd.prog 52 #[.pointer (some ⟨L.P, 0, none⟩), .int .u8 (l.getD i 0)] wr fun e w' => ∃ v, e = .returned v ∧ FeedAt w4 w' L l fin (i + 1) := by
  obtain ⟨s, r, evs, e2, s2, hI, hR, hn, hrun, hfin⟩ := h
  have hd : l.drop i = l.getD i 0 :: l.drop (i + 1) := by
    rw [List.drop_eq_getElem_cons hi]
    simp [hi]
  rw [hd, List.map_cons, run] at hrun
  cases hs : step s (l.getD i 0).toNat with
  | none => rw [hs] at hrun; simp at hrun
  | some x =>
    obtain ⟨s3, e3⟩ := x
    rw [hs] at hrun
    simp only [Option.bind_some, Option.map_eq_some_iff] at hrun
    obtain ⟨⟨s5, e5⟩, hrun2, he⟩ := hrun
    simp only [Prod.mk.injEq] at he
    have hb := byte_calls hI s hR (by omega) (l.getD i 0).toNat hs
    unfold ByteCalls at hb
    rw [Int.toNat_of_nonneg h0] at hb
    refine hb.mono ?_
    rintro e w' ⟨v, rfl, r2, hI2, hR2⟩
    refine ⟨v, rfl, s3, r2, evs ++ e3, e5, s5, hI2, hR2, ?_, hrun2, ?_⟩
    · have := step_one _ _ hs
      rw [List.length_append]
      omega
    · rw [List.append_assoc, he.2, hfin]
theorem zeros_len (n : Nat) : (zeros n).length = n := by simp [zeros]
theorem feed_begin {w w1 w3 w4 : World} {g q d b : Nat} {l : List Int} {fin : List Ev} {s2 : PS} {Ad : Option Addr} {cd : Nat} (hM : Made w w1 nofs g q d 32 4096)
    (hH : Handed (w1.alloc (.cells #[.slice none 0 0] 26)) w3 g b [.slice (some ⟨q, 0, none⟩) 32 32, .slice (some ⟨d, 0, none⟩) 4096 4096, .int .i64 0, .int .i64 0, .int .i64 0, .int .u8 0])
    (hbox : w3.heap[b]? = some (.cells #[.pointer (some ⟨w1.heap.size, 0, none⟩)] 48 (0, 0))) (hB4 : Below w3.heap.size w3 w4)
    (hD : Kd.R (Kd.int .u8) 5 w4 w3.heap.size (fun _ => True) (.slice Ad l.length cd) l) (hrun : run .gr (l.map Int.toNat) = some (s2, fin)) :
    ∃ L : Loc, L.P = g ∧ L.out = w1.heap.size ∧ L.B = w.heap.size ∧ (l ≠ [] → Ad = some ⟨L.own, 0, none⟩) ∧ FeedAt w4 w4 L l fin 0 := by
  have lg := blk_lt hM.blk
  have lq := blk_lt hM.row
  have ld := blk_lt hM.dat
  have ha := below_alloc (Below.refl w1.heap.size w1) (.cells #[.slice none 0 0] 26)
  have hsz2 := ha.size
  have hnew := blk_new w1 (.cells #[.slice none 0 0] 26)
  have lnew := blk_lt hnew
  have hqg : q ≠ g := blk_ne hM.row hM.blk (by decide)
  have hdg : d ≠ g := blk_ne hM.dat hM.blk (by decide)
  have up : ∀ {i : Nat} {o : Obj}, i ≠ g → (w1.alloc (.cells #[.slice none 0 0] 26)).heap[i]? = some o → w4.heap[i]? = some o := fun {i} {o} hne hi =>
    blk_below ((hH.keep i (blk_lt hi) hne).trans hi) hB4
  have b3 := hH.size
  have b4 := hB4.size
  have hP : w4.heap[g]? = some (.cells (newCells (hfs b) (.slice (some ⟨q, 0, none⟩) 32 32) (.slice (some ⟨d, 0, none⟩) 4096 4096)) 79 (0, 0)) := blk_below hH.blk hB4
  have hQ := up hqg (blk_alloc hM.row (.cells #[.slice none 0 0] 26))
  have hDt := up hdg (blk_alloc hM.dat (.cells #[.slice none 0 0] 26))
  have hX := blk_below hbox hB4
  have hO := up (by omega) hnew
  have ex : ∃ own : Nat, (l ≠ [] → Ad = some ⟨own, 0, none⟩) ∧ own < w4.heap.size ∧ own ≠ g ∧ own ≠ q ∧ own ≠ d ∧ own ≠ w1.heap.size := by
    by_cases hl : l = []
    · exact ⟨b, fun h => absurd hl h, blk_lt hX, blk_ne hX hP (by decide), blk_ne hX hQ (by decide), blk_ne hX hDt (by decide), blk_ne hX hO (by decide)⟩
    · obtain ⟨k, c, e, hk, hk2, _⟩ := Kd.R_form hD (List.length_pos_iff.2 hl)
      injection e with e _ _
      exact ⟨k, fun _ => e, hk2, by omega, by omega, by omega, by omega⟩
  obtain ⟨own, ho, ho1, ho2, ho3, ho4, ho5⟩ := ex
  refine ⟨⟨w.heap.size, w4.heap.size, g, q, d, b, w1.heap.size, own⟩, rfl, rfl, rfl, ho, .gr, ⟨0, 0, 0, 0, zeros 32, zeros 4096⟩, [], fin, s2, ?_, ⟨⟨0, by omega, rfl⟩, rfl⟩, by simp, by simpa using hrun, by simp⟩
  have hb := hM.below.size
  exact ⟨⟨hP, hQ, hDt, hX, zeros_len _, zeros_len _, hM.ng, hM.nq, hM.nd, hb, by simp only; omega, by simp only; omega, by simp only; omega, by simp only; omega, blk_lt hX, by simp only; omega, Nat.le_refl _⟩, ⟨_, hO, Kd.S_nil _ _ _ _ _⟩, Below.refl _ _, fun _ _ _ _ _ _ => rfl, ho1, ho2, ho3, ho4, ho5⟩
theorem feed_end {w4 wr : World} {L : Loc} {l : List Int} {fin : List Ev} {i : Nat} (hi : l.length ≤ i) (h : FeedAt w4 wr L l fin i) :
    ∃ v, wr.cell? ⟨L.out, 0, none⟩ = some v ∧ Kd.S kEv 30 wr L.B (fun _ => True) v (fin.map toS) ∧ Below L.B w4 wr := by
  obtain ⟨s, r, evs, e2, s2, hI, hR, hn, hrun, hfin⟩ := h
  rw [List.drop_of_length_le hi] at hrun
  simp only [List.map_nil, run, Option.some.injEq, Prod.mk.injEq] at hrun
  obtain ⟨_, rfl⟩ := hrun
  rw [List.append_nil] at hfin
  subst hfin
  obtain ⟨v, hv, hS⟩ := hI.evs
  exact ⟨v, blk_cell hv 0, Kd.S_mono (Kd.S_lower hS hI.raw.bL) (fun _ _ => trivial), hI.below⟩
theorem feed_cell {w4 wr : World} {L : Loc} {l : List Int} {fin : List Ev} {i base cd : Nat} (hi : i < l.length) (h : FeedAt w4 wr L l fin i) (hD : Kd.R (Kd.int .u8) 5 w4 base (fun _ => True) (.slice (some ⟨L.own, 0, none⟩) l.length cd) l) :
    wr.cell? ⟨L.own, i, none⟩ = some (.int .u8 (l.getD i 0)) := by
  obtain ⟨s, r, evs, e2, s2, hI, _⟩ := h
  obtain ⟨q1, _⟩ := Kd.R_celln (0 : Int) hD (i : Int) (by omega) (by omega)
  rw [Int.toNat_natCast] at q1
  rw [World.cell?_of_block (w := w4) (by exact hI.own _ hI.olt hI.oP hI.opp hI.opd hI.oout), q1]
  simp [rdOf, hi]
end Go.Proofs.YtjkjnhcnmjknmaaDoor.X
namespace Go.Proofs.YtjkjnhcnmjknmaaDoor.Y
open Go.RowKit Go.Proofs.YtjkjnhcnmjknmaaDoorW.PrintWords Go.Proofs.YtjkjnhcnmjknmaaDoorW.PrintLast Go.Proofs.YtjkjnhcnmjknmaaDoorW.PrintMore
set_option maxRecDepth 200000 in
set_option maxHeartbeats 4000000 in
theorem impl_Feed.calls (a0 : Int) (a1 : Int) (A2 : Option Addr) (c2 : Nat) (l2 : List Int) (r : List S30) (w : World) (hr2 : Kd.C (Kd.int .u8) w A2 l2.length l2) (hc2 : l2.length ≤ c2) (h : impl_Feed.f a0 a1 l2 = some r) :
    Calls Tryd.prog 7 #[.int .i64 a0, .int .i64 a1, .slice A2 l2.length c2] w fun e w' => ∃ v0_ : Value, e = .returned (v0_) ∧ Kd.S k30 30 w' w.heap.size (fun _ => True) v0_ r ∧ Below w.heap.size w w' := by
  unfold impl_Feed.f at h
  split at h
  · rename_i hc
    obtain ⟨rfl, rfl, hl, hpos⟩ := hc
    obtain ⟨⟨s2, fin⟩, hrun, rfl⟩ := Option.map_eq_some_iff.1 h
    have HC := Lib.hid (And.intro hr2 (And.intro hpos hrun))
    clear h hr2 hpos hrun
    go_enter Tryd.func7, Tryd.ntmps7
    go_wp2_with (first
      | (
        go_at_call 49
        refine (X.newParser_calls _).mono ?_
        rintro e w1 ⟨g, q, d, rfl, hM⟩
        have HM := Lib.hid hM
        clear hM)
      | (
        go_at_call 50
        refine (X.listen_calls w1.heap.size _ g X.nofs rfl _ rfl (blk_alloc HM.out.blk _)).mono ?_
        rintro e w3 ⟨rfl, b, hbn, hH, hbox⟩
        have HH := Lib.hid hH
        have HX := Lib.hid hbox
        clear hbn hH hbox)
      | (
        go_at_call 51
        have hB3 := HM.out.below.trans (((below_alloc (Below.refl w1.heap.size w1) _).mono HM.out.below.size).trans (HH.out.below w.heap.size HM.out.ng (Nat.le_trans HM.out.below.size (below_alloc (Below.refl w1.heap.size w1) _).size)))
        refine (X.own_calls _ _ _ _ (Kd.C_below HC.out.1 hB3) hc2 (by omega)).mono ?_
        rintro e w4 ⟨dv, rfl, hD, hB4⟩
        obtain ⟨Ad, cd, rfl⟩ := Kd.R_slice hD
        have HB := Lib.hid (And.intro hB3 (And.intro hB4 hD))
        clear hB3 hD hB4))
    obtain ⟨L, rfl, ho, hLB, hA, hF⟩ := X.feed_begin HM.out HH.out HX.out HB.out.2.1 HB.out.2.2 HC.out.2.2
    have HA := Lib.hid hA
    have HO := Lib.hid ho
    have HLB := Lib.hid hLB
    clear hA ho hLB
    go_loopg [29] l2.length (fun kq v29 w' => ∃ i : Nat, v29 = .int .i64 (i : Int) ∧ i + kq = l2.length ∧ X.FeedAt w4 w' L l2 fin i)
    case atStart => exact ⟨0, rfl, by omega, hF⟩
    case round =>
      clear hF
      obtain ⟨i, rfl, hk, hF⟩ := hrel
      have e20 : IntKind.i64.wrap ((i : Int) + 1) = ((i + 1 : Nat) : Int) := by rw [IntKind.wrap_i64]; omega
      by_cases hi : i < l2.length
      · have c1 : decide ((i : Int) < (l2.length : Int)) = true := decide_eq_true (by omega)
        have c2 : (0 : Int) ≤ (i : Int) := by omega
        have c4 : (i : Int) < (l2.length : Int) := by omega
        have hne : l2 ≠ [] := fun e => by rw [e] at hi; simp at hi
        obtain rfl := HA.out hne
        have hcell := X.feed_cell hi hF HB.out.2.2
        have h0 : 0 ≤ l2.getD i 0 := by
          have := HC.out.2.1 (l2[i]) (List.getElem_mem hi)
          simpa [hi] using this
        have HS := Lib.hid (X.feed_step hi hl h0 hF)
        generalize l2.getD i 0 = x at hcell HS h0
        clear hF hne h0
        go_wp2_with (
          go_at_call 52
          refine HS.out.mono ?_
          rintro e w5 ⟨v5, rfl, hF2⟩
          have HF := Lib.hid hF2
          clear hF2)
        go_roundg (l2.length - (i + 1))
        case measure => omega
        case rel => exact ⟨i + 1, by simp, by omega, HF.out⟩
      · have c1 : decide ((i : Int) < (l2.length : Int)) = false := decide_eq_false (by omega)
        obtain ⟨v, hv, hS, hB⟩ := X.feed_end (by omega) hF
        rw [HO.out] at hv
        rw [HLB.out] at hS hB
        have HE := Lib.hid (And.intro hS hB)
        clear hS hB hF
        go_wp2_with fail
        go_ret
        exact ⟨_, rfl, HE.out.1, HB.out.1.trans ((HB.out.2.1.mono HB.out.1.size).trans HE.out.2)⟩
  · exact absurd h (by simp)
end Go.Proofs.YtjkjnhcnmjknmaaDoor.Y
end
section
namespace Go.Proofs.YtjkjnhcnmjknmaaDoor.Y
open Go.RowKit Go.Proofs.YtjkjnhcnmjknmaaDoorW.PrintWords Go.Proofs.YtjkjnhcnmjknmaaDoorW.PrintLast Go.Proofs.YtjkjnhcnmjknmaaDoorW.PrintMore
attribute [local go_sem] max2_int min2_int max_two min_two max_three min_three max_four min_four   -- for this text's walks alone
set_option linter.unusedVariables false
set_option linter.unusedSimpArgs false
/-! ### laws_drawAwake: function 5 -/
def laws_drawAwake.f  : Option (Bool) := (impl_MakeNumber.f 0 3).bind fun t113 => ((gosem_conv.f t113).bind fun t114 => ((impl_Feed.f 32 4096 t114).bind fun t117 => (if (t117.length : Int) = 1 then (if 0 < (t117.length : Int) then (if ((rd_T30 t117 0).f0) = 2 then (some (((rd_T30 t117 0).f3) == 65)) else (some false)) else (none)) else (some false))))
end Go.Proofs.YtjkjnhcnmjknmaaDoor.Y
end
section
namespace Go.Proofs.YtjkjnhcnmjknmaaDoor.Y
open Go.RowKit Go.Proofs.YtjkjnhcnmjknmaaDoorW.PrintWords Go.Proofs.YtjkjnhcnmjknmaaDoorW.PrintLast Go.Proofs.YtjkjnhcnmjknmaaDoorW.PrintMore
attribute [local go_sem] max2_int min2_int max_two min_two max_three min_three max_four min_four   -- for this text's walks alone
set_option linter.unusedVariables false
set_option linter.unusedSimpArgs false
/-! ### laws_drawEvents: function 13 -/
def laws_drawEvents.l0 : Nat → List (S33) → List (S30) → Int → Int → Option ((List (S33)))
  | 0, _, _, _, _ => none
  | k + 1, x3, x6, x7, x8 => if x8 < x7 then (if 0 ≤ x8 then (if x8 < (x6.length : Int) then (if x3.length < 1759218604441 then (laws_drawEvents.l0 k (x3 ++ [(⟨(rd_T30 x6 x8).f0, (rd_T30 x6 x8).f1, (rd_T30 x6 x8).f2, (rd_T30 x6 x8).f3, (rd_T30 x6 x8).f4, (rd_T30 x6 x8).f5⟩ : S33)]) x6 x7 (wrap64 (x8 + 1))) else (none)) else (none)) else (none)) else (some x3)
def laws_drawEvents.f (k : Nat) (l0 : List (S30)) : Option ((List (S33))) := laws_drawEvents.l0 k ([] : List (S33)) l0 (l0.length : Int) 0
theorem laws_drawEvents.mono_l : ∀ k, (∀ y0 y1 y2 y3, LeO (laws_drawEvents.l0 k y0 y1 y2 y3) (laws_drawEvents.l0 (k + 1) y0 y1 y2 y3))
  | 0 => fun _ _ _ _ r h => by simp [laws_drawEvents.l0] at h
  | k + 1 => by
    have ih0 := laws_drawEvents.mono_l k
    · intro y0 y1 y2 y3
      unfold laws_drawEvents.l0
      repeat' first
      | (with_reducible exact ih0 _ _ _ _)
      | (with_reducible exact LeO.refl _)
      | (with_reducible exact LeO.none _)
      | (with_reducible refine LeO.ite ?_ ?_)
      | (with_reducible refine LeO.bind ?_ (fun _ => ?_))
      | exact ih0 _ _ _ _
      | exact LeO.none _
      | refine LeO.ite ?_ ?_
      | refine LeO.bind ?_ (fun _ => ?_)
theorem laws_drawEvents.mono : ∀ a0 k, LeO (laws_drawEvents.f k a0) (laws_drawEvents.f (k + 1) a0) := by
  intro a0 k
  have ih0 := laws_drawEvents.mono_l k
  unfold laws_drawEvents.f
  repeat' first
      | (with_reducible exact ih0 _ _ _ _)
      | (with_reducible exact LeO.refl _)
      | (with_reducible exact LeO.none _)
      | (with_reducible refine LeO.ite ?_ ?_)
      | (with_reducible refine LeO.bind ?_ (fun _ => ?_))
      | exact ih0 _ _ _ _
      | exact LeO.none _
      | refine LeO.ite ?_ ?_
      | refine LeO.bind ?_ (fun _ => ?_)
end Go.Proofs.YtjkjnhcnmjknmaaDoor.Y
end
section
namespace Go.Proofs.YtjkjnhcnmjknmaaDoor.X
open Go.RowKit Go.Proofs.YtjkjnhcnmjknmaaDoorW.PrintWords
set_option linter.unusedSimpArgs false
/-- A text's bytes, as numbers. -/
def nb (s : ByteArray) : List Nat := s.data.toList.map UInt8.toNat
theorem nb_bytesOf (s : ByteArray) : (bytesOf s).map Int.toNat = nb s := by simp [bytesOf, nb, Function.comp_def]
theorem nb_append (a b : ByteArray) : nb (a ++ b) = nb a ++ nb b := by
  simp only [nb, ByteArray.data_append, Array.toList_append, List.map_append]
end Go.Proofs.YtjkjnhcnmjknmaaDoor.X
end
section
namespace Go.Proofs.YtjkjnhcnmjknmaaDoor.Y
open Go.RowKit Go.Proofs.YtjkjnhcnmjknmaaDoorW.PrintWords Go.Proofs.YtjkjnhcnmjknmaaDoorW.PrintLast Go.Proofs.YtjkjnhcnmjknmaaDoorW.PrintMore
/-- More fuel gives the same. -/
theorem lift {α : Type} {f : Nat → Option α} (hm : ∀ k, LeO (f k) (f (k + 1))) {k0 k : Nat} (h : k0 ≤ k) {r : α} (he : f k0 = some r) : f k = some r := by
  obtain ⟨d, rfl⟩ := Nat.le.dest h
  induction d with
  | zero => exact he
  | succ d ih => exact hm _ r (ih (by omega))
theorem awake : laws_drawAwake.f = some true := by kernel_rfl
theorem wrap64_of (n : Int) (h0 : -9223372036854775808 ≤ n) (h1 : n ≤ 9223372036854775807) : wrap64 n = n := by unfold wrap64; omega
/-- An event, as the specification has it. -/
def cv (e : S30) : S33 := ⟨e.f0, e.f1, e.f2, e.f3, e.f4, e.f5⟩
theorem rdT_at (l : List S30) (i : Nat) (h : i < l.length) : rd_T30 l (i : Int) = l[i] := by
  simp [rd_T30, h]
theorem rdU_at (l : List S33) (i : Nat) (h : i < l.length) : rd_T33 l (i : Int) = l[i] := by
  simp [rd_T33, h]
theorem drawEvents_l0 (l : List S30) (hl : l.length < 100000000000) : ∀ (m i : Nat) (k : Nat), i + m = l.length → m < k → laws_drawEvents.l0 k ((l.take i).map cv) l (l.length : Int) (i : Int) = some (l.map cv)
  | 0, i, k + 1, h, hk => by
    have e1 : ¬ ((i : Int) < (l.length : Int)) := by omega
    rw [laws_drawEvents.l0, if_neg e1, List.take_of_length_le (by omega)]
  | m + 1, i, k + 1, h, hk => by
    have hi : i < l.length := by omega
    have e1 : (i : Int) < (l.length : Int) := by omega
    have e2 : ((l.take i).map cv).length < 1759218604441 := by rw [List.length_map, List.length_take]; omega
    rw [laws_drawEvents.l0, if_pos e1, if_pos (by omega), if_pos e1, if_pos e2, rdT_at l i hi, wrap64_of _ (by omega) (by omega)]
    have e3 : ((l.take i).map cv) ++ [(⟨l[i].f0, l[i].f1, l[i].f2, l[i].f3, l[i].f4, l[i].f5⟩ : S33)] = (l.take (i + 1)).map cv := by
      rw [List.take_succ_eq_append_getElem hi, List.map_append]
      rfl
    rw [e3]
    exact drawEvents_l0 l hl m (i + 1) k (by omega) (by omega)
theorem drawEvents_f (l : List S30) (hl : l.length < 100000000000) (k : Nat) (hk : l.length < k) : laws_drawEvents.f k l = some (l.map cv) := by
  have := drawEvents_l0 l hl l.length 0 k (by omega) hk
  simpa [laws_drawEvents.f] using this
theorem conv_f (s : ByteArray) (h : s.size ≤ 100000000000) : gosem_conv.f s = some (bytesOf s) := by
  unfold gosem_conv.f
  rw [if_pos (by omega)]
theorem feed_f (s : ByteArray) (h : s.size ≤ 100000000000) {st : X.PS} {evs : List X.Ev} (hr : X.run .gr (X.nb s) = some (st, evs)) : impl_Feed.f 32 4096 (bytesOf s) = some (evs.map X.toS) := by
  have hp : ∀ x ∈ bytesOf s, 0 ≤ x := fun x hx => by
    obtain ⟨b, _, rfl⟩ := List.mem_map.1 hx
    omega
  have hl : (bytesOf s).length ≤ 100000000000 := by rw [bytesOf_length]; exact h
  unfold impl_Feed.f
  rw [if_pos ⟨rfl, rfl, hl, hp⟩, X.nb_bytesOf, hr]
  rfl
end Go.Proofs.YtjkjnhcnmjknmaaDoor.Y
end
section
namespace Go.Proofs.YtjkjnhcnmjknmaaDoor.Y
open Go.RowKit Go.Proofs.YtjkjnhcnmjknmaaDoorW.PrintWords Go.Proofs.YtjkjnhcnmjknmaaDoorW.PrintLast Go.Proofs.YtjkjnhcnmjknmaaDoorW.PrintMore
attribute [local go_sem] max2_int min2_int max_two min_two max_three min_three max_four min_four   -- for this text's walks alone
set_option linter.unusedVariables false
set_option linter.unusedSimpArgs false
set_option maxHeartbeats 8000000 in
set_option maxRecDepth 100000 in
theorem xansi_CursorUp.calls (a0 : Int) (r : ByteArray) (w : World) (hT : XTab w) (h : xansi_CursorUp.f a0 = some r) :
    Calls Tryd.prog 15 #[.int .i64 a0] w fun e w' => e = .returned (.string r) ∧ Below w.heap.size w w' := by
  have HT := Aside0.mk hT
  clear hT
  have HB := Aside0.mk (Below.refl w.heap.size w)
  have H : (if a0 > 1 then ((strconv_Itoa.f a0).bind fun t101 => (if 2 + t101.size ≤ 9223372036854775807 then (if 2 + t101.size + 1 ≤ 9223372036854775807 then (some (((⟨#[27, 91]⟩ : ByteArray) ++ t101) ++ (⟨#[65]⟩ : ByteArray))) else (none)) else (none))) else (if 2 + 0 ≤ 9223372036854775807 then (if 2 + 0 + 1 ≤ 9223372036854775807 then (some (((⟨#[27, 91]⟩ : ByteArray) ++ (⟨#[]⟩ : ByteArray)) ++ (⟨#[65]⟩ : ByteArray))) else (none)) else (none))) = some r := h
  clear h
  by_cases c2 : a0 > 1
  · rw [if_pos c2] at H
    have c2b0 : decide (1 < a0) = true := decide_eq_true c2
    clear c2
    replace H := Option.bind_eq_some_iff.mp H
    obtain ⟨t101, A30, H⟩ := H
    replace H : (if 2 + t101.size ≤ 9223372036854775807 then (if 2 + t101.size + 1 ≤ 9223372036854775807 then (some (((⟨#[27, 91]⟩ : ByteArray) ++ t101) ++ (⟨#[65]⟩ : ByteArray))) else (none)) else (none)) = some r := H
    have A3 := Aside0.mk A30
    clear A30
    by_cases c4 : 2 + t101.size ≤ 9223372036854775807
    · rw [if_pos c4] at H
      have c4b0 := eq_true c4
      have c4b1 : decide (2 + t101.size ≤ 9223372036854775807) = true := decide_eq_true c4
      try have c4b2 : (9223372036854775807 < 2 + t101.size) = False := eq_false (Nat.not_lt.2 c4)
      by_cases c5 : 2 + t101.size + 1 ≤ 9223372036854775807
      · rw [if_pos c5] at H
        have c5b0 := eq_true c5
        have c5b1 : decide (2 + t101.size + 1 ≤ 9223372036854775807) = true := decide_eq_true c5
        try have c5b2 : (9223372036854775807 < 2 + t101.size + 1) = False := eq_false (Nat.not_lt.2 c5)
        obtain rfl := Option.some.inj H
        go_enter Tryd.func15, Tryd.ntmps15
        go_wp2_with (first | ((with_reducible refine gate_callee (f := 61) rfl ?_); refine goesL_ (some 7) rfl rfl Tryd.func61 (by kernel_rfl) rfl #[.int .i64 a0] rfl (by (try simp only [List.map_toArray, List.map_cons, List.map_nil]); first | done | rfl | (simp only [List.length_drop, List.length_take]; rfl)) ?_; (with_reducible refine (strconv_Itoa.calls a0 t101 _ ?side1 A3.out).mono ?_); (case side1 => exact XTab.below HT.out (by repeat (first | (with_reducible first | exact HB.out | apply below_alloc | apply pw_below_drewN | apply below_drew1) | exact HB.out))); rintro e w6 ⟨rfl, hb⟩; refine ⟨_, rfl, ?_⟩; have n0_ := Aside0.mk (below_step (by repeat (first | (with_reducible first | exact HB.out | apply below_alloc | apply pw_below_drewN | apply below_drew1) | exact HB.out)) hb); clear HB; have HB := n0_; clear n0_; (try clear hb); (try clear hb2); (try clear hk); (try clear hi)))
        go_ret
        exact ⟨by first | rfl | (simp [errW_none, errW_some] <;> rfl) | (simp [*, errW_none, errW_some] <;> rfl), by repeat (first | (with_reducible first | exact HB.out | apply below_alloc | apply pw_below_drewN | apply below_drew1) | exact HB.out)⟩
      · rw [if_neg c5] at H
        exact absurd H (by simp)
    · rw [if_neg c4] at H
      exact absurd H (by simp)
  · rw [if_neg c2] at H
    have c2b0 : decide (1 < a0) = false := decide_eq_false c2
    clear c2
    by_cases c7 : 2 + 0 ≤ 9223372036854775807
    · rw [if_pos c7] at H
      have c7b0 := eq_true c7
      have c7b1 : decide (2 + 0 ≤ 9223372036854775807) = true := decide_eq_true c7
      try have c7b2 : (9223372036854775807 < 2 + 0) = False := eq_false (Nat.not_lt.2 c7)
      by_cases c8 : 2 + 0 + 1 ≤ 9223372036854775807
      · rw [if_pos c8] at H
        have c8b0 := eq_true c8
        have c8b1 : decide (2 + 0 + 1 ≤ 9223372036854775807) = true := decide_eq_true c8
        try have c8b2 : (9223372036854775807 < 2 + 0 + 1) = False := eq_false (Nat.not_lt.2 c8)
        obtain rfl := Option.some.inj H
        go_enter Tryd.func15, Tryd.ntmps15
        go_wp2
        go_ret
        exact ⟨by first | rfl | (simp [errW_none, errW_some] <;> rfl) | (simp [*, errW_none, errW_some] <;> rfl), by repeat (first | (with_reducible first | exact HB.out | apply below_alloc | apply pw_below_drewN | apply below_drew1) | exact HB.out)⟩
      · rw [if_neg c8] at H
        exact absurd H (by simp)
    · rw [if_neg c7] at H
      exact absurd H (by simp)
end Go.Proofs.YtjkjnhcnmjknmaaDoor.Y
end
section
namespace Go.Proofs.YtjkjnhcnmjknmaaDoor.Y
open Go.RowKit Go.Proofs.YtjkjnhcnmjknmaaDoorW.PrintWords Go.Proofs.YtjkjnhcnmjknmaaDoorW.PrintLast Go.Proofs.YtjkjnhcnmjknmaaDoorW.PrintMore
attribute [local go_sem] max2_int min2_int max_two min_two max_three min_three max_four min_four   -- for this text's walks alone
set_option linter.unusedVariables false
set_option linter.unusedSimpArgs false
set_option maxHeartbeats 8000000 in
set_option maxRecDepth 100000 in
theorem xansi_PushKittyKeyboard.calls (a0 : Int) (r : ByteArray) (w : World) (hT : XTab w) (h : xansi_PushKittyKeyboard.f a0 = some r) :
    Calls Tryd.prog 41 #[.int .i64 a0] w fun e w' => e = .returned (.string r) ∧ Below w.heap.size w w' := by
  have HT := Aside0.mk hT
  clear hT
  have HB := Aside0.mk (Below.refl w.heap.size w)
  have H : (if a0 > 0 then ((strconv_Itoa.f a0).bind fun t102 => (if 3 + t102.size ≤ 9223372036854775807 then (if 3 + t102.size + 1 ≤ 9223372036854775807 then (some (((⟨#[27, 91, 62]⟩ : ByteArray) ++ t102) ++ (⟨#[117]⟩ : ByteArray))) else (none)) else (none))) else (if 3 + 0 ≤ 9223372036854775807 then (if 3 + 0 + 1 ≤ 9223372036854775807 then (some (((⟨#[27, 91, 62]⟩ : ByteArray) ++ (⟨#[]⟩ : ByteArray)) ++ (⟨#[117]⟩ : ByteArray))) else (none)) else (none))) = some r := h
  clear h
  by_cases c2 : a0 > 0
  · rw [if_pos c2] at H
    have c2b0 : decide (0 < a0) = true := decide_eq_true c2
    clear c2
    replace H := Option.bind_eq_some_iff.mp H
    obtain ⟨t102, A30, H⟩ := H
    replace H : (if 3 + t102.size ≤ 9223372036854775807 then (if 3 + t102.size + 1 ≤ 9223372036854775807 then (some (((⟨#[27, 91, 62]⟩ : ByteArray) ++ t102) ++ (⟨#[117]⟩ : ByteArray))) else (none)) else (none)) = some r := H
    have A3 := Aside0.mk A30
    clear A30
    by_cases c4 : 3 + t102.size ≤ 9223372036854775807
    · rw [if_pos c4] at H
      have c4b0 := eq_true c4
      have c4b1 : decide (3 + t102.size ≤ 9223372036854775807) = true := decide_eq_true c4
      try have c4b2 : (9223372036854775807 < 3 + t102.size) = False := eq_false (Nat.not_lt.2 c4)
      by_cases c5 : 3 + t102.size + 1 ≤ 9223372036854775807
      · rw [if_pos c5] at H
        have c5b0 := eq_true c5
        have c5b1 : decide (3 + t102.size + 1 ≤ 9223372036854775807) = true := decide_eq_true c5
        try have c5b2 : (9223372036854775807 < 3 + t102.size + 1) = False := eq_false (Nat.not_lt.2 c5)
        obtain rfl := Option.some.inj H
        go_enter Tryd.func41, Tryd.ntmps41
        go_wp2_with (first | ((with_reducible refine gate_callee (f := 61) rfl ?_); refine goesL_ (some 7) rfl rfl Tryd.func61 (by kernel_rfl) rfl #[.int .i64 a0] rfl (by (try simp only [List.map_toArray, List.map_cons, List.map_nil]); first | done | rfl | (simp only [List.length_drop, List.length_take]; rfl)) ?_; (with_reducible refine (strconv_Itoa.calls a0 t102 _ ?side1 A3.out).mono ?_); (case side1 => exact XTab.below HT.out (by repeat (first | (with_reducible first | exact HB.out | apply below_alloc | apply pw_below_drewN | apply below_drew1) | exact HB.out))); rintro e w6 ⟨rfl, hb⟩; refine ⟨_, rfl, ?_⟩; have n0_ := Aside0.mk (below_step (by repeat (first | (with_reducible first | exact HB.out | apply below_alloc | apply pw_below_drewN | apply below_drew1) | exact HB.out)) hb); clear HB; have HB := n0_; clear n0_; (try clear hb); (try clear hb2); (try clear hk); (try clear hi)))
        go_ret
        exact ⟨by first | rfl | (simp [errW_none, errW_some] <;> rfl) | (simp [*, errW_none, errW_some] <;> rfl), by repeat (first | (with_reducible first | exact HB.out | apply below_alloc | apply pw_below_drewN | apply below_drew1) | exact HB.out)⟩
      · rw [if_neg c5] at H
        exact absurd H (by simp)
    · rw [if_neg c4] at H
      exact absurd H (by simp)
  · rw [if_neg c2] at H
    have c2b0 : decide (0 < a0) = false := decide_eq_false c2
    clear c2
    by_cases c7 : 3 + 0 ≤ 9223372036854775807
    · rw [if_pos c7] at H
      have c7b0 := eq_true c7
      have c7b1 : decide (3 + 0 ≤ 9223372036854775807) = true := decide_eq_true c7
      try have c7b2 : (9223372036854775807 < 3 + 0) = False := eq_false (Nat.not_lt.2 c7)
      by_cases c8 : 3 + 0 + 1 ≤ 9223372036854775807
      · rw [if_pos c8] at H
        have c8b0 := eq_true c8
        have c8b1 : decide (3 + 0 + 1 ≤ 9223372036854775807) = true := decide_eq_true c8
        try have c8b2 : (9223372036854775807 < 3 + 0 + 1) = False := eq_false (Nat.not_lt.2 c8)
        obtain rfl := Option.some.inj H
        go_enter Tryd.func41, Tryd.ntmps41
        go_wp2
        go_ret
        exact ⟨by first | rfl | (simp [errW_none, errW_some] <;> rfl) | (simp [*, errW_none, errW_some] <;> rfl), by repeat (first | (with_reducible first | exact HB.out | apply below_alloc | apply pw_below_drewN | apply below_drew1) | exact HB.out)⟩
      · rw [if_neg c8] at H
        exact absurd H (by simp)
    · rw [if_neg c7] at H
      exact absurd H (by simp)
end Go.Proofs.YtjkjnhcnmjknmaaDoor.Y
end
section
namespace Go.Proofs.YtjkjnhcnmjknmaaDoor.Y
open Go.RowKit Go.Proofs.YtjkjnhcnmjknmaaDoorW.PrintWords Go.Proofs.YtjkjnhcnmjknmaaDoorW.PrintLast Go.Proofs.YtjkjnhcnmjknmaaDoorW.PrintMore
attribute [local go_sem] max2_int min2_int max_two min_two max_three min_three max_four min_four   -- for this text's walks alone
set_option linter.unusedVariables false
set_option linter.unusedSimpArgs false
set_option maxHeartbeats 8000000 in
set_option maxRecDepth 100000 in
theorem xansi_PopKittyKeyboard.calls (a0 : Int) (r : ByteArray) (w : World) (hT : XTab w) (h : xansi_PopKittyKeyboard.f a0 = some r) :
    Calls Tryd.prog 42 #[.int .i64 a0] w fun e w' => e = .returned (.string r) ∧ Below w.heap.size w w' := by
  have HT := Aside0.mk hT
  clear hT
  have HB := Aside0.mk (Below.refl w.heap.size w)
  have H : (if a0 > 0 then ((strconv_Itoa.f a0).bind fun t103 => (if 3 + t103.size ≤ 9223372036854775807 then (if 3 + t103.size + 1 ≤ 9223372036854775807 then (some (((⟨#[27, 91, 60]⟩ : ByteArray) ++ t103) ++ (⟨#[117]⟩ : ByteArray))) else (none)) else (none))) else (if 3 + 0 ≤ 9223372036854775807 then (if 3 + 0 + 1 ≤ 9223372036854775807 then (some (((⟨#[27, 91, 60]⟩ : ByteArray) ++ (⟨#[]⟩ : ByteArray)) ++ (⟨#[117]⟩ : ByteArray))) else (none)) else (none))) = some r := h
  clear h
  by_cases c2 : a0 > 0
  · rw [if_pos c2] at H
    have c2b0 : decide (0 < a0) = true := decide_eq_true c2
    clear c2
    replace H := Option.bind_eq_some_iff.mp H
    obtain ⟨t103, A30, H⟩ := H
    replace H : (if 3 + t103.size ≤ 9223372036854775807 then (if 3 + t103.size + 1 ≤ 9223372036854775807 then (some (((⟨#[27, 91, 60]⟩ : ByteArray) ++ t103) ++ (⟨#[117]⟩ : ByteArray))) else (none)) else (none)) = some r := H
    have A3 := Aside0.mk A30
    clear A30
    by_cases c4 : 3 + t103.size ≤ 9223372036854775807
    · rw [if_pos c4] at H
      have c4b0 := eq_true c4
      have c4b1 : decide (3 + t103.size ≤ 9223372036854775807) = true := decide_eq_true c4
      try have c4b2 : (9223372036854775807 < 3 + t103.size) = False := eq_false (Nat.not_lt.2 c4)
      by_cases c5 : 3 + t103.size + 1 ≤ 9223372036854775807
      · rw [if_pos c5] at H
        have c5b0 := eq_true c5
        have c5b1 : decide (3 + t103.size + 1 ≤ 9223372036854775807) = true := decide_eq_true c5
        try have c5b2 : (9223372036854775807 < 3 + t103.size + 1) = False := eq_false (Nat.not_lt.2 c5)
        obtain rfl := Option.some.inj H
        go_enter Tryd.func42, Tryd.ntmps42
        go_wp2_with (first | ((with_reducible refine gate_callee (f := 61) rfl ?_); refine goesL_ (some 7) rfl rfl Tryd.func61 (by kernel_rfl) rfl #[.int .i64 a0] rfl (by (try simp only [List.map_toArray, List.map_cons, List.map_nil]); first | done | rfl | (simp only [List.length_drop, List.length_take]; rfl)) ?_; (with_reducible refine (strconv_Itoa.calls a0 t103 _ ?side1 A3.out).mono ?_); (case side1 => exact XTab.below HT.out (by repeat (first | (with_reducible first | exact HB.out | apply below_alloc | apply pw_below_drewN | apply below_drew1) | exact HB.out))); rintro e w6 ⟨rfl, hb⟩; refine ⟨_, rfl, ?_⟩; have n0_ := Aside0.mk (below_step (by repeat (first | (with_reducible first | exact HB.out | apply below_alloc | apply pw_below_drewN | apply below_drew1) | exact HB.out)) hb); clear HB; have HB := n0_; clear n0_; (try clear hb); (try clear hb2); (try clear hk); (try clear hi)))
        go_ret
        exact ⟨by first | rfl | (simp [errW_none, errW_some] <;> rfl) | (simp [*, errW_none, errW_some] <;> rfl), by repeat (first | (with_reducible first | exact HB.out | apply below_alloc | apply pw_below_drewN | apply below_drew1) | exact HB.out)⟩
      · rw [if_neg c5] at H
        exact absurd H (by simp)
    · rw [if_neg c4] at H
      exact absurd H (by simp)
  · rw [if_neg c2] at H
    have c2b0 : decide (0 < a0) = false := decide_eq_false c2
    clear c2
    by_cases c7 : 3 + 0 ≤ 9223372036854775807
    · rw [if_pos c7] at H
      have c7b0 := eq_true c7
      have c7b1 : decide (3 + 0 ≤ 9223372036854775807) = true := decide_eq_true c7
      try have c7b2 : (9223372036854775807 < 3 + 0) = False := eq_false (Nat.not_lt.2 c7)
      by_cases c8 : 3 + 0 + 1 ≤ 9223372036854775807
      · rw [if_pos c8] at H
        have c8b0 := eq_true c8
        have c8b1 : decide (3 + 0 + 1 ≤ 9223372036854775807) = true := decide_eq_true c8
        try have c8b2 : (9223372036854775807 < 3 + 0 + 1) = False := eq_false (Nat.not_lt.2 c8)
        obtain rfl := Option.some.inj H
        go_enter Tryd.func42, Tryd.ntmps42
        go_wp2
        go_ret
        exact ⟨by first | rfl | (simp [errW_none, errW_some] <;> rfl) | (simp [*, errW_none, errW_some] <;> rfl), by repeat (first | (with_reducible first | exact HB.out | apply below_alloc | apply pw_below_drewN | apply below_drew1) | exact HB.out)⟩
      · rw [if_neg c8] at H
        exact absurd H (by simp)
    · rw [if_neg c7] at H
      exact absurd H (by simp)
end Go.Proofs.YtjkjnhcnmjknmaaDoor.Y
end
section
namespace Go.Proofs.YtjkjnhcnmjknmaaDoor.Y
open Go.RowKit Go.Proofs.YtjkjnhcnmjknmaaDoorW.PrintWords Go.Proofs.YtjkjnhcnmjknmaaDoorW.PrintLast Go.Proofs.YtjkjnhcnmjknmaaDoorW.PrintMore
attribute [local go_sem] max2_int min2_int max_two min_two max_three min_three max_four min_four   -- for this text's walks alone
set_option linter.unusedVariables false
set_option linter.unusedSimpArgs false
set_option maxHeartbeats 8000000 in
set_option maxRecDepth 100000 in
theorem xansi_SetProgressBar.calls (a0 : Int) (r : ByteArray) (w : World) (hT : XTab w) (h : xansi_SetProgressBar.f a0 = some r) :
    Calls Tryd.prog 46 #[.int .i64 a0] w fun e w' => e = .returned (.string r) ∧ Below w.heap.size w w' := by
  have HT := Aside0.mk hT
  clear hT
  have HB := Aside0.mk (Below.refl w.heap.size w)
  have H : ((strconv_Itoa.f (mn (mx 0 a0) 100)).bind fun t104 => (if 8 + t104.size ≤ 9223372036854775807 then (if 8 + t104.size + 1 ≤ 9223372036854775807 then (some (((⟨#[27, 93, 57, 59, 52, 59, 49, 59]⟩ : ByteArray) ++ t104) ++ (⟨#[7]⟩ : ByteArray))) else (none)) else (none))) = some r := h
  clear h
  obtain ⟨ji2, hji2⟩ : ∃ j_ : Int, (mx 0 a0) = j_ := ⟨_, rfl⟩
  replace H : ((strconv_Itoa.f (mn (ji2) 100)).bind fun t104 => (if 8 + t104.size ≤ 9223372036854775807 then (if 8 + t104.size + 1 ≤ 9223372036854775807 then (some (((⟨#[27, 93, 57, 59, 52, 59, 49, 59]⟩ : ByteArray) ++ t104) ++ (⟨#[7]⟩ : ByteArray))) else (none)) else (none))) = some r := by first | (rw [hji2] at H; exact H) | (simp only [hji2] at H ⊢; exact H)
  (try (have hji2l : 0 ≤ ji2 := by (rw [← hji2]; unfold mx; (repeat' split) <;> omega)))
  (try (have hji2m : 0 ≤ ji2 := by omega))
  have hji2_ : (if 0 < a0 then a0 else 0) = ji2 := hji2
  obtain ⟨ji3, hji3⟩ : ∃ j_ : Int, (mn (ji2) 100) = j_ := ⟨_, rfl⟩
  replace H : ((strconv_Itoa.f (ji3)).bind fun t104 => (if 8 + t104.size ≤ 9223372036854775807 then (if 8 + t104.size + 1 ≤ 9223372036854775807 then (some (((⟨#[27, 93, 57, 59, 52, 59, 49, 59]⟩ : ByteArray) ++ t104) ++ (⟨#[7]⟩ : ByteArray))) else (none)) else (none))) = some r := by first | (rw [hji3] at H; exact H) | (simp only [hji3] at H ⊢; exact H)
  have hji3_ : (if 100 < (ji2) then 100 else (ji2)) = ji3 := hji3
  replace H := Option.bind_eq_some_iff.mp H
  obtain ⟨t104, A40, H⟩ := H
  replace H : (if 8 + t104.size ≤ 9223372036854775807 then (if 8 + t104.size + 1 ≤ 9223372036854775807 then (some (((⟨#[27, 93, 57, 59, 52, 59, 49, 59]⟩ : ByteArray) ++ t104) ++ (⟨#[7]⟩ : ByteArray))) else (none)) else (none)) = some r := H
  have A4 := Aside0.mk A40
  clear A40
  by_cases c5 : 8 + t104.size ≤ 9223372036854775807
  · rw [if_pos c5] at H
    have c5b0 := eq_true c5
    have c5b1 : decide (8 + t104.size ≤ 9223372036854775807) = true := decide_eq_true c5
    try have c5b2 : (9223372036854775807 < 8 + t104.size) = False := eq_false (Nat.not_lt.2 c5)
    by_cases c6 : 8 + t104.size + 1 ≤ 9223372036854775807
    · rw [if_pos c6] at H
      have c6b0 := eq_true c6
      have c6b1 : decide (8 + t104.size + 1 ≤ 9223372036854775807) = true := decide_eq_true c6
      try have c6b2 : (9223372036854775807 < 8 + t104.size + 1) = False := eq_false (Nat.not_lt.2 c6)
      obtain rfl := Option.some.inj H
      go_enter Tryd.func46, Tryd.ntmps46
      go_wp2_with (first | ((with_reducible refine gate_callee (f := 61) rfl ?_); refine goesL_ (some 6) rfl rfl Tryd.func61 (by kernel_rfl) rfl #[.int .i64 ji3] rfl (by (try simp only [List.map_toArray, List.map_cons, List.map_nil]); first | done | (simp only [hji3]; rfl) | rfl | (simp only [List.length_drop, List.length_take]; rfl)) ?_; (with_reducible refine (strconv_Itoa.calls ji3 t104 _ ?side1 A4.out).mono ?_); (case side1 => exact XTab.below HT.out (by repeat (first | (with_reducible first | exact HB.out | apply below_alloc | apply pw_below_drewN | apply below_drew1) | exact HB.out))); rintro e w7 ⟨rfl, hb⟩; refine ⟨_, rfl, ?_⟩; have n0_ := Aside0.mk (below_step (by repeat (first | (with_reducible first | exact HB.out | apply below_alloc | apply pw_below_drewN | apply below_drew1) | exact HB.out)) hb); clear HB; have HB := n0_; clear n0_; (try clear hb); (try clear hb2); (try clear hk); (try clear hi)))
      go_ret
      exact ⟨by first | rfl | (simp [errW_none, errW_some] <;> rfl) | (simp only [← hji2, ← hji3]; first | rfl | (simp [errW_none, errW_some] <;> rfl)) | (simp [*, errW_none, errW_some] <;> rfl), by repeat (first | (with_reducible first | exact HB.out | apply below_alloc | apply pw_below_drewN | apply below_drew1) | exact HB.out)⟩
    · rw [if_neg c6] at H
      exact absurd H (by simp)
  · rw [if_neg c5] at H
    exact absurd H (by simp)
end Go.Proofs.YtjkjnhcnmjknmaaDoor.Y
end
