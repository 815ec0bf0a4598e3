/- Texts of this claim, joined: XNew XSetH XListen XFeed XShelf XItoa Y69D Y69 Y70D Y70 Y71D Y71 Y72D. Of each, what the claim uses. -/
import Derived.Test.YteebhoehflgfoaaGreatDoorKap
import Derived.Laws.MakeOwn
import Derived.Deep.MidRow
import Derived.Shelf.Strconv.Itoa0
import Derived.Shelf.Strconv.Itoa1
import Derived.Shelf.LaysM
import Derived.Shelf.Strconv.Itoa2
import Derived.Shelf.Strconv.Itoa3
import Derived.Shelf.Bytes.Len
import Derived.Shelf.Bytes.TryGrow
import Derived.Shelf.Bytes.GrowSliceCatch
import Derived.Shelf.Bytes.GrowSlice
import Derived.Test.YteebhoehflgfoaaGreatDoorProg
import Derived.Test.YteebhoehflgfoaaGreatDoorKac
section
namespace Go.Proofs.YteebhoehflgfoaaGreatDoor.X
open Go.RowKit Go.Proofs.YteebhoehflgfoaaGreatDoorW.PrintWords Go.Proofs.YteebhoehflgfoaaGreatDoorW.PrintLast Go.Proofs.YteebhoehflgfoaaGreatDoorW.PrintMore
/-- A parser's block, before it has handlers. -/
def newCells (fs : List Value) (p9 p10 : Value) : Array Value := (fs ++ [p9, p10, .int .i64 0, .int .i64 0, .int .i64 0, .int .u8 0]).toArray
def zeros (n : Nat) : List Int := List.replicate n 0
theorem made_int (k : IntKind) (n : Nat) : madeCells #[.int k 0] n = ints k (zeros n) := by
 apply Array.ext
 ·simp [madeCells, ints, zeros]
 ·intro i h1 h2
  simp [madeCells, ints, zeros, Nat.mod_one]
theorem infoInt : (Tryz.prog.info? 3).map (fun i => (i.zero, i.size, i.bytes)) = some (some (.int .i64 0), 1, 8) := by kernel_rfl
theorem infoByte : (Tryz.prog.info? 5).map (fun i => (i.zero, i.size, i.bytes)) = some (some (.int .u8 0), 1, 1) := by kernel_rfl
theorem make_ints (n : Nat) (hn : n ≤ 65536) (w : World) : (Instr.makeSlice 52 (.int .i64 (n : Int)) (.int .i64 (n : Int))).run Tryz.prog w = .ok (.slice (some ⟨w.heap.size, 0, none⟩) n n) (w.alloc (.cells (ints .i64 (zeros n)) 3)) := by
 obtain ⟨i0, hi, hzz⟩ := Option.map_eq_some_iff.1 infoInt
 simp only [Prod.mk.injEq] at hzz
 obtain ⟨hz0, hz1, hz2⟩ := hzz
 have := run_make (P := Tryz.prog) w 52 3 i0 (.int .i64 0) (by kernel_rfl) hi hz0 .i64 .i64 (n : Int) (n : Int) (by omega) (by omega) (by rw [hz2]; omega) (by omega)
 rw [hz1] at this
 simp only [Int.toNat_natCast, Nat.mul_one] at this
 rw [this, show Value.cells (.int .i64 0) = #[.int .i64 0] from rfl, made_int]
theorem make_bytes (n : Nat) (hn : n ≤ 65536) (w : World) : (Instr.makeSlice 23 (.int .i64 (n : Int)) (.int .i64 (n : Int))).run Tryz.prog w = .ok (.slice (some ⟨w.heap.size, 0, none⟩) n n) (w.alloc (.cells (ints .u8 (zeros n)) 5)) := by
 obtain ⟨i0, hi, hzz⟩ := Option.map_eq_some_iff.1 infoByte
 simp only [Prod.mk.injEq] at hzz
 obtain ⟨hz0, hz1, hz2⟩ := hzz
 have := run_make (P := Tryz.prog) w 23 5 i0 (.int .u8 0) (by kernel_rfl) hi hz0 .i64 .i64 (n : Int) (n : Int) (by omega) (by omega) (by rw [hz2]; omega) (by omega)
 rw [hz1] at this
 simp only [Int.toNat_natCast, Nat.mul_one] at this
 rw [this, show Value.cells (.int .u8 0) = #[.int .u8 0] from rfl, made_int]
theorem nine (fs : List Value) (hf : fs.length = 9) (p9 p10 : Value) : (newCells fs p9 p10)[9]? = some p9 ∧ (newCells fs p9 p10)[10]? = some p10 ∧ (∀ x, (newCells fs p9 p10).setIfInBounds 9 x = newCells fs x p10) ∧ (∀ x, (newCells fs p9 p10).setIfInBounds 10 x = newCells fs p9 x) := by
 match fs, hf with
 | [_, _, _, _, _, _, _, _, _], _ => exact ⟨rfl, rfl, fun _ => rfl, fun _ => rfl⟩
/-- What setting a size leaves. -/
structure Sized (w w' : World) (g q : Nat) (cs ds : Array Value) (t : Nat) : Prop where
 new : w.heap.size ≤ q
 blk : w'.heap[g]? = some (.cells cs 136 (0, 0))
 row : w'.heap[q]? = some (.cells ds t (0, 0))
 size : w.heap.size ≤ w'.heap.size
 keep : ∀ i, i < w.heap.size → i ≠ g → w'.heap[i]? = w.heap[i]?
 below : ∀ B, B ≤ g → B ≤ w.heap.size → Below B w w'
theorem sized_of {w : World} {g : Nat} {cs cs' ds : Array Value} {t j : Nat} {v : Value} (h : w.heap[g]? = some (.cells cs 136 (0, 0))) (hc : cs.setIfInBounds j v = cs') : Sized w ((w.alloc (.cells ds t)).setCell ⟨g, j, none⟩ v) g w.heap.size cs' ds t := by
 have hlt := blk_lt h
 have h1 := blk_alloc h (.cells ds t)
 refine ⟨Nat.le_refl _, ?_, ?_, ?_, fun i hi hne => ?_, fun B hB hBw => ?_⟩
 ·rw [← hc]; exact blk_set h1 j v
 ·exact blk_far (blk_new w _) (p := ⟨g, j, none⟩) (by simp only; omega) v
 ·exact (((below_alloc (Below.refl w.heap.size w) (.cells ds t)).mono (Nat.zero_le _)).setCell (p := ⟨g, j, none⟩) (Nat.zero_le _) v).size
 ·exact (Below.heap_setCell _ ⟨g, j, none⟩ v i hne).trans (Below.heap_alloc w _ i hi)
 ·exact (below_alloc (Below.refl _ _) _).mono hBw |>.setCell hB v
set_option maxRecDepth 200000 in
theorem setParams_calls (n : Nat) (hn : n ≤ 65536) (w : World) (g : Nat) (fs : List Value) (hf : fs.length = 9) (p9 p10 : Value) (h : w.heap[g]? = some (.cells (newCells fs p9 p10) 136 (0, 0))) :
  Calls Tryz.prog 122 #[.pointer (some ⟨g, 0, none⟩), .int .i64 (n : Int)] w fun e w' => e = .returned (.tuple #[]) ∧ ∃ q, Sized w w' g q (newCells fs (.slice (some ⟨q, 0, none⟩) n n) p10) (ints .i64 (zeros n)) 3 := by
 have f9 := blk_frozen (blk_alloc h (.cells (ints .i64 (zeros n)) 3)) 9
 have hs := sized_of (ds := ints .i64 (zeros n)) (t := 3) h ((nine fs hf p9 p10).2.2.1 (.slice (some ⟨w.heap.size, 0, none⟩) n n))
 have c9 : (w.alloc (.cells (ints .i64 (zeros n)) 3)).cell? ⟨g, 9, none⟩ = some p9 := by
  rw [blk_cell (blk_alloc h _)]
  exact (nine fs hf p9 p10).1
 have mk := make_ints n hn w
 have HS := Lib.hid hs
 clear hs h
 go_enter Tryz.func122, Tryz.ntmps122
 go_wp2_with fail
 go_end0
 exact ⟨rfl, _, HS.out⟩
set_option maxRecDepth 200000 in
theorem setData_calls (n : Nat) (hn0 : 0 < n) (hn : n ≤ 65536) (w : World) (g : Nat) (fs : List Value) (hf : fs.length = 9) (p9 p10 : Value) (h : w.heap[g]? = some (.cells (newCells fs p9 p10) 136 (0, 0))) :
  Calls Tryz.prog 123 #[.pointer (some ⟨g, 0, none⟩), .int .i64 (n : Int)] w fun e w' => e = .returned (.tuple #[]) ∧ ∃ q, Sized w w' g q (newCells fs p9 (.slice (some ⟨q, 0, none⟩) n n)) (ints .u8 (zeros n)) 5 := by
 have f9 := blk_frozen (blk_alloc h (.cells (ints .u8 (zeros n)) 5)) 10
 have hs := sized_of (ds := ints .u8 (zeros n)) (t := 5) h ((nine fs hf p9 p10).2.2.2 (.slice (some ⟨w.heap.size, 0, none⟩) n n))
 have c9 : (w.alloc (.cells (ints .u8 (zeros n)) 5)).cell? ⟨g, 10, none⟩ = some p10 := by
  rw [blk_cell (blk_alloc h _)]
  exact (nine fs hf p9 p10).2.1
 have mk := make_bytes n hn w
 have e0 : decide ((n : Int) ≤ 0) = false := decide_eq_false (by omega)
 have HS := Lib.hid hs
 have e1 : n ≠ 0 := by omega
 have e2 : ¬ ((n : Int) ≤ 0) := by omega
 clear hs h
 go_enter Tryz.func123, Tryz.ntmps123
 go_wp2_with fail
 go_end0
 exact ⟨rfl, _, HS.out⟩
def nofs : List Value := [.nilFunc, .nilFunc, .nilFunc, .nilFunc, .nilFunc, .nilFunc, .nilFunc, .nilFunc, .nilFunc]
/-- A parser with its two rows, in a world that keeps what was there. -/
structure Made (w w' : World) (fs : List Value) (g q d n m : Nat) : Prop where
 ng : w.heap.size ≤ g
 nq : w.heap.size ≤ q
 nd : w.heap.size ≤ d
 blk : w'.heap[g]? = some (.cells (newCells fs (.slice (some ⟨q, 0, none⟩) n n) (.slice (some ⟨d, 0, none⟩) m m)) 136 (0, 0))
 row : w'.heap[q]? = some (.cells (ints .i64 (zeros n)) 3 (0, 0))
 dat : w'.heap[d]? = some (.cells (ints .u8 (zeros m)) 5 (0, 0))
 below : Below w.heap.size w w'
set_option maxRecDepth 200000 in
theorem newParser0_calls (w : World) :
  Calls Tryz.prog 121 #[] w fun e w' => ∃ g p9 p10, e = .returned (.pointer (some ⟨g, 0, none⟩)) ∧ w.heap.size ≤ g ∧ w'.heap[g]? = some (.cells (newCells nofs p9 p10) 136 (0, 0)) ∧ Below w.heap.size w w' := by
 have h0 : (w.alloc (.cells (newCells nofs (.slice none 0 0) (.slice none 0 0)) 136)).heap[w.heap.size]? = some (.cells (newCells nofs (.slice none 0 0) (.slice none 0 0)) 136 (0, 0)) := blk_new w _
 have H0 := Lib.hid h0
 clear h0
 go_enter Tryz.func121, Tryz.ntmps121
 go_wp2_with (first
  | (
   go_at_call 122
   refine (setParams_calls 32 (by omega) _ w.heap.size nofs rfl _ _ H0.out).mono ?_
   rintro e w1 ⟨rfl, q, hs⟩
   have H1 := Lib.hid hs
   clear hs)
  | (
   go_at_call 123
   refine (setData_calls 65536 (by omega) (by omega) _ w.heap.size nofs rfl _ _ H1.out.blk).mono ?_
   rintro e w2 ⟨rfl, d, hs⟩
   have H2 := Lib.hid hs
   clear hs))
 go_ret
 refine ⟨_, _, _, rfl, Nat.le_refl _, H2.out.blk, ?_⟩
 have ha := (below_alloc (Below.refl w.heap.size w) (.cells (newCells nofs (.slice none 0 0) (.slice none 0 0)) 136))
 have h1 := H1.out.below w.heap.size (Nat.le_refl _) ha.size
 have h2 := H2.out.below w.heap.size (Nat.le_refl _) (Nat.le_trans ha.size h1.size)
 exact ha.trans (h1.trans h2)
set_option maxRecDepth 200000 in
theorem newParser_calls (w : World) :
  Calls Tryz.prog 59 #[.int .i64 32, .int .i64 4096] w fun e w' => ∃ g q d, e = .returned (.pointer (some ⟨g, 0, none⟩)) ∧ Made w w' nofs g q d 32 4096 := by
 go_enter Tryz.func59, Tryz.ntmps59
 go_wp2_with (first
  | (
   go_at_call 121
   refine (newParser0_calls _).mono ?_
   rintro e w0 ⟨g, p9, p10, rfl, hg, h0, hb⟩
   have H0 := Lib.hid h0
   have HG := Lib.hid hg
   have HB := Lib.hid hb
   clear h0 hg hb)
  | (
   go_at_call 122
   refine (setParams_calls 32 (by omega) _ g nofs rfl _ _ H0.out).mono ?_
   rintro e w1 ⟨rfl, q, hs⟩
   have H1 := Lib.hid hs
   clear hs)
  | (
   go_at_call 123
   refine (setData_calls 4096 (by omega) (by omega) _ g nofs rfl _ _ H1.out.blk).mono ?_
   rintro e w2 ⟨rfl, d, hs⟩
   have H2 := Lib.hid hs
   clear hs))
 go_ret
 have s0 := HB.out.size
 have s1 := H1.out.size
 have n1 := H1.out.new
 have n2 := H2.out.new
 have l1 := blk_lt H1.out.row
 have hne : q ≠ g := by have := blk_lt H0.out; omega
 exact ⟨g, q, d, rfl, HG.out, by omega, by omega, H2.out.blk, (H2.out.keep q l1 hne).trans H1.out.row, H2.out.row, HB.out.trans ((H1.out.below _ HG.out s0).trans (H2.out.below _ HG.out (by omega)))⟩
/-- The nine handlers, which hold the box b. -/
def hfs (b : Nat) : List Value := [.func (.func 125) #[] #[.pointer (some ⟨b, 0, none⟩)], .func (.func 126) #[] #[.pointer (some ⟨b, 0, none⟩)], .func (.func 127) #[] #[.pointer (some ⟨b, 0, none⟩)], .func (.func 129) #[] #[.pointer (some ⟨b, 0, none⟩)], .func (.func 130) #[] #[.pointer (some ⟨b, 0, none⟩)], .func (.func 131) #[] #[.pointer (some ⟨b, 0, none⟩)], .func (.func 132) #[] #[.pointer (some ⟨b, 0, none⟩)], .func (.func 133) #[] #[.pointer (some ⟨b, 0, none⟩)], .func (.func 134) #[] #[.pointer (some ⟨b, 0, none⟩)]]
/-- The parser's cells: nine handlers, then the six others. -/
def pblock (fs tl : List Value) : Array Value := (fs ++ tl).toArray
/-- What setting the handlers leaves. -/
structure Handed (w w' : World) (g b : Nat) (tl : List Value) : Prop where
 blk : w'.heap[g]? = some (.cells (pblock (hfs b) tl) 136 (0, 0))
 size : w.heap.size ≤ w'.heap.size
 keep : ∀ i, i < w.heap.size → i ≠ g → w'.heap[i]? = w.heap[i]?
 below : ∀ B, B ≤ g → B ≤ w.heap.size → Below B w w'
theorem handed_of {b : Nat} {w : World} {g : Nat} {fs : List Value} (hf : fs.length = 9) {tl : List Value} (hl : tl.length = 6) (h : w.heap[g]? = some (.cells (pblock fs tl) 136 (0, 0))) (o : Obj) : Handed w ((w.alloc o).setCells g 0 (hfs b)) g b tl := by
 have h1 := blk_alloc h o
 have ha := below_alloc (Below.refl w.heap.size w) o
 obtain ⟨s1, s2, s3, s4⟩ := setCells_same g (hfs b) 0 (w.alloc o)
 have hsz : w.heap.size ≤ ((w.alloc o).setCells g 0 (hfs b)).heap.size := by rw [s4]; exact ha.size
 have hkeep : ∀ i, i < w.heap.size → i ≠ g → ((w.alloc o).setCells g 0 (hfs b)).heap[i]? = w.heap[i]? := fun i hi hne => (setCells_far (hfs b) 0 i hne).trans (ha.block i hi)
 refine ⟨?_, hsz, hkeep, fun B hB hBw => ⟨s1.trans ha.os, s2.trans ha.tape, s3.trans ha.output, hsz, fun i hi => hkeep i (by omega) (by omega)⟩⟩
 match fs, hf, tl, hl with
 | [_, _, _, _, _, _, _, _, _], _, [t0, t1, t2, t3, t4, t5], _ =>
  obtain ⟨cur', c1, c2, c3⟩ := setCells_row (hfs b) 0 (w.alloc o) _ h1 (by simp [hfs, pblock])
  rw [c1]
  have : cur' = pblock (hfs b) [t0, t1, t2, t3, t4, t5] := by
   apply Array.toList_inj.1
   rw [c3]
   rfl
  rw [this]
theorem infoHandler : (Tryz.prog.info? 134).map (·.size) = some 9 := by kernel_rfl
theorem one_hfs (b : Nat) : (hfs b).toArray.all (·.oneCell') = true := by simp [hfs, Value.oneCell']
theorem there_of {w : World} {g : Nat} {fs : List Value} (hf : fs.length = 9) {tl : List Value} (hl : tl.length = 6) (h : w.heap[g]? = some (.cells (pblock fs tl) 136 (0, 0))) (o : Obj) : (w.alloc o).there g 0 9 := by
 intro j hj
 have h1 := blk_alloc h o
 rw [Nat.zero_add, blk_cell h1 j]
 refine ⟨?_, blk_frozen h1 j⟩
 match fs, hf, tl, hl with
 | [_, _, _, _, _, _, _, _, _], _, [_, _, _, _, _, _], _ => simp [pblock]; omega
set_option maxRecDepth 200000 in
set_option maxHeartbeats 4000000 in
theorem setHandler_calls (b : Nat) (w : World) (g : Nat) (fs : List Value) (hf : fs.length = 9) (tl : List Value) (hl : tl.length = 6) (h : w.heap[g]? = some (.cells (pblock fs tl) 136 (0, 0))) :
  Calls Tryz.prog 124 #[.pointer (some ⟨g, 0, none⟩), .agg #[.func (.func 125) #[] #[.pointer (some ⟨b, 0, none⟩)], .func (.func 126) #[] #[.pointer (some ⟨b, 0, none⟩)], .func (.func 127) #[] #[.pointer (some ⟨b, 0, none⟩)], .func (.func 129) #[] #[.pointer (some ⟨b, 0, none⟩)], .func (.func 130) #[] #[.pointer (some ⟨b, 0, none⟩)], .func (.func 131) #[] #[.pointer (some ⟨b, 0, none⟩)], .func (.func 132) #[] #[.pointer (some ⟨b, 0, none⟩)], .func (.func 133) #[] #[.pointer (some ⟨b, 0, none⟩)], .func (.func 134) #[] #[.pointer (some ⟨b, 0, none⟩)]]] w fun e w' => e = .returned (.tuple #[]) ∧ Handed w w' g b tl := by
 have HH := Lib.hid h
 clear h
 go_enter Tryz.func124, Tryz.ntmps124
 go_wp2_with (
  (with_reducible refine gate_store (t := 134) (p := 7) (v := .tmp 5) rfl ?_)
  refine wpList_store_mid rfl 134 (.tmp 7) (.tmp 5) rfl g 0 #[.func (.func 125) #[] #[.pointer (some ⟨b, 0, none⟩)], .func (.func 126) #[] #[.pointer (some ⟨b, 0, none⟩)], .func (.func 127) #[] #[.pointer (some ⟨b, 0, none⟩)], .func (.func 129) #[] #[.pointer (some ⟨b, 0, none⟩)], .func (.func 130) #[] #[.pointer (some ⟨b, 0, none⟩)], .func (.func 131) #[] #[.pointer (some ⟨b, 0, none⟩)], .func (.func 132) #[] #[.pointer (some ⟨b, 0, none⟩)], .func (.func 133) #[] #[.pointer (some ⟨b, 0, none⟩)], .func (.func 134) #[] #[.pointer (some ⟨b, 0, none⟩)]] rfl rfl (there_of hf hl HH.out _) infoHandler (one_hfs b) ?_
  have HS := Lib.hid (handed_of (b := b) hf hl HH.out (.cells #[.func (.func 125) #[] #[.pointer (some ⟨b, 0, none⟩)], .func (.func 126) #[] #[.pointer (some ⟨b, 0, none⟩)], .func (.func 127) #[] #[.pointer (some ⟨b, 0, none⟩)], .func (.func 129) #[] #[.pointer (some ⟨b, 0, none⟩)], .func (.func 130) #[] #[.pointer (some ⟨b, 0, none⟩)], .func (.func 131) #[] #[.pointer (some ⟨b, 0, none⟩)], .func (.func 132) #[] #[.pointer (some ⟨b, 0, none⟩)], .func (.func 133) #[] #[.pointer (some ⟨b, 0, none⟩)], .func (.func 134) #[] #[.pointer (some ⟨b, 0, none⟩)]] 134))
  change wpList _ _ _ _ _ ((w.alloc (.cells #[.func (.func 125) #[] #[.pointer (some ⟨b, 0, none⟩)], .func (.func 126) #[] #[.pointer (some ⟨b, 0, none⟩)], .func (.func 127) #[] #[.pointer (some ⟨b, 0, none⟩)], .func (.func 129) #[] #[.pointer (some ⟨b, 0, none⟩)], .func (.func 130) #[] #[.pointer (some ⟨b, 0, none⟩)], .func (.func 131) #[] #[.pointer (some ⟨b, 0, none⟩)], .func (.func 132) #[] #[.pointer (some ⟨b, 0, none⟩)], .func (.func 133) #[] #[.pointer (some ⟨b, 0, none⟩)], .func (.func 134) #[] #[.pointer (some ⟨b, 0, none⟩)]] 134)).setCells g 0 (hfs b))
  generalize (w.alloc (.cells #[.func (.func 125) #[] #[.pointer (some ⟨b, 0, none⟩)], .func (.func 126) #[] #[.pointer (some ⟨b, 0, none⟩)], .func (.func 127) #[] #[.pointer (some ⟨b, 0, none⟩)], .func (.func 129) #[] #[.pointer (some ⟨b, 0, none⟩)], .func (.func 130) #[] #[.pointer (some ⟨b, 0, none⟩)], .func (.func 131) #[] #[.pointer (some ⟨b, 0, none⟩)], .func (.func 132) #[] #[.pointer (some ⟨b, 0, none⟩)], .func (.func 133) #[] #[.pointer (some ⟨b, 0, none⟩)], .func (.func 134) #[] #[.pointer (some ⟨b, 0, none⟩)]] 134)).setCells g 0 (hfs b) = w2 at HS ⊢)
 go_end0
 exact ⟨rfl, HS.out⟩
set_option maxRecDepth 200000 in
set_option maxHeartbeats 4000000 in
theorem listen_calls (o : Nat) (w : World) (g : Nat) (fs : List Value) (hf : fs.length = 9) (tl : List Value) (hl : tl.length = 6) (h : w.heap[g]? = some (.cells (pblock fs tl) 136 (0, 0))) :
  Calls Tryz.prog 60 #[.pointer (some ⟨g, 0, none⟩), .pointer (some ⟨o, 0, none⟩)] w fun e w' => e = .returned (.tuple #[]) ∧ ∃ b, w.heap.size ≤ b ∧ Handed w w' g b tl ∧ w'.heap[b]? = some (.cells #[.pointer (some ⟨o, 0, none⟩)] 73 (0, 0)) := by
 have hb := blk_new w (.cells #[.pointer (some ⟨o, 0, none⟩)] 73)
 have h1 := blk_alloc h (.cells #[.pointer (some ⟨o, 0, none⟩)] 73)
 have ha := below_alloc (Below.refl w.heap.size w) (.cells #[.pointer (some ⟨o, 0, none⟩)] 73)
 have hlt := blk_lt h
 have HH := Lib.hid (And.intro hb (And.intro h1 ha))
 clear h hb h1 ha
 go_enter Tryz.func60, Tryz.ntmps60
 go_wp2_with (
  go_at_call 124
  refine (setHandler_calls w.heap.size _ g fs hf tl hl HH.out.2.1).mono ?_
  rintro e w1 ⟨rfl, hs⟩
  have HS := Lib.hid hs
  clear hs)
 go_end0
 obtain ⟨hb, h1, ha⟩ := HH.out
 have hs := HS.out
 refine ⟨rfl, w.heap.size, Nat.le_refl _, ⟨hs.blk, Nat.le_trans ha.size hs.size, fun i hi hne => (hs.keep i (Nat.lt_of_lt_of_le hi ha.size) hne).trans (ha.block i hi), fun B hB hBw => (ha.mono hBw).trans (hs.below B hB (Nat.le_trans hBw ha.size))⟩, ?_⟩
 exact (hs.keep _ (blk_lt hb) (by omega)).trans hb
end Go.Proofs.YteebhoehflgfoaaGreatDoor.X
end
section
namespace Go.Proofs.YteebhoehflgfoaaGreatDoor.Y
open Go.RowKit Go.Proofs.YteebhoehflgfoaaGreatDoorW.PrintWords Go.Proofs.YteebhoehflgfoaaGreatDoorW.PrintLast Go.Proofs.YteebhoehflgfoaaGreatDoorW.PrintMore
/-- What Feed tells. -/
def impl_Feed.f (a0 : Int) (a1 : Int) (l2 : List Int) : Option (List S43) :=
 if a0 = 32 ∧ a1 = 4096 ∧ l2.length ≤ 100000000000 ∧ (∀ x ∈ l2, 0 ≤ x) then (X.run .gr (l2.map Int.toNat)).map fun y => y.2.map X.toS else none
end Go.Proofs.YteebhoehflgfoaaGreatDoor.Y
namespace Go.Proofs.YteebhoehflgfoaaGreatDoor.X
open Go.RowKit Go.Proofs.YteebhoehflgfoaaGreatDoorW.PrintWords Go.Proofs.YteebhoehflgfoaaGreatDoorW.PrintLast Go.Proofs.YteebhoehflgfoaaGreatDoorW.PrintMore
theorem step_one (s : PS) (b : Nat) {s2 : PS} {e : List Ev} (h : step s b = some (s2, e)) : e.length ≤ 1 := by
 cases s <;> simp only [step] at h <;> (repeat' split at h) <;> first | (simp only [Option.some.injEq, Prod.mk.injEq] at h; obtain ⟨_, rfl⟩ := h; simp; done) | simp at h
/-- Where the loop over the bytes stands: i bytes are read, the events so far are evs, and the rest gives the rest. -/
def FeedAt (w4 wr : World) (L : Loc) (l : List Int) (fin : List Ev) (i : Nat) : Prop :=
 ∃ s r evs e2 s2, Inv w4 wr L r evs ∧ Rel s r ∧ evs.length ≤ i ∧ run s ((l.drop i).map Int.toNat) = some (s2, e2) ∧ evs ++ e2 = fin
theorem feed_step {w4 wr : World} {L : Loc} {l : List Int} {fin : List Ev} {i : Nat} (hi : i < l.length) (hl : l.length ≤ 100000000000) (h0 : 0 ≤ l.getD i 0) (h : FeedAt w4 wr L l fin i) :
  Calls Tryz.prog 62 #[.pointer (some ⟨L.P, 0, none⟩), .int .u8 (l.getD i 0)] wr fun e w' => ∃ v, e = .returned v ∧ FeedAt w4 w' L l fin (i + 1) := by
 obtain ⟨s, r, evs, e2, s2, hI, hR, hn, hrun, hfin⟩ := h
 have hd : l.drop i = l.getD i 0 :: l.drop (i + 1) := by
  rw [List.drop_eq_getElem_cons hi]
  simp [hi]
 rw [hd, List.map_cons, run] at hrun
 cases hs : step s (l.getD i 0).toNat with
 | none => rw [hs] at hrun; simp at hrun
 | some x =>
  obtain ⟨s3, e3⟩ := x
  rw [hs] at hrun
  simp only [Option.bind_some, Option.map_eq_some_iff] at hrun
  obtain ⟨⟨s5, e5⟩, hrun2, he⟩ := hrun
  simp only [Prod.mk.injEq] at he
  have hb := byte_calls hI s hR (by omega) (l.getD i 0).toNat hs
  unfold ByteCalls at hb
  rw [Int.toNat_of_nonneg h0] at hb
  refine hb.mono ?_
  rintro e w' ⟨v, rfl, r2, hI2, hR2⟩
  refine ⟨v, rfl, s3, r2, evs ++ e3, e5, s5, hI2, hR2, ?_, hrun2, ?_⟩
  ·have := step_one _ _ hs
   rw [List.length_append]
   omega
  ·rw [List.append_assoc, he.2, hfin]
theorem zeros_len (n : Nat) : (zeros n).length = n := by simp [zeros]
theorem feed_begin {w w1 w3 w4 : World} {g q d b : Nat} {l : List Int} {fin : List Ev} {s2 : PS} {Ad : Option Addr} {cd : Nat} (hM : Made w w1 nofs g q d 32 4096)
  (hH : Handed (w1.alloc (.cells #[.slice none 0 0] 40)) w3 g b [.slice (some ⟨q, 0, none⟩) 32 32, .slice (some ⟨d, 0, none⟩) 4096 4096, .int .i64 0, .int .i64 0, .int .i64 0, .int .u8 0])
  (hbox : w3.heap[b]? = some (.cells #[.pointer (some ⟨w1.heap.size, 0, none⟩)] 73 (0, 0))) (hB4 : Below w3.heap.size w3 w4)
  (hD : Kd.R (Kd.int .u8) 5 w4 w3.heap.size (fun _ => True) (.slice Ad l.length cd) l) (hrun : run .gr (l.map Int.toNat) = some (s2, fin)) :
  ∃ L : Loc, L.P = g ∧ L.out = w1.heap.size ∧ L.B = w.heap.size ∧ (l ≠ [] → Ad = some ⟨L.own, 0, none⟩) ∧ FeedAt w4 w4 L l fin 0 := by
 have lg := blk_lt hM.blk
 have lq := blk_lt hM.row
 have ld := blk_lt hM.dat
 have ha := below_alloc (Below.refl w1.heap.size w1) (.cells #[.slice none 0 0] 40)
 have hsz2 := ha.size
 have hnew := blk_new w1 (.cells #[.slice none 0 0] 40)
 have lnew := blk_lt hnew
 have hqg : q ≠ g := blk_ne hM.row hM.blk (by decide)
 have hdg : d ≠ g := blk_ne hM.dat hM.blk (by decide)
 have up : ∀ {i : Nat} {o : Obj}, i ≠ g → (w1.alloc (.cells #[.slice none 0 0] 40)).heap[i]? = some o → w4.heap[i]? = some o := fun {i} {o} hne hi =>
  blk_below ((hH.keep i (blk_lt hi) hne).trans hi) hB4
 have b3 := hH.size
 have b4 := hB4.size
 have hP : w4.heap[g]? = some (.cells (newCells (hfs b) (.slice (some ⟨q, 0, none⟩) 32 32) (.slice (some ⟨d, 0, none⟩) 4096 4096)) 136 (0, 0)) := blk_below hH.blk hB4
 have hQ := up hqg (blk_alloc hM.row (.cells #[.slice none 0 0] 40))
 have hDt := up hdg (blk_alloc hM.dat (.cells #[.slice none 0 0] 40))
 have hX := blk_below hbox hB4
 have hO := up (by omega) hnew
 have ex : ∃ own : Nat, (l ≠ [] → Ad = some ⟨own, 0, none⟩) ∧ own < w4.heap.size ∧ own ≠ g ∧ own ≠ q ∧ own ≠ d ∧ own ≠ w1.heap.size := by
  by_cases hl : l = []
  ·exact ⟨b, fun h => absurd hl h, blk_lt hX, blk_ne hX hP (by decide), blk_ne hX hQ (by decide), blk_ne hX hDt (by decide), blk_ne hX hO (by decide)⟩
  ·obtain ⟨k, c, e, hk, hk2, _⟩ := Kd.R_form hD (List.length_pos_iff.2 hl)
   injection e with e _ _
   exact ⟨k, fun _ => e, hk2, by omega, by omega, by omega, by omega⟩
 obtain ⟨own, ho, ho1, ho2, ho3, ho4, ho5⟩ := ex
 refine ⟨⟨w.heap.size, w4.heap.size, g, q, d, b, w1.heap.size, own⟩, rfl, rfl, rfl, ho, .gr, ⟨0, 0, 0, 0, zeros 32, zeros 4096⟩, [], fin, s2, ?_, ⟨⟨0, by omega, rfl⟩, rfl⟩, by simp, by simpa using hrun, by simp⟩
 have hb := hM.below.size
 exact ⟨⟨hP, hQ, hDt, hX, zeros_len _, zeros_len _, hM.ng, hM.nq, hM.nd, hb, by simp only; omega, by simp only; omega, by simp only; omega, by simp only; omega, blk_lt hX, by simp only; omega, Nat.le_refl _⟩, ⟨_, hO, Kd.S_nil _ _ _ _ _⟩, Below.refl _ _, fun _ _ _ _ _ _ => rfl, ho1, ho2, ho3, ho4, ho5⟩
theorem feed_end {w4 wr : World} {L : Loc} {l : List Int} {fin : List Ev} {i : Nat} (hi : l.length ≤ i) (h : FeedAt w4 wr L l fin i) :
  ∃ v, wr.cell? ⟨L.out, 0, none⟩ = some v ∧ Kd.S kEv 43 wr L.B (fun _ => True) v (fin.map toS) ∧ Below L.B w4 wr := by
 obtain ⟨s, r, evs, e2, s2, hI, hR, hn, hrun, hfin⟩ := h
 rw [List.drop_of_length_le hi] at hrun
 simp only [List.map_nil, run, Option.some.injEq, Prod.mk.injEq] at hrun
 obtain ⟨_, rfl⟩ := hrun
 rw [List.append_nil] at hfin
 subst hfin
 obtain ⟨v, hv, hS⟩ := hI.evs
 exact ⟨v, blk_cell hv 0, Kd.S_mono (Kd.S_lower hS hI.raw.bL) (fun _ _ => trivial), hI.below⟩
theorem feed_cell {w4 wr : World} {L : Loc} {l : List Int} {fin : List Ev} {i base cd : Nat} (hi : i < l.length) (h : FeedAt w4 wr L l fin i) (hD : Kd.R (Kd.int .u8) 5 w4 base (fun _ => True) (.slice (some ⟨L.own, 0, none⟩) l.length cd) l) :
  wr.cell? ⟨L.own, i, none⟩ = some (.int .u8 (l.getD i 0)) := by
 obtain ⟨s, r, evs, e2, s2, hI, _⟩ := h
 obtain ⟨q1, _⟩ := Kd.R_celln (0 : Int) hD (i : Int) (by omega) (by omega)
 rw [Int.toNat_natCast] at q1
 rw [World.cell?_of_block (w := w4) (by exact hI.own _ hI.olt hI.oP hI.opp hI.opd hI.oout), q1]
 simp [rdOf, hi]
end Go.Proofs.YteebhoehflgfoaaGreatDoor.X
namespace Go.Proofs.YteebhoehflgfoaaGreatDoor.Y
open Go.RowKit Go.Proofs.YteebhoehflgfoaaGreatDoorW.PrintWords Go.Proofs.YteebhoehflgfoaaGreatDoorW.PrintLast Go.Proofs.YteebhoehflgfoaaGreatDoorW.PrintMore
set_option maxRecDepth 200000 in
set_option maxHeartbeats 4000000 in
theorem impl_Feed.calls (a0 : Int) (a1 : Int) (A2 : Option Addr) (c2 : Nat) (l2 : List Int) (r : List S43) (w : World) (hr2 : Kd.C (Kd.int .u8) w A2 l2.length l2) (hc2 : l2.length ≤ c2) (h : impl_Feed.f a0 a1 l2 = some r) :
  Calls Tryz.prog 13 #[.int .i64 a0, .int .i64 a1, .slice A2 l2.length c2] w fun e w' => ∃ v0_ : Value, e = .returned (v0_) ∧ Kd.S k43 43 w' w.heap.size (fun _ => True) v0_ r ∧ Below w.heap.size w w' := by
 unfold impl_Feed.f at h
 split at h
 ·rename_i hc
  obtain ⟨rfl, rfl, hl, hpos⟩ := hc
  obtain ⟨⟨s2, fin⟩, hrun, rfl⟩ := Option.map_eq_some_iff.1 h
  have HC := Lib.hid (And.intro hr2 (And.intro hpos hrun))
  clear h hr2 hpos hrun
  go_enter Tryz.func13, Tryz.ntmps13
  go_wp2_with (first
   | (
    go_at_call 59
    refine (X.newParser_calls _).mono ?_
    rintro e w1 ⟨g, q, d, rfl, hM⟩
    have HM := Lib.hid hM
    clear hM)
   | (
    go_at_call 60
    refine (X.listen_calls w1.heap.size _ g X.nofs rfl _ rfl (blk_alloc HM.out.blk _)).mono ?_
    rintro e w3 ⟨rfl, b, hbn, hH, hbox⟩
    have HH := Lib.hid hH
    have HX := Lib.hid hbox
    clear hbn hH hbox)
   | (
    go_at_call 61
    have hB3 := HM.out.below.trans (((below_alloc (Below.refl w1.heap.size w1) _).mono HM.out.below.size).trans (HH.out.below w.heap.size HM.out.ng (Nat.le_trans HM.out.below.size (below_alloc (Below.refl w1.heap.size w1) _).size)))
    refine (X.own_calls _ _ _ _ (Kd.C_below HC.out.1 hB3) hc2 (by omega)).mono ?_
    rintro e w4 ⟨dv, rfl, hD, hB4⟩
    obtain ⟨Ad, cd, rfl⟩ := Kd.R_slice hD
    have HB := Lib.hid (And.intro hB3 (And.intro hB4 hD))
    clear hB3 hD hB4))
  obtain ⟨L, rfl, ho, hLB, hA, hF⟩ := X.feed_begin HM.out HH.out HX.out HB.out.2.1 HB.out.2.2 HC.out.2.2
  have HA := Lib.hid hA
  have HO := Lib.hid ho
  have HLB := Lib.hid hLB
  clear hA ho hLB
  go_loopg [29] l2.length (fun kq v29 w' => ∃ i : Nat, v29 = .int .i64 (i : Int) ∧ i + kq = l2.length ∧ X.FeedAt w4 w' L l2 fin i)
  case atStart => exact ⟨0, rfl, by omega, hF⟩
  case round =>
   clear hF
   obtain ⟨i, rfl, hk, hF⟩ := hrel
   have e20 : IntKind.i64.wrap ((i : Int) + 1) = ((i + 1 : Nat) : Int) := by rw [IntKind.wrap_i64]; omega
   by_cases hi : i < l2.length
   ·have c1 : decide ((i : Int) < (l2.length : Int)) = true := decide_eq_true (by omega)
    have c2 : (0 : Int) ≤ (i : Int) := by omega
    have c4 : (i : Int) < (l2.length : Int) := by omega
    have hne : l2 ≠ [] := fun e => by rw [e] at hi; simp at hi
    obtain rfl := HA.out hne
    have hcell := X.feed_cell hi hF HB.out.2.2
    have h0 : 0 ≤ l2.getD i 0 := by
     have := HC.out.2.1 (l2[i]) (List.getElem_mem hi)
     simpa [hi] using this
    have HS := Lib.hid (X.feed_step hi hl h0 hF)
    generalize l2.getD i 0 = x at hcell HS h0
    clear hF hne h0
    go_wp2_with (
     go_at_call 62
     refine HS.out.mono ?_
     rintro e w5 ⟨v5, rfl, hF2⟩
     have HF := Lib.hid hF2
     clear hF2)
    go_roundg (l2.length - (i + 1))
    case measure => omega
    case rel => exact ⟨i + 1, by simp, by omega, HF.out⟩
   ·have c1 : decide ((i : Int) < (l2.length : Int)) = false := decide_eq_false (by omega)
    obtain ⟨v, hv, hS, hB⟩ := X.feed_end (by omega) hF
    rw [HO.out] at hv
    rw [HLB.out] at hS hB
    have HE := Lib.hid (And.intro hS hB)
    clear hS hB hF
    go_wp2_with fail
    go_ret
    exact ⟨_, rfl, HE.out.1, HB.out.1.trans ((HB.out.2.1.mono HB.out.1.size).trans HE.out.2)⟩
 ·exact absurd h (by simp)
end Go.Proofs.YteebhoehflgfoaaGreatDoor.Y
end
section
namespace Go.Proofs
open Go.Shelf
def Tryz.laysM171_ren : Go.Shelf.Ren := ⟨fun | 171 => 103 | 243 => 139 | 246 => 163 | 283 => 182 | 284 => 183 | 285 => 184 | 286 => 185 | 129 => 197 | 317 => 196 | 318 => 198 | 319 => 199 | 320 => 200 | 337 => 205 | 338 => 206 | n => n, fun | 3 => 3 | 9 => 9 | 2 => 2 | 4 => 4 | 171 => 183 | 0 => 0 | 53 => 184 | 37 => 23 | 5 => 5 | 173 => 187 | 212 => 202 | 51 => 199 | 20 => 20 | 213 => 203 | 46 => 153 | 232 => 210 | 233 => 211 | n => n, fun | 17 => 3 | 18 => 4 | 19 => 5 | n => n⟩
theorem Tryz.laysM171 : Go.Proofs.LaysM.n171 Tryz.prog Tryz.laysM171_ren := {
 mixed := by kernel_rfl
 f129 := Tryz.func197.trans (congrArg some (by kernel_rfl))
 f171 := Tryz.func103.trans (congrArg some (by kernel_rfl))
 f243 := Tryz.func139.trans (congrArg some (by kernel_rfl))
 f246 := Tryz.func163.trans (congrArg some (by kernel_rfl))
 f283 := Tryz.func182.trans (congrArg some (by kernel_rfl))
 f284 := Tryz.func183.trans (congrArg some (by kernel_rfl))
 f285 := Tryz.func184.trans (congrArg some (by kernel_rfl))
 f286 := Tryz.func185.trans (congrArg some (by kernel_rfl))
 f317 := Tryz.func196.trans (congrArg some (by kernel_rfl))
 f318 := Tryz.func198.trans (congrArg some (by kernel_rfl))
 f319 := Tryz.func199.trans (congrArg some (by kernel_rfl))
 f320 := Tryz.func200.trans (congrArg some (by kernel_rfl))
 f337 := Tryz.func205.trans (congrArg some (by kernel_rfl))
 f338 := Tryz.func206.trans (congrArg some (by kernel_rfl))
 t0 := Tryz.underlying0
 a0 := Tryz.isAgg0
 z0 := Tryz.sizeOf0
 v0 := Tryz.zeroValue0
 t2 := Tryz.underlying2
 a2 := Tryz.isAgg2
 z2 := Tryz.sizeOf2
 v2 := Tryz.zeroValue2
 t3 := Tryz.underlying3
 a3 := Tryz.isAgg3
 z3 := Tryz.sizeOf3
 v3 := Tryz.zeroValue3
 t4 := Tryz.underlying4
 a4 := Tryz.isAgg4
 z4 := Tryz.sizeOf4
 v4 := Tryz.zeroValue4
 t5 := Tryz.underlying5
 a5 := Tryz.isAgg5
 z5 := Tryz.sizeOf5
 v5 := Tryz.zeroValue5
 t9 := Tryz.underlying9
 a9 := Tryz.isAgg9
 z9 := Tryz.sizeOf9
 v9 := Tryz.zeroValue9
 t20 := Tryz.underlying20
 a20 := Tryz.isAgg20
 z20 := Tryz.sizeOf20
 v20 := Tryz.zeroValue20
 t37 := Tryz.underlying23
 a37 := Tryz.isAgg23
 z37 := Tryz.sizeOf23
 v37 := Tryz.zeroValue23
 t46 := Tryz.underlying153
 a46 := Tryz.isAgg153
 z46 := Tryz.sizeOf153
 v46 := Tryz.zeroValue153
 t51 := Tryz.underlying199
 a51 := Tryz.isAgg199
 z51 := Tryz.sizeOf199
 v51 := Tryz.zeroValue199
 t53 := Tryz.underlying184
 a53 := Tryz.isAgg184
 z53 := Tryz.sizeOf184
 v53 := Tryz.zeroValue184
 t171 := Tryz.underlying183
 a171 := Tryz.isAgg183
 z171 := Tryz.sizeOf183
 v171 := Tryz.zeroValue183
 t173 := Tryz.underlying187
 a173 := Tryz.isAgg187
 z173 := Tryz.sizeOf187
 v173 := Tryz.zeroValue187
 t212 := Tryz.underlying202
 a212 := Tryz.isAgg202
 z212 := Tryz.sizeOf202
 v212 := Tryz.zeroValue202
 t213 := Tryz.underlying203
 a213 := Tryz.isAgg203
 z213 := Tryz.sizeOf203
 t232 := Tryz.underlying210
 a232 := Tryz.isAgg210
 z232 := Tryz.sizeOf210
 v232 := Tryz.zeroValue210
 t233 := Tryz.underlying211
 a233 := Tryz.isAgg211
 z233 := Tryz.sizeOf211
 v233 := Tryz.zeroValue211
 g17 := by kernel_rfl
 g18 := by kernel_rfl
 g19 := by kernel_rfl
 i0 := by kernel_rfl
 i2 := by kernel_rfl
 i3 := by kernel_rfl
 i4 := by kernel_rfl
 i5 := by kernel_rfl
 i9 := by kernel_rfl
 i20 := by kernel_rfl
 i37 := by kernel_rfl
 i46 := by kernel_rfl
 i51 := by kernel_rfl
 i53 := by kernel_rfl
 i171 := by kernel_rfl
 i173 := by kernel_rfl
 i212 := by kernel_rfl
 i232 := by kernel_rfl
 i233 := by kernel_rfl
 m17 := by kernel_rfl
 m18 := by kernel_rfl
 m19 := by kernel_rfl }
open Go.RowKit Go.Sort Go.Lib in
/-- strconv.Itoa: "Itoa is equivalent to FormatInt(int64(i), 10).": i's DECIMAL NUMERAL ('Lib.itoa': a '-' where i is negative, then the digits), FOR EVERY int. The world behind the call: the world before it, new blocks behind the heap (the library's 'var a [24]byte'), draws. (LAID: no walk: one application.) -/
theorem Tryz.strconv_Itoa (n : Int) (h0 : -9223372036854775808 ≤ n) (h1 : n ≤ 9223372036854775807) (w : World) (htab : Lib.TabIs Tryz.prog w "internal/strconv.uint64pow10" .u64 Lib.pow10Tab) :
  Calls Tryz.prog 103 #[.int .i64 n] w fun e w' => e = .returned (.string ⟨(Lib.itoa n).toArray⟩) ∧ ∃ k os, w' = grow (w.drewN k) os := Any.strconv_Itoa Tryz.laysM171 n h0 h1 w htab
end Go.Proofs
end
section
namespace Go.Proofs.YteebhoehflgfoaaGreatDoor.Y
open Go.RowKit Go.Proofs.YteebhoehflgfoaaGreatDoorW.PrintWords Go.Proofs.YteebhoehflgfoaaGreatDoorW.PrintLast Go.Proofs.YteebhoehflgfoaaGreatDoorW.PrintMore
theorem below_grow (w : World) (k : Nat) (os : Array Obj) : Below w.heap.size w (Go.Sort.grow (w.drewN k) os) := by
 have h := pw_below_drewN (Below.refl w.heap.size w) k
 refine ⟨h.os, h.tape, h.output, ?_, fun i hi => ?_⟩
 ·show w.heap.size ≤ (w.heap ++ os).size
  rw [Array.size_append]
  omega
 ·show (w.heap ++ os)[i]? = _
  rw [Array.getElem?_append_left hi]
def strconv_Itoa.f (a0 : Int) : Option ByteArray := if -9223372036854775808 ≤ a0 ∧ a0 ≤ 9223372036854775807 then some ⟨(Lib.itoa a0).toArray⟩ else none
theorem strconv_Itoa.calls (a0 : Int) (r : ByteArray) (w : World) (hT : XTab w) (h : strconv_Itoa.f a0 = some r) :
  Calls Tryz.prog 103 #[.int .i64 a0] w fun e w' => e = .returned (.string r) ∧ Below w.heap.size w w' := by
 unfold strconv_Itoa.f at h
 split at h
 ·rename_i hc
  obtain rfl := Option.some.inj h
  refine (Tryz.strconv_Itoa a0 hc.1 hc.2 w hT).mono ?_
  rintro e w' ⟨rfl, k, os, rfl⟩
  exact ⟨rfl, below_grow w k os⟩
 ·exact absurd h (by simp)
end Go.Proofs.YteebhoehflgfoaaGreatDoor.Y
end
section
namespace Go.Proofs.YteebhoehflgfoaaGreatDoor.Y
open Go.RowKit Go.Proofs.YteebhoehflgfoaaGreatDoorW.PrintWords Go.Proofs.YteebhoehflgfoaaGreatDoorW.PrintLast Go.Proofs.YteebhoehflgfoaaGreatDoorW.PrintMore
attribute [local go_sem] max2_int min2_int max_two min_two max_three min_three max_four min_four
set_option linter.unusedVariables false
set_option linter.unusedSimpArgs false
/-! ### xansi_CursorUp: function 69 -/
def xansi_CursorUp.f (a0 : Int) : Option (ByteArray) := if a0 > 1 then ((strconv_Itoa.f a0).bind fun t381 => (if 2 + t381.size ≤ 9223372036854775807 then (if 2 + t381.size + 1 ≤ 9223372036854775807 then (some (((⟨#[27, 91]⟩ : ByteArray) ++ t381) ++ (⟨#[65]⟩ : ByteArray))) else (none)) else (none))) else (if 2 + 0 ≤ 9223372036854775807 then (if 2 + 0 + 1 ≤ 9223372036854775807 then (some (((⟨#[27, 91]⟩ : ByteArray) ++ (⟨#[]⟩ : ByteArray)) ++ (⟨#[65]⟩ : ByteArray))) else (none)) else (none))
set_option maxHeartbeats 8000000 in
set_option maxRecDepth 100000 in
theorem xansi_CursorUp.calls (a0 : Int) (r : ByteArray) (w : World) (hT : XTab w) (h : xansi_CursorUp.f a0 = some r) :
  Calls Tryz.prog 69 #[.int .i64 a0] w fun e w' => e = .returned (.string r) ∧ Below w.heap.size w w' := by
 have HT := Aside0.mk hT
 clear hT
 have HB := Aside0.mk (Below.refl w.heap.size w)
 have H : (if a0 > 1 then ((strconv_Itoa.f a0).bind fun t381 => (if 2 + t381.size ≤ 9223372036854775807 then (if 2 + t381.size + 1 ≤ 9223372036854775807 then (some (((⟨#[27, 91]⟩ : ByteArray) ++ t381) ++ (⟨#[65]⟩ : ByteArray))) else (none)) else (none))) else (if 2 + 0 ≤ 9223372036854775807 then (if 2 + 0 + 1 ≤ 9223372036854775807 then (some (((⟨#[27, 91]⟩ : ByteArray) ++ (⟨#[]⟩ : ByteArray)) ++ (⟨#[65]⟩ : ByteArray))) else (none)) else (none))) = some r := h
 clear h
 by_cases c2 : a0 > 1
 ·rw [if_pos c2] at H
  have c2b0 : decide (1 < a0) = true := decide_eq_true c2
  clear c2
  replace H := Option.bind_eq_some_iff.mp H
  obtain ⟨t381, A30, H⟩ := H
  replace H : (if 2 + t381.size ≤ 9223372036854775807 then (if 2 + t381.size + 1 ≤ 9223372036854775807 then (some (((⟨#[27, 91]⟩ : ByteArray) ++ t381) ++ (⟨#[65]⟩ : ByteArray))) else (none)) else (none)) = some r := H
  have A3 := Aside0.mk A30
  clear A30
  by_cases c4 : 2 + t381.size ≤ 9223372036854775807
  ·rw [if_pos c4] at H
   have c4b0 := eq_true c4
   have c4b1 : decide (2 + t381.size ≤ 9223372036854775807) = true := decide_eq_true c4
   try have c4b2 : (9223372036854775807 < 2 + t381.size) = False := eq_false (Nat.not_lt.2 c4)
   by_cases c5 : 2 + t381.size + 1 ≤ 9223372036854775807
   ·rw [if_pos c5] at H
    have c5b0 := eq_true c5
    have c5b1 : decide (2 + t381.size + 1 ≤ 9223372036854775807) = true := decide_eq_true c5
    try have c5b2 : (9223372036854775807 < 2 + t381.size + 1) = False := eq_false (Nat.not_lt.2 c5)
    obtain rfl := Option.some.inj H
    go_enter Tryz.func69, Tryz.ntmps69
    go_wp2_with (first | ((with_reducible refine gate_callee (f := 103) rfl ?_); refine goesL_ (some 7) rfl rfl Tryz.func103 (by kernel_rfl) rfl #[.int .i64 a0] rfl (by (try simp only [List.map_toArray, List.map_cons, List.map_nil]); first | done | rfl | (simp only [List.length_drop, List.length_take]; rfl)) ?_; (with_reducible refine (strconv_Itoa.calls a0 t381 _ ?side1 A3.out).mono ?_); (case side1 => exact XTab.below HT.out (by repeat (first | (with_reducible first | exact HB.out | apply below_alloc | apply pw_below_drewN | apply below_drew1) | exact HB.out))); rintro e w6 ⟨rfl, hb⟩; refine ⟨_, rfl, ?_⟩; have n0_ := Aside0.mk (below_step (by repeat (first | (with_reducible first | exact HB.out | apply below_alloc | apply pw_below_drewN | apply below_drew1) | exact HB.out)) hb); clear HB; have HB := n0_; clear n0_; (try clear hb); (try clear hb2); (try clear hk); (try clear hi)))
    go_ret
    exact ⟨by first | rfl | (simp [errW_none, errW_some] <;> rfl) | (simp [*, errW_none, errW_some] <;> rfl), by repeat (first | (with_reducible first | exact HB.out | apply below_alloc | apply pw_below_drewN | apply below_drew1) | exact HB.out)⟩
   ·rw [if_neg c5] at H
    exact absurd H (by simp)
  ·rw [if_neg c4] at H
   exact absurd H (by simp)
 ·rw [if_neg c2] at H
  have c2b0 : decide (1 < a0) = false := decide_eq_false c2
  clear c2
  by_cases c7 : 2 + 0 ≤ 9223372036854775807
  ·rw [if_pos c7] at H
   have c7b0 := eq_true c7
   have c7b1 : decide (2 + 0 ≤ 9223372036854775807) = true := decide_eq_true c7
   try have c7b2 : (9223372036854775807 < 2 + 0) = False := eq_false (Nat.not_lt.2 c7)
   by_cases c8 : 2 + 0 + 1 ≤ 9223372036854775807
   ·rw [if_pos c8] at H
    have c8b0 := eq_true c8
    have c8b1 : decide (2 + 0 + 1 ≤ 9223372036854775807) = true := decide_eq_true c8
    try have c8b2 : (9223372036854775807 < 2 + 0 + 1) = False := eq_false (Nat.not_lt.2 c8)
    obtain rfl := Option.some.inj H
    go_enter Tryz.func69, Tryz.ntmps69
    go_wp2
    go_ret
    exact ⟨by first | rfl | (simp [errW_none, errW_some] <;> rfl) | (simp [*, errW_none, errW_some] <;> rfl), by repeat (first | (with_reducible first | exact HB.out | apply below_alloc | apply pw_below_drewN | apply below_drew1) | exact HB.out)⟩
   ·rw [if_neg c8] at H
    exact absurd H (by simp)
  ·rw [if_neg c7] at H
   exact absurd H (by simp)
/-! ### xansi_CursorDown: function 70 -/
def xansi_CursorDown.f (a0 : Int) : Option (ByteArray) := if a0 > 1 then ((strconv_Itoa.f a0).bind fun t382 => (if 2 + t382.size ≤ 9223372036854775807 then (if 2 + t382.size + 1 ≤ 9223372036854775807 then (some (((⟨#[27, 91]⟩ : ByteArray) ++ t382) ++ (⟨#[66]⟩ : ByteArray))) else (none)) else (none))) else (if 2 + 0 ≤ 9223372036854775807 then (if 2 + 0 + 1 ≤ 9223372036854775807 then (some (((⟨#[27, 91]⟩ : ByteArray) ++ (⟨#[]⟩ : ByteArray)) ++ (⟨#[66]⟩ : ByteArray))) else (none)) else (none))
set_option maxHeartbeats 8000000 in
set_option maxRecDepth 100000 in
theorem xansi_CursorDown.calls (a0 : Int) (r : ByteArray) (w : World) (hT : XTab w) (h : xansi_CursorDown.f a0 = some r) :
  Calls Tryz.prog 70 #[.int .i64 a0] w fun e w' => e = .returned (.string r) ∧ Below w.heap.size w w' := by
 have HT := Aside0.mk hT
 clear hT
 have HB := Aside0.mk (Below.refl w.heap.size w)
 have H : (if a0 > 1 then ((strconv_Itoa.f a0).bind fun t382 => (if 2 + t382.size ≤ 9223372036854775807 then (if 2 + t382.size + 1 ≤ 9223372036854775807 then (some (((⟨#[27, 91]⟩ : ByteArray) ++ t382) ++ (⟨#[66]⟩ : ByteArray))) else (none)) else (none))) else (if 2 + 0 ≤ 9223372036854775807 then (if 2 + 0 + 1 ≤ 9223372036854775807 then (some (((⟨#[27, 91]⟩ : ByteArray) ++ (⟨#[]⟩ : ByteArray)) ++ (⟨#[66]⟩ : ByteArray))) else (none)) else (none))) = some r := h
 clear h
 by_cases c2 : a0 > 1
 ·rw [if_pos c2] at H
  have c2b0 : decide (1 < a0) = true := decide_eq_true c2
  clear c2
  replace H := Option.bind_eq_some_iff.mp H
  obtain ⟨t382, A30, H⟩ := H
  replace H : (if 2 + t382.size ≤ 9223372036854775807 then (if 2 + t382.size + 1 ≤ 9223372036854775807 then (some (((⟨#[27, 91]⟩ : ByteArray) ++ t382) ++ (⟨#[66]⟩ : ByteArray))) else (none)) else (none)) = some r := H
  have A3 := Aside0.mk A30
  clear A30
  by_cases c4 : 2 + t382.size ≤ 9223372036854775807
  ·rw [if_pos c4] at H
   have c4b0 := eq_true c4
   have c4b1 : decide (2 + t382.size ≤ 9223372036854775807) = true := decide_eq_true c4
   try have c4b2 : (9223372036854775807 < 2 + t382.size) = False := eq_false (Nat.not_lt.2 c4)
   by_cases c5 : 2 + t382.size + 1 ≤ 9223372036854775807
   ·rw [if_pos c5] at H
    have c5b0 := eq_true c5
    have c5b1 : decide (2 + t382.size + 1 ≤ 9223372036854775807) = true := decide_eq_true c5
    try have c5b2 : (9223372036854775807 < 2 + t382.size + 1) = False := eq_false (Nat.not_lt.2 c5)
    obtain rfl := Option.some.inj H
    go_enter Tryz.func70, Tryz.ntmps70
    go_wp2_with (first | ((with_reducible refine gate_callee (f := 103) rfl ?_); refine goesL_ (some 7) rfl rfl Tryz.func103 (by kernel_rfl) rfl #[.int .i64 a0] rfl (by (try simp only [List.map_toArray, List.map_cons, List.map_nil]); first | done | rfl | (simp only [List.length_drop, List.length_take]; rfl)) ?_; (with_reducible refine (strconv_Itoa.calls a0 t382 _ ?side1 A3.out).mono ?_); (case side1 => exact XTab.below HT.out (by repeat (first | (with_reducible first | exact HB.out | apply below_alloc | apply pw_below_drewN | apply below_drew1) | exact HB.out))); rintro e w6 ⟨rfl, hb⟩; refine ⟨_, rfl, ?_⟩; have n0_ := Aside0.mk (below_step (by repeat (first | (with_reducible first | exact HB.out | apply below_alloc | apply pw_below_drewN | apply below_drew1) | exact HB.out)) hb); clear HB; have HB := n0_; clear n0_; (try clear hb); (try clear hb2); (try clear hk); (try clear hi)))
    go_ret
    exact ⟨by first | rfl | (simp [errW_none, errW_some] <;> rfl) | (simp [*, errW_none, errW_some] <;> rfl), by repeat (first | (with_reducible first | exact HB.out | apply below_alloc | apply pw_below_drewN | apply below_drew1) | exact HB.out)⟩
   ·rw [if_neg c5] at H
    exact absurd H (by simp)
  ·rw [if_neg c4] at H
   exact absurd H (by simp)
 ·rw [if_neg c2] at H
  have c2b0 : decide (1 < a0) = false := decide_eq_false c2
  clear c2
  by_cases c7 : 2 + 0 ≤ 9223372036854775807
  ·rw [if_pos c7] at H
   have c7b0 := eq_true c7
   have c7b1 : decide (2 + 0 ≤ 9223372036854775807) = true := decide_eq_true c7
   try have c7b2 : (9223372036854775807 < 2 + 0) = False := eq_false (Nat.not_lt.2 c7)
   by_cases c8 : 2 + 0 + 1 ≤ 9223372036854775807
   ·rw [if_pos c8] at H
    have c8b0 := eq_true c8
    have c8b1 : decide (2 + 0 + 1 ≤ 9223372036854775807) = true := decide_eq_true c8
    try have c8b2 : (9223372036854775807 < 2 + 0 + 1) = False := eq_false (Nat.not_lt.2 c8)
    obtain rfl := Option.some.inj H
    go_enter Tryz.func70, Tryz.ntmps70
    go_wp2
    go_ret
    exact ⟨by first | rfl | (simp [errW_none, errW_some] <;> rfl) | (simp [*, errW_none, errW_some] <;> rfl), by repeat (first | (with_reducible first | exact HB.out | apply below_alloc | apply pw_below_drewN | apply below_drew1) | exact HB.out)⟩
   ·rw [if_neg c8] at H
    exact absurd H (by simp)
  ·rw [if_neg c7] at H
   exact absurd H (by simp)
/-! ### xansi_CursorForward: function 71 -/
def xansi_CursorForward.f (a0 : Int) : Option (ByteArray) := if a0 > 1 then ((strconv_Itoa.f a0).bind fun t383 => (if 2 + t383.size ≤ 9223372036854775807 then (if 2 + t383.size + 1 ≤ 9223372036854775807 then (some (((⟨#[27, 91]⟩ : ByteArray) ++ t383) ++ (⟨#[67]⟩ : ByteArray))) else (none)) else (none))) else (if 2 + 0 ≤ 9223372036854775807 then (if 2 + 0 + 1 ≤ 9223372036854775807 then (some (((⟨#[27, 91]⟩ : ByteArray) ++ (⟨#[]⟩ : ByteArray)) ++ (⟨#[67]⟩ : ByteArray))) else (none)) else (none))
set_option maxHeartbeats 8000000 in
set_option maxRecDepth 100000 in
theorem xansi_CursorForward.calls (a0 : Int) (r : ByteArray) (w : World) (hT : XTab w) (h : xansi_CursorForward.f a0 = some r) :
  Calls Tryz.prog 71 #[.int .i64 a0] w fun e w' => e = .returned (.string r) ∧ Below w.heap.size w w' := by
 have HT := Aside0.mk hT
 clear hT
 have HB := Aside0.mk (Below.refl w.heap.size w)
 have H : (if a0 > 1 then ((strconv_Itoa.f a0).bind fun t383 => (if 2 + t383.size ≤ 9223372036854775807 then (if 2 + t383.size + 1 ≤ 9223372036854775807 then (some (((⟨#[27, 91]⟩ : ByteArray) ++ t383) ++ (⟨#[67]⟩ : ByteArray))) else (none)) else (none))) else (if 2 + 0 ≤ 9223372036854775807 then (if 2 + 0 + 1 ≤ 9223372036854775807 then (some (((⟨#[27, 91]⟩ : ByteArray) ++ (⟨#[]⟩ : ByteArray)) ++ (⟨#[67]⟩ : ByteArray))) else (none)) else (none))) = some r := h
 clear h
 by_cases c2 : a0 > 1
 ·rw [if_pos c2] at H
  have c2b0 : decide (1 < a0) = true := decide_eq_true c2
  clear c2
  replace H := Option.bind_eq_some_iff.mp H
  obtain ⟨t383, A30, H⟩ := H
  replace H : (if 2 + t383.size ≤ 9223372036854775807 then (if 2 + t383.size + 1 ≤ 9223372036854775807 then (some (((⟨#[27, 91]⟩ : ByteArray) ++ t383) ++ (⟨#[67]⟩ : ByteArray))) else (none)) else (none)) = some r := H
  have A3 := Aside0.mk A30
  clear A30
  by_cases c4 : 2 + t383.size ≤ 9223372036854775807
  ·rw [if_pos c4] at H
   have c4b0 := eq_true c4
   have c4b1 : decide (2 + t383.size ≤ 9223372036854775807) = true := decide_eq_true c4
   try have c4b2 : (9223372036854775807 < 2 + t383.size) = False := eq_false (Nat.not_lt.2 c4)
   by_cases c5 : 2 + t383.size + 1 ≤ 9223372036854775807
   ·rw [if_pos c5] at H
    have c5b0 := eq_true c5
    have c5b1 : decide (2 + t383.size + 1 ≤ 9223372036854775807) = true := decide_eq_true c5
    try have c5b2 : (9223372036854775807 < 2 + t383.size + 1) = False := eq_false (Nat.not_lt.2 c5)
    obtain rfl := Option.some.inj H
    go_enter Tryz.func71, Tryz.ntmps71
    go_wp2_with (first | ((with_reducible refine gate_callee (f := 103) rfl ?_); refine goesL_ (some 7) rfl rfl Tryz.func103 (by kernel_rfl) rfl #[.int .i64 a0] rfl (by (try simp only [List.map_toArray, List.map_cons, List.map_nil]); first | done | rfl | (simp only [List.length_drop, List.length_take]; rfl)) ?_; (with_reducible refine (strconv_Itoa.calls a0 t383 _ ?side1 A3.out).mono ?_); (case side1 => exact XTab.below HT.out (by repeat (first | (with_reducible first | exact HB.out | apply below_alloc | apply pw_below_drewN | apply below_drew1) | exact HB.out))); rintro e w6 ⟨rfl, hb⟩; refine ⟨_, rfl, ?_⟩; have n0_ := Aside0.mk (below_step (by repeat (first | (with_reducible first | exact HB.out | apply below_alloc | apply pw_below_drewN | apply below_drew1) | exact HB.out)) hb); clear HB; have HB := n0_; clear n0_; (try clear hb); (try clear hb2); (try clear hk); (try clear hi)))
    go_ret
    exact ⟨by first | rfl | (simp [errW_none, errW_some] <;> rfl) | (simp [*, errW_none, errW_some] <;> rfl), by repeat (first | (with_reducible first | exact HB.out | apply below_alloc | apply pw_below_drewN | apply below_drew1) | exact HB.out)⟩
   ·rw [if_neg c5] at H
    exact absurd H (by simp)
  ·rw [if_neg c4] at H
   exact absurd H (by simp)
 ·rw [if_neg c2] at H
  have c2b0 : decide (1 < a0) = false := decide_eq_false c2
  clear c2
  by_cases c7 : 2 + 0 ≤ 9223372036854775807
  ·rw [if_pos c7] at H
   have c7b0 := eq_true c7
   have c7b1 : decide (2 + 0 ≤ 9223372036854775807) = true := decide_eq_true c7
   try have c7b2 : (9223372036854775807 < 2 + 0) = False := eq_false (Nat.not_lt.2 c7)
   by_cases c8 : 2 + 0 + 1 ≤ 9223372036854775807
   ·rw [if_pos c8] at H
    have c8b0 := eq_true c8
    have c8b1 : decide (2 + 0 + 1 ≤ 9223372036854775807) = true := decide_eq_true c8
    try have c8b2 : (9223372036854775807 < 2 + 0 + 1) = False := eq_false (Nat.not_lt.2 c8)
    obtain rfl := Option.some.inj H
    go_enter Tryz.func71, Tryz.ntmps71
    go_wp2
    go_ret
    exact ⟨by first | rfl | (simp [errW_none, errW_some] <;> rfl) | (simp [*, errW_none, errW_some] <;> rfl), by repeat (first | (with_reducible first | exact HB.out | apply below_alloc | apply pw_below_drewN | apply below_drew1) | exact HB.out)⟩
   ·rw [if_neg c8] at H
    exact absurd H (by simp)
  ·rw [if_neg c7] at H
   exact absurd H (by simp)
/-! ### xansi_CursorBackward: function 72 -/
def xansi_CursorBackward.f (a0 : Int) : Option (ByteArray) := if a0 > 1 then ((strconv_Itoa.f a0).bind fun t384 => (if 2 + t384.size ≤ 9223372036854775807 then (if 2 + t384.size + 1 ≤ 9223372036854775807 then (some (((⟨#[27, 91]⟩ : ByteArray) ++ t384) ++ (⟨#[68]⟩ : ByteArray))) else (none)) else (none))) else (if 2 + 0 ≤ 9223372036854775807 then (if 2 + 0 + 1 ≤ 9223372036854775807 then (some (((⟨#[27, 91]⟩ : ByteArray) ++ (⟨#[]⟩ : ByteArray)) ++ (⟨#[68]⟩ : ByteArray))) else (none)) else (none))
end Go.Proofs.YteebhoehflgfoaaGreatDoor.Y
end
