/- Texts of this claim, joined: XPure XRaw Z0 Z1D Z1 Z XOwn. Of each, what the claim uses. -/
import Derived.RowKit
import Derived.Test.YteebhoehflgfoaaGreatDoorKac
import Derived.Test.YteebhoehflgfoaaGreatDoorProg
import Derived.Below
import Derived.Deep.Draws
import Derived.Deep.AppendLies
import Derived.Maps.AppendAt
import Derived.OwnWalk
import Derived.Laws.BytesArg
import Derived.Laws.MakeOwn
import Derived.Laws.OwnMore
import Derived.Deep.OwnRows
import Derived.Tactics
import Derived.Lib.ConvBytes
import Derived.Laws.Slices
import Derived.WalkKit
import Derived.KernelRfl
import Derived.RowKit3
import Derived.Deep.LoopGhost
import Derived.Deep.QuietTactic
import Derived.BigQuiet
import Derived.WideLaws
import Derived.Deep.DeepCutAuto
import Derived.Deep.CutBlock
import Derived.Deep.RegionHeld3
import Derived.Laws.Rows
import Derived.Lib.AppendStr
import Derived.ArgAppend
import Derived.Laws.IdiomCopy
import Derived.OrdersHeld
import Derived.Laws.BitsLemmas
import Derived.Test.YteebhoehflgfoaaGreatDoorKaa
import Derived.Test.YteebhoehflgfoaaGreatDoorKab
section
namespace Go.Proofs.YteebhoehflgfoaaGreatDoor.X
/-- What a handler is told. -/
structure Ev where
 kind : Int
 rune : Int
 byte : Int
 cmd : Int
 params : List Int
 data : List Int
deriving DecidableEq
/-- The value that says: no parameter, no command. -/
def Miss : Int := 2147483647
/-- Where the parser stands: ground, behind ESC, in a control sequence (1 entry, 2 intermediate, 3 parameters), in a device's one (4 entry, 6 parameters, 7 its string), in a system command, in an application's command. -/
inductive PS where
 | gr
 | esc
 | csi (k : Nat) (cmd : Int) (ps : List Int) (cur : Int)
 | dcs (k : Nat) (cmd : Int) (ps : List Int) (cur : Int)
 | dstr (cmd : Int) (ps : List Int) (cur : Int) (data : List Int)
 | osc (cmd : Int) (data : List Int)
 | apc (data : List Int)
deriving DecidableEq
/-- A digit behind a parameter. -/
def digit (cur : Int) (b : Nat) : Int := (if cur = Miss then 0 else cur) * 10 + ((b : Int) - 48)
/-- The parameters at the end: the last one counts if it is there, or if there are others. -/
def closed (ps : List Int) (cur : Int) : List Int := if ps = [] ∧ cur = Miss then [] else ps ++ [cur]
/-- The number at the head of a system command's data. -/
def strCmd : List Int → Int → Int
 | [], c => c
 | d :: r, c => if 48 ≤ d ∧ d ≤ 57 then strCmd r ((if c = Miss then 0 else c) * 10 + (d - 48)) else c
/-- How many digits stand at the head. -/
def heads : List Int → Nat
 | [] => 0
 | d :: r => if 48 ≤ d ∧ d ≤ 57 then heads r + 1 else 0
def evPrint (b : Nat) : Ev := ⟨0, b, 0, 0, [], []⟩
def evExec (b : Nat) : Ev := ⟨1, 0, b, 0, [], []⟩
def evCsi (cmd : Int) (ps : List Int) : Ev := ⟨2, 0, 0, cmd, ps, []⟩
def evEsc (b : Nat) : Ev := ⟨3, 0, 0, b, [], []⟩
def evDcs (cmd : Int) (ps data : List Int) : Ev := ⟨4, 0, 0, cmd, ps, data⟩
def evOsc (cmd : Int) (data : List Int) : Ev := ⟨5, 0, 0, cmd, [], data⟩
def evApc (data : List Int) : Ev := ⟨7, 0, 0, 0, [], data⟩
/-- One byte; none: a byte of which nothing is said. -/
def step : PS → Nat → Option (PS × List Ev)
 | .gr, b => if b = 27 then some (.esc, []) else if 32 ≤ b ∧ b ≤ 126 then some (.gr, [evPrint b]) else if b < 32 then some (.gr, [evExec b]) else none
 | .esc, b =>
  if b = 91 then some (.csi 1 0 [] Miss, [])
  else if b = 93 then some (.osc Miss [], [])
  else if b = 80 then some (.dcs 4 0 [] Miss, [])
  else if b = 95 then some (.apc [], [])
  else if b = 55 ∨ b = 56 ∨ b = 92 then some (.gr, [evEsc b])
  else none
 | .csi k cmd ps cur, b =>
  if 64 ≤ b ∧ b ≤ 126 then some (.gr, [evCsi (cmd + b) (closed ps cur)])
  else if 48 ≤ b ∧ b ≤ 57 ∧ k ≠ 2 then (if cur ≤ 100000 ∨ cur = Miss then some (.csi 3 cmd ps (digit cur b), []) else none)
  else if b = 59 ∧ k ≠ 2 then (if ps.length < 29 then some (.csi 3 cmd (ps ++ [cur]) Miss, []) else none)
  else if 60 ≤ b ∧ b ≤ 63 ∧ k = 1 then some (.csi 3 (b * 256) ps cur, [])
  else if 32 ≤ b ∧ b ≤ 47 ∧ k ≠ 2 then some (.csi 2 (cmd + b * 65536) ps cur, [])
  else none
 | .dcs _ cmd ps cur, b =>
  if 64 ≤ b ∧ b ≤ 126 then some (.dstr (cmd + b) ps cur [], [])
  else if 48 ≤ b ∧ b ≤ 57 then (if cur ≤ 100000 ∨ cur = Miss then some (.dcs 6 cmd ps (digit cur b), []) else none)
  else if b = 59 then (if ps.length < 29 then some (.dcs 6 cmd (ps ++ [cur]) Miss, []) else none)
  else none
 | .dstr cmd ps cur data, b =>
  if 32 ≤ b ∧ b ≤ 126 then (if data.length < 4096 then some (.dstr cmd ps cur (data ++ [(b : Int)]), []) else none)
  else if b = 27 then some (.esc, [evDcs cmd (closed ps cur) data])
  else none
 | .osc cmd data, b =>
  if 32 ≤ b ∧ b ≤ 126 then
   (if data.length < 4096 then
    (if b = 59 ∧ cmd = Miss then (if heads data ≤ 6 then some (.osc (strCmd data Miss) (data ++ [(b : Int)]), []) else none) else some (.osc cmd (data ++ [(b : Int)]), []))
   else none)
  else if b = 7 ∨ b = 27 then
   (if cmd = Miss then (if heads data ≤ 6 then some (if b = 7 then .gr else .esc, [evOsc (strCmd data Miss) data]) else none)
   else some (if b = 7 then .gr else .esc, [evOsc cmd data]))
  else none
 | .apc data, b =>
  if 32 ≤ b ∧ b ≤ 126 then (if data.length < 4096 then some (.apc (data ++ [(b : Int)]), []) else none)
  else if b = 27 then some (.esc, [evApc data])
  else none
/-- Bytes, one by one. -/
def run : PS → List Nat → Option (PS × List Ev)
 | s, [] => some (s, [])
 | s, b :: r => (step s b).bind fun x => (run x.1 r).map fun y => (y.1, x.2 ++ y.2)
theorem run_append (l m : List Nat) : ∀ s, run s (l ++ m) = (run s l).bind fun x => (run x.1 m).map fun y => (y.1, x.2 ++ y.2) := by
 induction l with
 | nil => intro s; simp [run]
 | cons b r ih =>
  intro s
  simp only [List.cons_append, run]
  cases h : step s b with
  | none => simp
  | some x =>
   simp only [Option.bind_some, ih]
   cases h2 : run x.1 r with
   | none => simp
   | some y =>
    simp only [Option.bind_some, Option.map_some]
    cases h3 : run y.1 m with
    | none => simp
    | some z => simp [List.append_assoc]
/-- A run is known piece by piece. -/
theorem run_of {s t u : PS} {l m : List Nat} {e f : List Ev} (h : run s l = some (t, e)) (k : run t m = some (u, f)) : run s (l ++ m) = some (u, e ++ f) := by
 rw [run_append, h]
 simp [k]
end Go.Proofs.YteebhoehflgfoaaGreatDoor.X
end
section
namespace Go.Proofs.YteebhoehflgfoaaGreatDoor.X
open Go.RowKit Go.Proofs.YteebhoehflgfoaaGreatDoorW.PrintWords Go.Proofs.YteebhoehflgfoaaGreatDoorW.PrintLast Go.Proofs.YteebhoehflgfoaaGreatDoorW.PrintMore
abbrev SEv := Y.S43
abbrev kEv : Kd SEv := Y.k43
def toS (e : Ev) : SEv := ⟨e.kind, e.rune, e.byte, e.cmd, e.params, e.data⟩
/-- Where things lie: the parser, its parameters, its data, the handlers' captured cell, the events' cell, the row of bytes that is read; blocks below B were there before the call, blocks from L0 on are new. -/
structure Loc where
  (B L0 P pp pd box out own : Nat)
/-- What the parser's block says, and the two rows. -/
structure RawSt where
  (st cmd plen dlen : Int)
  (pc dc : List Int)
def fnv (f : Nat) (L : Loc) : Value := .func (.func f) #[] #[.pointer (some ⟨L.box, 0, none⟩)]
def pcells (L : Loc) (r : RawSt) : Array Value :=
  #[fnv 125 L, fnv 126 L, fnv 127 L, fnv 129 L, fnv 130 L, fnv 131 L, fnv 132 L, fnv 133 L, fnv 134 L,
    .slice (some ⟨L.pp, 0, none⟩) 32 32, .slice (some ⟨L.pd, 0, none⟩) 4096 4096, .int .i64 r.dlen, .int .i64 r.plen, .int .i64 r.cmd, .int .u8 r.st]
def ints (k : IntKind) (l : List Int) : Array Value := (l.map (Value.int k)).toArray
structure Raw (w : World) (L : Loc) (r : RawSt) : Prop where
  hP : w.heap[L.P]? = some (.cells (pcells L r) 136 (0, 0))
  hpp : w.heap[L.pp]? = some (.cells (ints .i64 r.pc) 3 (0, 0))
  hpd : w.heap[L.pd]? = some (.cells (ints .u8 r.dc) 5 (0, 0))
  hbox : w.heap[L.box]? = some (.cells #[.pointer (some ⟨L.out, 0, none⟩)] 73 (0, 0))
  lpc : r.pc.length = 32
  ldc : r.dc.length = 4096
  bP : L.B ≤ L.P
  bpp : L.B ≤ L.pp
  bpd : L.B ≤ L.pd
  bout : L.B ≤ L.out
  bL : L.B ≤ L.L0
  tP : L.P < L.L0
  tpp : L.pp < L.L0
  tpd : L.pd < L.L0
  tbox : L.box < L.L0
  tout : L.out < L.L0
  size : L.L0 ≤ w.heap.size
/-- The events so far. -/
def Evs (w : World) (L : Loc) (evs : List Ev) : Prop :=
  ∃ v, w.heap[L.out]? = some (.cells #[v] 40 (0, 0)) ∧ Kd.S kEv 43 w L.L0 (fun k => L.L0 ≤ k) v (evs.map toS)
/-- All that the parser's methods keep: w0 is the world in which the call began. -/
structure Inv (w0 w : World) (L : Loc) (r : RawSt) (evs : List Ev) : Prop where
  raw : Raw w L r
  evs : Evs w L evs
  below : Below L.B w0 w
  own : ∀ j, j < L.L0 → j ≠ L.P → j ≠ L.pp → j ≠ L.pd → j ≠ L.out → w.heap[j]? = w0.heap[j]?
  olt : L.own < L.L0
  oP : L.own ≠ L.P
  opp : L.own ≠ L.pp
  opd : L.own ≠ L.pd
  oout : L.own ≠ L.out
/-- What a handler leaves alone: every block below L0 but the events' cell. -/
structure Frm (L : Loc) (w w' : World) : Prop where
  size : w.heap.size ≤ w'.heap.size
  keep : ∀ i, i < L.L0 → i ≠ L.out → w'.heap[i]? = w.heap[i]?
  below : Below L.B w w'
section
variable {w0 w w' : World} {L : Loc} {r : RawSt} {evs : List Ev}
theorem Raw.P_ne_pp (h : Raw w L r) : L.P ≠ L.pp := blk_ne h.hP h.hpp (by decide)
theorem Raw.P_ne_pd (h : Raw w L r) : L.P ≠ L.pd := blk_ne h.hP h.hpd (by decide)
theorem Raw.P_ne_box (h : Raw w L r) : L.P ≠ L.box := blk_ne h.hP h.hbox (by decide)
theorem Raw.pp_ne_pd (h : Raw w L r) : L.pp ≠ L.pd := blk_ne h.hpp h.hpd (by decide)
theorem Raw.pp_ne_box (h : Raw w L r) : L.pp ≠ L.box := blk_ne h.hpp h.hbox (by decide)
theorem Raw.pd_ne_box (h : Raw w L r) : L.pd ≠ L.box := blk_ne h.hpd h.hbox (by decide)
theorem Inv.P_ne_out (h : Inv w0 w L r evs) : L.P ≠ L.out := by
  obtain ⟨v, hv, _⟩ := h.evs
  exact blk_ne h.raw.hP hv (by decide)
theorem Inv.pp_ne_out (h : Inv w0 w L r evs) : L.pp ≠ L.out := by
  obtain ⟨v, hv, _⟩ := h.evs
  exact blk_ne h.raw.hpp hv (by decide)
theorem Inv.pd_ne_out (h : Inv w0 w L r evs) : L.pd ≠ L.out := by
  obtain ⟨v, hv, _⟩ := h.evs
  exact blk_ne h.raw.hpd hv (by decide)
theorem Inv.box_ne_out (h : Inv w0 w L r evs) : L.box ≠ L.out := by
  obtain ⟨v, hv, _⟩ := h.evs
  exact blk_ne h.raw.hbox hv (by decide)
theorem Raw.cell (h : Raw w L r) (i : Nat) : w.cell? ⟨L.P, i, none⟩ = (pcells L r)[i]? := blk_cell h.hP i
theorem Raw.frozen (h : Raw w L r) (i : Nat) : w.frozen? ⟨L.P, i, none⟩ = false := blk_frozen h.hP i
theorem Raw.pcell (h : Raw w L r) (i : Nat) (hi : i < 32) : w.cell? ⟨L.pp, i, none⟩ = some (.int .i64 (r.pc.getD i 0)) := by
  rw [blk_cell h.hpp i]
  simp [ints, List.getElem?_eq_getElem (show i < r.pc.length by rw [h.lpc]; exact hi)]
theorem Raw.pfrozen (h : Raw w L r) (i : Nat) : w.frozen? ⟨L.pp, i, none⟩ = false := blk_frozen h.hpp i
theorem Raw.dcell (h : Raw w L r) (i : Nat) (hi : i < 4096) : w.cell? ⟨L.pd, i, none⟩ = some (.int .u8 (r.dc.getD i 0)) := by
  rw [blk_cell h.hpd i]
  simp [ints, List.getElem?_eq_getElem (show i < r.dc.length by rw [h.ldc]; exact hi)]
theorem Raw.dfrozen (h : Raw w L r) (i : Nat) : w.frozen? ⟨L.pd, i, none⟩ = false := blk_frozen h.hpd i
/-- A store into the parser's own block. -/
theorem Raw.setP (h : Raw w L r) (i : Nat) (v : Value) {r' : RawSt} (hc : (pcells L r).setIfInBounds i v = pcells L r') (hpc : r'.pc = r.pc) (hdc : r'.dc = r.dc) : Raw (w.setCell ⟨L.P, i, none⟩ v) L r' :=
  { hP := by rw [← hc]; exact blk_set h.hP i v
    hpp := by rw [hpc]; exact blk_far h.hpp (p := ⟨L.P, i, none⟩) (Ne.symm h.P_ne_pp) v
    hpd := by rw [hdc]; exact blk_far h.hpd (p := ⟨L.P, i, none⟩) (Ne.symm h.P_ne_pd) v
    hbox := blk_far h.hbox (p := ⟨L.P, i, none⟩) (Ne.symm h.P_ne_box) v
    lpc := by rw [hpc]; exact h.lpc
    ldc := by rw [hdc]; exact h.ldc
    bP := h.bP, bpp := h.bpp, bpd := h.bpd, bout := h.bout, bL := h.bL, tP := h.tP, tpp := h.tpp, tpd := h.tpd, tbox := h.tbox, tout := h.tout
    size := by simpa [World.setCell] using h.size }
theorem ints_set (k : IntKind) (l : List Int) (i : Nat) (x : Int) : (ints k l).setIfInBounds i (.int k x) = ints k (l.set i x) := by
  simp [ints, List.map_set]
theorem Raw.setPP (h : Raw w L r) (i : Nat) (x : Int) : Raw (w.setCell ⟨L.pp, i, none⟩ (.int .i64 x)) L { r with pc := r.pc.set i x } :=
  { hP := blk_far h.hP (p := ⟨L.pp, i, none⟩) h.P_ne_pp _
    hpp := by rw [← ints_set]; exact blk_set h.hpp i _
    hpd := blk_far h.hpd (p := ⟨L.pp, i, none⟩) (Ne.symm h.pp_ne_pd) _
    hbox := blk_far h.hbox (p := ⟨L.pp, i, none⟩) (Ne.symm h.pp_ne_box) _
    lpc := by simpa using h.lpc
    ldc := h.ldc
    bP := h.bP, bpp := h.bpp, bpd := h.bpd, bout := h.bout, bL := h.bL, tP := h.tP, tpp := h.tpp, tpd := h.tpd, tbox := h.tbox, tout := h.tout
    size := by simpa [World.setCell] using h.size }
theorem Raw.setPD (h : Raw w L r) (i : Nat) (x : Int) : Raw (w.setCell ⟨L.pd, i, none⟩ (.int .u8 x)) L { r with dc := r.dc.set i x } :=
  { hP := blk_far h.hP (p := ⟨L.pd, i, none⟩) h.P_ne_pd _
    hpp := blk_far h.hpp (p := ⟨L.pd, i, none⟩) h.pp_ne_pd _
    hpd := by rw [← ints_set]; exact blk_set h.hpd i _
    hbox := blk_far h.hbox (p := ⟨L.pd, i, none⟩) (Ne.symm h.pd_ne_box) _
    lpc := h.lpc
    ldc := by simpa using h.ldc
    bP := h.bP, bpp := h.bpp, bpd := h.bpd, bout := h.bout, bL := h.bL, tP := h.tP, tpp := h.tpp, tpd := h.tpd, tbox := h.tbox, tout := h.tout
    size := by simpa [World.setCell] using h.size }
theorem Evs.far (h : Evs w L evs) {p : Addr} (hp : p.block < L.L0) (ho : L.out ≠ p.block) (v : Value) : Evs (w.setCell p v) L evs := by
  obtain ⟨x, hx, hS⟩ := h
  exact ⟨x, blk_far hx ho v, Kd.S_far hS (fun k hk e => by omega) v⟩
theorem Inv.setP (h : Inv w0 w L r evs) (i : Nat) (v : Value) {r' : RawSt} (hc : (pcells L r).setIfInBounds i v = pcells L r') (hpc : r'.pc = r.pc) (hdc : r'.dc = r.dc) : Inv w0 (w.setCell ⟨L.P, i, none⟩ v) L r' evs :=
  ⟨h.raw.setP i v hc hpc hdc, h.evs.far (p := ⟨L.P, i, none⟩) h.raw.tP (Ne.symm h.P_ne_out) v, h.below.setCell h.raw.bP v, fun j h1 h2 h3 h4 h5 => (Below.heap_setCell w ⟨L.P, i, none⟩ v _ h2).trans (h.own j h1 h2 h3 h4 h5), h.olt, h.oP, h.opp, h.opd, h.oout⟩
theorem Inv.setPP (h : Inv w0 w L r evs) (i : Nat) (x : Int) : Inv w0 (w.setCell ⟨L.pp, i, none⟩ (.int .i64 x)) L { r with pc := r.pc.set i x } evs :=
  ⟨h.raw.setPP i x, h.evs.far (p := ⟨L.pp, i, none⟩) h.raw.tpp (Ne.symm h.pp_ne_out) _, h.below.setCell h.raw.bpp _, fun j h1 h2 h3 h4 h5 => (Below.heap_setCell w ⟨L.pp, i, none⟩ _ _ h3).trans (h.own j h1 h2 h3 h4 h5), h.olt, h.oP, h.opp, h.opd, h.oout⟩
theorem Inv.setPD (h : Inv w0 w L r evs) (i : Nat) (x : Int) : Inv w0 (w.setCell ⟨L.pd, i, none⟩ (.int .u8 x)) L { r with dc := r.dc.set i x } evs :=
  ⟨h.raw.setPD i x, h.evs.far (p := ⟨L.pd, i, none⟩) h.raw.tpd (Ne.symm h.pd_ne_out) _, h.below.setCell h.raw.bpd _, fun j h1 h2 h3 h4 h5 => (Below.heap_setCell w ⟨L.pd, i, none⟩ _ _ h4).trans (h.own j h1 h2 h3 h4 h5), h.olt, h.oP, h.opp, h.opd, h.oout⟩
theorem Inv.setCmd (h : Inv w0 w L r evs) (x : Int) : Inv w0 (w.setCell ⟨L.P, 13, none⟩ (.int .i64 x)) L { r with cmd := x } evs := h.setP 13 _ (by rfl) rfl rfl
theorem Inv.setPlen (h : Inv w0 w L r evs) (x : Int) : Inv w0 (w.setCell ⟨L.P, 12, none⟩ (.int .i64 x)) L { r with plen := x } evs := h.setP 12 _ (by rfl) rfl rfl
theorem Inv.setDlen (h : Inv w0 w L r evs) (x : Int) : Inv w0 (w.setCell ⟨L.P, 11, none⟩ (.int .i64 x)) L { r with dlen := x } evs := h.setP 11 _ (by rfl) rfl rfl
theorem Inv.setSt (h : Inv w0 w L r evs) (x : Int) : Inv w0 (w.setCell ⟨L.P, 14, none⟩ (.int .u8 x)) L { r with st := x } evs := h.setP 14 _ (by rfl) rfl rfl
/-- Behind draws, new blocks. -/
theorem Inv.grow (h : Inv w0 w L r evs) (hb : Below w.heap.size w w') : Inv w0 w' L r evs :=
  have k := h.raw
  ⟨{ hP := blk_below k.hP hb, hpp := blk_below k.hpp hb, hpd := blk_below k.hpd hb, hbox := blk_below k.hbox hb, lpc := k.lpc, ldc := k.ldc, bP := k.bP, bpp := k.bpp, bpd := k.bpd, bout := k.bout, bL := k.bL, tP := k.tP, tpp := k.tpp, tpd := k.tpd, tbox := k.tbox, tout := k.tout, size := Nat.le_trans k.size hb.size },
   by obtain ⟨x, hx, hS⟩ := h.evs; exact ⟨x, blk_below hx hb, Kd.S_below hS hb⟩,
   h.below.trans (hb.mono (Nat.le_trans k.bL k.size)), fun j h1 h2 h3 h4 h5 => (hb.block _ (Nat.lt_of_lt_of_le h1 k.size)).trans (h.own j h1 h2 h3 h4 h5), h.olt, h.oP, h.opp, h.opd, h.oout⟩
/-- Behind a handler. -/
theorem Inv.told (h : Inv w0 w L r evs) (hf : Frm L w w') {evs' : List Ev} (he : Evs w' L evs') : Inv w0 w' L r evs' :=
  have k := h.raw
  ⟨{ hP := (hf.keep _ k.tP h.P_ne_out).trans k.hP, hpp := (hf.keep _ k.tpp h.pp_ne_out).trans k.hpp, hpd := (hf.keep _ k.tpd h.pd_ne_out).trans k.hpd, hbox := (hf.keep _ k.tbox h.box_ne_out).trans k.hbox, lpc := k.lpc, ldc := k.ldc, bP := k.bP, bpp := k.bpp, bpd := k.bpd, bout := k.bout, bL := k.bL, tP := k.tP, tpp := k.tpp, tpd := k.tpd, tbox := k.tbox, tout := k.tout, size := Nat.le_trans k.size hf.size },
   he, h.below.trans hf.below, fun j h1 h2 h3 h4 h5 => (hf.keep _ h1 h5).trans (h.own j h1 h2 h3 h4 h5), h.olt, h.oP, h.opp, h.opd, h.oout⟩
end
end Go.Proofs.YteebhoehflgfoaaGreatDoor.X
end
section
namespace Go.Proofs.YteebhoehflgfoaaGreatDoor.Z
open Go.RowKit Go.Proofs.YteebhoehflgfoaaGreatDoorW.PrintWords Go.Proofs.YteebhoehflgfoaaGreatDoorW.PrintLast Go.Proofs.YteebhoehflgfoaaGreatDoorW.PrintMore
attribute [local go_sem] max2_int min2_int max_two min_two max_three min_three max_four min_four
set_option linter.unusedVariables false
set_option linter.unusedSimpArgs false
def errW : Option Int → Value
 | none => .nilIface
 | some c => .iface 0 (.int .i64 c)
theorem errW_none : errW none = .nilIface := rfl
theorem errW_some (c : Int) : errW (some c) = .iface 0 (.int .i64 c) := rfl
theorem info2 : (Tryz.prog.info? 2).map (fun i => (i.zero, i.size, i.bytes)) = some (some (.int .i64 0), 1, 8) := by kernel_rfl
-- the values' own types
/-! ### impl_ints: function 128 -/
def impl_ints.l0 : Nat → List Int → List Int → Int → Int → Option (List Int)
 | 0, _, _, _, _ => none
 | k + 1, x3, x6, x7, x8 => if x8 < x7 then (if 0 ≤ x8 then (if x8 < (x6.length : Int) then (if x3.length < 17592186044416 then (impl_ints.l0 k (x3 ++ [rd x6 x8]) x6 x7 (wrap64 (x8 + 1))) else (none)) else (none)) else (none)) else (some x3)
def impl_ints.f (k : Nat) (l0 : List Int) : Option (List Int) := impl_ints.l0 k ([] : List Int) l0 (l0.length : Int) 0
set_option maxHeartbeats 8000000 in
set_option maxRecDepth 100000 in
theorem impl_ints.calls (k : Nat) (A0 : Option Addr) (c0 : Nat) (l0 : List Int) (r : List Int) (w : World) (hr0 : Kd.C (Kd.int .i64) w A0 l0.length l0) (hc0 : l0.length ≤ c0) (h : impl_ints.f k l0 = some r) :
  Calls Tryz.prog 128 #[.slice A0 l0.length c0] w fun e w' => ∃ v0_ : Value, e = .returned (v0_) ∧ Kd.R (Kd.int .i64) 2 w' w.heap.size (fun _ => True) v0_ r ∧ Below w.heap.size w w' := by
 have HR0 := Aside0.mk hr0
 have HC0 := Aside0.mk hc0
 clear hr0 hc0
 have HB := Aside0.mk (Below.refl w.heap.size w)
 have H : (impl_ints.l0 k ([] : List Int) l0 (l0.length : Int) 0) = some r := h
 clear h
 have H' := Aside0.mk H
 clear H
 go_enter Tryz.func128, Tryz.ntmps128
 go_wp2
 go_loopg [3, 8] k (fun kq v3 v8 w' => ∃ (x3_1 : List Int) (x8_1 : Int), v8 = .int .i64 x8_1 ∧ Aside0 (impl_ints.l0 kq x3_1 l0 (l0.length : Int) x8_1 = some r) ∧ Aside0 (kq ≤ k) ∧ Aside0 (Kd.R (Kd.int .i64) 2 w' w.heap.size (fun _ => True) v3 x3_1) ∧ Aside0 (Below w.heap.size w w'))
 case atStart => exact ⟨(([] : List Int)), (0), (by first | rfl | (simp; done) | (simp [*]; done)), H', ⟨Nat.le_refl _⟩, ⟨by first | exact Kd.R_nil _ _ _ _ _ | exact Kd.N_nil _ _ _ _ _ | exact Kd.V_nil _ _ _ _ _ | exact Kd.Q_nil _ _ _ _ _ | exact Kd.S_nil _ _ _ _ _⟩, ⟨by repeat (first | (with_reducible first | exact HB.out | apply below_alloc | apply pw_below_drewN | apply below_drew1) | exact HB.out)⟩⟩
 case round =>
  clear H'
  try clear c1
  obtain ⟨x3_1, x8_1, rfl, HA, HK1, HO_3, HB⟩ := hrel
  cases gk with
  | zero => exact absurd HA.out (by simp [impl_ints.l0])
  | succ k1 =>
   have H := HA.out
   clear HA
   simp only [impl_ints.l0] at H
   by_cases c2 : x8_1 < (l0.length : Int)
   ·rw [if_pos c2] at H
    have c2b0 : decide (x8_1 < (l0.length : Int)) = true := decide_eq_true c2
    clear c2
    by_cases c3 : 0 ≤ x8_1
    ·rw [if_pos c3] at H
     have c3b0 : decide (0 ≤ x8_1) = true := decide_eq_true c3
     clear c3
     by_cases c4 : x8_1 < (l0.length : Int)
     ·rw [if_pos c4] at H
      have c4b0 : decide (x8_1 < (l0.length : Int)) = true := decide_eq_true c4
      clear c4
      by_cases c5 : x3_1.length < 17592186044416
      ·rw [if_pos c5] at H
       have LMc5 := Aside0.mk c5
       clear c5
       obtain ⟨y102, hy102⟩ : ∃ y_ : List Int, y_ = (x3_1 ++ [rd l0 x8_1]) := ⟨_, rfl⟩
       replace H : (impl_ints.l0 k1 y102 l0 (l0.length : Int) (wrap64 (x8_1 + 1))) = some r := by first | (rw [hy102]; with_reducible exact H) | (have H2_ := (Option.bind_some _ _).symm.trans H; rw [hy102]; with_reducible exact H2_) | (have H2_ := (Option.bind_some _ _).symm.trans H; with_reducible exact H2_) | with_reducible exact H | (rw [hy102]; exact H) | exact H
       have Ny102 := Aside0.mk hy102
       clear hy102
       have H' := Aside0.mk H
       clear H
       have p101 : 0 ≤ (x8_1 : Int) := of_decide_eq_true (by first | (with_reducible assumption) | assumption)
       have q101 : x8_1 < (l0.length : Int) := of_decide_eq_true (by first | (with_reducible assumption) | assumption)
       obtain ⟨ad101, e101, hx101_0⟩ := Kd.at_int HR0.out x8_1 p101 q101
       cases e101
       replace hx101_0 := (HB.out.cell (World.block_lt_of_cell? w _ hx101_0)).trans hx101_0
       replace p101 := eq_true p101
       replace q101 := eq_true q101
       go_wp2_with (first | ((with_reducible refine gate_builtin (b := .append) (xs := #[.tmp 12, .tmp 14]) rfl ?_); at_builtin; refine Kd.R_append (Kd.int .i64) (w0 := w) w.heap.size rfl (.tmp 12) (.tmp 14) 29 2 (.int .i64 0) 8 rfl Tryz.underlying29 info2 rfl (by decide) (by omega) u3 x3_1 (rd l0 x8_1) [.int .i64 (rd l0 x8_1)] (fun _ => True) (fun _ => False) rfl rfl ?aP (fun _ hk => hk.elim) ?aF ?aO ?aB ?aS ?aL ?_; (case aP => exact rfl); (case aB => exact (by repeat (first | (with_reducible first | exact HB.out | apply below_alloc | apply pw_below_drewN | apply below_drew1) | exact HB.out))); (case aF => exact (fun _ _ => trivial)); (case aO => exact (by (with_reducible repeat (first | apply Kd.R_alloc | apply Kd.R_drewN | apply Kd.R_drew)); exact HO_3.out)); (case aS => exact (below_size (by repeat (first | (with_reducible first | exact HB.out | apply below_alloc | apply pw_below_drewN | apply below_drew1) | exact HB.out)))); (case aL => have := LMc5.out; omega); intro v103 w6 ho hb hg hat; rw [← Ny102.out] at ho; have n0_ := Aside0.mk (hb); have n1_ := Aside0.mk (ho); clear HB; clear HO_3; have HB := n0_; have HO104 := n1_; clear n0_ n1_; clear ho hb hg hat))
       go_roundg k1
       case measure => have := HK1.out; omega
       case rel => exact ⟨(y102), (wrap64 (x8_1 + 1)), (by first | rfl | (simp; done) | (simp [*]; done)), H', ⟨by have := HK1.out; omega⟩, ⟨by (with_reducible repeat (first | apply Kd.R_alloc | apply Kd.R_drewN | apply Kd.R_drew)); exact HO104.out⟩, ⟨by repeat (first | (with_reducible first | exact HB.out | apply below_alloc | apply pw_below_drewN | apply below_drew1) | exact HB.out)⟩⟩
      ·rw [if_neg c5] at H
       exact absurd H (by simp)
     ·rw [if_neg c4] at H
      exact absurd H (by simp)
    ·rw [if_neg c3] at H
     exact absurd H (by simp)
   ·rw [if_neg c2] at H
    have c2b0 : decide (x8_1 < (l0.length : Int)) = false := decide_eq_false c2
    clear c2
    obtain rfl := Option.some.inj H
    go_wp2
    go_ret
    exact ⟨_, by first | rfl | (simp [errW_none, errW_some] <;> rfl) | (simp [*, errW_none, errW_some] <;> rfl), by (with_reducible repeat (first | apply Kd.R_alloc | apply Kd.R_drewN | apply Kd.R_drew)); exact HO_3.out, by repeat (first | (with_reducible first | exact HB.out | apply below_alloc | apply pw_below_drewN | apply below_drew1) | exact HB.out)⟩
-- NOT PRINTED: function 61 (impl_own)

end Go.Proofs.YteebhoehflgfoaaGreatDoor.Z
end
section
namespace Go.Proofs.YteebhoehflgfoaaGreatDoor.X
open Go.RowKit Go.Proofs.YteebhoehflgfoaaGreatDoorW.PrintWords Go.Proofs.YteebhoehflgfoaaGreatDoorW.PrintLast Go.Proofs.YteebhoehflgfoaaGreatDoorW.PrintMore
set_option linter.unusedSimpArgs false
set_option linter.unusedVariables false
theorem infoU8 : (Tryz.prog.info? 5).map (fun i => (i.zero, i.size, i.bytes)) = some (some (.int .u8 0), 1, 1) := by kernel_rfl
theorem own_calls (A0 : Option Addr) (c0 : Nat) (l : List Int) (w : World) (hr : Kd.C (Kd.int .u8) w A0 l.length l) (hc : l.length ≤ c0) (hl : l.length ≤ 140737488355328) :
  Calls Tryz.prog 61 #[.slice A0 l.length c0] w fun e w' => ∃ v : Value, e = .returned v ∧ Kd.R (Kd.int .u8) 5 w' w.heap.size (fun _ => True) v l ∧ Below w.heap.size w w' := by
 have HR := Lib.hid hr
 have HL := Lib.hid hl
 clear hr hl
 go_enter Tryz.func61, Tryz.ntmps61
 go_wp2_with ((with_reducible refine gate_builtin (b := .append) (xs := #[.const (.slice none 0 0), .tmp 3]) rfl ?_); at_builtin; refine Kd.R_append_rows (Kd.int .u8) (w0 := w) w.heap.size rfl (.const (.slice none 0 0)) (.tmp 3) 23 5 (.int .u8 0) 1 rfl Tryz.underlying23 infoU8 rfl (by decide) (by omega) (.slice none 0 0) [] l _ _ _ (fun _ => True) (fun _ => False) rfl rfl (Kd.R_nil _ _ _ _ _) (HR.out) (fun _ _ h => h) (fun _ h => h.elim) (fun _ _ => trivial) (Below.refl _ _) (Nat.le_refl _) (by simpa using HL.out) ?_; intro v1 w1 hO hB hg hat)
 go_ret
 exact ⟨_, rfl, by simpa using hO, hB⟩
theorem ints_l0 (l : List Int) (hl : l.length < 1000000) : ∀ (n i : Nat) (xs : List Int), l.length = i + n → xs = l.take i → Z.impl_ints.l0 (n + 1) xs l (l.length : Int) (i : Int) = some l
 | 0, i, xs, h, hx => by
  subst hx
  simp [Z.impl_ints.l0, show i = l.length by omega]
 | n + 1, i, xs, h, hx => by
  have h1 : ((i : Int) < (l.length : Int)) := by omega
  have h2 : i < l.length := by omega
  have h3 : wrap64 ((i : Int) + 1) = ((i + 1 : Nat) : Int) := by unfold wrap64; omega
  have h4 : rd l (i : Int) = l[i] := by simp [rd, h2]
  have h5 : xs.length < 17592186044416 := by rw [hx, List.length_take]; omega
  rw [Z.impl_ints.l0, if_pos h1, if_pos (by omega), if_pos h1, if_pos h5, h3, h4]
  exact ints_l0 l hl n (i + 1) _ (by omega) (by rw [hx, List.take_succ_eq_append_getElem h2])
theorem ints_f (l : List Int) (hl : l.length < 1000000) : Z.impl_ints.f (l.length + 1) l = some l := by
 unfold Z.impl_ints.f
 exact ints_l0 l hl l.length 0 [] (by omega) (by simp)
theorem ints_calls (A0 : Option Addr) (c0 : Nat) (l : List Int) (w : World) (hr : Kd.C (Kd.int .i64) w A0 l.length l) (hc : l.length ≤ c0) (hl : l.length < 1000000) :
  Calls Tryz.prog 128 #[.slice A0 l.length c0] w fun e w' => ∃ v : Value, e = .returned v ∧ Kd.R (Kd.int .i64) 2 w' w.heap.size (fun _ => True) v l ∧ Below w.heap.size w w' :=
 Z.impl_ints.calls (l.length + 1) A0 c0 l l w hr hc (ints_f l hl)
end Go.Proofs.YteebhoehflgfoaaGreatDoor.X
end
