/- The parser of control sequences as a plain function on bytes, for the bytes that the laws' texts hold. No program in sight, no conditions. -/
/- The parser's memory: its own block, the blocks of parameters and data, the cell of the events. Movers of these facts. No conditions of its own. -/
/- The copies that the handlers make: 'own' (bytes), 'ints' (parameters). Conditions: the row fits in memory. -/
/- The handlers: what each tells is appended to the events; no block but the events' cell and new ones turns. No conditions of its own but the number of events and the rows' lengths. Written by wip/tool/gen_hand.py. -/
/- The parser's methods: what each does to the parser's memory. Conditions: those of the memory's invariant. -/
import Derived.RowKit
import Derived.Test.YtgcbnegdchladaaDoorCY0
import Derived.Test.YtgcbnegdchladaaDoorCBase
import Derived.Laws.BitsLemmas
import Derived.Lib.Hide
import Derived.Deep.RegionHeld3
import Derived.Deep.DrawnRows
import Derived.Laws.Closers25
namespace Go.Proofs.YtgcbnegdchladaaDoor.X

/-- What a handler is told. -/
structure Ev where
  kind : Int
  rune : Int
  byte : Int
  cmd : Int
  params : List Int
  data : List Int
deriving DecidableEq

/-- The value that says: no parameter, no command. -/
def Miss : Int := 2147483647

/-- Where the parser stands: ground, behind ESC, in a control sequence (1 entry, 2 intermediate, 3 parameters), in a device's one (4 entry, 6 parameters, 7 its string), in a system command, in an application's command. -/
inductive PS where
  | gr
  | esc
  | csi (k : Nat) (cmd : Int) (ps : List Int) (cur : Int)
  | dcs (k : Nat) (cmd : Int) (ps : List Int) (cur : Int)
  | dstr (cmd : Int) (ps : List Int) (cur : Int) (data : List Int)
  | osc (cmd : Int) (data : List Int)
  | apc (data : List Int)
deriving DecidableEq

/-- A digit behind a parameter. -/
def digit (cur : Int) (b : Nat) : Int := (if cur = Miss then 0 else cur) * 10 + ((b : Int) - 48)

/-- The parameters at the end: the last one counts if it is there, or if there are others. -/
def closed (ps : List Int) (cur : Int) : List Int := if ps = [] ∧ cur = Miss then [] else ps ++ [cur]

/-- The number at the head of a system command's data. -/
def strCmd : List Int → Int → Int
  | [], c => c
  | d :: r, c => if 48 ≤ d ∧ d ≤ 57 then strCmd r ((if c = Miss then 0 else c) * 10 + (d - 48)) else c

/-- How many digits stand at the head. -/
def heads : List Int → Nat
  | [] => 0
  | d :: r => if 48 ≤ d ∧ d ≤ 57 then heads r + 1 else 0

def evPrint (b : Nat) : Ev := ⟨0, b, 0, 0, [], []⟩
def evExec (b : Nat) : Ev := ⟨1, 0, b, 0, [], []⟩
def evCsi (cmd : Int) (ps : List Int) : Ev := ⟨2, 0, 0, cmd, ps, []⟩
def evEsc (b : Nat) : Ev := ⟨3, 0, 0, b, [], []⟩
def evDcs (cmd : Int) (ps data : List Int) : Ev := ⟨4, 0, 0, cmd, ps, data⟩
def evOsc (cmd : Int) (data : List Int) : Ev := ⟨5, 0, 0, cmd, [], data⟩
def evApc (data : List Int) : Ev := ⟨7, 0, 0, 0, [], data⟩

/-- One byte; none: a byte of which nothing is said. -/
def step : PS → Nat → Option (PS × List Ev)
  | .gr, b => if b = 27 then some (.esc, []) else if 32 ≤ b ∧ b ≤ 126 then some (.gr, [evPrint b]) else if b < 32 then some (.gr, [evExec b]) else none
  | .esc, b =>
    if b = 91 then some (.csi 1 0 [] Miss, [])
    else if b = 93 then some (.osc Miss [], [])
    else if b = 80 then some (.dcs 4 0 [] Miss, [])
    else if b = 95 then some (.apc [], [])
    else if b = 55 ∨ b = 56 ∨ b = 92 then some (.gr, [evEsc b])
    else none
  | .csi k cmd ps cur, b =>
    if 64 ≤ b ∧ b ≤ 126 then some (.gr, [evCsi (cmd + b) (closed ps cur)])
    else if 48 ≤ b ∧ b ≤ 57 ∧ k ≠ 2 then (if cur ≤ 100000 ∨ cur = Miss then some (.csi 3 cmd ps (digit cur b), []) else none)
    else if b = 59 ∧ k ≠ 2 then (if ps.length < 29 then some (.csi 3 cmd (ps ++ [cur]) Miss, []) else none)
    else if 60 ≤ b ∧ b ≤ 63 ∧ k = 1 then some (.csi 3 (b * 256) ps cur, [])
    else if 32 ≤ b ∧ b ≤ 47 ∧ k ≠ 2 then some (.csi 2 (cmd + b * 65536) ps cur, [])
    else none
  | .dcs _ cmd ps cur, b =>
    if 64 ≤ b ∧ b ≤ 126 then some (.dstr (cmd + b) ps cur [], [])
    else if 48 ≤ b ∧ b ≤ 57 then (if cur ≤ 100000 ∨ cur = Miss then some (.dcs 6 cmd ps (digit cur b), []) else none)
    else if b = 59 then (if ps.length < 29 then some (.dcs 6 cmd (ps ++ [cur]) Miss, []) else none)
    else none
  | .dstr cmd ps cur data, b =>
    if 32 ≤ b ∧ b ≤ 126 then (if data.length < 4096 then some (.dstr cmd ps cur (data ++ [(b : Int)]), []) else none)
    else if b = 27 then some (.esc, [evDcs cmd (closed ps cur) data])
    else none
  | .osc cmd data, b =>
    if 32 ≤ b ∧ b ≤ 126 then
      (if data.length < 4096 then
        (if b = 59 ∧ cmd = Miss then (if heads data ≤ 6 then some (.osc (strCmd data Miss) (data ++ [(b : Int)]), []) else none) else some (.osc cmd (data ++ [(b : Int)]), []))
      else none)
    else if b = 7 ∨ b = 27 then
      (if cmd = Miss then (if heads data ≤ 6 then some (if b = 7 then .gr else .esc, [evOsc (strCmd data Miss) data]) else none)
      else some (if b = 7 then .gr else .esc, [evOsc cmd data]))
    else none
  | .apc data, b =>
    if 32 ≤ b ∧ b ≤ 126 then (if data.length < 4096 then some (.apc (data ++ [(b : Int)]), []) else none)
    else if b = 27 then some (.esc, [evApc data])
    else none

/-- Bytes, one by one. -/
def run : PS → List Nat → Option (PS × List Ev)
  | s, [] => some (s, [])
  | s, b :: r => (step s b).bind fun x => (run x.1 r).map fun y => (y.1, x.2 ++ y.2)

theorem run_append (l m : List Nat) : ∀ s, run s (l ++ m) = (run s l).bind fun x => (run x.1 m).map fun y => (y.1, x.2 ++ y.2) := by
  induction l with
  | nil => intro s; simp [run]
  | cons b r ih =>
    intro s
    simp only [List.cons_append, run]
    cases h : step s b with
    | none => simp
    | some x =>
      simp only [Option.bind_some, ih]
      cases h2 : run x.1 r with
      | none => simp
      | some y =>
        simp only [Option.bind_some, Option.map_some]
        cases h3 : run y.1 m with
        | none => simp
        | some z => simp [List.append_assoc]

/-- A run is known piece by piece. -/
theorem run_of {s t u : PS} {l m : List Nat} {e f : List Ev} (h : run s l = some (t, e)) (k : run t m = some (u, f)) : run s (l ++ m) = some (u, e ++ f) := by
  rw [run_append, h]
  simp [k]

end Go.Proofs.YtgcbnegdchladaaDoor.X
namespace Go.Proofs.YtgcbnegdchladaaDoor.X
open Go.RowKit Go.Proofs.YtgcbnegdchladaaDoorW.PrintWords Go.Proofs.YtgcbnegdchladaaDoorW.PrintLast Go.Proofs.YtgcbnegdchladaaDoorW.PrintMore

abbrev SEv := Y.S36
abbrev kEv : Kd SEv := Y.k36
def toS (e : Ev) : SEv := ⟨e.kind, e.rune, e.byte, e.cmd, e.params, e.data⟩

/-- Where things lie: the parser, its parameters, its data, the handlers' captured cell, the events' cell, the row of bytes that is read; blocks below B were there before the call, blocks from L0 on are new. -/
structure Loc where
  (B L0 P pp pd box out own : Nat)

/-- What the parser's block says, and the two rows. -/
structure RawSt where
  (st cmd plen dlen : Int)
  (pc dc : List Int)

def fnv (f : Nat) (L : Loc) : Value := .func (.func f) #[] #[.pointer (some ⟨L.box, 0, none⟩)]

def pcells (L : Loc) (r : RawSt) : Array Value :=
  #[fnv 75 L, fnv 76 L, fnv 77 L, fnv 79 L, fnv 80 L, fnv 81 L, fnv 82 L, fnv 83 L, fnv 84 L,
    .slice (some ⟨L.pp, 0, none⟩) 32 32, .slice (some ⟨L.pd, 0, none⟩) 4096 4096, .int .i64 r.dlen, .int .i64 r.plen, .int .i64 r.cmd, .int .u8 r.st]

def ints (k : IntKind) (l : List Int) : Array Value := (l.map (Value.int k)).toArray

structure Raw (w : World) (L : Loc) (r : RawSt) : Prop where
  hP : w.heap[L.P]? = some (.cells (pcells L r) 89 (0, 0))
  hpp : w.heap[L.pp]? = some (.cells (ints .i64 r.pc) 3 (0, 0))
  hpd : w.heap[L.pd]? = some (.cells (ints .u8 r.dc) 5 (0, 0))
  hbox : w.heap[L.box]? = some (.cells #[.pointer (some ⟨L.out, 0, none⟩)] 58 (0, 0))
  lpc : r.pc.length = 32
  ldc : r.dc.length = 4096
  bP : L.B ≤ L.P
  bpp : L.B ≤ L.pp
  bpd : L.B ≤ L.pd
  bout : L.B ≤ L.out
  bL : L.B ≤ L.L0
  tP : L.P < L.L0
  tpp : L.pp < L.L0
  tpd : L.pd < L.L0
  tbox : L.box < L.L0
  tout : L.out < L.L0
  size : L.L0 ≤ w.heap.size

/-- The events so far. -/
def Evs (w : World) (L : Loc) (evs : List Ev) : Prop :=
  ∃ v, w.heap[L.out]? = some (.cells #[v] 30 (0, 0)) ∧ Kd.S kEv 36 w L.L0 (fun k => L.L0 ≤ k) v (evs.map toS)

/-- All that the parser's methods keep: w0 is the world in which the call began. -/
structure Inv (w0 w : World) (L : Loc) (r : RawSt) (evs : List Ev) : Prop where
  raw : Raw w L r
  evs : Evs w L evs
  below : Below L.B w0 w
  own : w.heap[L.own]? = w0.heap[L.own]?
  olt : L.own < L.L0
  oP : L.own ≠ L.P
  opp : L.own ≠ L.pp
  opd : L.own ≠ L.pd
  oout : L.own ≠ L.out

/-- What a handler leaves alone: every block below L0 but the events' cell. -/
structure Frm (L : Loc) (w w' : World) : Prop where
  size : w.heap.size ≤ w'.heap.size
  keep : ∀ i, i < L.L0 → i ≠ L.out → w'.heap[i]? = w.heap[i]?
  below : Below L.B w w'

section
variable {w0 w w' : World} {L : Loc} {r : RawSt} {evs : List Ev}

theorem Raw.P_ne_pp (h : Raw w L r) : L.P ≠ L.pp := blk_ne h.hP h.hpp (by decide)
theorem Raw.P_ne_pd (h : Raw w L r) : L.P ≠ L.pd := blk_ne h.hP h.hpd (by decide)
theorem Raw.P_ne_box (h : Raw w L r) : L.P ≠ L.box := blk_ne h.hP h.hbox (by decide)
theorem Raw.pp_ne_pd (h : Raw w L r) : L.pp ≠ L.pd := blk_ne h.hpp h.hpd (by decide)
theorem Raw.pp_ne_box (h : Raw w L r) : L.pp ≠ L.box := blk_ne h.hpp h.hbox (by decide)
theorem Raw.pd_ne_box (h : Raw w L r) : L.pd ≠ L.box := blk_ne h.hpd h.hbox (by decide)
theorem Inv.P_ne_out (h : Inv w0 w L r evs) : L.P ≠ L.out := by
  obtain ⟨v, hv, _⟩ := h.evs
  exact blk_ne h.raw.hP hv (by decide)
theorem Inv.pp_ne_out (h : Inv w0 w L r evs) : L.pp ≠ L.out := by
  obtain ⟨v, hv, _⟩ := h.evs
  exact blk_ne h.raw.hpp hv (by decide)
theorem Inv.pd_ne_out (h : Inv w0 w L r evs) : L.pd ≠ L.out := by
  obtain ⟨v, hv, _⟩ := h.evs
  exact blk_ne h.raw.hpd hv (by decide)
theorem Inv.box_ne_out (h : Inv w0 w L r evs) : L.box ≠ L.out := by
  obtain ⟨v, hv, _⟩ := h.evs
  exact blk_ne h.raw.hbox hv (by decide)

theorem Raw.cell (h : Raw w L r) (i : Nat) : w.cell? ⟨L.P, i, none⟩ = (pcells L r)[i]? := blk_cell h.hP i
theorem Raw.frozen (h : Raw w L r) (i : Nat) : w.frozen? ⟨L.P, i, none⟩ = false := blk_frozen h.hP i
theorem Raw.pcell (h : Raw w L r) (i : Nat) (hi : i < 32) : w.cell? ⟨L.pp, i, none⟩ = some (.int .i64 (r.pc.getD i 0)) := by
  rw [blk_cell h.hpp i]
  simp [ints, List.getElem?_eq_getElem (show i < r.pc.length by rw [h.lpc]; exact hi)]
theorem Raw.pfrozen (h : Raw w L r) (i : Nat) : w.frozen? ⟨L.pp, i, none⟩ = false := blk_frozen h.hpp i
theorem Raw.dcell (h : Raw w L r) (i : Nat) (hi : i < 4096) : w.cell? ⟨L.pd, i, none⟩ = some (.int .u8 (r.dc.getD i 0)) := by
  rw [blk_cell h.hpd i]
  simp [ints, List.getElem?_eq_getElem (show i < r.dc.length by rw [h.ldc]; exact hi)]
theorem Raw.dfrozen (h : Raw w L r) (i : Nat) : w.frozen? ⟨L.pd, i, none⟩ = false := blk_frozen h.hpd i

/-- A store into the parser's own block. -/
theorem Raw.setP (h : Raw w L r) (i : Nat) (v : Value) {r' : RawSt} (hc : (pcells L r).setIfInBounds i v = pcells L r') (hpc : r'.pc = r.pc) (hdc : r'.dc = r.dc) : Raw (w.setCell ⟨L.P, i, none⟩ v) L r' :=
  { hP := by rw [← hc]; exact blk_set h.hP i v
    hpp := by rw [hpc]; exact blk_far h.hpp (p := ⟨L.P, i, none⟩) (Ne.symm h.P_ne_pp) v
    hpd := by rw [hdc]; exact blk_far h.hpd (p := ⟨L.P, i, none⟩) (Ne.symm h.P_ne_pd) v
    hbox := blk_far h.hbox (p := ⟨L.P, i, none⟩) (Ne.symm h.P_ne_box) v
    lpc := by rw [hpc]; exact h.lpc
    ldc := by rw [hdc]; exact h.ldc
    bP := h.bP, bpp := h.bpp, bpd := h.bpd, bout := h.bout, bL := h.bL, tP := h.tP, tpp := h.tpp, tpd := h.tpd, tbox := h.tbox, tout := h.tout
    size := by simpa [World.setCell] using h.size }
theorem ints_set (k : IntKind) (l : List Int) (i : Nat) (x : Int) : (ints k l).setIfInBounds i (.int k x) = ints k (l.set i x) := by
  simp [ints, List.map_set]
theorem Raw.setPP (h : Raw w L r) (i : Nat) (x : Int) : Raw (w.setCell ⟨L.pp, i, none⟩ (.int .i64 x)) L { r with pc := r.pc.set i x } :=
  { hP := blk_far h.hP (p := ⟨L.pp, i, none⟩) h.P_ne_pp _
    hpp := by rw [← ints_set]; exact blk_set h.hpp i _
    hpd := blk_far h.hpd (p := ⟨L.pp, i, none⟩) (Ne.symm h.pp_ne_pd) _
    hbox := blk_far h.hbox (p := ⟨L.pp, i, none⟩) (Ne.symm h.pp_ne_box) _
    lpc := by simpa using h.lpc
    ldc := h.ldc
    bP := h.bP, bpp := h.bpp, bpd := h.bpd, bout := h.bout, bL := h.bL, tP := h.tP, tpp := h.tpp, tpd := h.tpd, tbox := h.tbox, tout := h.tout
    size := by simpa [World.setCell] using h.size }
theorem Raw.setPD (h : Raw w L r) (i : Nat) (x : Int) : Raw (w.setCell ⟨L.pd, i, none⟩ (.int .u8 x)) L { r with dc := r.dc.set i x } :=
  { hP := blk_far h.hP (p := ⟨L.pd, i, none⟩) h.P_ne_pd _
    hpp := blk_far h.hpp (p := ⟨L.pd, i, none⟩) h.pp_ne_pd _
    hpd := by rw [← ints_set]; exact blk_set h.hpd i _
    hbox := blk_far h.hbox (p := ⟨L.pd, i, none⟩) (Ne.symm h.pd_ne_box) _
    lpc := h.lpc
    ldc := by simpa using h.ldc
    bP := h.bP, bpp := h.bpp, bpd := h.bpd, bout := h.bout, bL := h.bL, tP := h.tP, tpp := h.tpp, tpd := h.tpd, tbox := h.tbox, tout := h.tout
    size := by simpa [World.setCell] using h.size }
theorem Evs.far (h : Evs w L evs) {p : Addr} (hp : p.block < L.L0) (ho : L.out ≠ p.block) (v : Value) : Evs (w.setCell p v) L evs := by
  obtain ⟨x, hx, hS⟩ := h
  exact ⟨x, blk_far hx ho v, Kd.S_far hS (fun k hk e => by omega) v⟩

theorem Inv.setP (h : Inv w0 w L r evs) (i : Nat) (v : Value) {r' : RawSt} (hc : (pcells L r).setIfInBounds i v = pcells L r') (hpc : r'.pc = r.pc) (hdc : r'.dc = r.dc) : Inv w0 (w.setCell ⟨L.P, i, none⟩ v) L r' evs :=
  ⟨h.raw.setP i v hc hpc hdc, h.evs.far (p := ⟨L.P, i, none⟩) h.raw.tP (Ne.symm h.P_ne_out) v, h.below.setCell h.raw.bP v, (Below.heap_setCell w ⟨L.P, i, none⟩ v _ h.oP).trans h.own, h.olt, h.oP, h.opp, h.opd, h.oout⟩
theorem Inv.setPP (h : Inv w0 w L r evs) (i : Nat) (x : Int) : Inv w0 (w.setCell ⟨L.pp, i, none⟩ (.int .i64 x)) L { r with pc := r.pc.set i x } evs :=
  ⟨h.raw.setPP i x, h.evs.far (p := ⟨L.pp, i, none⟩) h.raw.tpp (Ne.symm h.pp_ne_out) _, h.below.setCell h.raw.bpp _, (Below.heap_setCell w ⟨L.pp, i, none⟩ _ _ h.opp).trans h.own, h.olt, h.oP, h.opp, h.opd, h.oout⟩
theorem Inv.setPD (h : Inv w0 w L r evs) (i : Nat) (x : Int) : Inv w0 (w.setCell ⟨L.pd, i, none⟩ (.int .u8 x)) L { r with dc := r.dc.set i x } evs :=
  ⟨h.raw.setPD i x, h.evs.far (p := ⟨L.pd, i, none⟩) h.raw.tpd (Ne.symm h.pd_ne_out) _, h.below.setCell h.raw.bpd _, (Below.heap_setCell w ⟨L.pd, i, none⟩ _ _ h.opd).trans h.own, h.olt, h.oP, h.opp, h.opd, h.oout⟩
theorem Inv.setCmd (h : Inv w0 w L r evs) (x : Int) : Inv w0 (w.setCell ⟨L.P, 13, none⟩ (.int .i64 x)) L { r with cmd := x } evs := h.setP 13 _ (by rfl) rfl rfl
theorem Inv.setPlen (h : Inv w0 w L r evs) (x : Int) : Inv w0 (w.setCell ⟨L.P, 12, none⟩ (.int .i64 x)) L { r with plen := x } evs := h.setP 12 _ (by rfl) rfl rfl
theorem Inv.setDlen (h : Inv w0 w L r evs) (x : Int) : Inv w0 (w.setCell ⟨L.P, 11, none⟩ (.int .i64 x)) L { r with dlen := x } evs := h.setP 11 _ (by rfl) rfl rfl
theorem Inv.setSt (h : Inv w0 w L r evs) (x : Int) : Inv w0 (w.setCell ⟨L.P, 14, none⟩ (.int .u8 x)) L { r with st := x } evs := h.setP 14 _ (by rfl) rfl rfl

/-- Behind draws, new blocks. -/
theorem Inv.grow (h : Inv w0 w L r evs) (hb : Below w.heap.size w w') : Inv w0 w' L r evs :=
  have k := h.raw
  ⟨{ hP := blk_below k.hP hb, hpp := blk_below k.hpp hb, hpd := blk_below k.hpd hb, hbox := blk_below k.hbox hb, lpc := k.lpc, ldc := k.ldc, bP := k.bP, bpp := k.bpp, bpd := k.bpd, bout := k.bout, bL := k.bL, tP := k.tP, tpp := k.tpp, tpd := k.tpd, tbox := k.tbox, tout := k.tout, size := Nat.le_trans k.size hb.size },
   by obtain ⟨x, hx, hS⟩ := h.evs; exact ⟨x, blk_below hx hb, Kd.S_below hS hb⟩,
   h.below.trans (hb.mono (Nat.le_trans k.bL k.size)), (hb.block _ (Nat.lt_of_lt_of_le h.olt k.size)).trans h.own, h.olt, h.oP, h.opp, h.opd, h.oout⟩

/-- Behind a handler. -/
theorem Inv.told (h : Inv w0 w L r evs) (hf : Frm L w w') {evs' : List Ev} (he : Evs w' L evs') : Inv w0 w' L r evs' :=
  have k := h.raw
  ⟨{ hP := (hf.keep _ k.tP h.P_ne_out).trans k.hP, hpp := (hf.keep _ k.tpp h.pp_ne_out).trans k.hpp, hpd := (hf.keep _ k.tpd h.pd_ne_out).trans k.hpd, hbox := (hf.keep _ k.tbox h.box_ne_out).trans k.hbox, lpc := k.lpc, ldc := k.ldc, bP := k.bP, bpp := k.bpp, bpd := k.bpd, bout := k.bout, bL := k.bL, tP := k.tP, tpp := k.tpp, tpd := k.tpd, tbox := k.tbox, tout := k.tout, size := Nat.le_trans k.size hf.size },
   he, h.below.trans hf.below, (hf.keep _ h.olt h.oout).trans h.own, h.olt, h.oP, h.opp, h.opd, h.oout⟩
end
end Go.Proofs.YtgcbnegdchladaaDoor.X
namespace Go.Proofs.YtgcbnegdchladaaDoor.X
open Go.RowKit Go.Proofs.YtgcbnegdchladaaDoorW.PrintWords Go.Proofs.YtgcbnegdchladaaDoorW.PrintLast Go.Proofs.YtgcbnegdchladaaDoorW.PrintMore
set_option linter.unusedSimpArgs false
set_option linter.unusedVariables false


theorem own_calls (A0 : Option Addr) (c0 : Nat) (l : List Int) (w : World) (hr : Kd.C (Kd.int .u8) w A0 l.length l) (hc : l.length ≤ c0) (hl : l.length ≤ 140737488355328) :
    Calls Tryd.prog 58 #[.slice A0 l.length c0] w fun e w' => ∃ v : Value, e = .returned v ∧ Kd.R (Kd.int .u8) 5 w' w.heap.size (fun _ => True) v l ∧ Below w.heap.size w w' := by
  have HR := Lib.hid hr
  have HL := Lib.hid hl
  clear hr hl
  go_enter Tryd.func58, Tryd.ntmps58
  go_wp2_with ((with_reducible refine gate_builtin (b := .append) (xs := #[.const (.slice none 0 0), .tmp 3]) rfl ?_); at_builtin; refine Kd.R_append_rows (Kd.int .u8) (w0 := w) w.heap.size rfl (.const (.slice none 0 0)) (.tmp 3) 32 5 (.int .u8 0) 1 rfl Tryd.underlying32 Y.info5 rfl (by decide) (by omega) (.slice none 0 0) [] l _ _ _ (fun _ => True) (fun _ => False) rfl rfl (Kd.R_nil _ _ _ _ _) (HR.out) (fun _ _ h => h) (fun _ h => h.elim) (fun _ _ => trivial) (Below.refl _ _) (Nat.le_refl _) (by simpa using HL.out) ?_; intro v1 w1 hO hB hg hat)
  go_ret
  exact ⟨_, rfl, by simpa using hO, hB⟩

theorem ints_l0 (l : List Int) (hl : l.length < 1000000) : ∀ (n i : Nat) (xs : List Int), l.length = i + n → xs = l.take i → Z.impl_ints.l0 (n + 1) xs l (l.length : Int) (i : Int) = some l
  | 0, i, xs, h, hx => by
    subst hx
    simp [Z.impl_ints.l0, show i = l.length by omega]
  | n + 1, i, xs, h, hx => by
    have h1 : ((i : Int) < (l.length : Int)) := by omega
    have h2 : i < l.length := by omega
    have h3 : wrap64 ((i : Int) + 1) = ((i + 1 : Nat) : Int) := by unfold wrap64; omega
    have h4 : rd l (i : Int) = l[i] := by simp [rd, h2]
    have h5 : xs.length < 17592186044416 := by rw [hx, List.length_take]; omega
    rw [Z.impl_ints.l0, if_pos h1, if_pos (by omega), if_pos h1, if_pos h5, h3, h4]
    exact ints_l0 l hl n (i + 1) _ (by omega) (by rw [hx, List.take_succ_eq_append_getElem h2])
theorem ints_f (l : List Int) (hl : l.length < 1000000) : Z.impl_ints.f (l.length + 1) l = some l := by
  unfold Z.impl_ints.f
  exact ints_l0 l hl l.length 0 [] (by omega) (by simp)
theorem ints_calls (A0 : Option Addr) (c0 : Nat) (l : List Int) (w : World) (hr : Kd.C (Kd.int .i64) w A0 l.length l) (hc : l.length ≤ c0) (hl : l.length < 1000000) :
    Calls Tryd.prog 78 #[.slice A0 l.length c0] w fun e w' => ∃ v : Value, e = .returned v ∧ Kd.R (Kd.int .i64) 2 w' w.heap.size (fun _ => True) v l ∧ Below w.heap.size w w' :=
  Z.impl_ints.calls (l.length + 1) A0 c0 l l w hr hc (ints_f l hl)
end Go.Proofs.YtgcbnegdchladaaDoor.X
namespace Go.Proofs.YtgcbnegdchladaaDoor.X
open Go.RowKit Go.Proofs.YtgcbnegdchladaaDoorW.PrintWords Go.Proofs.YtgcbnegdchladaaDoorW.PrintLast Go.Proofs.YtgcbnegdchladaaDoorW.PrintMore
set_option linter.unusedSimpArgs false
set_option linter.unusedVariables false

def zEv : Value := .agg #[.int .i64 0, .int .i64 0, .int .u8 0, .int .i64 0, .slice none 0 0, .slice none 0 0]
theorem infoEv : (Tryd.prog.info? 36).map (fun i => (i.zero, i.size, i.bytes)) = some (some zEv, 6, 80) := by kernel_rfl
theorem told_le (n : Nat) (h : n < 1000000000000) : (n + 1) * 80 ≤ 140737488355328 := by omega

section
variable {w0 w W w1 : World} {L : Loc} {r : RawSt} {evs : List Ev} {v v1 : Value}

/-- What an append to the events leaves: every block below L0. -/
theorem far_row (hS : Kd.S kEv 36 w L.L0 (fun k => L.L0 ≤ k) v (evs.map toS)) (hw : L.L0 ≤ w.heap.size) (hW : Below w.heap.size w W) (hg : W.grownBy w1 v.ownBlock) (i : Nat) (hi : i < L.L0) : w1.heap[i]? = w.heap[i]? :=
  (hg.block i (by have := hW.size; omega) (fun e => by have := Kd.S_base hS i e.symm; omega)).trans (hW.block i (by omega))

/-- Behind the append and the store of the new row. -/
theorem told_end (h : Inv w0 w L r evs) {evs' : List Ev} (hk : ∀ i, i < L.L0 → w1.heap[i]? = w.heap[i]?) (hs : w.heap.size ≤ w1.heap.size) (hB : Below L.L0 w w1) (hS1 : Kd.S kEv 36 w1 L.L0 (fun k => L.L0 ≤ k) v1 (evs'.map toS)) :
    Frm L w (w1.setCell ⟨L.out, 0, none⟩ v1) ∧ Evs (w1.setCell ⟨L.out, 0, none⟩ v1) L evs' := by
  obtain ⟨v, hv, _⟩ := h.evs
  have h1 : w1.heap[L.out]? = some (.cells #[v] 30 (0, 0)) := (hk _ h.raw.tout).trans hv
  refine ⟨⟨by simpa [World.setCell] using hs, fun i hi hne => ?_, (hB.mono h.raw.bL).setCell h.raw.bout _⟩, v1, ?_, Kd.S_far hS1 (p := ⟨L.out, 0, none⟩) (fun k hk e => ?_) v1⟩
  · exact (Below.heap_setCell w1 ⟨L.out, 0, none⟩ v1 i hne).trans (hk i hi)
  · have := blk_set h1 0 v1
    simpa using this
  · have := h.raw.tout
    simp only at e
    omega

/-- The append of one event, whose rows are new. -/
theorem app_step {ops : Array Oper} {o : Oper} {a : Act} {Kc : Act → World → Prop} {Q : Exit → Act → World → Prop} (h : Inv w0 w L r evs) (hv : w.heap[L.out]? = some (.cells #[v] 30 (0, 0))) (hS : Kd.S kEv 36 w L.L0 (fun k => L.L0 ≤ k) v (evs.map toS))
    (hn : evs.length < 1000000000000) (hb : Below w.heap.size w W) (x : Ev) {pv dv : Value} (hp : Kd.R (Kd.int .i64) 2 W w.heap.size (fun _ => True) pv x.params) (hd : Kd.R (Kd.int .u8) 5 W w.heap.size (fun _ => True) dv x.data)
    (hw : Region.wanted o (yielded ops a.tmps) = true) (s y : Operand) (ho : o.op = .call { callee := .builtin .append, args := #[s, y], argTypes := #[30, 30] }) (hs : a.eval s = v) (hx : a.eval y = .slice (some ⟨W.heap.size, 0, none⟩) 1 1)
    (k : ∀ A1 c1 w1, Hid (Frm L w (w1.setCell ⟨L.out, 0, none⟩ (.slice A1 (evs.length + 1) c1)) ∧ Evs (w1.setCell ⟨L.out, 0, none⟩ (.slice A1 (evs.length + 1) c1)) L (evs ++ [x])) → w1.cell? ⟨L.box, 0, none⟩ = some (.pointer (some ⟨L.out, 0, none⟩)) → w1.cell? ⟨L.out, 0, none⟩ = some v → w1.frozen? ⟨L.out, 0, none⟩ = false → Kc (a.put o.dst (.slice A1 (evs.length + 1) c1)) w1) :
    if Region.wanted o (yielded ops a.tmps) = true then Oper.wp Tryd.prog o a (W.alloc (.cells #[.int .i64 x.kind, .int .i64 x.rune, .int .u8 x.byte, .int .i64 x.cmd, pv, dv] 36)) Kc Q else Kc (a.put o.dst undef) (W.alloc (.cells #[.int .i64 x.kind, .int .i64 x.rune, .int .u8 x.byte, .int .i64 x.cmd, pv, dv] 36)) := by
  have hsz := h.raw.size
  have hlt := Kd.S_lt hS
  refine Kd.S_append_step kEv (w0 := w) (W := W) L.L0 hw s y 30 36 zEv 80 ho Tryd.underlying30 infoEv rfl (by decide) (by omega) v (evs.map toS) (toS x) [.int .i64 x.kind, .int .i64 x.rune, .int .u8 x.byte, .int .i64 x.cmd, pv, dv] (fun k => L.L0 ≤ k) (fun k => w.heap.size ≤ k) hs hx
    (Y.k36_mkM W L.L0 _ (toS x) (Kd.R_mono (Kd.R_lower (Kd.R_bound hp) hsz) (fun _ hk => hk.2.1)) (Kd.R_mono (Kd.R_lower (Kd.R_bound hd) hsz) (fun _ hk => hk.2.1)))
    (fun k hk => ⟨Nat.le_trans hsz hk, fun e => by have := hlt k e.symm; omega⟩) (fun _ hk => Nat.le_trans (Nat.le_trans hsz hb.size) hk)
    (Kd.S_mono (Kd.S_below (Kd.S_bound hS) hb) (fun k hk => ⟨hk.1, by have := hk.2.2.1; omega⟩)) (hb.mono hsz) (Nat.le_trans hsz hb.size) (by rw [List.length_map]; exact told_le _ hn) ?_
  intro v1 w1 hS1 hB1 hg1 _
  have hk1 := far_row hS hsz hb hg1
  have hS2 : Kd.S kEv 36 w1 L.L0 (fun k => L.L0 ≤ k) v1 ((evs ++ [x]).map toS) := by simpa using hS1
  obtain ⟨A1, c1, e⟩ := Kd.S_slice hS2
  rw [show ((evs ++ [x]).map toS).length = evs.length + 1 by simp] at e
  subst e
  exact k A1 c1 w1 (Lib.hid (told_end h hk1 (Nat.le_trans hb.size hg1.size) hB1 hS2)) ((World.cell?_of_block (hk1 _ h.raw.tbox)).trans (blk_cell h.raw.hbox 0)) ((World.cell?_of_block (hk1 _ h.raw.tout)).trans (blk_cell hv 0)) (blk_frozen ((hk1 _ h.raw.tout).trans hv) 0)

/-- The events' cell, behind new blocks. -/
theorem out_at (hv : w.heap[L.out]? = some (.cells #[v] 30 (0, 0))) (hb : Below w.heap.size w W) : W.cell? ⟨L.out, 0, none⟩ = some v := blk_cell (blk_below hv hb) 0
theorem out_at_new (hv : w.heap[L.out]? = some (.cells #[v] 30 (0, 0))) (hb : Below w.heap.size w W) (o : Obj) : (W.alloc o).cell? ⟨L.out, 0, none⟩ = some v := blk_cell (blk_alloc (blk_below hv hb) o) 0
theorem held_alloc {W : World} {a : Addr} {u : Value} (h : W.cell? a = some u) (o : Obj) : (W.alloc o).cell? a = some u := (World.cell?_alloc_some W a o (by rw [h]; rfl)).trans h
theorem box_at (h : Inv w0 w L r evs) (hb : Below w.heap.size w W) : W.cell? ⟨L.box, 0, none⟩ = some (.pointer (some ⟨L.out, 0, none⟩)) := blk_cell (blk_below h.raw.hbox hb) 0
end

set_option maxRecDepth 100000 in
set_option maxHeartbeats 8000000 in
/-- Print. -/
theorem l1_calls (L : Loc) (r : RawSt) (evs : List Ev) (w0 w : World) (b : Int) (hb0 : 0 ≤ b) (hb1 : b ≤ 255) (h : Inv w0 w L r evs) (hn : evs.length < 1000000000000) :
    Calls Tryd.prog 75 #[.int .i32 b, .pointer (some ⟨L.box, 0, none⟩)] w fun e w' => e = .returned (.tuple #[]) ∧ Frm L w w' ∧ Evs w' L (evs ++ [⟨0, b, 0, 0, [], []⟩]) := by
  obtain ⟨v, hv, hS⟩ := h.evs
  have cbox : w.cell? ⟨L.box, 0, none⟩ = some (.pointer (some ⟨L.out, 0, none⟩)) := blk_cell h.raw.hbox 0
  have cout : w.cell? ⟨L.out, 0, none⟩ = some v := blk_cell hv 0
  have cal : ∀ o, (w.alloc o).cell? ⟨L.out, 0, none⟩ = some v := out_at_new hv (Below.refl _ _)
  have HN := Lib.hid hn
  have HV := Lib.hid hv
  have HS := Lib.hid hS
  clear hn hv hS
  have wb : IntKind.i64.wrap b = b := by rw [IntKind.wrap_i64]; omega
  go_enter Tryd.func75, Tryd.ntmps75
  go_wp2_with fail
  refine start_ (n := 11) (S := fun w' => w'.cell? ⟨L.box, 0, none⟩ = some (.pointer (some ⟨L.out, 0, none⟩)) ∧ w'.cell? ⟨L.out, 0, none⟩ = some v) (ds := [10]) #[false, false, false, false, false, false, false, false, false, false, false] (by kernel_rfl) rfl rfl ⟨cbox, cout⟩ (fun hHeld => ?_)
  refine pure_ (i := 4) (N := some 7) (v := ?_) (a' := ?_) #[false, false, false, false, true, false, false, false, false, false, false] rfl rfl (by kernel_rfl) (fun _ _ _ h => h) (Or.inl ⟨by rfl, ?_⟩) ?_ ?_
  rotate_left
  · intro w'
    go_simp
    with_reducible rfl
  rotate_left
  · simp only [Act.put, List.setIfInBounds_toArray, List.set_cons_zero, List.set_cons_succ, i64_w, i32_w]
    rfl
  refine pure_ (i := 5) (N := some 8) (v := ?_) (a' := ?_) #[false, false, false, false, true, true, false, false, false, false, false] rfl rfl (by kernel_rfl) (fun _ _ _ h => h) (Or.inl ⟨by rfl, ?_⟩) ?_ ?_
  rotate_left
  · intro w'
    go_simp
    with_reducible rfl
  rotate_left
  · simp only [Act.put, List.setIfInBounds_toArray, List.set_cons_zero, List.set_cons_succ, i64_w, i32_w]
    rfl
  refine pure_ (i := 6) (N := some 9) (v := ?_) (a' := ?_) #[false, false, false, false, true, true, true, false, false, false, false] rfl rfl (by kernel_rfl) (fun _ _ _ h => h) (Or.inl ⟨by rfl, ?_⟩) ?_ ?_
  rotate_left
  · intro w'
    go_simp
    with_reducible rfl
  rotate_left
  · simp only [Act.put, List.setIfInBounds_toArray, List.set_cons_zero, List.set_cons_succ, i64_w, i32_w]
    rfl
  refine take_ (i := 0) (N := some 3) (v := ?_) (a' := ?_) #[true, false, false, false, true, true, true, false, false, false, false] rfl rfl (by kernel_rfl) (fun _ _ _ h => h) (Or.inl ⟨by rfl, ?_⟩) hHeld ?_ ?_
  rotate_left
  · rintro w' ⟨s0, s1⟩
    go_simp
    with_reducible rfl
  rotate_left
  · simp only [Act.put, List.setIfInBounds_toArray, List.set_cons_zero, List.set_cons_succ, i64_w, i32_w]
    rfl
  refine take_ (i := 1) (N := some 4) (v := ?_) (a' := ?_) #[true, true, false, false, true, true, true, false, false, false, false] rfl rfl (by kernel_rfl) (fun _ _ _ h => h) (Or.inl ⟨by rfl, ?_⟩) hHeld ?_ ?_
  rotate_left
  · rintro w' ⟨s0, s1⟩
    go_simp
    with_reducible rfl
  rotate_left
  · simp only [Act.put, List.setIfInBounds_toArray, List.set_cons_zero, List.set_cons_succ, i64_w, i32_w]
    rfl
  refine pure_ (i := 2) (N := some 5) (v := ?_) (a' := ?_) #[true, true, true, false, true, true, true, false, false, false, false] rfl rfl (by kernel_rfl) (fun _ _ _ h => h) (Or.inl ⟨by rfl, ?_⟩) ?_ ?_
  rotate_left
  · intro w'
    go_simp
    with_reducible rfl
  rotate_left
  · simp only [Act.put, List.setIfInBounds_toArray, List.set_cons_zero, List.set_cons_succ, i64_w, i32_w]
    rfl
  refine take_ (i := 3) (N := some 6) (v := ?_) (a' := ?_) #[true, true, true, true, true, true, true, false, false, false, false] rfl rfl (by kernel_rfl) (fun _ _ _ h => h) (Or.inl ⟨by rfl, ?_⟩) hHeld ?_ ?_
  rotate_left
  · rintro w' ⟨s0, s1⟩
    go_simp
    with_reducible rfl
  rotate_left
  · simp only [Act.put, List.setIfInBounds_toArray, List.set_cons_zero, List.set_cons_succ, i64_w, i32_w]
    rfl
  refine one_ (i := 7) (N := some 10) #[true, true, true, true, true, true, true, true, false, false, false] rfl rfl (by kernel_rfl) (by decide) (fun K hK => ?_)
  refine value_ (w1 := ?_) (v := ?_) (by rfl) rfl ?_ ?_
  rotate_left 2
  · go_simp
    constructor
    · rfl
    · rfl
  refine hK.out _ _ ⟨(held_alloc hHeld.1 _), (held_alloc hHeld.2 _)⟩ (fun hHeld => ?_)
  clear hK K
  refine norm_ (a' := ?_) ?_ ?_
  rotate_left
  · show Act.put _ (some 10) _ = _
    simp only [Act.put, List.setIfInBounds_toArray, List.set_cons_zero, List.set_cons_succ, i64_w, i32_w]
    rfl
  refine one_ (i := 8) (N := some 11) #[true, true, true, true, true, true, true, true, true, false, false] rfl rfl (by kernel_rfl) (by decide) (fun K hK => ?_)
  refine app_step h HV.out HS.out HN.out (below_drew (Below.refl _ _)) ⟨0, b, 0, 0, [], []⟩ (Kd.R_nil _ _ _ _ _) (Kd.R_nil _ _ _ _ _) (by rfl) (.tmp 6) (.tmp 10) rfl rfl rfl ?_
  intro A1 c1 w1 HE k1 k2 k3
  refine hK.out _ _ ⟨k1, k2⟩ (fun hHeld => ?_)
  clear hK K
  refine norm_ (a' := ?_) ?_ ?_
  rotate_left
  · show Act.put _ (some 11) _ = _
    simp only [Act.put, List.setIfInBounds_toArray, List.set_cons_zero, List.set_cons_succ, i64_w, i32_w]
    rfl
  refine pure_ (i := 9) (N := some 12) (v := ?_) (a' := ?_) #[true, true, true, true, true, true, true, true, true, true, false] rfl rfl (by kernel_rfl) (fun _ _ _ h => h) (Or.inl ⟨by rfl, ?_⟩) ?_ ?_
  rotate_left
  · intro w'
    go_simp
    with_reducible rfl
  rotate_left
  · simp only [Act.put, List.setIfInBounds_toArray, List.set_cons_zero, List.set_cons_succ, i64_w, i32_w]
    rfl
  refine last_ (i := 10) (N := none) #[true, true, true, true, true, true, true, true, true, true, true] rfl rfl (by kernel_rfl) (by decide) (fun K hK => ?_)
  refine skip_ (w1 := ?_) (by rfl) rfl ?_ ?_
  rotate_left
  · go_simp
    rfl
  refine hK.out _ _ ?_
  clear hK K
  refine done_ (by kernel_rfl) ?_
  go_wp2_with fail
  all_goals
    go_end0
    exact ⟨rfl, HE.out⟩

set_option maxRecDepth 100000 in
set_option maxHeartbeats 8000000 in
/-- Execute. -/
theorem l2_calls (L : Loc) (r : RawSt) (evs : List Ev) (w0 w : World) (b : Int) (h : Inv w0 w L r evs) (hn : evs.length < 1000000000000) :
    Calls Tryd.prog 76 #[.int .u8 b, .pointer (some ⟨L.box, 0, none⟩)] w fun e w' => e = .returned (.tuple #[]) ∧ Frm L w w' ∧ Evs w' L (evs ++ [⟨1, 0, b, 0, [], []⟩]) := by
  obtain ⟨v, hv, hS⟩ := h.evs
  have cbox : w.cell? ⟨L.box, 0, none⟩ = some (.pointer (some ⟨L.out, 0, none⟩)) := blk_cell h.raw.hbox 0
  have cout : w.cell? ⟨L.out, 0, none⟩ = some v := blk_cell hv 0
  have cal : ∀ o, (w.alloc o).cell? ⟨L.out, 0, none⟩ = some v := out_at_new hv (Below.refl _ _)
  have HN := Lib.hid hn
  have HV := Lib.hid hv
  have HS := Lib.hid hS
  clear hn hv hS
  go_enter Tryd.func76, Tryd.ntmps76
  go_wp2_with fail
  refine start_ (n := 10) (S := fun w' => w'.cell? ⟨L.box, 0, none⟩ = some (.pointer (some ⟨L.out, 0, none⟩)) ∧ w'.cell? ⟨L.out, 0, none⟩ = some v) (ds := [9]) #[false, false, false, false, false, false, false, false, false, false] (by kernel_rfl) rfl rfl ⟨cbox, cout⟩ (fun hHeld => ?_)
  refine pure_ (i := 4) (N := some 7) (v := ?_) (a' := ?_) #[false, false, false, false, true, false, false, false, false, false] rfl rfl (by kernel_rfl) (fun _ _ _ h => h) (Or.inl ⟨by rfl, ?_⟩) ?_ ?_
  rotate_left
  · intro w'
    go_simp
    with_reducible rfl
  rotate_left
  · simp only [Act.put, List.setIfInBounds_toArray, List.set_cons_zero, List.set_cons_succ, i64_w, i32_w]
    rfl
  refine pure_ (i := 5) (N := some 8) (v := ?_) (a' := ?_) #[false, false, false, false, true, true, false, false, false, false] rfl rfl (by kernel_rfl) (fun _ _ _ h => h) (Or.inl ⟨by rfl, ?_⟩) ?_ ?_
  rotate_left
  · intro w'
    go_simp
    with_reducible rfl
  rotate_left
  · simp only [Act.put, List.setIfInBounds_toArray, List.set_cons_zero, List.set_cons_succ, i64_w, i32_w]
    rfl
  refine take_ (i := 0) (N := some 3) (v := ?_) (a' := ?_) #[true, false, false, false, true, true, false, false, false, false] rfl rfl (by kernel_rfl) (fun _ _ _ h => h) (Or.inl ⟨by rfl, ?_⟩) hHeld ?_ ?_
  rotate_left
  · rintro w' ⟨s0, s1⟩
    go_simp
    with_reducible rfl
  rotate_left
  · simp only [Act.put, List.setIfInBounds_toArray, List.set_cons_zero, List.set_cons_succ, i64_w, i32_w]
    rfl
  refine take_ (i := 1) (N := some 4) (v := ?_) (a' := ?_) #[true, true, false, false, true, true, false, false, false, false] rfl rfl (by kernel_rfl) (fun _ _ _ h => h) (Or.inl ⟨by rfl, ?_⟩) hHeld ?_ ?_
  rotate_left
  · rintro w' ⟨s0, s1⟩
    go_simp
    with_reducible rfl
  rotate_left
  · simp only [Act.put, List.setIfInBounds_toArray, List.set_cons_zero, List.set_cons_succ, i64_w, i32_w]
    rfl
  refine pure_ (i := 2) (N := some 5) (v := ?_) (a' := ?_) #[true, true, true, false, true, true, false, false, false, false] rfl rfl (by kernel_rfl) (fun _ _ _ h => h) (Or.inl ⟨by rfl, ?_⟩) ?_ ?_
  rotate_left
  · intro w'
    go_simp
    with_reducible rfl
  rotate_left
  · simp only [Act.put, List.setIfInBounds_toArray, List.set_cons_zero, List.set_cons_succ, i64_w, i32_w]
    rfl
  refine take_ (i := 3) (N := some 6) (v := ?_) (a' := ?_) #[true, true, true, true, true, true, false, false, false, false] rfl rfl (by kernel_rfl) (fun _ _ _ h => h) (Or.inl ⟨by rfl, ?_⟩) hHeld ?_ ?_
  rotate_left
  · rintro w' ⟨s0, s1⟩
    go_simp
    with_reducible rfl
  rotate_left
  · simp only [Act.put, List.setIfInBounds_toArray, List.set_cons_zero, List.set_cons_succ, i64_w, i32_w]
    rfl
  refine one_ (i := 6) (N := some 9) #[true, true, true, true, true, true, true, false, false, false] rfl rfl (by kernel_rfl) (by decide) (fun K hK => ?_)
  refine value_ (w1 := ?_) (v := ?_) (by rfl) rfl ?_ ?_
  rotate_left 2
  · go_simp
    constructor
    · rfl
    · rfl
  refine hK.out _ _ ⟨(held_alloc hHeld.1 _), (held_alloc hHeld.2 _)⟩ (fun hHeld => ?_)
  clear hK K
  refine norm_ (a' := ?_) ?_ ?_
  rotate_left
  · show Act.put _ (some 9) _ = _
    simp only [Act.put, List.setIfInBounds_toArray, List.set_cons_zero, List.set_cons_succ, i64_w, i32_w]
    rfl
  refine one_ (i := 7) (N := some 10) #[true, true, true, true, true, true, true, true, false, false] rfl rfl (by kernel_rfl) (by decide) (fun K hK => ?_)
  refine app_step h HV.out HS.out HN.out (below_drew (Below.refl _ _)) ⟨1, 0, b, 0, [], []⟩ (Kd.R_nil _ _ _ _ _) (Kd.R_nil _ _ _ _ _) (by rfl) (.tmp 6) (.tmp 9) rfl rfl rfl ?_
  intro A1 c1 w1 HE k1 k2 k3
  refine hK.out _ _ ⟨k1, k2⟩ (fun hHeld => ?_)
  clear hK K
  refine norm_ (a' := ?_) ?_ ?_
  rotate_left
  · show Act.put _ (some 10) _ = _
    simp only [Act.put, List.setIfInBounds_toArray, List.set_cons_zero, List.set_cons_succ, i64_w, i32_w]
    rfl
  refine pure_ (i := 8) (N := some 11) (v := ?_) (a' := ?_) #[true, true, true, true, true, true, true, true, true, false] rfl rfl (by kernel_rfl) (fun _ _ _ h => h) (Or.inl ⟨by rfl, ?_⟩) ?_ ?_
  rotate_left
  · intro w'
    go_simp
    with_reducible rfl
  rotate_left
  · simp only [Act.put, List.setIfInBounds_toArray, List.set_cons_zero, List.set_cons_succ, i64_w, i32_w]
    rfl
  refine last_ (i := 9) (N := none) #[true, true, true, true, true, true, true, true, true, true] rfl rfl (by kernel_rfl) (by decide) (fun K hK => ?_)
  refine skip_ (w1 := ?_) (by rfl) rfl ?_ ?_
  rotate_left
  · go_simp
    rfl
  refine hK.out _ _ ?_
  clear hK K
  refine done_ (by kernel_rfl) ?_
  go_wp2_with fail
  all_goals
    go_end0
    exact ⟨rfl, HE.out⟩

set_option maxRecDepth 100000 in
set_option maxHeartbeats 8000000 in
/-- A control sequence. -/
theorem l3_calls (L : Loc) (r : RawSt) (evs : List Ev) (w0 w : World) (c : Int) (ps : List Int) (Ap : Option Addr) (cp : Nat) (h : Inv w0 w L r evs) (hn : evs.length < 1000000000000) (hp : Kd.C (Kd.int .i64) w.drew Ap ps.length ps) (hpc : ps.length ≤ cp) (hpl : ps.length < 1000000) :
    Calls Tryd.prog 77 #[.int .i64 c, .slice Ap ps.length cp, .pointer (some ⟨L.box, 0, none⟩)] w fun e w' => e = .returned (.tuple #[]) ∧ Frm L w w' ∧ Evs w' L (evs ++ [⟨2, 0, 0, c, ps, []⟩]) := by
  obtain ⟨v, hv, hS⟩ := h.evs
  have cbox : w.cell? ⟨L.box, 0, none⟩ = some (.pointer (some ⟨L.out, 0, none⟩)) := blk_cell h.raw.hbox 0
  have cout : w.cell? ⟨L.out, 0, none⟩ = some v := blk_cell hv 0
  have cal : ∀ o, (w.alloc o).cell? ⟨L.out, 0, none⟩ = some v := out_at_new hv (Below.refl _ _)
  have HN := Lib.hid hn
  have HV := Lib.hid hv
  have HS := Lib.hid hS
  clear hn hv hS
  have HP := Lib.hid hp
  have HPC := Lib.hid hpc
  have HPL := Lib.hid hpl
  clear hp hpc hpl
  go_enter Tryd.func77, Tryd.ntmps77
  go_wp2_with fail
  refine start_ (n := 12) (S := fun w' => w'.cell? ⟨L.box, 0, none⟩ = some (.pointer (some ⟨L.out, 0, none⟩)) ∧ w'.cell? ⟨L.out, 0, none⟩ = some v) (ds := [11]) #[false, false, false, false, false, false, false, false, false, false, false, false] (by kernel_rfl) rfl rfl ⟨cbox, cout⟩ (fun hHeld => ?_)
  refine pure_ (i := 4) (N := some 9) (v := ?_) (a' := ?_) #[false, false, false, false, true, false, false, false, false, false, false, false] rfl rfl (by kernel_rfl) (fun _ _ _ h => h) (Or.inl ⟨by rfl, ?_⟩) ?_ ?_
  rotate_left
  · intro w'
    go_simp
    with_reducible rfl
  rotate_left
  · simp only [Act.put, List.setIfInBounds_toArray, List.set_cons_zero, List.set_cons_succ, i64_w, i32_w]
    rfl
  refine pure_ (i := 5) (N := some 10) (v := ?_) (a' := ?_) #[false, false, false, false, true, true, false, false, false, false, false, false] rfl rfl (by kernel_rfl) (fun _ _ _ h => h) (Or.inl ⟨by rfl, ?_⟩) ?_ ?_
  rotate_left
  · intro w'
    go_simp
    with_reducible rfl
  rotate_left
  · simp only [Act.put, List.setIfInBounds_toArray, List.set_cons_zero, List.set_cons_succ, i64_w, i32_w]
    rfl
  refine take_ (i := 0) (N := some 5) (v := ?_) (a' := ?_) #[true, false, false, false, true, true, false, false, false, false, false, false] rfl rfl (by kernel_rfl) (fun _ _ _ h => h) (Or.inl ⟨by rfl, ?_⟩) hHeld ?_ ?_
  rotate_left
  · rintro w' ⟨s0, s1⟩
    go_simp
    with_reducible rfl
  rotate_left
  · simp only [Act.put, List.setIfInBounds_toArray, List.set_cons_zero, List.set_cons_succ, i64_w, i32_w]
    rfl
  refine take_ (i := 1) (N := some 6) (v := ?_) (a' := ?_) #[true, true, false, false, true, true, false, false, false, false, false, false] rfl rfl (by kernel_rfl) (fun _ _ _ h => h) (Or.inl ⟨by rfl, ?_⟩) hHeld ?_ ?_
  rotate_left
  · rintro w' ⟨s0, s1⟩
    go_simp
    with_reducible rfl
  rotate_left
  · simp only [Act.put, List.setIfInBounds_toArray, List.set_cons_zero, List.set_cons_succ, i64_w, i32_w]
    rfl
  refine pure_ (i := 2) (N := some 7) (v := ?_) (a' := ?_) #[true, true, true, false, true, true, false, false, false, false, false, false] rfl rfl (by kernel_rfl) (fun _ _ _ h => h) (Or.inl ⟨by rfl, ?_⟩) ?_ ?_
  rotate_left
  · intro w'
    go_simp
    with_reducible rfl
  rotate_left
  · simp only [Act.put, List.setIfInBounds_toArray, List.set_cons_zero, List.set_cons_succ, i64_w, i32_w]
    rfl
  refine take_ (i := 3) (N := some 8) (v := ?_) (a' := ?_) #[true, true, true, true, true, true, false, false, false, false, false, false] rfl rfl (by kernel_rfl) (fun _ _ _ h => h) (Or.inl ⟨by rfl, ?_⟩) hHeld ?_ ?_
  rotate_left
  · rintro w' ⟨s0, s1⟩
    go_simp
    with_reducible rfl
  rotate_left
  · simp only [Act.put, List.setIfInBounds_toArray, List.set_cons_zero, List.set_cons_succ, i64_w, i32_w]
    rfl
  refine one_ (i := 6) (N := some 11) #[true, true, true, true, true, true, true, false, false, false, false, false] rfl rfl (by kernel_rfl) (by decide) (fun K hK => ?_)
  refine goes_ Tryd.func78 (by kernel_rfl) rfl #[.slice Ap ps.length cp] (by rfl) rfl rfl (by simp only [List.map_toArray, List.map_cons, List.map_nil]; rfl) ?_
  with_reducible refine (ints_calls _ _ _ _ HP.out HPC.out HPL.out).mono ?_
  rintro e wp ⟨pv, rfl, hp, hbp⟩
  refine ⟨_, rfl, ?_⟩
  have hbp' : Below w.heap.size w wp := Below.trans (below_drew (Below.refl _ _)) hbp
  obtain ⟨Ap, cp, rfl⟩ := Kd.R_slice hp
  have HBP := Lib.hid hbp'
  have HPV := Lib.hid hp
  clear hp hbp hbp'
  refine hK.out _ _ ⟨(box_at h HBP.out), (out_at HV.out HBP.out)⟩ (fun hHeld => ?_)
  clear hK K
  refine norm_ (a' := ?_) ?_ ?_
  rotate_left
  · show Act.put _ (some 11) _ = _
    simp only [Act.put, List.setIfInBounds_toArray, List.set_cons_zero, List.set_cons_succ, i64_w, i32_w]
    rfl
  refine pure_ (i := 7) (N := some 12) (v := ?_) (a' := ?_) #[true, true, true, true, true, true, true, true, false, false, false, false] rfl rfl (by kernel_rfl) (fun _ _ _ h => h) (Or.inl ⟨by rfl, ?_⟩) ?_ ?_
  rotate_left
  · intro w'
    go_simp
    with_reducible rfl
  rotate_left
  · simp only [Act.put, List.setIfInBounds_toArray, List.set_cons_zero, List.set_cons_succ, i64_w, i32_w]
    rfl
  refine one_ (i := 8) (N := some 13) #[true, true, true, true, true, true, true, true, true, false, false, false] rfl rfl (by kernel_rfl) (by decide) (fun K hK => ?_)
  refine value_ (w1 := ?_) (v := ?_) (by rfl) rfl ?_ ?_
  rotate_left 2
  · go_simp
    constructor
    · rfl
    · rfl
  refine hK.out _ _ ⟨(held_alloc hHeld.1 _), (held_alloc hHeld.2 _)⟩ (fun hHeld => ?_)
  clear hK K
  refine norm_ (a' := ?_) ?_ ?_
  rotate_left
  · show Act.put _ (some 13) _ = _
    simp only [Act.put, List.setIfInBounds_toArray, List.set_cons_zero, List.set_cons_succ, i64_w, i32_w]
    rfl
  refine one_ (i := 9) (N := some 14) #[true, true, true, true, true, true, true, true, true, true, false, false] rfl rfl (by kernel_rfl) (by decide) (fun K hK => ?_)
  refine app_step h HV.out HS.out HN.out HBP.out ⟨2, 0, 0, c, ps, []⟩ HPV.out (Kd.R_nil _ _ _ _ _) (by rfl) (.tmp 8) (.tmp 13) rfl rfl rfl ?_
  intro A1 c1 w1 HE k1 k2 k3
  refine hK.out _ _ ⟨k1, k2⟩ (fun hHeld => ?_)
  clear hK K
  refine norm_ (a' := ?_) ?_ ?_
  rotate_left
  · show Act.put _ (some 14) _ = _
    simp only [Act.put, List.setIfInBounds_toArray, List.set_cons_zero, List.set_cons_succ, i64_w, i32_w]
    rfl
  refine pure_ (i := 10) (N := some 15) (v := ?_) (a' := ?_) #[true, true, true, true, true, true, true, true, true, true, true, false] rfl rfl (by kernel_rfl) (fun _ _ _ h => h) (Or.inl ⟨by rfl, ?_⟩) ?_ ?_
  rotate_left
  · intro w'
    go_simp
    with_reducible rfl
  rotate_left
  · simp only [Act.put, List.setIfInBounds_toArray, List.set_cons_zero, List.set_cons_succ, i64_w, i32_w]
    rfl
  refine last_ (i := 11) (N := none) #[true, true, true, true, true, true, true, true, true, true, true, true] rfl rfl (by kernel_rfl) (by decide) (fun K hK => ?_)
  refine skip_ (w1 := ?_) (by rfl) rfl ?_ ?_
  rotate_left
  · go_simp
    rfl
  refine hK.out _ _ ?_
  clear hK K
  refine done_ (by kernel_rfl) ?_
  go_wp2_with fail
  all_goals
    go_end0
    exact ⟨rfl, HE.out⟩

set_option maxRecDepth 100000 in
set_option maxHeartbeats 8000000 in
/-- Escape. -/
theorem l4_calls (L : Loc) (r : RawSt) (evs : List Ev) (w0 w : World) (c : Int) (h : Inv w0 w L r evs) (hn : evs.length < 1000000000000) :
    Calls Tryd.prog 79 #[.int .i64 c, .pointer (some ⟨L.box, 0, none⟩)] w fun e w' => e = .returned (.tuple #[]) ∧ Frm L w w' ∧ Evs w' L (evs ++ [⟨3, 0, 0, c, [], []⟩]) := by
  obtain ⟨v, hv, hS⟩ := h.evs
  have cbox : w.cell? ⟨L.box, 0, none⟩ = some (.pointer (some ⟨L.out, 0, none⟩)) := blk_cell h.raw.hbox 0
  have cout : w.cell? ⟨L.out, 0, none⟩ = some v := blk_cell hv 0
  have cal : ∀ o, (w.alloc o).cell? ⟨L.out, 0, none⟩ = some v := out_at_new hv (Below.refl _ _)
  have HN := Lib.hid hn
  have HV := Lib.hid hv
  have HS := Lib.hid hS
  clear hn hv hS
  go_enter Tryd.func79, Tryd.ntmps79
  go_wp2_with fail
  refine start_ (n := 10) (S := fun w' => w'.cell? ⟨L.box, 0, none⟩ = some (.pointer (some ⟨L.out, 0, none⟩)) ∧ w'.cell? ⟨L.out, 0, none⟩ = some v) (ds := [9]) #[false, false, false, false, false, false, false, false, false, false] (by kernel_rfl) rfl rfl ⟨cbox, cout⟩ (fun hHeld => ?_)
  refine pure_ (i := 4) (N := some 7) (v := ?_) (a' := ?_) #[false, false, false, false, true, false, false, false, false, false] rfl rfl (by kernel_rfl) (fun _ _ _ h => h) (Or.inl ⟨by rfl, ?_⟩) ?_ ?_
  rotate_left
  · intro w'
    go_simp
    with_reducible rfl
  rotate_left
  · simp only [Act.put, List.setIfInBounds_toArray, List.set_cons_zero, List.set_cons_succ, i64_w, i32_w]
    rfl
  refine pure_ (i := 5) (N := some 8) (v := ?_) (a' := ?_) #[false, false, false, false, true, true, false, false, false, false] rfl rfl (by kernel_rfl) (fun _ _ _ h => h) (Or.inl ⟨by rfl, ?_⟩) ?_ ?_
  rotate_left
  · intro w'
    go_simp
    with_reducible rfl
  rotate_left
  · simp only [Act.put, List.setIfInBounds_toArray, List.set_cons_zero, List.set_cons_succ, i64_w, i32_w]
    rfl
  refine take_ (i := 0) (N := some 3) (v := ?_) (a' := ?_) #[true, false, false, false, true, true, false, false, false, false] rfl rfl (by kernel_rfl) (fun _ _ _ h => h) (Or.inl ⟨by rfl, ?_⟩) hHeld ?_ ?_
  rotate_left
  · rintro w' ⟨s0, s1⟩
    go_simp
    with_reducible rfl
  rotate_left
  · simp only [Act.put, List.setIfInBounds_toArray, List.set_cons_zero, List.set_cons_succ, i64_w, i32_w]
    rfl
  refine take_ (i := 1) (N := some 4) (v := ?_) (a' := ?_) #[true, true, false, false, true, true, false, false, false, false] rfl rfl (by kernel_rfl) (fun _ _ _ h => h) (Or.inl ⟨by rfl, ?_⟩) hHeld ?_ ?_
  rotate_left
  · rintro w' ⟨s0, s1⟩
    go_simp
    with_reducible rfl
  rotate_left
  · simp only [Act.put, List.setIfInBounds_toArray, List.set_cons_zero, List.set_cons_succ, i64_w, i32_w]
    rfl
  refine pure_ (i := 2) (N := some 5) (v := ?_) (a' := ?_) #[true, true, true, false, true, true, false, false, false, false] rfl rfl (by kernel_rfl) (fun _ _ _ h => h) (Or.inl ⟨by rfl, ?_⟩) ?_ ?_
  rotate_left
  · intro w'
    go_simp
    with_reducible rfl
  rotate_left
  · simp only [Act.put, List.setIfInBounds_toArray, List.set_cons_zero, List.set_cons_succ, i64_w, i32_w]
    rfl
  refine take_ (i := 3) (N := some 6) (v := ?_) (a' := ?_) #[true, true, true, true, true, true, false, false, false, false] rfl rfl (by kernel_rfl) (fun _ _ _ h => h) (Or.inl ⟨by rfl, ?_⟩) hHeld ?_ ?_
  rotate_left
  · rintro w' ⟨s0, s1⟩
    go_simp
    with_reducible rfl
  rotate_left
  · simp only [Act.put, List.setIfInBounds_toArray, List.set_cons_zero, List.set_cons_succ, i64_w, i32_w]
    rfl
  refine one_ (i := 6) (N := some 9) #[true, true, true, true, true, true, true, false, false, false] rfl rfl (by kernel_rfl) (by decide) (fun K hK => ?_)
  refine value_ (w1 := ?_) (v := ?_) (by rfl) rfl ?_ ?_
  rotate_left 2
  · go_simp
    constructor
    · rfl
    · rfl
  refine hK.out _ _ ⟨(held_alloc hHeld.1 _), (held_alloc hHeld.2 _)⟩ (fun hHeld => ?_)
  clear hK K
  refine norm_ (a' := ?_) ?_ ?_
  rotate_left
  · show Act.put _ (some 9) _ = _
    simp only [Act.put, List.setIfInBounds_toArray, List.set_cons_zero, List.set_cons_succ, i64_w, i32_w]
    rfl
  refine one_ (i := 7) (N := some 10) #[true, true, true, true, true, true, true, true, false, false] rfl rfl (by kernel_rfl) (by decide) (fun K hK => ?_)
  refine app_step h HV.out HS.out HN.out (below_drew (Below.refl _ _)) ⟨3, 0, 0, c, [], []⟩ (Kd.R_nil _ _ _ _ _) (Kd.R_nil _ _ _ _ _) (by rfl) (.tmp 6) (.tmp 9) rfl rfl rfl ?_
  intro A1 c1 w1 HE k1 k2 k3
  refine hK.out _ _ ⟨k1, k2⟩ (fun hHeld => ?_)
  clear hK K
  refine norm_ (a' := ?_) ?_ ?_
  rotate_left
  · show Act.put _ (some 10) _ = _
    simp only [Act.put, List.setIfInBounds_toArray, List.set_cons_zero, List.set_cons_succ, i64_w, i32_w]
    rfl
  refine pure_ (i := 8) (N := some 11) (v := ?_) (a' := ?_) #[true, true, true, true, true, true, true, true, true, false] rfl rfl (by kernel_rfl) (fun _ _ _ h => h) (Or.inl ⟨by rfl, ?_⟩) ?_ ?_
  rotate_left
  · intro w'
    go_simp
    with_reducible rfl
  rotate_left
  · simp only [Act.put, List.setIfInBounds_toArray, List.set_cons_zero, List.set_cons_succ, i64_w, i32_w]
    rfl
  refine last_ (i := 9) (N := none) #[true, true, true, true, true, true, true, true, true, true] rfl rfl (by kernel_rfl) (by decide) (fun K hK => ?_)
  refine skip_ (w1 := ?_) (by rfl) rfl ?_ ?_
  rotate_left
  · go_simp
    rfl
  refine hK.out _ _ ?_
  clear hK K
  refine done_ (by kernel_rfl) ?_
  go_wp2_with fail
  all_goals
    go_end0
    exact ⟨rfl, HE.out⟩

set_option maxRecDepth 100000 in
set_option maxHeartbeats 8000000 in
/-- A device's control string. -/
theorem l5_calls (L : Loc) (r : RawSt) (evs : List Ev) (w0 w : World) (c : Int) (ps : List Int) (Ap : Option Addr) (cp : Nat) (ds : List Int) (Ad : Option Addr) (cd : Nat) (h : Inv w0 w L r evs) (hn : evs.length < 1000000000000) (hp : Kd.C (Kd.int .i64) w.drew Ap ps.length ps) (hpc : ps.length ≤ cp) (hpl : ps.length < 1000000) (hd : ∀ W, Below w.heap.size w W → Kd.C (Kd.int .u8) W Ad ds.length ds) (hdc : ds.length ≤ cd) (hdl : ds.length ≤ 140737488355328) :
    Calls Tryd.prog 80 #[.int .i64 c, .slice Ap ps.length cp, .slice Ad ds.length cd, .pointer (some ⟨L.box, 0, none⟩)] w fun e w' => e = .returned (.tuple #[]) ∧ Frm L w w' ∧ Evs w' L (evs ++ [⟨4, 0, 0, c, ps, ds⟩]) := by
  obtain ⟨v, hv, hS⟩ := h.evs
  have cbox : w.cell? ⟨L.box, 0, none⟩ = some (.pointer (some ⟨L.out, 0, none⟩)) := blk_cell h.raw.hbox 0
  have cout : w.cell? ⟨L.out, 0, none⟩ = some v := blk_cell hv 0
  have cal : ∀ o, (w.alloc o).cell? ⟨L.out, 0, none⟩ = some v := out_at_new hv (Below.refl _ _)
  have HN := Lib.hid hn
  have HV := Lib.hid hv
  have HS := Lib.hid hS
  clear hn hv hS
  have HP := Lib.hid hp
  have HPC := Lib.hid hpc
  have HPL := Lib.hid hpl
  clear hp hpc hpl
  have HD := Lib.hid hd
  have HDC := Lib.hid hdc
  have HDL := Lib.hid hdl
  clear hd hdc hdl
  go_enter Tryd.func80, Tryd.ntmps80
  go_wp2_with fail
  refine start_ (n := 14) (S := fun w' => w'.cell? ⟨L.box, 0, none⟩ = some (.pointer (some ⟨L.out, 0, none⟩)) ∧ w'.cell? ⟨L.out, 0, none⟩ = some v) (ds := [13]) #[false, false, false, false, false, false, false, false, false, false, false, false, false, false] (by kernel_rfl) rfl rfl ⟨cbox, cout⟩ (fun hHeld => ?_)
  refine pure_ (i := 4) (N := some 11) (v := ?_) (a' := ?_) #[false, false, false, false, true, false, false, false, false, false, false, false, false, false] rfl rfl (by kernel_rfl) (fun _ _ _ h => h) (Or.inl ⟨by rfl, ?_⟩) ?_ ?_
  rotate_left
  · intro w'
    go_simp
    with_reducible rfl
  rotate_left
  · simp only [Act.put, List.setIfInBounds_toArray, List.set_cons_zero, List.set_cons_succ, i64_w, i32_w]
    rfl
  refine pure_ (i := 5) (N := some 12) (v := ?_) (a' := ?_) #[false, false, false, false, true, true, false, false, false, false, false, false, false, false] rfl rfl (by kernel_rfl) (fun _ _ _ h => h) (Or.inl ⟨by rfl, ?_⟩) ?_ ?_
  rotate_left
  · intro w'
    go_simp
    with_reducible rfl
  rotate_left
  · simp only [Act.put, List.setIfInBounds_toArray, List.set_cons_zero, List.set_cons_succ, i64_w, i32_w]
    rfl
  refine pure_ (i := 7) (N := some 14) (v := ?_) (a' := ?_) #[false, false, false, false, true, true, false, true, false, false, false, false, false, false] rfl rfl (by kernel_rfl) (fun _ _ _ h => h) (Or.inl ⟨by rfl, ?_⟩) ?_ ?_
  rotate_left
  · intro w'
    go_simp
    with_reducible rfl
  rotate_left
  · simp only [Act.put, List.setIfInBounds_toArray, List.set_cons_zero, List.set_cons_succ, i64_w, i32_w]
    rfl
  refine take_ (i := 0) (N := some 7) (v := ?_) (a' := ?_) #[true, false, false, false, true, true, false, true, false, false, false, false, false, false] rfl rfl (by kernel_rfl) (fun _ _ _ h => h) (Or.inl ⟨by rfl, ?_⟩) hHeld ?_ ?_
  rotate_left
  · rintro w' ⟨s0, s1⟩
    go_simp
    with_reducible rfl
  rotate_left
  · simp only [Act.put, List.setIfInBounds_toArray, List.set_cons_zero, List.set_cons_succ, i64_w, i32_w]
    rfl
  refine take_ (i := 1) (N := some 8) (v := ?_) (a' := ?_) #[true, true, false, false, true, true, false, true, false, false, false, false, false, false] rfl rfl (by kernel_rfl) (fun _ _ _ h => h) (Or.inl ⟨by rfl, ?_⟩) hHeld ?_ ?_
  rotate_left
  · rintro w' ⟨s0, s1⟩
    go_simp
    with_reducible rfl
  rotate_left
  · simp only [Act.put, List.setIfInBounds_toArray, List.set_cons_zero, List.set_cons_succ, i64_w, i32_w]
    rfl
  refine pure_ (i := 2) (N := some 9) (v := ?_) (a' := ?_) #[true, true, true, false, true, true, false, true, false, false, false, false, false, false] rfl rfl (by kernel_rfl) (fun _ _ _ h => h) (Or.inl ⟨by rfl, ?_⟩) ?_ ?_
  rotate_left
  · intro w'
    go_simp
    with_reducible rfl
  rotate_left
  · simp only [Act.put, List.setIfInBounds_toArray, List.set_cons_zero, List.set_cons_succ, i64_w, i32_w]
    rfl
  refine take_ (i := 3) (N := some 10) (v := ?_) (a' := ?_) #[true, true, true, true, true, true, false, true, false, false, false, false, false, false] rfl rfl (by kernel_rfl) (fun _ _ _ h => h) (Or.inl ⟨by rfl, ?_⟩) hHeld ?_ ?_
  rotate_left
  · rintro w' ⟨s0, s1⟩
    go_simp
    with_reducible rfl
  rotate_left
  · simp only [Act.put, List.setIfInBounds_toArray, List.set_cons_zero, List.set_cons_succ, i64_w, i32_w]
    rfl
  refine one_ (i := 6) (N := some 13) #[true, true, true, true, true, true, true, true, false, false, false, false, false, false] rfl rfl (by kernel_rfl) (by decide) (fun K hK => ?_)
  refine goes_ Tryd.func78 (by kernel_rfl) rfl #[.slice Ap ps.length cp] (by rfl) rfl rfl (by simp only [List.map_toArray, List.map_cons, List.map_nil]; rfl) ?_
  with_reducible refine (ints_calls _ _ _ _ HP.out HPC.out HPL.out).mono ?_
  rintro e wp ⟨pv, rfl, hp, hbp⟩
  refine ⟨_, rfl, ?_⟩
  have hbp' : Below w.heap.size w wp := Below.trans (below_drew (Below.refl _ _)) hbp
  obtain ⟨Ap, cp, rfl⟩ := Kd.R_slice hp
  have HBP := Lib.hid hbp'
  have HPV := Lib.hid hp
  clear hp hbp hbp'
  refine hK.out _ _ ⟨(box_at h HBP.out), (out_at HV.out HBP.out)⟩ (fun hHeld => ?_)
  clear hK K
  refine norm_ (a' := ?_) ?_ ?_
  rotate_left
  · show Act.put _ (some 13) _ = _
    simp only [Act.put, List.setIfInBounds_toArray, List.set_cons_zero, List.set_cons_succ, i64_w, i32_w]
    rfl
  refine one_ (i := 8) (N := some 15) #[true, true, true, true, true, true, true, true, true, false, false, false, false, false] rfl rfl (by kernel_rfl) (by decide) (fun K hK => ?_)
  refine goes_ Tryd.func58 (by kernel_rfl) rfl #[.slice Ad ds.length cd] (by rfl) rfl rfl (by simp only [List.map_toArray, List.map_cons, List.map_nil]; rfl) ?_
  with_reducible refine (own_calls _ _ _ _ (HD.out _ HBP.out) HDC.out HDL.out).mono ?_
  rintro e wd ⟨dv, rfl, hd, hbd⟩
  refine ⟨_, rfl, ?_⟩
  have hbd' : Below w.heap.size w wd := Below.trans HBP.out (hbd.mono HBP.out.size)
  obtain ⟨Ad, cd, rfl⟩ := Kd.R_slice hd
  have HBD := Lib.hid hbd'
  have HDV := Lib.hid (Kd.R_lower hd HBP.out.size)
  have HPV2 := Lib.hid (Kd.R_below HPV.out hbd)
  clear hd hbd hbd'
  refine hK.out _ _ ⟨(box_at h HBD.out), (out_at HV.out HBD.out)⟩ (fun hHeld => ?_)
  clear hK K
  refine norm_ (a' := ?_) ?_ ?_
  rotate_left
  · show Act.put _ (some 15) _ = _
    simp only [Act.put, List.setIfInBounds_toArray, List.set_cons_zero, List.set_cons_succ, i64_w, i32_w]
    rfl
  refine pure_ (i := 9) (N := some 16) (v := ?_) (a' := ?_) #[true, true, true, true, true, true, true, true, true, true, false, false, false, false] rfl rfl (by kernel_rfl) (fun _ _ _ h => h) (Or.inl ⟨by rfl, ?_⟩) ?_ ?_
  rotate_left
  · intro w'
    go_simp
    with_reducible rfl
  rotate_left
  · simp only [Act.put, List.setIfInBounds_toArray, List.set_cons_zero, List.set_cons_succ, i64_w, i32_w]
    rfl
  refine one_ (i := 10) (N := some 17) #[true, true, true, true, true, true, true, true, true, true, true, false, false, false] rfl rfl (by kernel_rfl) (by decide) (fun K hK => ?_)
  refine value_ (w1 := ?_) (v := ?_) (by rfl) rfl ?_ ?_
  rotate_left 2
  · go_simp
    constructor
    · rfl
    · rfl
  refine hK.out _ _ ⟨(held_alloc hHeld.1 _), (held_alloc hHeld.2 _)⟩ (fun hHeld => ?_)
  clear hK K
  refine norm_ (a' := ?_) ?_ ?_
  rotate_left
  · show Act.put _ (some 17) _ = _
    simp only [Act.put, List.setIfInBounds_toArray, List.set_cons_zero, List.set_cons_succ, i64_w, i32_w]
    rfl
  refine one_ (i := 11) (N := some 18) #[true, true, true, true, true, true, true, true, true, true, true, true, false, false] rfl rfl (by kernel_rfl) (by decide) (fun K hK => ?_)
  refine app_step h HV.out HS.out HN.out HBD.out ⟨4, 0, 0, c, ps, ds⟩ HPV2.out HDV.out (by rfl) (.tmp 10) (.tmp 17) rfl rfl rfl ?_
  intro A1 c1 w1 HE k1 k2 k3
  refine hK.out _ _ ⟨k1, k2⟩ (fun hHeld => ?_)
  clear hK K
  refine norm_ (a' := ?_) ?_ ?_
  rotate_left
  · show Act.put _ (some 18) _ = _
    simp only [Act.put, List.setIfInBounds_toArray, List.set_cons_zero, List.set_cons_succ, i64_w, i32_w]
    rfl
  refine pure_ (i := 12) (N := some 19) (v := ?_) (a' := ?_) #[true, true, true, true, true, true, true, true, true, true, true, true, true, false] rfl rfl (by kernel_rfl) (fun _ _ _ h => h) (Or.inl ⟨by rfl, ?_⟩) ?_ ?_
  rotate_left
  · intro w'
    go_simp
    with_reducible rfl
  rotate_left
  · simp only [Act.put, List.setIfInBounds_toArray, List.set_cons_zero, List.set_cons_succ, i64_w, i32_w]
    rfl
  refine last_ (i := 13) (N := none) #[true, true, true, true, true, true, true, true, true, true, true, true, true, true] rfl rfl (by kernel_rfl) (by decide) (fun K hK => ?_)
  refine skip_ (w1 := ?_) (by rfl) rfl ?_ ?_
  rotate_left
  · go_simp
    rfl
  refine hK.out _ _ ?_
  clear hK K
  refine done_ (by kernel_rfl) ?_
  go_wp2_with fail
  all_goals
    go_end0
    exact ⟨rfl, HE.out⟩

set_option maxRecDepth 100000 in
set_option maxHeartbeats 8000000 in
/-- A system command. -/
theorem l6_calls (L : Loc) (r : RawSt) (evs : List Ev) (w0 w : World) (c : Int) (ds : List Int) (Ad : Option Addr) (cd : Nat) (h : Inv w0 w L r evs) (hn : evs.length < 1000000000000) (hd : ∀ W, Below w.heap.size w W → Kd.C (Kd.int .u8) W Ad ds.length ds) (hdc : ds.length ≤ cd) (hdl : ds.length ≤ 140737488355328) :
    Calls Tryd.prog 81 #[.int .i64 c, .slice Ad ds.length cd, .pointer (some ⟨L.box, 0, none⟩)] w fun e w' => e = .returned (.tuple #[]) ∧ Frm L w w' ∧ Evs w' L (evs ++ [⟨5, 0, 0, c, [], ds⟩]) := by
  obtain ⟨v, hv, hS⟩ := h.evs
  have cbox : w.cell? ⟨L.box, 0, none⟩ = some (.pointer (some ⟨L.out, 0, none⟩)) := blk_cell h.raw.hbox 0
  have cout : w.cell? ⟨L.out, 0, none⟩ = some v := blk_cell hv 0
  have cal : ∀ o, (w.alloc o).cell? ⟨L.out, 0, none⟩ = some v := out_at_new hv (Below.refl _ _)
  have HN := Lib.hid hn
  have HV := Lib.hid hv
  have HS := Lib.hid hS
  clear hn hv hS
  have HD := Lib.hid hd
  have HDC := Lib.hid hdc
  have HDL := Lib.hid hdl
  clear hd hdc hdl
  go_enter Tryd.func81, Tryd.ntmps81
  go_wp2_with fail
  refine start_ (n := 12) (S := fun w' => w'.cell? ⟨L.box, 0, none⟩ = some (.pointer (some ⟨L.out, 0, none⟩)) ∧ w'.cell? ⟨L.out, 0, none⟩ = some v) (ds := [11]) #[false, false, false, false, false, false, false, false, false, false, false, false] (by kernel_rfl) rfl rfl ⟨cbox, cout⟩ (fun hHeld => ?_)
  refine pure_ (i := 4) (N := some 9) (v := ?_) (a' := ?_) #[false, false, false, false, true, false, false, false, false, false, false, false] rfl rfl (by kernel_rfl) (fun _ _ _ h => h) (Or.inl ⟨by rfl, ?_⟩) ?_ ?_
  rotate_left
  · intro w'
    go_simp
    with_reducible rfl
  rotate_left
  · simp only [Act.put, List.setIfInBounds_toArray, List.set_cons_zero, List.set_cons_succ, i64_w, i32_w]
    rfl
  refine pure_ (i := 5) (N := some 10) (v := ?_) (a' := ?_) #[false, false, false, false, true, true, false, false, false, false, false, false] rfl rfl (by kernel_rfl) (fun _ _ _ h => h) (Or.inl ⟨by rfl, ?_⟩) ?_ ?_
  rotate_left
  · intro w'
    go_simp
    with_reducible rfl
  rotate_left
  · simp only [Act.put, List.setIfInBounds_toArray, List.set_cons_zero, List.set_cons_succ, i64_w, i32_w]
    rfl
  refine take_ (i := 0) (N := some 5) (v := ?_) (a' := ?_) #[true, false, false, false, true, true, false, false, false, false, false, false] rfl rfl (by kernel_rfl) (fun _ _ _ h => h) (Or.inl ⟨by rfl, ?_⟩) hHeld ?_ ?_
  rotate_left
  · rintro w' ⟨s0, s1⟩
    go_simp
    with_reducible rfl
  rotate_left
  · simp only [Act.put, List.setIfInBounds_toArray, List.set_cons_zero, List.set_cons_succ, i64_w, i32_w]
    rfl
  refine take_ (i := 1) (N := some 6) (v := ?_) (a' := ?_) #[true, true, false, false, true, true, false, false, false, false, false, false] rfl rfl (by kernel_rfl) (fun _ _ _ h => h) (Or.inl ⟨by rfl, ?_⟩) hHeld ?_ ?_
  rotate_left
  · rintro w' ⟨s0, s1⟩
    go_simp
    with_reducible rfl
  rotate_left
  · simp only [Act.put, List.setIfInBounds_toArray, List.set_cons_zero, List.set_cons_succ, i64_w, i32_w]
    rfl
  refine pure_ (i := 2) (N := some 7) (v := ?_) (a' := ?_) #[true, true, true, false, true, true, false, false, false, false, false, false] rfl rfl (by kernel_rfl) (fun _ _ _ h => h) (Or.inl ⟨by rfl, ?_⟩) ?_ ?_
  rotate_left
  · intro w'
    go_simp
    with_reducible rfl
  rotate_left
  · simp only [Act.put, List.setIfInBounds_toArray, List.set_cons_zero, List.set_cons_succ, i64_w, i32_w]
    rfl
  refine take_ (i := 3) (N := some 8) (v := ?_) (a' := ?_) #[true, true, true, true, true, true, false, false, false, false, false, false] rfl rfl (by kernel_rfl) (fun _ _ _ h => h) (Or.inl ⟨by rfl, ?_⟩) hHeld ?_ ?_
  rotate_left
  · rintro w' ⟨s0, s1⟩
    go_simp
    with_reducible rfl
  rotate_left
  · simp only [Act.put, List.setIfInBounds_toArray, List.set_cons_zero, List.set_cons_succ, i64_w, i32_w]
    rfl
  refine one_ (i := 6) (N := some 11) #[true, true, true, true, true, true, true, false, false, false, false, false] rfl rfl (by kernel_rfl) (by decide) (fun K hK => ?_)
  refine goes_ Tryd.func58 (by kernel_rfl) rfl #[.slice Ad ds.length cd] (by rfl) rfl rfl (by simp only [List.map_toArray, List.map_cons, List.map_nil]; rfl) ?_
  with_reducible refine (own_calls _ _ _ _ (HD.out _ (below_drew (Below.refl _ _))) HDC.out HDL.out).mono ?_
  rintro e wd ⟨dv, rfl, hd, hbd⟩
  refine ⟨_, rfl, ?_⟩
  have hbd' : Below w.heap.size w wd := Below.trans (below_drew (Below.refl _ _)) hbd
  obtain ⟨Ad, cd, rfl⟩ := Kd.R_slice hd
  have HBD := Lib.hid hbd'
  have HDV := Lib.hid (Kd.R_lower hd (Nat.le_refl _))
  clear hd hbd hbd'
  refine hK.out _ _ ⟨(box_at h HBD.out), (out_at HV.out HBD.out)⟩ (fun hHeld => ?_)
  clear hK K
  refine norm_ (a' := ?_) ?_ ?_
  rotate_left
  · show Act.put _ (some 11) _ = _
    simp only [Act.put, List.setIfInBounds_toArray, List.set_cons_zero, List.set_cons_succ, i64_w, i32_w]
    rfl
  refine pure_ (i := 7) (N := some 12) (v := ?_) (a' := ?_) #[true, true, true, true, true, true, true, true, false, false, false, false] rfl rfl (by kernel_rfl) (fun _ _ _ h => h) (Or.inl ⟨by rfl, ?_⟩) ?_ ?_
  rotate_left
  · intro w'
    go_simp
    with_reducible rfl
  rotate_left
  · simp only [Act.put, List.setIfInBounds_toArray, List.set_cons_zero, List.set_cons_succ, i64_w, i32_w]
    rfl
  refine one_ (i := 8) (N := some 13) #[true, true, true, true, true, true, true, true, true, false, false, false] rfl rfl (by kernel_rfl) (by decide) (fun K hK => ?_)
  refine value_ (w1 := ?_) (v := ?_) (by rfl) rfl ?_ ?_
  rotate_left 2
  · go_simp
    constructor
    · rfl
    · rfl
  refine hK.out _ _ ⟨(held_alloc hHeld.1 _), (held_alloc hHeld.2 _)⟩ (fun hHeld => ?_)
  clear hK K
  refine norm_ (a' := ?_) ?_ ?_
  rotate_left
  · show Act.put _ (some 13) _ = _
    simp only [Act.put, List.setIfInBounds_toArray, List.set_cons_zero, List.set_cons_succ, i64_w, i32_w]
    rfl
  refine one_ (i := 9) (N := some 14) #[true, true, true, true, true, true, true, true, true, true, false, false] rfl rfl (by kernel_rfl) (by decide) (fun K hK => ?_)
  refine app_step h HV.out HS.out HN.out HBD.out ⟨5, 0, 0, c, [], ds⟩ (Kd.R_nil _ _ _ _ _) HDV.out (by rfl) (.tmp 8) (.tmp 13) rfl rfl rfl ?_
  intro A1 c1 w1 HE k1 k2 k3
  refine hK.out _ _ ⟨k1, k2⟩ (fun hHeld => ?_)
  clear hK K
  refine norm_ (a' := ?_) ?_ ?_
  rotate_left
  · show Act.put _ (some 14) _ = _
    simp only [Act.put, List.setIfInBounds_toArray, List.set_cons_zero, List.set_cons_succ, i64_w, i32_w]
    rfl
  refine pure_ (i := 10) (N := some 15) (v := ?_) (a' := ?_) #[true, true, true, true, true, true, true, true, true, true, true, false] rfl rfl (by kernel_rfl) (fun _ _ _ h => h) (Or.inl ⟨by rfl, ?_⟩) ?_ ?_
  rotate_left
  · intro w'
    go_simp
    with_reducible rfl
  rotate_left
  · simp only [Act.put, List.setIfInBounds_toArray, List.set_cons_zero, List.set_cons_succ, i64_w, i32_w]
    rfl
  refine last_ (i := 11) (N := none) #[true, true, true, true, true, true, true, true, true, true, true, true] rfl rfl (by kernel_rfl) (by decide) (fun K hK => ?_)
  refine skip_ (w1 := ?_) (by rfl) rfl ?_ ?_
  rotate_left
  · go_simp
    rfl
  refine hK.out _ _ ?_
  clear hK K
  refine done_ (by kernel_rfl) ?_
  go_wp2_with fail
  all_goals
    go_end0
    exact ⟨rfl, HE.out⟩

set_option maxRecDepth 100000 in
set_option maxHeartbeats 8000000 in
/-- An application's command. -/
theorem l8_calls (L : Loc) (r : RawSt) (evs : List Ev) (w0 w : World) (ds : List Int) (Ad : Option Addr) (cd : Nat) (h : Inv w0 w L r evs) (hn : evs.length < 1000000000000) (hd : ∀ W, Below w.heap.size w W → Kd.C (Kd.int .u8) W Ad ds.length ds) (hdc : ds.length ≤ cd) (hdl : ds.length ≤ 140737488355328) :
    Calls Tryd.prog 83 #[.slice Ad ds.length cd, .pointer (some ⟨L.box, 0, none⟩)] w fun e w' => e = .returned (.tuple #[]) ∧ Frm L w w' ∧ Evs w' L (evs ++ [⟨7, 0, 0, 0, [], ds⟩]) := by
  obtain ⟨v, hv, hS⟩ := h.evs
  have cbox : w.cell? ⟨L.box, 0, none⟩ = some (.pointer (some ⟨L.out, 0, none⟩)) := blk_cell h.raw.hbox 0
  have cout : w.cell? ⟨L.out, 0, none⟩ = some v := blk_cell hv 0
  have cal : ∀ o, (w.alloc o).cell? ⟨L.out, 0, none⟩ = some v := out_at_new hv (Below.refl _ _)
  have HN := Lib.hid hn
  have HV := Lib.hid hv
  have HS := Lib.hid hS
  clear hn hv hS
  have HD := Lib.hid hd
  have HDC := Lib.hid hdc
  have HDL := Lib.hid hdl
  clear hd hdc hdl
  go_enter Tryd.func83, Tryd.ntmps83
  go_wp2_with fail
  refine start_ (n := 11) (S := fun w' => w'.cell? ⟨L.box, 0, none⟩ = some (.pointer (some ⟨L.out, 0, none⟩)) ∧ w'.cell? ⟨L.out, 0, none⟩ = some v) (ds := [10]) #[false, false, false, false, false, false, false, false, false, false, false] (by kernel_rfl) rfl rfl ⟨cbox, cout⟩ (fun hHeld => ?_)
  refine pure_ (i := 4) (N := some 7) (v := ?_) (a' := ?_) #[false, false, false, false, true, false, false, false, false, false, false] rfl rfl (by kernel_rfl) (fun _ _ _ h => h) (Or.inl ⟨by rfl, ?_⟩) ?_ ?_
  rotate_left
  · intro w'
    go_simp
    with_reducible rfl
  rotate_left
  · simp only [Act.put, List.setIfInBounds_toArray, List.set_cons_zero, List.set_cons_succ, i64_w, i32_w]
    rfl
  refine take_ (i := 0) (N := some 3) (v := ?_) (a' := ?_) #[true, false, false, false, true, false, false, false, false, false, false] rfl rfl (by kernel_rfl) (fun _ _ _ h => h) (Or.inl ⟨by rfl, ?_⟩) hHeld ?_ ?_
  rotate_left
  · rintro w' ⟨s0, s1⟩
    go_simp
    with_reducible rfl
  rotate_left
  · simp only [Act.put, List.setIfInBounds_toArray, List.set_cons_zero, List.set_cons_succ, i64_w, i32_w]
    rfl
  refine take_ (i := 1) (N := some 4) (v := ?_) (a' := ?_) #[true, true, false, false, true, false, false, false, false, false, false] rfl rfl (by kernel_rfl) (fun _ _ _ h => h) (Or.inl ⟨by rfl, ?_⟩) hHeld ?_ ?_
  rotate_left
  · rintro w' ⟨s0, s1⟩
    go_simp
    with_reducible rfl
  rotate_left
  · simp only [Act.put, List.setIfInBounds_toArray, List.set_cons_zero, List.set_cons_succ, i64_w, i32_w]
    rfl
  refine pure_ (i := 2) (N := some 5) (v := ?_) (a' := ?_) #[true, true, true, false, true, false, false, false, false, false, false] rfl rfl (by kernel_rfl) (fun _ _ _ h => h) (Or.inl ⟨by rfl, ?_⟩) ?_ ?_
  rotate_left
  · intro w'
    go_simp
    with_reducible rfl
  rotate_left
  · simp only [Act.put, List.setIfInBounds_toArray, List.set_cons_zero, List.set_cons_succ, i64_w, i32_w]
    rfl
  refine take_ (i := 3) (N := some 6) (v := ?_) (a' := ?_) #[true, true, true, true, true, false, false, false, false, false, false] rfl rfl (by kernel_rfl) (fun _ _ _ h => h) (Or.inl ⟨by rfl, ?_⟩) hHeld ?_ ?_
  rotate_left
  · rintro w' ⟨s0, s1⟩
    go_simp
    with_reducible rfl
  rotate_left
  · simp only [Act.put, List.setIfInBounds_toArray, List.set_cons_zero, List.set_cons_succ, i64_w, i32_w]
    rfl
  refine one_ (i := 5) (N := some 8) #[true, true, true, true, true, true, false, false, false, false, false] rfl rfl (by kernel_rfl) (by decide) (fun K hK => ?_)
  refine goes_ Tryd.func58 (by kernel_rfl) rfl #[.slice Ad ds.length cd] (by rfl) rfl rfl (by simp only [List.map_toArray, List.map_cons, List.map_nil]; rfl) ?_
  with_reducible refine (own_calls _ _ _ _ (HD.out _ (below_drew (Below.refl _ _))) HDC.out HDL.out).mono ?_
  rintro e wd ⟨dv, rfl, hd, hbd⟩
  refine ⟨_, rfl, ?_⟩
  have hbd' : Below w.heap.size w wd := Below.trans (below_drew (Below.refl _ _)) hbd
  obtain ⟨Ad, cd, rfl⟩ := Kd.R_slice hd
  have HBD := Lib.hid hbd'
  have HDV := Lib.hid (Kd.R_lower hd (Nat.le_refl _))
  clear hd hbd hbd'
  refine hK.out _ _ ⟨(box_at h HBD.out), (out_at HV.out HBD.out)⟩ (fun hHeld => ?_)
  clear hK K
  refine norm_ (a' := ?_) ?_ ?_
  rotate_left
  · show Act.put _ (some 8) _ = _
    simp only [Act.put, List.setIfInBounds_toArray, List.set_cons_zero, List.set_cons_succ, i64_w, i32_w]
    rfl
  refine pure_ (i := 6) (N := some 9) (v := ?_) (a' := ?_) #[true, true, true, true, true, true, true, false, false, false, false] rfl rfl (by kernel_rfl) (fun _ _ _ h => h) (Or.inl ⟨by rfl, ?_⟩) ?_ ?_
  rotate_left
  · intro w'
    go_simp
    with_reducible rfl
  rotate_left
  · simp only [Act.put, List.setIfInBounds_toArray, List.set_cons_zero, List.set_cons_succ, i64_w, i32_w]
    rfl
  refine one_ (i := 7) (N := some 10) #[true, true, true, true, true, true, true, true, false, false, false] rfl rfl (by kernel_rfl) (by decide) (fun K hK => ?_)
  refine value_ (w1 := ?_) (v := ?_) (by rfl) rfl ?_ ?_
  rotate_left 2
  · go_simp
    constructor
    · rfl
    · rfl
  refine hK.out _ _ ⟨(held_alloc hHeld.1 _), (held_alloc hHeld.2 _)⟩ (fun hHeld => ?_)
  clear hK K
  refine norm_ (a' := ?_) ?_ ?_
  rotate_left
  · show Act.put _ (some 10) _ = _
    simp only [Act.put, List.setIfInBounds_toArray, List.set_cons_zero, List.set_cons_succ, i64_w, i32_w]
    rfl
  refine one_ (i := 8) (N := some 11) #[true, true, true, true, true, true, true, true, true, false, false] rfl rfl (by kernel_rfl) (by decide) (fun K hK => ?_)
  refine app_step h HV.out HS.out HN.out HBD.out ⟨7, 0, 0, 0, [], ds⟩ (Kd.R_nil _ _ _ _ _) HDV.out (by rfl) (.tmp 6) (.tmp 10) rfl rfl rfl ?_
  intro A1 c1 w1 HE k1 k2 k3
  refine hK.out _ _ ⟨k1, k2⟩ (fun hHeld => ?_)
  clear hK K
  refine norm_ (a' := ?_) ?_ ?_
  rotate_left
  · show Act.put _ (some 11) _ = _
    simp only [Act.put, List.setIfInBounds_toArray, List.set_cons_zero, List.set_cons_succ, i64_w, i32_w]
    rfl
  refine pure_ (i := 9) (N := some 12) (v := ?_) (a' := ?_) #[true, true, true, true, true, true, true, true, true, true, false] rfl rfl (by kernel_rfl) (fun _ _ _ h => h) (Or.inl ⟨by rfl, ?_⟩) ?_ ?_
  rotate_left
  · intro w'
    go_simp
    with_reducible rfl
  rotate_left
  · simp only [Act.put, List.setIfInBounds_toArray, List.set_cons_zero, List.set_cons_succ, i64_w, i32_w]
    rfl
  refine last_ (i := 10) (N := none) #[true, true, true, true, true, true, true, true, true, true, true] rfl rfl (by kernel_rfl) (by decide) (fun K hK => ?_)
  refine skip_ (w1 := ?_) (by rfl) rfl ?_ ?_
  rotate_left
  · go_simp
    rfl
  refine hK.out _ _ ?_
  clear hK K
  refine done_ (by kernel_rfl) ?_
  go_wp2_with fail
  all_goals
    go_end0
    exact ⟨rfl, HE.out⟩

end Go.Proofs.YtgcbnegdchladaaDoor.X
namespace Go.Proofs.YtgcbnegdchladaaDoor.X
open Go.RowKit Go.Proofs.YtgcbnegdchladaaDoorW.PrintWords Go.Proofs.YtgcbnegdchladaaDoorW.PrintLast Go.Proofs.YtgcbnegdchladaaDoorW.PrintMore

theorem wraps64 (n : Int) (h0 : 0 ≤ n) (h1 : n < 2 ^ 62) : IntKind.i64.wrap n = n := by rw [IntKind.wrap_i64]; omega
theorem or_comm64 (x y : Int) : bits .or .i64 x y = bits .or .i64 y x := by
  show IntKind.i64.wrap ((BitVec.ofInt 64 x ||| BitVec.ofInt 64 y).toNat : Int) = IntKind.i64.wrap ((BitVec.ofInt 64 y ||| BitVec.ofInt 64 x).toNat : Int)
  rw [BitVec.or_comm]
/-- A byte joined below: x is a multiple of 256. -/
theorem or_low (x b : Int) (h0 : 0 ≤ x) (h1 : x < 2 ^ 40) (h2 : x % 256 = 0) (b0 : 0 ≤ b) (b1 : b < 256) : bits .or .i64 x b = x + b :=
  bits_join .i64 62 (by decide) wraps64 8 x b h0 h2 (by omega) b0 b1 (by omega)
/-- An intermediate joined above. -/
theorem or_high (x b : Int) (h0 : 0 ≤ x) (h1 : x < 65536) (b0 : 0 ≤ b) (b1 : b < 256) : bits .or .i64 x (b * 65536) = x + b * 65536 := by
  rw [or_comm64, bits_join .i64 62 (by decide) wraps64 16 (b * 65536) x (by omega) (by omega) (by omega) h0 (by omega) (by omega)]
  omega
theorem or_zero (b : Int) (b0 : 0 ≤ b) (b1 : b < 256) : bits .or .i64 0 (b * 256) = b * 256 := by
  rw [or_comm64, bits_join .i64 62 (by decide) wraps64 8 (b * 256) 0 (by omega) (by omega) (by omega) (by omega) (by omega) (by omega)]
  omega

section
variable {w0 w : World} {L : Loc} {r : RawSt} {evs : List Ev}
theorem Raw.c0 (h : Raw w L r) : w.cell? ⟨L.P, 0, none⟩ = some (.func (.func 75) #[] #[.pointer (some ⟨L.box, 0, none⟩)]) := h.cell 0
theorem Raw.c1 (h : Raw w L r) : w.cell? ⟨L.P, 1, none⟩ = some (.func (.func 76) #[] #[.pointer (some ⟨L.box, 0, none⟩)]) := h.cell 1
theorem Raw.c2 (h : Raw w L r) : w.cell? ⟨L.P, 2, none⟩ = some (.func (.func 77) #[] #[.pointer (some ⟨L.box, 0, none⟩)]) := h.cell 2
theorem Raw.c3 (h : Raw w L r) : w.cell? ⟨L.P, 3, none⟩ = some (.func (.func 79) #[] #[.pointer (some ⟨L.box, 0, none⟩)]) := h.cell 3
theorem Raw.c4 (h : Raw w L r) : w.cell? ⟨L.P, 4, none⟩ = some (.func (.func 80) #[] #[.pointer (some ⟨L.box, 0, none⟩)]) := h.cell 4
theorem Raw.c5 (h : Raw w L r) : w.cell? ⟨L.P, 5, none⟩ = some (.func (.func 81) #[] #[.pointer (some ⟨L.box, 0, none⟩)]) := h.cell 5
theorem Raw.c6 (h : Raw w L r) : w.cell? ⟨L.P, 6, none⟩ = some (.func (.func 82) #[] #[.pointer (some ⟨L.box, 0, none⟩)]) := h.cell 6
theorem Raw.c7 (h : Raw w L r) : w.cell? ⟨L.P, 7, none⟩ = some (.func (.func 83) #[] #[.pointer (some ⟨L.box, 0, none⟩)]) := h.cell 7
theorem Raw.c8 (h : Raw w L r) : w.cell? ⟨L.P, 8, none⟩ = some (.func (.func 84) #[] #[.pointer (some ⟨L.box, 0, none⟩)]) := h.cell 8
theorem Raw.c9 (h : Raw w L r) : w.cell? ⟨L.P, 9, none⟩ = some (.slice (some ⟨L.pp, 0, none⟩) 32 32) := h.cell 9
theorem Raw.c10 (h : Raw w L r) : w.cell? ⟨L.P, 10, none⟩ = some (.slice (some ⟨L.pd, 0, none⟩) 4096 4096) := h.cell 10
theorem Raw.c11 (h : Raw w L r) : w.cell? ⟨L.P, 11, none⟩ = some (.int .i64 r.dlen) := h.cell 11
theorem Raw.c12 (h : Raw w L r) : w.cell? ⟨L.P, 12, none⟩ = some (.int .i64 r.plen) := h.cell 12
theorem Raw.c13 (h : Raw w L r) : w.cell? ⟨L.P, 13, none⟩ = some (.int .i64 r.cmd) := h.cell 13
theorem Raw.c14 (h : Raw w L r) : w.cell? ⟨L.P, 14, none⟩ = some (.int .u8 r.st) := h.cell 14
theorem Inv.drew (h : Inv w0 w L r evs) : Inv w0 w.drew L r evs := h.grow (below_drew (Below.refl _ _))


/-- clear -/
theorem clear_calls (h : Inv w0 w L r evs) :
    Calls Tryd.prog 103 #[.pointer (some ⟨L.P, 0, none⟩)] w fun e w' => e = .returned (.tuple #[]) ∧ Inv w0 w' L { r with cmd := 0, plen := 0, pc := r.pc.set 0 Miss } evs := by
  (have := Raw.c9 h.raw; have := Raw.c10 h.raw; have := Raw.c11 h.raw; have := Raw.c12 h.raw; have := Raw.c13 h.raw; have := Raw.frozen h.raw 11; have := Raw.frozen h.raw 12; have := Raw.frozen h.raw 13; have := Raw.frozen h.raw 14; have := Raw.P_ne_pp h.raw; have := Raw.P_ne_pd h.raw; have := Raw.pp_ne_pd h.raw; have := Ne.symm (Raw.P_ne_pp h.raw); have := Ne.symm (Raw.P_ne_pd h.raw); have := Ne.symm (Raw.pp_ne_pd h.raw))
  have p0 := h.raw.pcell 0 (by omega)
  have pf := h.raw.pfrozen 0
  have h3 := Lib.hid (((h.setPP 0 Miss).setPlen 0).setCmd 0)
  go_enter Tryd.func103, Tryd.ntmps103
  go_wp2_with fail
  go_end0
  exact ⟨rfl, h3.out⟩
end
end Go.Proofs.YtgcbnegdchladaaDoor.X
