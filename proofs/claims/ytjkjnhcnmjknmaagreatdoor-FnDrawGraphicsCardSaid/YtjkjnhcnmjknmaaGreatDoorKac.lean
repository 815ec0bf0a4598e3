/- Texts of this claim, joined: WNEv WMore XConv WTab WFour WFootNe WAt WEqStruct WRepsOne WInv WInvWords WGuard Y0 XShelf XItoa Y30D. Of each, what the claim uses. -/
import Derived.Test.YtjkjnhcnmjknmaaGreatDoorKab
import Derived.Test.YtjkjnhcnmjknmaaGreatDoorKaa
import Derived.Test.YtjkjnhcnmjknmaaGreatDoorProg
import Derived.Lib.AppendIntMem
import Derived.Lib.ConvBytes
import Derived.Laws.Runes
import Derived.Laws.StructEq
import Derived.Below
import Derived.Deep.Draws
import Derived.Deep.AppendLies
import Derived.Maps.AppendAt
import Derived.OwnWalk
import Derived.Laws.BytesArg
import Derived.Laws.MakeOwn
import Derived.Laws.OwnMore
import Derived.Deep.OwnRows
import Derived.Tactics
import Derived.Laws.Slices
import Derived.WalkKit
import Derived.KernelRfl
import Derived.RowKit3
import Derived.Deep.LoopGhost
import Derived.Deep.QuietTactic
import Derived.BigQuiet
import Derived.WideLaws
import Derived.Deep.DeepCutAuto
import Derived.Deep.CutBlock
import Derived.Deep.RegionHeld3
import Derived.Laws.Rows
import Derived.Lib.AppendStr
import Derived.ArgAppend
import Derived.Laws.IdiomCopy
import Derived.OrdersHeld
import Derived.Laws.BitsLemmas
import Derived.RowKit
import Derived.Shelf.Small.Utf8
import Derived.Shelf.Strconv.Itoa0
import Derived.Shelf.Strconv.Itoa1
import Derived.Shelf.LaysM
import Derived.Shelf.Strconv.Itoa2
import Derived.Shelf.Strconv.Itoa3
import Derived.Shelf.Bytes.Len
import Derived.Shelf.Bytes.TryGrow
import Derived.Shelf.Bytes.GrowSliceCatch
import Derived.Shelf.Bytes.GrowSlice
import Derived.Shelf.Bytes.GrowRow0
import Derived.Shelf.Bytes.GrowRow
import Derived.Shelf.Bytes.GrowNil
import Derived.Shelf.Bytes.Grow
import Derived.Shelf.Bytes.WriteString
import Derived.Shelf.Bytes.String
import Derived.Shelf.Unicode.DecodeSlow
section
/-! ### 48. N's events: append, a whole row appended, zeros appended, literals, make, stores, cuts, an element taken out -/
namespace Go.Proofs.YtjkjnhcnmjknmaaGreatDoorW.PrintWords
open Go.RowKit
namespace Kd
section
variable {α : Type} {d : Kd α} {e base n cap g : Nat} {ok ok' okp : Nat → Prop} {w w1 W : World} {v v1 : Value} {xs ys : List α}
/-- Behind an append: the old elements and the new ones, moved. -/
theorem N_appended {rows news : List (List Value)} (h0 : ∀ k, v.ownBlock = some k → ok k) (hl : rows.length = xs.length) (hf : ∀ (j : Nat) (x : α) (c : List Value), xs[j]? = some x → rows[j]? = some c → FK d W (fun k => ok k ∧ some k ≠ v.ownBlock) x c)
    (hl2 : news.length = ys.length) (hf2 : ∀ (j : Nat) (x : α) (c : List Value), ys[j]? = some x → news[j]? = some c → FK d W okp x c) (hokp : ∀ k, okp k → ok k ∧ some k ≠ v.ownBlock) (hfresh : ∀ k, W.heap.size ≤ k → ok k)
    (hR : (raw d.sz).R e w1 base (fun _ => True) v1 (rows ++ news)) (hg : W.grownBy w1 v.ownBlock) (hat : v1.ownBlock = v.ownBlock ∨ ∃ b, v1.ownBlock = some b ∧ W.heap.size ≤ b) : N d e w1 base ok v1 (xs ++ ys) := by
  have hne : ∀ k, some k ≠ v.ownBlock → k < W.heap.size → some k ≠ v1.ownBlock := by
    intro k hk hlt
    rcases hat with hat | ⟨b, hb, hle⟩
    · rw [hat]; exact hk
    · rw [hb]
      intro he
      injection he with he
      omega
  have step : ∀ {x : α} {c : List Value} {o : Nat → Prop}, FK d W o x c → (∀ k, o k → ok k ∧ some k ≠ v.ownBlock) → FK d w1 (fun k => ok k ∧ some k ≠ v1.ownBlock) x c := by
    intro x c o hq ho
    exact FK_mono (FK_step (FK_bound hq) (fun k hk hlt => hg.block k hlt (ho k hk.1).2)) (fun k hk => ⟨(ho k hk.1).1, hne k (ho k hk.1).2 hk.2⟩)
  refine ⟨fun k hk => ?_, rows ++ news, by rw [List.length_append, List.length_append, hl, hl2], raw_tight hR, fun j x c hx hc => ?_⟩
  · rcases hat with hat | ⟨b, hb, hle⟩
    · exact h0 k (hat ▸ hk)
    · rw [hb] at hk
      injection hk with hk
      exact hfresh k (by omega)
  · rcases Nat.lt_or_ge j xs.length with hlt | hge
    · rw [List.getElem?_append_left hlt] at hx
      rw [List.getElem?_append_left (by omega)] at hc
      exact step (hf j x c hx hc) (fun _ hk => hk)
    · rw [List.getElem?_append_right hge] at hx
      rw [List.getElem?_append_right (by omega), hl] at hc
      exact step (hf2 _ x c hx hc) hokp
theorem FK_raw {x : α} {c : List Value} (h : FK d W ok x c) : c = c ∧ c.length = d.sz ∧ ∀ u ∈ c, u.oneCell' = true := ⟨rfl, d.K_len (FK_now h), d.K_one (FK_now h)⟩
end
section
variable {P : Program} {ops : Array Oper} {rest : List Oper} {o : Oper} {a : Act} {Q : Exit → Act → World → Prop} {Kc : Act → World → Prop} {α : Type}
/-- append(v, x), behind 'at_builtin': x's cells are cs. -/
theorem N_append (d : Kd α) {w0 W : World} (base : Nat) (hgd : o.guard = none) (s x : Operand) (t e : TypeId) (z : Value) (bytes : Nat)
    (ho : o.op = .call { callee := .builtin .append, args := #[s, x], argTypes := #[t, t] })
    (ht : P.underlying t = some (.slice e)) (hinfo : (P.info? e).map (fun i => (i.zero, i.size, i.bytes)) = some (some z, d.sz, bytes)) (hz : z.cells.size = d.sz) (hs0 : 0 < d.sz) (hb0 : 0 < bytes)
    (v : Value) (xs : List α) (p : α) (cs : List Value) (ok okp : Nat → Prop) (hs : a.eval s = v) (hx : a.eval x = .slice (some ⟨W.heap.size, 0, none⟩) 1 1) (hp : FK d W okp p cs) (hokp : ∀ k, okp k → ok k ∧ some k ≠ v.ownBlock) (hfresh : ∀ k, W.heap.size ≤ k → ok k)
    (HO : N d e W base ok v xs) (HB : Below base w0 W) (hbase : base ≤ W.heap.size) (hl : (xs.length + 1) * bytes ≤ 140737488355328)
    (h : ∀ v1 w1, N d e w1 base ok v1 (xs ++ [p]) → Below base w0 w1 → W.grownBy w1 v.ownBlock → (v1.ownBlock = v.ownBlock ∨ ∃ b, v1.ownBlock = some b ∧ W.heap.size ≤ b) → wpList P ops Q rest (a.put o.dst v1) w1) :
    wpList P ops Q (o :: rest) a (W.alloc (.cells cs.toArray e)) := by
  obtain ⟨h0, rows, hlr, hR, hf⟩ := HO
  refine R_append (raw d.sz) base hgd s x t e z bytes ho ht hinfo hz hs0 hb0 v rows cs cs (fun _ => True) (fun _ => False) hs hx (FK_raw hp) (fun _ hk => hk.elim) (fun _ _ => trivial) (raw_any hR) HB hbase (by rw [hlr]; exact hl) ?_
  intro v1 w1 hr hb hg hat
  exact h v1 w1 (N_appended h0 hlr hf (ys := [p]) (news := [cs]) rfl (fun j y c hy hc => by
    rcases j with _ | j
    · simp only [List.getElem?_cons_zero, Option.some.injEq] at hy hc
      rw [← hy, ← hc]; exact hp
    · simp at hy) hokp hfresh hr hg hat) hb hg hat
end
end Kd
end Go.Proofs.YtjkjnhcnmjknmaaGreatDoorW.PrintWords
end
section
namespace Go.Proofs.YtjkjnhcnmjknmaaGreatDoorW.PrintMore
open Go.RowKit Go.Proofs.YtjkjnhcnmjknmaaGreatDoorW.PrintWords
namespace Kd
open Go.Proofs.YtjkjnhcnmjknmaaGreatDoorW.PrintWords.Kd
end Kd
namespace Kd
open Go.Proofs.YtjkjnhcnmjknmaaGreatDoorW.PrintWords.Kd
section
variable {α : Type} {d : Kd α} {e base g N : Nat} {ok : Nat → Prop} {W w1 : World} {u v : Value} {xs : List α}
end
end Kd
/-- 'max' and 'min' of two whole numbers. -/
theorem max2_int (k k' : IntKind) (x y : Int) : Builtin.max2 (.int k x) (.int k' y) = pure (.int k (if x < y then y else x)) := by simp only [Builtin.max2, gt_iff_lt]
theorem min2_int (k k' : IntKind) (x y : Int) : Builtin.min2 (.int k x) (.int k' y) = pure (.int k (if y < x then y else x)) := by simp only [Builtin.min2]
theorem max_two (ats : Array TypeId) (ty : TypeId) (a b : Value) : Builtin.max_ ats ty #[a, b] = (Builtin.max2 a b >>= fun s => pure s) := by simp only [Builtin.max_, List.foldlM_cons, List.foldlM_nil]
theorem min_two (ats : Array TypeId) (ty : TypeId) (a b : Value) : Builtin.min_ ats ty #[a, b] = (Builtin.min2 a b >>= fun s => pure s) := by simp only [Builtin.min_, List.foldlM_cons, List.foldlM_nil]
theorem max_three (ats : Array TypeId) (ty : TypeId) (a b c : Value) : Builtin.max_ ats ty #[a, b, c] = (Builtin.max2 a b >>= fun s => Builtin.max2 s c >>= fun s => pure s) := by simp only [Builtin.max_, List.foldlM_cons, List.foldlM_nil]
theorem min_three (ats : Array TypeId) (ty : TypeId) (a b c : Value) : Builtin.min_ ats ty #[a, b, c] = (Builtin.min2 a b >>= fun s => Builtin.min2 s c >>= fun s => pure s) := by simp only [Builtin.min_, List.foldlM_cons, List.foldlM_nil]
theorem max_four (ats : Array TypeId) (ty : TypeId) (a b c d : Value) : Builtin.max_ ats ty #[a, b, c, d] = (Builtin.max2 a b >>= fun s => Builtin.max2 s c >>= fun s => Builtin.max2 s d >>= fun s => pure s) := by simp only [Builtin.max_, List.foldlM_cons, List.foldlM_nil]
theorem min_four (ats : Array TypeId) (ty : TypeId) (a b c d : Value) : Builtin.min_ ats ty #[a, b, c, d] = (Builtin.min2 a b >>= fun s => Builtin.min2 s c >>= fun s => Builtin.min2 s d >>= fun s => pure s) := by simp only [Builtin.min_, List.foldlM_cons, List.foldlM_nil]
end Go.Proofs.YtjkjnhcnmjknmaaGreatDoorW.PrintMore
namespace Go.Proofs.YtjkjnhcnmjknmaaGreatDoorW.PrintWords
open Go.RowKit
section
variable {P : Program} {ops : Array Oper} {rest : List Oper} {o : Oper} {a : Act} {Q : Exit → Act → World → Prop} {W : World}
/-- The operation is a call of this function (a cheap look ahead of a dear step). -/
theorem gate_callee {f : FuncId} {asx : Array Operand} {ts : Array TypeId} (_ho : o.op = .call { callee := .value (.func f), args := asx, argTypes := ts }) (h : wpList P ops Q (o :: rest) a W) : wpList P ops Q (o :: rest) a W := h
/-- The operation is a builtin over these places. -/
theorem gate_builtin {b : Builtin} {xs : Array Operand} {ts : Array TypeId} (_ho : o.op = .call { callee := .builtin b, args := xs, argTypes := ts }) (h : wpList P ops Q (o :: rest) a W) : wpList P ops Q (o :: rest) a W := h
end
/-- The greater of two whole numbers, asx Go's max tells it. -/
def mx (a b : Int) : Int := if a < b then b else a
/-- The smaller of two whole numbers, asx Go's min tells it. -/
def mn (a b : Int) : Int := if b < a then b else a
/-- It says x = x, and that is its use: 'rw [drewN_self w]' fails where the world was not drawn, and the row behind it is skipped. -/
theorem drewN_self (w : World) (n : Nat) : w.drewN n = w.drewN n := rfl
namespace Kd
section
variable {α : Type} {d : Kd α} {e base : Nat} {ok : Nat → Prop} {W w1 : World} {v : Value} {xs : List α}
end
section
variable {α : Type} {d : Kd α} {e base g n cap : Nat} {ok oki okp : Nat → Prop} {W : World} {xs : List α} {i : Int} {c : List Value}
end
section
variable {α : Type} {d : Kd α} {e base b b' g N : Nat} {ok ok1 : Nat → Prop} {W W2 w1 : World} {u v : Value} {xs ys : List α} {S : Nat → Prop}
end
end Kd
end Go.Proofs.YtjkjnhcnmjknmaaGreatDoorW.PrintWords
namespace Go.Proofs.YtjkjnhcnmjknmaaGreatDoorW.PrintWords
open Go.RowKit
namespace Kd
/-- A row that is only read, told by its value: its form, its length, what it leads to (in ok). e and base say nothing; they make it asx the others are. -/
def V {α : Type} (d : Kd α) (_e : Nat) (W : World) (_base : Nat) (ok : Nat → Prop) (v : Value) (xs : List α) : Prop := ∃ A c, v = .slice A xs.length c ∧ xs.length ≤ c ∧ F d W ok A xs.length xs
section
variable {α β : Type} {d : Kd α} {e base base' n m c g N' lo hi : Nat} {ok ok' S : Nat → Prop} {w W w1 : World} {A : Option Addr} {ad : Addr} {u v v1 : Value} {xs : List α}
theorem V_map (h : V d e W base ok v xs) (hF : ∀ A, F d W ok A xs.length xs → F d w1 ok' A xs.length xs) : V d e w1 base' ok' v xs := by
  obtain ⟨A, c, hv, hl, hf⟩ := h
  exact ⟨A, c, hv, hl, hF A hf⟩
theorem V_mk (hl : xs.length ≤ c) (hf : F d W ok A xs.length xs) : V d e W base ok (.slice A xs.length c) xs := ⟨A, c, rfl, hl, hf⟩
theorem V_slice (h : V d e W base ok v xs) : ∃ A c, v = .slice A xs.length c := by
  obtain ⟨A, c, hv, _⟩ := h
  exact ⟨A, c, hv⟩
theorem V_at (h : V d e W base ok (.slice A n c) xs) : n = xs.length ∧ n ≤ c ∧ F d W ok A xs.length xs := by
  obtain ⟨A', c', hv, hl, hf⟩ := h
  injection hv with ha hn hc
  subst ha; subst hc
  exact ⟨hn, by rw [hn]; exact hl, hf⟩
theorem V_reads' (h : V d e W base ok (.slice A n c) xs) : n = xs.length ∧ n ≤ c ∧ d.C W A xs.length xs := ⟨(V_at h).1, (V_at h).2.1, F_now (V_at h).2.2⟩
theorem V_F (h : V d e W base ok (.slice A n c) xs) : F d W ok A n xs := by
  obtain ⟨hn, _, hf⟩ := V_at h
  rw [hn]
  exact hf
theorem V_nil (d : Kd α) (e : Nat) (W : World) (base : Nat) (ok : Nat → Prop) : V d e W base ok (.slice none 0 0) [] := ⟨none, 0, rfl, Nat.le_refl _, F_nil d W ok⟩
theorem N_V (h : N d e W base ok v xs) : V d e W base' ok v xs := by
  obtain ⟨A, c, rfl⟩ := N_slice h
  exact ⟨A, c, rfl, (N_reads' h).2.1, N_F h⟩
theorem V_mono (h : V d e W base ok v xs) (hok : ∀ k, ok k → ok' k) : V d e W base ok' v xs := V_map h (fun _ hf => F_mono hf hok)
theorem V_lower (h : V d e W base ok v xs) (_ : base' ≤ base) : V d e W base' ok v xs := h
theorem V_below (h : V d e W base ok v xs) (hb : Below W.heap.size W w1) : V d e w1 base ok v xs := V_map h (fun _ hf => F_below hf hb)
theorem V_alloc (h : V d e W base ok v xs) (o : Obj) : V d e (W.alloc o) base ok v xs := V_map h (fun _ hf => F_alloc hf o)
theorem V_drew (h : V d e W base ok v xs) : V d e W.drew base ok v xs := V_map h (fun _ hf => F_drew hf)
theorem V_drewN (h : V d e W base ok v xs) (m : Nat) : V d e (W.drewN m) base ok v xs := V_map h (fun _ hf => F_drewN hf m)
theorem V_far (h : V d e W base ok v xs) {p : Addr} (hok : ∀ k, ok k → k ≠ p.block) (u : Value) : V d e (W.setCell p u) base ok v xs := V_map h (fun _ hf => F_far hf hok u)
theorem V_after (h : V d e W base (fun k => ok k ∧ some k ≠ u.ownBlock) v xs) (hg : W.grownBy w1 u.ownBlock) (hat : v1.ownBlock = u.ownBlock ∨ ∃ b, v1.ownBlock = some b ∧ W.heap.size ≤ b) : V d e w1 base (fun k => ok k ∧ some k ≠ v1.ownBlock) v xs := V_map h (fun _ hf => F_after hf hg hat)
theorem V_afterv (h : V d e W base (fun k => ok k ∧ some k ≠ v.ownBlock) u xs) (hg : W.grownBy w1 v.ownBlock) (hat : v1.ownBlock = v.ownBlock ∨ ∃ b, v1.ownBlock = some b ∧ W.heap.size ≤ b) : V d e w1 base (fun k => ok k ∧ some k ≠ v1.ownBlock) u xs := V_after h hg hat
theorem V_elder' (h : V d e W base ok v xs) (hbase : ∀ k, u.ownBlock = some k → W.heap.size ≤ k) (hb : Below W.heap.size W w1) : V d e w1 base (fun k => ok k ∧ some k ≠ u.ownBlock) v xs := V_map h (fun _ hf => F_elder' hf hbase hb)
theorem V_elderB (h : V d e W base ok v xs) (a : Nat) (ha : W.heap.size ≤ a) : V d e W base (fun k => ok k ∧ k ≠ a) v xs := V_map h (fun _ hf => F_elderB hf a ha)
theorem V_get (h : V d e W base ok (.slice (some ad) n c) xs) (z : α) (i : Int) (h0 : 0 ≤ i) (h1 : i < n) :
    ∃ cs, cs.length = d.sz ∧ FK d W ok (xs.getD i.toNat z) cs ∧ ∀ j u, cs[j]? = some u → W.cell? (ad.add (i.toNat * d.sz + j)) = some u := by
  obtain ⟨ad', cs, he, hcl, hK, hcc, _⟩ := F_get (V_F h) z i h0 h1
  injection he with he
  subst he
  exact ⟨cs, hcl, hK, hcc⟩
end
end Kd
end Go.Proofs.YtjkjnhcnmjknmaaGreatDoorW.PrintWords
end
section
namespace Go.Proofs.YtjkjnhcnmjknmaaGreatDoorW.PrintWords
open Go.RowKit
/-- '[]byte(s)', as if a call: the bytes, if they fit. -/
def gosem_conv.f (s : ByteArray) : Option (List Int) := if s.size ≤ 140737488355328 then some (bytesOf s) else none
theorem conv_ev {P : Program} {ops : Array Oper} {rest : List Oper} {o : Oper} {a : Act} {Q : Exit → Act → World → Prop} {W : World} (T U E : TypeId) {x : Operand}
    (hgd : o.guard = none) (ho : o.op = .convert T U x) (hT : P.underlying T = some .string) (hU : P.underlying U = some (.slice E)) (hE : P.underlying E = some (.int .u8))
    (s : ByteArray) (hx : a.eval x = .string s) {r : List Int} (h : gosem_conv.f s = some r)
    (k : ∀ e w', (∃ v0_ : Value, e = Ending.returned v0_ ∧ Kd.V (Kd.int .u8) E w' W.heap.size (fun k_ => (W.heap.size ≤ k_)) v0_ r ∧ Below W.heap.size W w') → ∃ v, e = Ending.returned v ∧ wpList P ops Q rest (a.put o.dst v) w') :
    wpList P ops Q (o :: rest) a W := by
  unfold gosem_conv.f at h
  split at h
  · rename_i hs
    obtain rfl := Option.some.inj h
    have hlen : (bytesOf s).length = s.size := bytesOf_length s
    have hcap : s.size ≤ grownCap W s.size 0 E := grownCap_ge _ _ _ _
    have hF : Kd.F (Kd.int .u8) (Lib.bytesWorld W E s) (fun k_ => (W.heap.size ≤ k_)) (some ⟨W.heap.size, 0, none⟩) (bytesOf s).length (bytesOf s) := fun W' hW => by
      have hb : W'.heap[W.heap.size]? = (Lib.bytesWorld W E s).heap[W.heap.size]? := hW W.heap.size (Nat.le_refl _) (by rw [Lib.bytesWorld_size]; omega)
      obtain ⟨h1, h2, h3⟩ := bytes_reads W E s (by omega)
      rw [hlen]
      refine Kd.C_of_reads (d := (0 : Int)) ⟨h1, h2, fun hn => ?_⟩
      obtain ⟨ad, he, hc⟩ := h3 hn
      refine ⟨ad, he, fun j hj => ?_⟩
      injection he with he
      subst he
      rw [World.cell?_of_block (w := Lib.bytesWorld W E s) (by rw [add_plain]; exact hb)]
      exact hc j hj
    obtain ⟨v, hv, hk⟩ := k (.returned (.slice (some ⟨W.heap.size, 0, none⟩) (bytesOf s).length (grownCap W s.size 0 E))) (Lib.bytesWorld W E s) ⟨_, rfl, Kd.V_mk (by rw [hlen]; exact hcap) hF, bytes_below (Below.refl _ _) (Nat.le_refl _) E s⟩
    injection hv with hv
    subst hv
    refine Kd.event_run hgd ?_ hk
    rw [hlen]
    unfold execOp
    simp [ho, hx, print_bytes T U E hT hU hE s W]
  · cases h
/-- Go's table of powers of ten is as its text lays it. -/
def XTab (w : World) : Prop := Lib.TabIs Tryz.prog w "internal/strconv.uint64pow10" .u64 Lib.pow10Tab
theorem XTab.below {w W : World} (h : XTab w) (hb : Below w.heap.size w W) : XTab W := Lib.tabBelow_of_tabIs h W hb
end Go.Proofs.YtjkjnhcnmjknmaaGreatDoorW.PrintWords
end
section
/-! ### 50. A region's order in a table, made once a region: each step asks the table (numbers alone), not the operations -/
namespace Go.Proofs.YtjkjnhcnmjknmaaGreatDoorW.PrintLast
open Go.Proofs.YtjkjnhcnmjknmaaGreatDoorW.PrintWords (Aside0)
def needsOf (md : Region.Mode) (o : Oper) : List Nat := (o.after.toList.filter (fun e => Region.binds md e)).map (fun e => e.on)
def clashOf (md : Region.Mode) (ops : Array Oper) (i : Nat) (oi : Oper) : List Nat := (List.range ops.size).filter fun j => !(j == i) && match ops[j]? with
  | some oj => !(oj.after.any (fun e => Region.binds md e && e.on == i) || oi.apart ops oj)
  | none => false
/-- No select in it; for each operation: what must have come up before it, and what may not come up behind it if it is taken first. -/
def rtab (md : Region.Mode) (ops : Array Oper) : Bool × List (List Nat × List Nat) := (Region.noSelect ops, (List.range ops.size).map fun i => match ops[i]? with
  | some o => (needsOf md o, clashOf md ops i o)
  | none => ([], []))
def readyAt (T : List (List Nat × List Nat)) (l : List Bool) (i : Nat) : Bool := !l.getD i true && match T[i]? with
  | some r => r.1.all (fun j => l.getD j false)
  | none => false
def readyT (T : List (List Nat × List Nat)) (l : List Bool) : List Nat := (List.range T.length).filter (readyAt T l)
def freeT (T : List (List Nat × List Nat)) (l : List Bool) (i : Nat) : Bool := match T[i]? with
  | some r => r.2.all (fun j => l.getD j true)
  | none => false
def closedT (T : List (List Nat × List Nat)) (l : List Bool) : Bool := (List.range T.length).all fun j => !l.getD j false || match T[j]? with
  | some r => r.1.all (fun k => l.getD k false)
  | none => true
def reachT (T : List (List Nat × List Nat)) (i : Nat) : Nat → Nat → Bool
  | 0, _ => false
  | fuel + 1, d => match T[d]? with
    | some r => r.1.any fun j => j == i || reachT T i fuel j
    | none => false
def lastT (T : List (List Nat × List Nat)) (l : List Bool) (ds : List Nat) (i : Nat) : Bool := ds.all fun d => l.getD d true || reachT T i T.length d
section
variable {md : Region.Mode} {ops : Array Oper} {T : Bool × List (List Nat × List Nat)} {l l' li lj lk : Array Bool} {ds : List Nat} {i j k : Nat}
theorem gd (l : Array Bool) (j : Nat) (b : Bool) : l.getD j b = l.toList.getD j b := by simp [Array.getD_eq_getD_getElem?, List.getD_eq_getElem?_getD]
theorem needs_all (o : Oper) (p : Nat → Bool) : o.after.all (fun e => !Region.binds md e || p e.on) = (needsOf md o).all p := by
  unfold needsOf
  rw [← Array.all_toList]
  induction o.after.toList with
  | nil => rfl
  | cons e r ih =>
    rw [List.all_cons, ih, List.filter_cons]
    cases h : Region.binds md e <;> simp
theorem needs_any (o : Oper) (p : Nat → Bool) : o.after.any (fun e => Region.binds md e && p e.on) = (needsOf md o).any p := by
  unfold needsOf
  rw [← Array.any_toList]
  induction o.after.toList with
  | nil => rfl
  | cons e r ih =>
    rw [List.any_cons, ih, List.filter_cons]
    cases h : Region.binds md e <;> simp
theorem rtab_length : (rtab md ops).2.length = ops.size := by simp [rtab]
theorem rtab_some {o : Oper} (h : ops[i]? = some o) : (rtab md ops).2[i]? = some (needsOf md o, clashOf md ops i o) := by
  have hi := (Array.getElem?_eq_some_iff.1 h).1
  unfold rtab
  rw [List.getElem?_map, List.getElem?_range hi, Option.map_some, h]
theorem rtab_none (h : ops[i]? = none) : (rtab md ops).2[i]? = none := by
  have hi : ops.size ≤ i := Array.getElem?_eq_none_iff.1 h
  exact List.getElem?_eq_none (by rw [rtab_length]; exact hi)
theorem readyAt_eq : readyAt (rtab md ops).2 l.toList i = (!l.getD i true && ((ops[i]?).map (·.after.all fun e => !Region.binds md e || l.getD e.on false)).getD false) := by
  unfold readyAt
  rw [gd]
  cases h : ops[i]? with
  | none => rw [rtab_none h]; rfl
  | some o =>
    rw [rtab_some h]
    simp only [Option.map_some, Option.getD_some]
    rw [← needs_all]
    simp only [gd]
theorem ready_eq : Region.ready md ops l = readyT (rtab md ops).2 l.toList := by
  unfold Region.ready readyT
  rw [rtab_length]
  refine List.filter_congr (fun i _ => ?_)
  rw [readyAt_eq]
theorem free_eq : Region.free md ops l i = freeT (rtab md ops).2 l.toList i := by
  unfold Region.free freeT
  cases h : ops[i]? with
  | none => rw [rtab_none h]
  | some oi =>
    rw [rtab_some h]
    simp only [clashOf]
    rw [List.all_filter]
    congr 1
    funext j
    rw [gd]
    cases hj : ops[j]? with
    | none => cases (j == i) <;> cases (l.toList.getD j true) <;> simp
    | some oj =>
      cases (j == i) <;> cases (l.toList.getD j true) <;> cases (oj.after.any (fun e => Region.binds md e && e.on == i) || oi.apart ops oj) <;> simp_all
theorem closed_eq : Region.closedB md ops l = closedT (rtab md ops).2 l.toList := by
  unfold Region.closedB closedT
  rw [rtab_length]
  congr 1
  funext j
  rw [gd]
  cases h : ops[j]? with
  | none => rw [rtab_none h]
  | some o =>
    rw [rtab_some h]
    simp only
    rw [← needs_all]
    simp only [gd]
theorem reach_eq : ∀ (fuel d : Nat), Region.reachB md ops i fuel d = reachT (rtab md ops).2 i fuel d
  | 0, _ => rfl
  | fuel + 1, d => by
    unfold Region.reachB reachT
    cases h : ops[d]? with
    | none => rw [rtab_none h]
    | some o =>
      rw [rtab_some h]
      simp only
      rw [← needs_any]
      congr 1
      funext e
      rw [reach_eq fuel]
theorem last_eq : Region.lastB md ops l ds i = lastT (rtab md ops).2 l.toList ds i := by
  unfold Region.lastB lastT
  rw [rtab_length]
  congr 1
  funext d
  rw [gd, reach_eq]
theorem readyAt_mem (h : readyAt T.2 l.toList i = true) (hT : rtab md ops = T) : (Region.ready md ops l).contains i = true := by
  subst hT
  rw [ready_eq]
  unfold readyT
  rw [List.contains_iff_mem, List.mem_filter, List.mem_range]
  refine ⟨?_, h⟩
  unfold readyAt at h
  rw [Bool.and_eq_true] at h
  cases hq : (rtab md ops).2[i]? with
  | none => rw [hq] at h; simp at h
  | some r => exact (List.getElem?_eq_some_iff.1 hq).1
theorem set_of (h : (l.toList.set i true == l'.toList) = true) : (l.setIfInBounds i true == l') = true := by
  rw [beq_iff_eq] at h ⊢
  apply Array.ext'
  rw [Array.toList_setIfInBounds]
  exact h
def anyT (T : Bool × List (List Nat × List Nat)) (l l' : List Bool) (i : Nat) : Bool := T.1 && freeT T.2 l i && readyAt T.2 l i && (l.set i true == l')
/-- pure_'s condition out of the table. -/
theorem any_of (hT : rtab md ops = T) (h : anyT T l.toList l'.toList i = true) : anyB md ops l l' i = true := by
  simp only [anyT, Bool.and_eq_true] at h
  obtain ⟨⟨⟨h1, h2⟩, h3⟩, h4⟩ := h
  have h5 := readyAt_mem h3 hT
  have h6 := set_of h4
  subst hT
  simp only [anyB, Bool.and_eq_true]
  exact ⟨⟨⟨h1, by rw [free_eq]; exact h2⟩, h5⟩, h6⟩
def takeT (T : Bool × List (List Nat × List Nat)) (ds : List Nat) (l l' : List Bool) (i : Nat) : Bool := T.1 && freeT T.2 l i && readyAt T.2 l i && closedT T.2 l && lastT T.2 l ds i && (l.set i true == l')
/-- take_'s. -/
theorem take_of (hT : rtab md ops = T) (h : takeT T ds l.toList l'.toList i = true) : takeB md ops ds l l' i = true := by
  simp only [takeT, Bool.and_eq_true] at h
  obtain ⟨⟨⟨⟨⟨h1, h2⟩, h3⟩, h4⟩, h5⟩, h6⟩ := h
  have h7 := readyAt_mem h3 hT
  have h8 := set_of h6
  subst hT
  simp only [takeB, Bool.and_eq_true]
  exact ⟨⟨⟨⟨⟨h1, by rw [free_eq]; exact h2⟩, h7⟩, by rw [closed_eq]; exact h4⟩, by rw [last_eq]; exact h5⟩, h8⟩
/-- one_'s and last_'s. -/
theorem one_of (hT : rtab md ops = T) (h : (readyT T.2 l.toList == [i] && l.toList.set i true == l'.toList) = true) : readyB md ops l l' i = true := by
  simp only [Bool.and_eq_true] at h
  obtain ⟨h1, h2⟩ := h
  subst hT
  simp only [readyB, Bool.and_eq_true]
  exact ⟨by rw [ready_eq]; exact h1, set_of h2⟩
/-- done_'s. -/
theorem done_of (hT : rtab md ops = T) (h : (readyT T.2 l.toList == []) = true) : (Region.ready md ops l == []) = true := by
  subst hT
  rw [ready_eq]
  exact h
/-- What d waits for, as_ bits: told in the table (B), checked in one pass: each bit is a need of d, or a bit of an earlier need's. -/
def upM (B : List Nat) (d : Nat) : List Nat → Nat
  | [] => 0
  | n :: r => (2 ^ n ||| (if n < d then B.getD n 0 else 0)) ||| upM B d r
def waitsOk (T : List (List Nat × List Nat)) (B : List Nat) : Bool := (List.range T.length).all fun d => match T[d]? with
  | some r => (B.getD d 0 ||| upM B d r.1) == upM B d r.1
  | none => false
theorem upM_bit {B : List Nat} {d i : Nat} : ∀ {ns : List Nat}, (upM B d ns).testBit i = true → ∃ n ∈ ns, n = i ∨ (n < d ∧ (B.getD n 0).testBit i = true)
  | [], h => by simp [upM] at h
  | n :: r, h => by
    unfold upM at h
    rw [Nat.testBit_or, Nat.testBit_or, Bool.or_eq_true, Bool.or_eq_true] at h
    rcases h with (h | h) | h
    · rw [Nat.testBit_two_pow] at h
      exact ⟨n, List.mem_cons_self, .inl (by simpa using h)⟩
    · by_cases hn : n < d
      · rw [if_pos hn] at h
        exact ⟨n, List.mem_cons_self, .inr ⟨hn, h⟩⟩
      · rw [if_neg hn] at h
        simp at h
    · obtain ⟨m, hm, h2⟩ := upM_bit h
      exact ⟨m, List.mem_cons_of_mem _ hm, h2⟩
theorem reach_bit {T : List (List Nat × List Nat)} {B : List Nat} (hB : waitsOk T B = true) : ∀ (fuel d : Nat), d < fuel → d < T.length → (B.getD d 0).testBit i = true → reachT T i fuel d = true
  | 0, d, h, _, _ => by omega
  | fuel + 1, d, h, hd, hb => by
    have h1 := List.all_eq_true.1 hB d (List.mem_range.2 hd)
    cases hr : T[d]? with
    | none => rw [hr] at h1; simp at h1
    | some r =>
      rw [hr] at h1
      simp only [beq_iff_eq] at h1
      have h2 : (upM B d r.1).testBit i = true := by rw [← h1, Nat.testBit_or, hb, Bool.true_or]
      obtain ⟨n, hn, h3⟩ := upM_bit h2
      unfold reachT
      rw [hr]
      simp only
      rw [List.any_eq_true]
      refine ⟨n, hn, ?_⟩
      rcases h3 with rfl | ⟨h4, h5⟩
      · simp
      · rw [reach_bit hB fuel n (by omega) (by omega) h5, Bool.or_true]
def lastW (T : List (List Nat × List Nat)) (B : List Nat) (l : List Bool) (ds : List Nat) (i : Nat) : Bool := ds.all fun d => l.getD d true || (decide (d < T.length) && (B.getD d 0).testBit i)
def takeW (T : Bool × List (List Nat × List Nat)) (B : List Nat) (ds : List Nat) (l l' : List Bool) (i : Nat) : Bool := T.1 && freeT T.2 l i && readyAt T.2 l i && closedT T.2 l && lastW T.2 B l ds i && (l.set i true == l')
/-- take_'s, by the bits. -/
theorem take_ofW {B : List Nat} (hT : rtab md ops = T) (hB : waitsOk T.2 B = true) (h : takeW T B ds l.toList l'.toList i = true) : takeB md ops ds l l' i = true := by
  refine take_of hT ?_
  simp only [takeW, takeT, Bool.and_eq_true] at h ⊢
  obtain ⟨⟨⟨⟨⟨h1, h2⟩, h3⟩, h4⟩, h5⟩, h6⟩ := h
  refine ⟨⟨⟨⟨⟨h1, h2⟩, h3⟩, h4⟩, ?_⟩, h6⟩
  unfold lastW at h5
  unfold lastT
  rw [List.all_eq_true] at h5 ⊢
  intro d hd
  have h7 := h5 d hd
  rw [Bool.or_eq_true, Bool.and_eq_true, decide_eq_true_eq] at h7
  rcases h7 with h7 | ⟨h8, h9⟩
  · rw [h7, Bool.true_or]
  · rw [reach_bit hB _ d h8 h8 h9, Bool.or_true]
theorem with_tabW {P : Program} {Q : Exit → Act → World → Prop} {S : World → Prop} {n : Nat} {a : Act} {w : World} {B : List Nat} (hT : rtab md ops = T) (hB : waitsOk T.2 B = true) (h : Aside0 (rtab md ops = T) → Aside0 (waitsOk T.2 B = true) → wpAnyLast P md ops Q S ds n l a w) : wpAnyLast P md ops Q S ds n l a w := h ⟨hT⟩ ⟨hB⟩
end
/-- The operations of a region, by its number. -/
def opsIn : Code → Nat → Option (Array Oper)
  | .region id ops _, k => if id == k then some ops else none
  | .seq a b, k => match opsIn a k with
    | some o => some o
    | none => opsIn b k
  | .cond _ a b, k => match opsIn a k with
    | some o => some o
    | none => opsIn b k
  | .block _ c, k => opsIn c k
  | .loop c, k => opsIn c k
  | .scope c, k => opsIn c k
  | .rangeFunc _ _ a b, k => match opsIn a k with
    | some o => some o
    | none => opsIn b k
  | _, _ => none
def opsOf (f : Func) (k : Nat) : Array Oper := ((f.body.bind fun c => opsIn c k)).getD #[]
end Go.Proofs.YtjkjnhcnmjknmaaGreatDoorW.PrintLast
end
section
/-! ### 56. Four, five, six operations that may come up next, in any order -/
namespace Go.Proofs.YtjkjnhcnmjknmaaGreatDoorW.PrintLast
section
variable {P : Program} {ops : Array Oper} {Q : Exit → Act → World → Prop} {md : Region.Mode} {S : World → Prop} {ds : List Nat} {T : Bool × List (List Nat × List Nat)}
end
end Go.Proofs.YtjkjnhcnmjknmaaGreatDoorW.PrintLast
end
section
/-! ### 52. A row that stays read whatever happens to a block (a set of blocks) doesn't lie there -/
namespace Go.Proofs.YtjkjnhcnmjknmaaGreatDoorW.PrintWords
open Go.RowKit
namespace Kd
section
variable {α : Type} {d : Kd α} {W : World} {g n : Nat} {S ok : Nat → Prop} {A : Option Addr} {ad : Addr} {xs : List α}
end
end Kd
end Go.Proofs.YtjkjnhcnmjknmaaGreatDoorW.PrintWords
end
section
/-! ### 54. Behind orders that were drawn quietly: the same facts at the world's new name; a flat row's foot -/
namespace Go.Proofs.YtjkjnhcnmjknmaaGreatDoorW.PrintWords
open Go.RowKit
section
variable {w w' u : World} {m B g : Nat} {o : Obj} {row : Option Nat} {S : Nat → Prop} {a : Addr} {v : Value}
end
namespace Kd
section
variable {α : Type} {d : Kd α} {e base n m : Nat} {ok : Nat → Prop} {w w' : World} {v : Value} {A : Option Addr} {xs : List α}
end
end Kd
end Go.Proofs.YtjkjnhcnmjknmaaGreatDoorW.PrintWords
end
section
/-! ### 53. '==' of structs as_ one Bool -/
namespace Go.Proofs.YtjkjnhcnmjknmaaGreatDoorW.PrintWords
open Go.RowKit
section
variable {P : Program} {d : Nat} {xs ys : Array Value} {f : Field} {fs : List Field} {a b : Value} {r s : Bool} {w : World}
end
end Go.Proofs.YtjkjnhcnmjknmaaGreatDoorW.PrintWords
end
section
/-! ### 55. Reps told from the front, no append: for rows of one-cell elements and of wider ones -/
namespace Go.Proofs.YtjkjnhcnmjknmaaGreatDoorW.PrintWords
/-- One cell an element. -/
theorem Reps.one {α : Type} {R : α → List Value → Prop} {ps : List α} {cs : List Value} {p : α} {v : Value} (hp : R p [v]) (h : Reps R 1 ps cs) : Reps R 1 (p :: ps) (v :: cs) := by
  refine ⟨by simp [h.1], fun j q hq => ?_⟩
  cases j with
  | zero =>
    simp only [List.getElem?_cons_zero, Option.some.injEq] at hq
    subst hq
    simpa using hp
  | succ j =>
    simp only [List.getElem?_cons_succ] at hq
    have h1 := h.2 j q hq
    simpa [Nat.mul_one] using h1
/-- More cells an element: told apart by the cells' list. -/
theorem Reps.front {α : Type} {R : α → List Value → Prop} {size : Nat} {ps : List α} {cs c all : List Value} {p : α} (hp : R p c) (hc : c.length = size) (h : Reps R size ps cs) (ha : c ++ cs = all) : Reps R size (p :: ps) all := by
  subst ha
  refine ⟨by rw [List.length_append, hc, h.1, List.length_cons, Nat.succ_mul, Nat.add_comm], fun j q hq => ?_⟩
  cases j with
  | zero =>
    simp only [List.getElem?_cons_zero, Option.some.injEq] at hq
    subst hq
    rw [Nat.zero_mul, List.drop_zero, List.take_append_of_le_length (by omega), List.take_of_length_le (by omega)]
    exact hp
  | succ j =>
    simp only [List.getElem?_cons_succ] at hq
    have h1 := h.2 j q hq
    rw [Nat.succ_mul, List.drop_append, List.drop_of_length_le (by rw [hc]; exact Nat.le_add_left _ _), List.nil_append, hc, Nat.add_sub_cancel]
    exact h1
theorem Reps.c2 {α : Type} {R : α → List Value → Prop} {ps : List α} {cs : List Value} {p : α} {va vb : Value} (hp : R p [va, vb]) (h : Reps R 2 ps cs) : Reps R 2 (p :: ps) (va :: vb :: cs) := Reps.front hp rfl h rfl
theorem Reps.c3 {α : Type} {R : α → List Value → Prop} {ps : List α} {cs : List Value} {p : α} {va vb vc : Value} (hp : R p [va, vb, vc]) (h : Reps R 3 ps cs) : Reps R 3 (p :: ps) (va :: vb :: vc :: cs) := Reps.front hp rfl h rfl
theorem Reps.c4 {α : Type} {R : α → List Value → Prop} {ps : List α} {cs : List Value} {p : α} {va vb vc vd : Value} (hp : R p [va, vb, vc, vd]) (h : Reps R 4 ps cs) : Reps R 4 (p :: ps) (va :: vb :: vc :: vd :: cs) := Reps.front hp rfl h rfl
theorem Reps.c5 {α : Type} {R : α → List Value → Prop} {ps : List α} {cs : List Value} {p : α} {va vb vc vd ve : Value} (hp : R p [va, vb, vc, vd, ve]) (h : Reps R 5 ps cs) : Reps R 5 (p :: ps) (va :: vb :: vc :: vd :: ve :: cs) := Reps.front hp rfl h rfl
theorem Reps.c6 {α : Type} {R : α → List Value → Prop} {ps : List α} {cs : List Value} {p : α} {va vb vc vd ve vf : Value} (hp : R p [va, vb, vc, vd, ve, vf]) (h : Reps R 6 ps cs) : Reps R 6 (p :: ps) (va :: vb :: vc :: vd :: ve :: vf :: cs) := Reps.front hp rfl h rfl
theorem Reps.c7 {α : Type} {R : α → List Value → Prop} {ps : List α} {cs : List Value} {p : α} {va vb vc vd ve vf vg : Value} (hp : R p [va, vb, vc, vd, ve, vf, vg]) (h : Reps R 7 ps cs) : Reps R 7 (p :: ps) (va :: vb :: vc :: vd :: ve :: vf :: vg :: cs) := Reps.front hp rfl h rfl
theorem Reps.c8 {α : Type} {R : α → List Value → Prop} {ps : List α} {cs : List Value} {p : α} {va vb vc vd ve vf vg vh : Value} (hp : R p [va, vb, vc, vd, ve, vf, vg, vh]) (h : Reps R 8 ps cs) : Reps R 8 (p :: ps) (va :: vb :: vc :: vd :: ve :: vf :: vg :: vh :: cs) := Reps.front hp rfl h rfl
theorem Reps.c9 {α : Type} {R : α → List Value → Prop} {ps : List α} {cs : List Value} {p : α} {va vb vc vd ve vf vg vh vi : Value} (hp : R p [va, vb, vc, vd, ve, vf, vg, vh, vi]) (h : Reps R 9 ps cs) : Reps R 9 (p :: ps) (va :: vb :: vc :: vd :: ve :: vf :: vg :: vh :: vi :: cs) := Reps.front hp rfl h rfl
theorem Reps.c10 {α : Type} {R : α → List Value → Prop} {ps : List α} {cs : List Value} {p : α} {va vb vc vd ve vf vg vh vi vj : Value} (hp : R p [va, vb, vc, vd, ve, vf, vg, vh, vi, vj]) (h : Reps R 10 ps cs) : Reps R 10 (p :: ps) (va :: vb :: vc :: vd :: ve :: vf :: vg :: vh :: vi :: vj :: cs) := Reps.front hp rfl h rfl
end Go.Proofs.YtjkjnhcnmjknmaaGreatDoorW.PrintWords
end
section
/-! ### 57. A region of open order by ONE relation over what is listed so far: each operation is shown once, whatever came up before it -/
namespace Go.Proofs.YtjkjnhcnmjknmaaGreatDoorW.PrintLast
/-- Number i is listed too. -/
def up (b : Nat → Bool) (i : Nat) : Nat → Bool := fun j => if j = i then true else b j
section
variable {P : Program} {ops : Array Oper} {Q : Exit → Act → World → Prop} {md : Region.Mode} {T : Bool × List (List Nat × List Nat)} {B : List Nat} {O : List Nat} {b : Nat → Bool} {i j n : Nat}
end
end Go.Proofs.YtjkjnhcnmjknmaaGreatDoorW.PrintLast
end
section
namespace Go.Proofs.YtjkjnhcnmjknmaaGreatDoorW.PrintWords
open Go.RowKit
end Go.Proofs.YtjkjnhcnmjknmaaGreatDoorW.PrintWords
namespace Go.Proofs.YtjkjnhcnmjknmaaGreatDoorW.PrintLast
section
variable {ops : Array Oper} {a : Act} {o og : Oper} {g : Nat} {t : Tmp} {u : Bool}
end
end Go.Proofs.YtjkjnhcnmjknmaaGreatDoorW.PrintLast
end
section
/-! ### 58. A guarded operation whose guard is known to want it: the same goal without the guard -/
namespace Go.Proofs.YtjkjnhcnmjknmaaGreatDoorW.PrintWords
open Go.RowKit
section
variable {P : Program} {ops : Array Oper} {rest : List Oper} {o : Oper} {a : Act} {Q : Exit → Act → World → Prop} {W : World}
/-- The gate takes the guard off (hw: 'by rfl', 'by kernel_rfl': the guard's slot holds what is wanted). -/
theorem gate_guard (hw : Region.wanted o (yielded ops a.tmps) = true) (h : wpList P ops Q ({ o with guard := none } :: rest) a W) : wpList P ops Q (o :: rest) a W := by
  have h1 : Region.wanted { o with guard := none } (yielded ops a.tmps) = true := rfl
  unfold wpList at h ⊢
  rw [if_pos h1] at h
  rw [if_pos hw]
  exact h
end
end Go.Proofs.YtjkjnhcnmjknmaaGreatDoorW.PrintWords
end
section
namespace Go.Proofs.YtjkjnhcnmjknmaaGreatDoor.Y
open Go.RowKit Go.Proofs.YtjkjnhcnmjknmaaGreatDoorW.PrintWords Go.Proofs.YtjkjnhcnmjknmaaGreatDoorW.PrintLast Go.Proofs.YtjkjnhcnmjknmaaGreatDoorW.PrintMore
attribute [local go_sem] max2_int min2_int max_two min_two max_three min_three max_four min_four   -- for this text's walks alone
set_option linter.unusedVariables false
set_option linter.unusedSimpArgs false
def errW : Option Int → Value
  | none => .nilIface
  | some c => .iface 0 (.int .i64 c)
theorem errW_none : errW none = .nilIface := rfl
theorem errW_some (c : Int) : errW (some c) = .iface 0 (.int .i64 c) := rfl
theorem info2 : (Tryz.prog.info? 2).map (fun i => (i.zero, i.size, i.bytes)) = some (some (.int .i64 0), 1, 8) := by kernel_rfl
theorem info9 : (Tryz.prog.info? 9).map (fun i => (i.zero, i.size, i.bytes)) = some (some (.string ⟨#[]⟩), 1, 16) := by kernel_rfl
theorem info65 : (Tryz.prog.info? 65).map (fun i => (i.zero, i.size, i.bytes)) = some (some (.agg #[(.int .i64 0), (.int .i64 0), (.int .u8 0), (.int .i64 0), (.slice none 0 0), (.slice none 0 0)]), 6, 80) := by kernel_rfl
-- the values' own types
/-! #### struct type 55 -/
structure S55 where
  f0 : Int
  f1 : Int
  f2 : Int
  f3 : Int
  f4 : (List Int)
  f5 : (List Int)
def z55 : S55 := ⟨(0 : Int), (0 : Int), (0 : Int), (0 : Int), ([] : List Int), ([] : List Int)⟩
def k55 : Kd S55 := Kd.iso (Kd.pair (Kd.int .i64) (Kd.pair (Kd.int .i64) (Kd.pair (Kd.int .u8) (Kd.pair (Kd.int .i64) (Kd.pair (Kd.slice 2 (Kd.int .i64)) (Kd.slice 5 (Kd.int .u8))))))) (fun x : S55 => (x.f0, x.f1, x.f2, x.f3, x.f4, x.f5))
theorem k55_open {w : World} {x : S55} {cs : List Value} (h : k55.K w x cs) : ∃ A4 c4 A5 c5, cs = [.int .i64 x.f0, .int .i64 x.f1, .int .u8 x.f2, .int .i64 x.f3, .slice A4 x.f4.length c4, .slice A5 x.f5.length c5] ∧ x.f4.length ≤ c4 ∧ (Kd.int .i64).C w A4 x.f4.length x.f4 ∧ x.f5.length ≤ c5 ∧ (Kd.int .u8).C w A5 x.f5.length x.f5 := by
  obtain ⟨_, _, rfl, rfl, ⟨_, _, rfl, rfl, ⟨_, _, rfl, rfl, ⟨_, _, rfl, rfl, ⟨_, _, rfl, ⟨A4, c4, rfl, l4, g4⟩, ⟨A5, c5, rfl, l5, g5⟩⟩⟩⟩⟩⟩ := h
  exact ⟨A4, c4, A5, c5, rfl, l4, g4, l5, g5⟩
theorem k55_openM {w : World} {base : Nat} {ok : Nat → Prop} {x : S55} {cs : List Value} (h : k55.M w base ok x cs) : ∃ v4 v5, cs = [.int .i64 x.f0, .int .i64 x.f1, .int .u8 x.f2, .int .i64 x.f3, v4, v5] ∧ (Kd.int .i64).R 2 w base ok v4 x.f4 ∧ (Kd.int .u8).R 5 w base ok v5 x.f5 := by
  obtain ⟨_, _, rfl, rfl, ⟨_, _, rfl, rfl, ⟨_, _, rfl, rfl, ⟨_, _, rfl, rfl, ⟨_, _, rfl, ⟨v4, rfl, g4⟩, ⟨v5, rfl, g5⟩⟩⟩⟩⟩⟩ := h
  exact ⟨v4, v5, rfl, g4, g5⟩
theorem k55_mkM (w : World) (base : Nat) (ok : Nat → Prop) (x : S55) {v4 : Value} (g4 : (Kd.int .i64).R 2 w base ok v4 x.f4) {v5 : Value} (g5 : (Kd.int .u8).R 5 w base ok v5 x.f5) : k55.M w base ok x [.int .i64 x.f0, .int .i64 x.f1, .int .u8 x.f2, .int .i64 x.f3, v4, v5] := ⟨[.int .i64 x.f0], [.int .i64 x.f1, .int .u8 x.f2, .int .i64 x.f3, v4, v5], rfl, rfl, ⟨[.int .i64 x.f1], [.int .u8 x.f2, .int .i64 x.f3, v4, v5], rfl, rfl, ⟨[.int .u8 x.f2], [.int .i64 x.f3, v4, v5], rfl, rfl, ⟨[.int .i64 x.f3], [v4, v5], rfl, rfl, ⟨[v4], [v5], rfl, ⟨v4, rfl, g4⟩, ⟨v5, rfl, g5⟩⟩⟩⟩⟩⟩
theorem k55_openF {W : World} {ok : Nat → Prop} {x : S55} {cs : List Value} (h : Kd.FK k55 W ok x cs) : ∃ A4 c4 A5 c5, cs = [.int .i64 x.f0, .int .i64 x.f1, .int .u8 x.f2, .int .i64 x.f3, .slice A4 x.f4.length c4, .slice A5 x.f5.length c5] ∧ x.f4.length ≤ c4 ∧ Kd.F (Kd.int .i64) W ok A4 x.f4.length x.f4 ∧ x.f5.length ≤ c5 ∧ Kd.F (Kd.int .u8) W ok A5 x.f5.length x.f5 := by
  obtain ⟨A4, c4, A5, c5, rfl, l4, _, l5, _⟩ := k55_open (Kd.FK_now h)
  exact ⟨A4, c4, A5, c5, rfl, l4, (fun W' hW => by obtain ⟨A4_, c4_, A5_, c5_, he, l4_, g4_, l5_, g5_⟩ := k55_open (h W' hW); injection (Option.some.inj (show some (Value.slice A4 x.f4.length c4) = some (Value.slice A4_ x.f4.length c4_) from congrArg (fun l => l[4]?) he)) with ha_ _ _; rw [ha_]; exact g4_), l5, (fun W' hW => by obtain ⟨A4_, c4_, A5_, c5_, he, l4_, g4_, l5_, g5_⟩ := k55_open (h W' hW); injection (Option.some.inj (show some (Value.slice A5 x.f5.length c5) = some (Value.slice A5_ x.f5.length c5_) from congrArg (fun l => l[5]?) he)) with ha_ _ _; rw [ha_]; exact g5_)⟩
def rd_T55 (xs : List S55) (i : Int) : S55 := xs.getD i.toNat z55
theorem at_T55 {w : World} {A : Option Addr} {n : Nat} {xs : List S55} (h : Kd.C k55 w A n xs) (i : Int) (h0 : 0 ≤ i) (h1 : i < n) : ∃ ad A4 c4 A5 c5, A = some ad ∧ w.cell? (ad.add (i.toNat * 6)) = some (.int .i64 (rd_T55 xs i).f0) ∧ w.cell? ⟨(ad.add (i.toNat * 6)).block, (ad.add (i.toNat * 6)).off + 1, none⟩ = some (.int .i64 (rd_T55 xs i).f1) ∧ w.cell? ⟨(ad.add (i.toNat * 6)).block, (ad.add (i.toNat * 6)).off + 2, none⟩ = some (.int .u8 (rd_T55 xs i).f2) ∧ w.cell? ⟨(ad.add (i.toNat * 6)).block, (ad.add (i.toNat * 6)).off + 3, none⟩ = some (.int .i64 (rd_T55 xs i).f3) ∧ w.cell? ⟨(ad.add (i.toNat * 6)).block, (ad.add (i.toNat * 6)).off + 4, none⟩ = some (.slice A4 (rd_T55 xs i).f4.length c4) ∧ w.cell? ⟨(ad.add (i.toNat * 6)).block, (ad.add (i.toNat * 6)).off + 5, none⟩ = some (.slice A5 (rd_T55 xs i).f5.length c5) ∧ (rd_T55 xs i).f4.length ≤ c4 ∧ (Kd.int .i64).C w A4 (rd_T55 xs i).f4.length (rd_T55 xs i).f4 ∧ (rd_T55 xs i).f5.length ≤ c5 ∧ (Kd.int .u8).C w A5 (rd_T55 xs i).f5.length (rd_T55 xs i).f5 := by
  obtain ⟨ad, c, e, _, hK, hc0⟩ := Kd.C_get h z55 i h0 h1
  have hc : ∀ j u, c[j]? = some u → w.cell? (ad.add (i.toNat * 6 + j)) = some u := hc0
  obtain ⟨A4, c4, A5, c5, rfl, l4, g4, l5, g5⟩ := k55_open hK
  exact ⟨ad, A4, c4, A5, c5, e, hc 0 _ rfl, by rw [← add_field _ _ 1 (by omega)]; exact hc 1 _ rfl, by rw [← add_field _ _ 2 (by omega)]; exact hc 2 _ rfl, by rw [← add_field _ _ 3 (by omega)]; exact hc 3 _ rfl, by rw [← add_field _ _ 4 (by omega)]; exact hc 4 _ rfl, by rw [← add_field _ _ 5 (by omega)]; exact hc 5 _ rfl, l4, g4, l5, g5⟩
/-! #### struct type 65 -/
structure S65 where
  f0 : Int
  f1 : Int
  f2 : Int
  f3 : Int
  f4 : (List Int)
  f5 : (List Int)
def z65 : S65 := ⟨(0 : Int), (0 : Int), (0 : Int), (0 : Int), ([] : List Int), ([] : List Int)⟩
def k65 : Kd S65 := Kd.iso (Kd.pair (Kd.int .i64) (Kd.pair (Kd.int .i64) (Kd.pair (Kd.int .u8) (Kd.pair (Kd.int .i64) (Kd.pair (Kd.slice 2 (Kd.int .i64)) (Kd.slice 5 (Kd.int .u8))))))) (fun x : S65 => (x.f0, x.f1, x.f2, x.f3, x.f4, x.f5))
theorem k65_open {w : World} {x : S65} {cs : List Value} (h : k65.K w x cs) : ∃ A4 c4 A5 c5, cs = [.int .i64 x.f0, .int .i64 x.f1, .int .u8 x.f2, .int .i64 x.f3, .slice A4 x.f4.length c4, .slice A5 x.f5.length c5] ∧ x.f4.length ≤ c4 ∧ (Kd.int .i64).C w A4 x.f4.length x.f4 ∧ x.f5.length ≤ c5 ∧ (Kd.int .u8).C w A5 x.f5.length x.f5 := by
  obtain ⟨_, _, rfl, rfl, ⟨_, _, rfl, rfl, ⟨_, _, rfl, rfl, ⟨_, _, rfl, rfl, ⟨_, _, rfl, ⟨A4, c4, rfl, l4, g4⟩, ⟨A5, c5, rfl, l5, g5⟩⟩⟩⟩⟩⟩ := h
  exact ⟨A4, c4, A5, c5, rfl, l4, g4, l5, g5⟩
theorem k65_mk (w : World) (x : S65) {A4 : Option Addr} {c4 : Nat} (l4 : x.f4.length ≤ c4) (g4 : (Kd.int .i64).C w A4 x.f4.length x.f4) {A5 : Option Addr} {c5 : Nat} (l5 : x.f5.length ≤ c5) (g5 : (Kd.int .u8).C w A5 x.f5.length x.f5) : k65.K w x [.int .i64 x.f0, .int .i64 x.f1, .int .u8 x.f2, .int .i64 x.f3, .slice A4 x.f4.length c4, .slice A5 x.f5.length c5] := ⟨[.int .i64 x.f0], [.int .i64 x.f1, .int .u8 x.f2, .int .i64 x.f3, .slice A4 x.f4.length c4, .slice A5 x.f5.length c5], rfl, rfl, ⟨[.int .i64 x.f1], [.int .u8 x.f2, .int .i64 x.f3, .slice A4 x.f4.length c4, .slice A5 x.f5.length c5], rfl, rfl, ⟨[.int .u8 x.f2], [.int .i64 x.f3, .slice A4 x.f4.length c4, .slice A5 x.f5.length c5], rfl, rfl, ⟨[.int .i64 x.f3], [.slice A4 x.f4.length c4, .slice A5 x.f5.length c5], rfl, rfl, ⟨[.slice A4 x.f4.length c4], [.slice A5 x.f5.length c5], rfl, ⟨A4, c4, rfl, l4, g4⟩, ⟨A5, c5, rfl, l5, g5⟩⟩⟩⟩⟩⟩
theorem k65_mkF (W : World) (ok : Nat → Prop) (x : S65) {A4 : Option Addr} {c4 : Nat} (l4 : x.f4.length ≤ c4) (g4 : Kd.F (Kd.int .i64) W ok A4 x.f4.length x.f4) {A5 : Option Addr} {c5 : Nat} (l5 : x.f5.length ≤ c5) (g5 : Kd.F (Kd.int .u8) W ok A5 x.f5.length x.f5) : Kd.FK k65 W ok x [.int .i64 x.f0, .int .i64 x.f1, .int .u8 x.f2, .int .i64 x.f3, .slice A4 x.f4.length c4, .slice A5 x.f5.length c5] := fun W2 hW => k65_mk W2 x l4 (g4 W2 hW) l5 (g5 W2 hW)
def rd_T65 (xs : List S65) (i : Int) : S65 := xs.getD i.toNat z65
theorem at_T65 {w : World} {A : Option Addr} {n : Nat} {xs : List S65} (h : Kd.C k65 w A n xs) (i : Int) (h0 : 0 ≤ i) (h1 : i < n) : ∃ ad A4 c4 A5 c5, A = some ad ∧ w.cell? (ad.add (i.toNat * 6)) = some (.int .i64 (rd_T65 xs i).f0) ∧ w.cell? ⟨(ad.add (i.toNat * 6)).block, (ad.add (i.toNat * 6)).off + 1, none⟩ = some (.int .i64 (rd_T65 xs i).f1) ∧ w.cell? ⟨(ad.add (i.toNat * 6)).block, (ad.add (i.toNat * 6)).off + 2, none⟩ = some (.int .u8 (rd_T65 xs i).f2) ∧ w.cell? ⟨(ad.add (i.toNat * 6)).block, (ad.add (i.toNat * 6)).off + 3, none⟩ = some (.int .i64 (rd_T65 xs i).f3) ∧ w.cell? ⟨(ad.add (i.toNat * 6)).block, (ad.add (i.toNat * 6)).off + 4, none⟩ = some (.slice A4 (rd_T65 xs i).f4.length c4) ∧ w.cell? ⟨(ad.add (i.toNat * 6)).block, (ad.add (i.toNat * 6)).off + 5, none⟩ = some (.slice A5 (rd_T65 xs i).f5.length c5) ∧ (rd_T65 xs i).f4.length ≤ c4 ∧ (Kd.int .i64).C w A4 (rd_T65 xs i).f4.length (rd_T65 xs i).f4 ∧ (rd_T65 xs i).f5.length ≤ c5 ∧ (Kd.int .u8).C w A5 (rd_T65 xs i).f5.length (rd_T65 xs i).f5 := by
  obtain ⟨ad, c, e, _, hK, hc0⟩ := Kd.C_get h z65 i h0 h1
  have hc : ∀ j u, c[j]? = some u → w.cell? (ad.add (i.toNat * 6 + j)) = some u := hc0
  obtain ⟨A4, c4, A5, c5, rfl, l4, g4, l5, g5⟩ := k65_open hK
  exact ⟨ad, A4, c4, A5, c5, e, hc 0 _ rfl, by rw [← add_field _ _ 1 (by omega)]; exact hc 1 _ rfl, by rw [← add_field _ _ 2 (by omega)]; exact hc 2 _ rfl, by rw [← add_field _ _ 3 (by omega)]; exact hc 3 _ rfl, by rw [← add_field _ _ 4 (by omega)]; exact hc 4 _ rfl, by rw [← add_field _ _ 5 (by omega)]; exact hc 5 _ rfl, l4, g4, l5, g5⟩
/-! #### struct type 62 -/
structure S62 where
  f0 : Int
  f1 : ByteArray
def z62 : S62 := ⟨(0 : Int), (⟨#[]⟩ : ByteArray)⟩
def k62 : Kd S62 := Kd.iso (Kd.pair (Kd.int .u8) Kd.string) (fun x : S62 => (x.f0, x.f1))
theorem k62_open {w : World} {x : S62} {cs : List Value} (h : k62.K w x cs) : cs = [.int .u8 x.f0, .string x.f1] := by
  obtain ⟨_, _, rfl, rfl, rfl⟩ := h
  exact rfl
theorem k62_mk (w : World) (x : S62)  : k62.K w x [.int .u8 x.f0, .string x.f1] := ⟨[.int .u8 x.f0], [.string x.f1], rfl, rfl, rfl⟩
def rd_T62 (xs : List S62) (i : Int) : S62 := xs.getD i.toNat z62
theorem at_T62 {w : World} {A : Option Addr} {n : Nat} {xs : List S62} (h : Kd.C k62 w A n xs) (i : Int) (h0 : 0 ≤ i) (h1 : i < n) : ∃ ad , A = some ad ∧ w.cell? (ad.add (i.toNat * 2)) = some (.int .u8 (rd_T62 xs i).f0) ∧ w.cell? ⟨(ad.add (i.toNat * 2)).block, (ad.add (i.toNat * 2)).off + 1, none⟩ = some (.string (rd_T62 xs i).f1) := by
  obtain ⟨ad, c, e, _, hK, hc0⟩ := Kd.C_get h z62 i h0 h1
  have hc : ∀ j u, c[j]? = some u → w.cell? (ad.add (i.toNat * 2 + j)) = some u := hc0
  obtain rfl := k62_open hK
  exact ⟨ad, e, hc 0 _ rfl, by rw [← add_field _ _ 1 (by omega)]; exact hc 1 _ rfl⟩
end Go.Proofs.YtjkjnhcnmjknmaaGreatDoor.Y
end
section
namespace Go.Proofs
open Go.Shelf
def Tryz.laysM171_ren : Go.Shelf.Ren := ⟨fun | 171 => 111 | 243 => 127 | 246 => 139 | 283 => 152 | 284 => 153 | 285 => 154 | 286 => 155 | 129 => 165 | 317 => 164 | 318 => 166 | 319 => 167 | 320 => 168 | 337 => 173 | 338 => 174 | n => n, fun | 3 => 3 | 9 => 9 | 2 => 2 | 4 => 4 | 171 => 167 | 0 => 0 | 53 => 168 | 37 => 32 | 5 => 5 | 173 => 171 | 212 => 185 | 51 => 183 | 20 => 20 | 213 => 186 | 46 => 88 | 232 => 193 | 233 => 194 | n => n, fun | 17 => 3 | 18 => 4 | 19 => 5 | n => n⟩
theorem Tryz.laysM171 : Go.Proofs.LaysM.n171 Tryz.prog Tryz.laysM171_ren := {
  mixed := by kernel_rfl
  f129 := Tryz.func165.trans (congrArg some (by kernel_rfl))
  f171 := Tryz.func111.trans (congrArg some (by kernel_rfl))
  f243 := Tryz.func127.trans (congrArg some (by kernel_rfl))
  f246 := Tryz.func139.trans (congrArg some (by kernel_rfl))
  f283 := Tryz.func152.trans (congrArg some (by kernel_rfl))
  f284 := Tryz.func153.trans (congrArg some (by kernel_rfl))
  f285 := Tryz.func154.trans (congrArg some (by kernel_rfl))
  f286 := Tryz.func155.trans (congrArg some (by kernel_rfl))
  f317 := Tryz.func164.trans (congrArg some (by kernel_rfl))
  f318 := Tryz.func166.trans (congrArg some (by kernel_rfl))
  f319 := Tryz.func167.trans (congrArg some (by kernel_rfl))
  f320 := Tryz.func168.trans (congrArg some (by kernel_rfl))
  f337 := Tryz.func173.trans (congrArg some (by kernel_rfl))
  f338 := Tryz.func174.trans (congrArg some (by kernel_rfl))
  t0 := Tryz.underlying0
  a0 := Tryz.isAgg0
  z0 := Tryz.sizeOf0
  v0 := Tryz.zeroValue0
  t2 := Tryz.underlying2
  a2 := Tryz.isAgg2
  z2 := Tryz.sizeOf2
  v2 := Tryz.zeroValue2
  t3 := Tryz.underlying3
  a3 := Tryz.isAgg3
  z3 := Tryz.sizeOf3
  v3 := Tryz.zeroValue3
  t4 := Tryz.underlying4
  a4 := Tryz.isAgg4
  z4 := Tryz.sizeOf4
  v4 := Tryz.zeroValue4
  t5 := Tryz.underlying5
  a5 := Tryz.isAgg5
  z5 := Tryz.sizeOf5
  v5 := Tryz.zeroValue5
  t9 := Tryz.underlying9
  a9 := Tryz.isAgg9
  z9 := Tryz.sizeOf9
  v9 := Tryz.zeroValue9
  t20 := Tryz.underlying20
  a20 := Tryz.isAgg20
  z20 := Tryz.sizeOf20
  v20 := Tryz.zeroValue20
  t37 := Tryz.underlying32
  a37 := Tryz.isAgg32
  z37 := Tryz.sizeOf32
  v37 := Tryz.zeroValue32
  t46 := Tryz.underlying88
  a46 := Tryz.isAgg88
  z46 := Tryz.sizeOf88
  v46 := Tryz.zeroValue88
  t51 := Tryz.underlying183
  a51 := Tryz.isAgg183
  z51 := Tryz.sizeOf183
  v51 := Tryz.zeroValue183
  t53 := Tryz.underlying168
  a53 := Tryz.isAgg168
  z53 := Tryz.sizeOf168
  v53 := Tryz.zeroValue168
  t171 := Tryz.underlying167
  a171 := Tryz.isAgg167
  z171 := Tryz.sizeOf167
  v171 := Tryz.zeroValue167
  t173 := Tryz.underlying171
  a173 := Tryz.isAgg171
  z173 := Tryz.sizeOf171
  v173 := Tryz.zeroValue171
  t212 := Tryz.underlying185
  a212 := Tryz.isAgg185
  z212 := Tryz.sizeOf185
  v212 := Tryz.zeroValue185
  t213 := Tryz.underlying186
  a213 := Tryz.isAgg186
  z213 := Tryz.sizeOf186
  t232 := Tryz.underlying193
  a232 := Tryz.isAgg193
  z232 := Tryz.sizeOf193
  v232 := Tryz.zeroValue193
  t233 := Tryz.underlying194
  a233 := Tryz.isAgg194
  z233 := Tryz.sizeOf194
  v233 := Tryz.zeroValue194
  g17 := by kernel_rfl
  g18 := by kernel_rfl
  g19 := by kernel_rfl
  i0 := by kernel_rfl
  i2 := by kernel_rfl
  i3 := by kernel_rfl
  i4 := by kernel_rfl
  i5 := by kernel_rfl
  i9 := by kernel_rfl
  i20 := by kernel_rfl
  i37 := by kernel_rfl
  i46 := by kernel_rfl
  i51 := by kernel_rfl
  i53 := by kernel_rfl
  i171 := by kernel_rfl
  i173 := by kernel_rfl
  i212 := by kernel_rfl
  i232 := by kernel_rfl
  i233 := by kernel_rfl
  m17 := by kernel_rfl
  m18 := by kernel_rfl
  m19 := by kernel_rfl }
open Go.RowKit Go.Sort Go.Lib in
/-- strconv.Itoa: "Itoa is equivalent to FormatInt(int64(i), 10).": i's DECIMAL NUMERAL ('Lib.itoa': a '-' where i is negative, then the digits), FOR EVERY int. The world behind the call: the world before it, new blocks behind the heap (the library's 'var a [24]byte'), draws. (LAID: no walk: one application.) -/
theorem Tryz.strconv_Itoa (n : Int) (h0 : -9223372036854775808 ≤ n) (h1 : n ≤ 9223372036854775807) (w : World) (htab : Lib.TabIs Tryz.prog w "internal/strconv.uint64pow10" .u64 Lib.pow10Tab) :
    Calls Tryz.prog 111 #[.int .i64 n] w fun e w' => e = .returned (.string ⟨(Lib.itoa n).toArray⟩) ∧ ∃ k os, w' = grow (w.drewN k) os := Any.strconv_Itoa Tryz.laysM171 n h0 h1 w htab
end Go.Proofs
end
section
namespace Go.Proofs.YtjkjnhcnmjknmaaGreatDoor.Y
open Go.RowKit Go.Proofs.YtjkjnhcnmjknmaaGreatDoorW.PrintWords Go.Proofs.YtjkjnhcnmjknmaaGreatDoorW.PrintLast Go.Proofs.YtjkjnhcnmjknmaaGreatDoorW.PrintMore
theorem below_grow (w : World) (k : Nat) (os : Array Obj) : Below w.heap.size w (Go.Sort.grow (w.drewN k) os) := by
  have h := pw_below_drewN (Below.refl w.heap.size w) k
  refine ⟨h.os, h.tape, h.output, ?_, fun i hi => ?_⟩
  · show w.heap.size ≤ (w.heap ++ os).size
    rw [Array.size_append]
    omega
  · show (w.heap ++ os)[i]? = _
    rw [Array.getElem?_append_left hi]
def strconv_Itoa.f (a0 : Int) : Option ByteArray := if -9223372036854775808 ≤ a0 ∧ a0 ≤ 9223372036854775807 then some ⟨(Lib.itoa a0).toArray⟩ else none
theorem strconv_Itoa.calls (a0 : Int) (r : ByteArray) (w : World) (hT : XTab w) (h : strconv_Itoa.f a0 = some r) :
    Calls Tryz.prog 111 #[.int .i64 a0] w fun e w' => e = .returned (.string r) ∧ Below w.heap.size w w' := by
  unfold strconv_Itoa.f at h
  split at h
  · rename_i hc
    obtain rfl := Option.some.inj h
    refine (Tryz.strconv_Itoa a0 hc.1 hc.2 w hT).mono ?_
    rintro e w' ⟨rfl, k, os, rfl⟩
    exact ⟨rfl, below_grow w k os⟩
  · exact absurd h (by simp)
end Go.Proofs.YtjkjnhcnmjknmaaGreatDoor.Y
end
section
namespace Go.Proofs.YtjkjnhcnmjknmaaGreatDoor.Y
open Go.RowKit Go.Proofs.YtjkjnhcnmjknmaaGreatDoorW.PrintWords Go.Proofs.YtjkjnhcnmjknmaaGreatDoorW.PrintLast Go.Proofs.YtjkjnhcnmjknmaaGreatDoorW.PrintMore
attribute [local go_sem] max2_int min2_int max_two min_two max_three min_three max_four min_four   -- for this text's walks alone
set_option linter.unusedVariables false
set_option linter.unusedSimpArgs false
/-! ### xansi_PushKittyKeyboard: function 87 -/
def xansi_PushKittyKeyboard.f (a0 : Int) : Option (ByteArray) := if a0 > 0 then ((strconv_Itoa.f a0).bind fun t102 => (if 3 + t102.size ≤ 9223372036854775807 then (if 3 + t102.size + 1 ≤ 9223372036854775807 then (some (((⟨#[27, 91, 62]⟩ : ByteArray) ++ t102) ++ (⟨#[117]⟩ : ByteArray))) else (none)) else (none))) else (if 3 + 0 ≤ 9223372036854775807 then (if 3 + 0 + 1 ≤ 9223372036854775807 then (some (((⟨#[27, 91, 62]⟩ : ByteArray) ++ (⟨#[]⟩ : ByteArray)) ++ (⟨#[117]⟩ : ByteArray))) else (none)) else (none))
end Go.Proofs.YtjkjnhcnmjknmaaGreatDoor.Y
end
