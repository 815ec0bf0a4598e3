/- Texts of this claim, joined: WShare WN WNEv WMore XConv WTab WFour WFootNe WAt WEqStruct WRepsOne WInv WInvWords WGuard Y0. Of each, what the claim uses. -/
import Derived.Test.YteebhoehflgfoaaGreatDoorKab
import Derived.Test.YteebhoehflgfoaaGreatDoorKaa
import Derived.Test.YteebhoehflgfoaaGreatDoorProg
import Derived.Lib.AppendIntMem
import Derived.Lib.ConvBytes
import Derived.Laws.Runes
import Derived.Laws.StructEq
import Derived.Below
import Derived.Deep.Draws
import Derived.Deep.AppendLies
import Derived.Maps.AppendAt
import Derived.OwnWalk
import Derived.Laws.BytesArg
import Derived.Laws.MakeOwn
import Derived.Laws.OwnMore
import Derived.Deep.OwnRows
import Derived.Tactics
import Derived.Laws.Slices
import Derived.WalkKit
import Derived.KernelRfl
import Derived.RowKit3
import Derived.Deep.LoopGhost
import Derived.Deep.QuietTactic
import Derived.BigQuiet
import Derived.WideLaws
import Derived.Deep.DeepCutAuto
import Derived.Deep.CutBlock
import Derived.Deep.RegionHeld3
import Derived.Laws.Rows
import Derived.Lib.AppendStr
import Derived.ArgAppend
import Derived.Laws.IdiomCopy
import Derived.OrdersHeld
import Derived.Laws.BitsLemmas
import Derived.RowKit
section
/-! ### 46. Values that share: what is only read, with the blocks it lies in (its footprint 'ok'): Foot, F (a row that is read), FK (an element's cells) -/
namespace Go.Proofs.YteebhoehflgfoaaGreatDoorW.PrintWords
open Go.RowKit
/-- P holds in W and in every world that has W's blocks of ok. -/
def Foot (P : World → Prop) (W : World) (ok : Nat → Prop) : Prop := ∀ W' : World, (∀ k, ok k → k < W.heap.size → W'.heap[k]? = W.heap[k]?) → P W'
theorem heap_lt {W W1 : World} {k : Nat} (h : W1.heap[k]? = W.heap[k]?) (hlt : k < W.heap.size) : k < W1.heap.size := by
 rw [Array.getElem?_eq_getElem hlt] at h
 exact (Array.getElem?_eq_some_iff.1 h).1
namespace Foot
variable {P Q : World → Prop} {W W1 : World} {ok ok' : Nat → Prop}
theorem now (h : Foot P W ok) : P W := h W (fun _ _ _ => rfl)
theorem mono (h : Foot P W ok) (hok : ∀ k, ok k → ok' k) : Foot P W ok' := fun W' hW => h W' (fun k hk hlt => hW k (hok k hk) hlt)
theorem bound (h : Foot P W ok) : Foot P W (fun k => ok k ∧ k < W.heap.size) := fun W' hW => h W' (fun k hk hlt => hW k ⟨hk, hlt⟩ hlt)
theorem step (h : Foot P W ok) (hm : ∀ k, ok k → k < W.heap.size → W1.heap[k]? = W.heap[k]?) : Foot P W1 ok := fun W' hW => h W' (fun k hk hlt => (hW k hk (heap_lt (hm k hk hlt) hlt)).trans (hm k hk hlt))
/-- Moved, and still elder than what is new since W. -/
theorem old (h : Foot P W ok) (hb : Below W.heap.size W W1) : Foot P W1 (fun k => ok k ∧ k < W.heap.size) := (h.bound).step (fun k _ hlt => hb.block k hlt)
end Foot
namespace Kd
/-- A row that is only read: what it leads to lies in ok. -/
def F {α : Type} (d : Kd α) (W : World) (ok : Nat → Prop) (A : Option Addr) (n : Nat) (xs : List α) : Prop := Foot (fun W => d.C W A n xs) W ok
/-- An element's cells: what they lead to lies in ok. -/
def FK {α : Type} (d : Kd α) (W : World) (ok : Nat → Prop) (x : α) (c : List Value) : Prop := Foot (fun W => d.K W x c) W ok
section
variable {α β : Type} {d : Kd α} {e base n n' cc g N : Nat} {ok ok' okp S : Nat → Prop} {w w0 w1 W W1 : World} {A A' : Option Addr} {u v v1 : Value} {xs : List α} {xs' : List β} {d' : Kd β} {x : α} {c : List Value}
theorem F_now (h : F d W ok A n xs) : d.C W A n xs := Foot.now h
theorem F_mono (h : F d W ok A n xs) (hok : ∀ k, ok k → ok' k) : F d W ok' A n xs := Foot.mono h hok
theorem F_bound (h : F d W ok A n xs) : F d W (fun k => ok k ∧ k < W.heap.size) A n xs := Foot.bound h
theorem F_step (h : F d W ok A n xs) (hm : ∀ k, ok k → k < W.heap.size → W1.heap[k]? = W.heap[k]?) : F d W1 ok A n xs := Foot.step h hm
theorem F_below (h : F d W ok A n xs) (hb : Below W.heap.size W W1) : F d W1 ok A n xs := F_step h (fun k _ hlt => hb.block k hlt)
theorem F_alloc (h : F d W ok A n xs) (o : Obj) : F d (W.alloc o) ok A n xs := F_below h (below_alloc (Below.refl _ _) o)
theorem F_drew (h : F d W ok A n xs) : F d W.drew ok A n xs := F_below h (below_drew (Below.refl _ _))
theorem F_drewN (h : F d W ok A n xs) (m : Nat) : F d (W.drewN m) ok A n xs := F_below h (pw_below_drewN (Below.refl _ _) m)
theorem F_far (h : F d W ok A n xs) {p : Addr} (hok : ∀ k, ok k → k ≠ p.block) (u : Value) : F d (W.setCell p u) ok A n xs := F_step h (fun k hk _ => Below.heap_setCell W p u k (hok k hk))
theorem F_nil (d : Kd α) (W : World) (ok : Nat → Prop) : F d W ok none ([] : List α).length [] := fun W' _ => C_nil d W'
/-- A new row's block is none of an elder one's. -/
theorem F_elder' (h : F d W ok A n xs) (hbase : ∀ k, v.ownBlock = some k → W.heap.size ≤ k) (hb : Below W.heap.size W W1) : F d W1 (fun k => ok k ∧ some k ≠ v.ownBlock) A n xs :=
 F_mono (Foot.old h hb) (fun k hk => ⟨hk.1, fun he => by have := hbase k he.symm; have := hk.2; omega⟩)
theorem F_elderB (h : F d W ok A n xs) (a : Nat) (ha : W.heap.size ≤ a) : F d W (fun k => ok k ∧ k ≠ a) A n xs := F_mono (F_bound h) (fun k hk => ⟨hk.1, by have := hk.2; omega⟩)
/-- Behind an append to v (it left v1): what lies apart from v lies apart from v1. -/
theorem F_after (h : F d W (fun k => ok k ∧ some k ≠ v.ownBlock) A n xs) (hg : W.grownBy W1 v.ownBlock) (hat : v1.ownBlock = v.ownBlock ∨ ∃ b, v1.ownBlock = some b ∧ W.heap.size ≤ b) : F d W1 (fun k => ok k ∧ some k ≠ v1.ownBlock) A n xs := by
 refine F_mono (Foot.step (F_bound h) (fun k hk hlt => hg.block k hlt hk.1.2)) (fun k hk => ⟨hk.1.1, ?_⟩)
 rcases hat with hat | ⟨b, hb, hle⟩
 ·rw [hat]; exact hk.1.2
 ·rw [hb]
  intro he
  injection he with he
  have := hk.2
  omega
theorem R_F (h : d.R e W base ok (.slice A n cc) xs) : F d W ok A n xs := fun W' hW => by
 have h2 := R_reads' (R_step h hW)
 rw [h2.1]
 exact h2.2.2
/-- The same of an element's cells. -/
theorem FK_now (h : FK d W ok x c) : d.K W x c := Foot.now h
theorem FK_mono (h : FK d W ok x c) (hok : ∀ k, ok k → ok' k) : FK d W ok' x c := Foot.mono h hok
theorem FK_bound (h : FK d W ok x c) : FK d W (fun k => ok k ∧ k < W.heap.size) x c := Foot.bound h
theorem FK_step (h : FK d W ok x c) (hm : ∀ k, ok k → k < W.heap.size → W1.heap[k]? = W.heap[k]?) : FK d W1 ok x c := Foot.step h hm
theorem FK_below (h : FK d W ok x c) (hb : Below W.heap.size W W1) : FK d W1 ok x c := FK_step h (fun k _ hlt => hb.block k hlt)
theorem FK_of_M (h : d.M W base ok x c) : FK d W ok x c := fun _ hW => d.K_of_M (M_step h hW)
/-- A block that is emptied reads no more. -/
theorem emptied (W : World) (g : Nat) : ∃ W' : World, (∀ k, k ≠ g → W'.heap[k]? = W.heap[k]?) ∧ ∀ a : Addr, a.block = g → W'.cell? a = none := by
 refine ⟨{ W with heap := W.heap.setIfInBounds g (.cells #[] 0) }, fun k hk => by simp [Ne.symm hk], fun a ha => ?_⟩
 subst ha
 by_cases hlt : a.block < W.heap.size
 ·simp [World.cell?, hlt]
 ·simp [World.cell?, hlt]
end
end Kd
end Go.Proofs.YteebhoehflgfoaaGreatDoorW.PrintWords
end
section
/-! ### 47. N: a row of the call's own whose elements share (what they lead to is only read) -/
namespace Go.Proofs.YteebhoehflgfoaaGreatDoorW.PrintWords
open Go.RowKit
namespace Kd
/-- The cells one behind the other, element by element. -/
def chunks (sz : Nat) (n : Nat) (inner : List Value) : List (List Value) := (List.range n).map fun j => (inner.drop (j * sz)).take sz
theorem chunks_length (sz n : Nat) (inner : List Value) : (chunks sz n inner).length = n := by simp [chunks]
theorem chunks_at {sz n : Nat} {inner : List Value} {j : Nat} (hj : j < n) : (chunks sz n inner)[j]? = some ((inner.drop (j * sz)).take sz) := by simp [chunks, hj]
theorem chunks_get {sz n : Nat} {inner : List Value} {j : Nat} {c : List Value} (h : (chunks sz n inner)[j]? = some c) : c = (inner.drop (j * sz)).take sz := by
 have hj : j < n := by have := (List.getElem?_eq_some_iff.1 h).1; rwa [chunks_length] at this
 rw [chunks_at hj] at h
 injection h with h
 exact h.symm
theorem reps_raw {α : Type} {Rr : α → List Value → Prop} {sz : Nat} {xs : List α} {inner : List Value} (h : Reps Rr sz xs inner) (hR : ∀ x c, Rr x c → c.length = sz ∧ ∀ u ∈ c, u.oneCell' = true) : Reps (fun x cs => cs = x ∧ cs.length = sz ∧ ∀ u ∈ cs, u.oneCell' = true) sz (chunks sz xs.length inner) inner := by
 refine ⟨by rw [chunks_length]; exact h.1, fun j p hj => ?_⟩
 have hjl : j < xs.length := by have := (List.getElem?_eq_some_iff.1 hj).1; rwa [chunks_length] at this
 have hp := chunks_get hj
 exact ⟨hp.symm, hR _ _ (h.2 j _ (List.getElem?_eq_getElem hjl))⟩
section
variable {α : Type} {d : Kd α} {e base n cc g : Nat} {ok ok' okp S : Nat → Prop} {w w1 W W1 : World} {A : Option Addr} {u v v1 : Value} {xs : List α} {x : α} {c : List Value}
/-- Element i of a row that is read: its cells, and what they lead to, in ok. -/
theorem F_get (h : F d W ok A n xs) (z : α) (i : Int) (h0 : 0 ≤ i) (h1 : i < n) :
  ∃ ad c, A = some ad ∧ c.length = d.sz ∧ FK d W ok (xs.getD i.toNat z) c ∧ (∀ j u, c[j]? = some u → W.cell? (ad.add (i.toNat * d.sz + j)) = some u) ∧ (0 < d.sz → ok ad.block) := by
 obtain ⟨ad, c, rfl, hcl, hK, hcc⟩ := C_get (F_now h) z i h0 h1
 have hin : 0 < d.sz → ok ad.block := by
  intro hs
  by_cases hk : ok ad.block
  ·exact hk
  ·obtain ⟨W', h2, h3⟩ := emptied W ad.block
   obtain ⟨ad', c', he, hcl', _, hcc'⟩ := C_get (h W' (fun k hk' _ => h2 k (fun e => hk (e ▸ hk')))) z i h0 h1
   injection he with he
   subst he
   have h4 := hcc' 0 _ (List.getElem?_eq_getElem (by omega))
   rw [h3 _ (add_block _ _)] at h4
   cases h4
 refine ⟨ad, c, rfl, hcl, fun W' hW => ?_, hcc, hin⟩
 obtain ⟨ad', c', he, hcl', hK', hcc'⟩ := C_get (h W' hW) z i h0 h1
 injection he with he
 subst he
 have hc : c = c' := by
  apply List.ext_getElem?
  intro j
  by_cases hj : j < d.sz
  ·have hb : W'.heap[ad.block]? = W.heap[ad.block]? := by
    have h5 := hcc j _ (List.getElem?_eq_getElem (by omega))
    have h6 := World.block_lt_of_cell? W _ h5
    rw [add_block] at h6
    exact hW _ (hin (by omega)) h6
   have h5 := hcc j _ (List.getElem?_eq_getElem (by omega))
   have h6 := hcc' j _ (List.getElem?_eq_getElem (by omega))
   have h7 : W'.cell? (ad.add (i.toNat * d.sz + j)) = W.cell? (ad.add (i.toNat * d.sz + j)) := by simp [World.cell?, add_block, hb]
   rw [h7, h5] at h6
   rw [List.getElem?_eq_getElem (by omega), List.getElem?_eq_getElem (by omega)]
   exact h6
  ·rw [List.getElem?_eq_none (by omega), List.getElem?_eq_none (by omega)]
 rw [hc]
 exact hK'
/-- A row of elements (type e) of the call's own; what the elements lead to is only read, and is not this row. -/
def N {α : Type} (d : Kd α) (e : Nat) (w : World) (base : Nat) (ok : Nat → Prop) (v : Value) (xs : List α) : Prop :=
 (∀ k, v.ownBlock = some k → ok k) ∧ ∃ rows : List (List Value), rows.length = xs.length ∧ (raw d.sz).R e w base (fun k => some k = v.ownBlock) v rows ∧ ∀ (j : Nat) (x : α) (c : List Value), xs[j]? = some x → rows[j]? = some c → FK d w (fun k => ok k ∧ some k ≠ v.ownBlock) x c
theorem raw_tight {sz : Nat} {rows : List (List Value)} (h : (raw sz).R e w base ok v rows) : (raw sz).R e w base (fun k => some k = v.ownBlock) v rows := R_tight rfl h
theorem raw_any {sz : Nat} {rows : List (List Value)} (h : (raw sz).R e w base ok v rows) : (raw sz).R e w base (fun _ => True) v rows := R_mono h (fun _ _ => trivial)
theorem R_N (h : d.R e w base ok v xs) : N d e w base ok v xs := by
 obtain ⟨h0, inner, ho, hr⟩ := h
 refine ⟨h0, chunks d.sz xs.length inner, chunks_length _ _ _, ⟨fun k hk => hk.symm, inner, by rw [chunks_length]; exact ho, reps_raw hr (fun x c hp => ⟨d.K_len (d.K_of_M hp), d.K_one (d.K_of_M hp)⟩)⟩, fun j x c hx hc => ?_⟩
 rw [chunks_get hc]
 exact FK_of_M (hr.2 j x hx)
theorem N_nil (d : Kd α) (e : Nat) (w : World) (base : Nat) (ok : Nat → Prop) : N d e w base ok (.slice none 0 0) [] := R_N (R_nil _ _ _ _ _)
theorem N_mono (h : N d e w base ok v xs) (hok : ∀ k, ok k → ok' k) : N d e w base ok' v xs := by
 obtain ⟨h0, rows, hl, hR, hf⟩ := h
 exact ⟨fun k hk => hok k (h0 k hk), rows, hl, hR, fun j x c hx hc => FK_mono (hf j x c hx hc) (fun k hk => ⟨hok k hk.1, hk.2⟩)⟩
theorem N_lt (h : N d e w base ok v xs) : ∀ k, v.ownBlock = some k → k < w.heap.size := by
 obtain ⟨_, rows, _, hR, _⟩ := h
 exact R_lt hR
theorem N_base (h : N d e w base ok v xs) : ∀ k, v.ownBlock = some k → base ≤ k := by
 obtain ⟨_, rows, _, hR, _⟩ := h
 exact R_base hR
/-- By types: the row itself is none of a block of another type (its elements' blocks may be: they are told by ok). -/
theorem N_ne (h : N d e w base ok v xs) {t : Nat} {cells : Array Value} (hb : w.heap[g]? = some (.cells cells t (0, 0))) (ht : e ≠ t) : some g ≠ v.ownBlock := by
 obtain ⟨_, rows, _, hR, _⟩ := h
 exact R_ne hR hb ht
theorem N_bound (h : N d e w base ok v xs) : N d e w base (fun k => ok k ∧ k < w.heap.size) v xs := by
 have hlt := N_lt h
 obtain ⟨h0, rows, hl, hR, hf⟩ := h
 exact ⟨fun k hk => ⟨h0 k hk, hlt k hk⟩, rows, hl, hR, fun j x c hx hc => FK_mono (FK_bound (hf j x c hx hc)) (fun k hk => ⟨⟨hk.1.1, hk.2⟩, hk.1.2⟩)⟩
theorem N_step (h : N d e w base ok v xs) (hm : ∀ k, ok k → k < w.heap.size → w1.heap[k]? = w.heap[k]?) : N d e w1 base ok v xs := by
 obtain ⟨h0, rows, hl, hR, hf⟩ := h
 exact ⟨h0, rows, hl, R_step hR (fun k hk hlt => hm k (h0 k hk.symm) hlt), fun j x c hx hc => FK_step (hf j x c hx hc) (fun k hk hlt => hm k hk.1 hlt)⟩
theorem N_below (h : N d e w base ok v xs) (hb : Below w.heap.size w w1) : N d e w1 base ok v xs := N_step h (fun k _ hk => hb.block k hk)
theorem N_alloc (h : N d e w base ok v xs) (o : Obj) : N d e (w.alloc o) base ok v xs := N_below h (below_alloc (Below.refl _ _) o)
theorem N_drew (h : N d e w base ok v xs) : N d e w.drew base ok v xs := N_below h (below_drew (Below.refl _ _))
theorem N_drewN (h : N d e w base ok v xs) (m : Nat) : N d e (w.drewN m) base ok v xs := N_below h (pw_below_drewN (Below.refl _ _) m)
theorem N_far (h : N d e w base ok v xs) {p : Addr} (hok : ∀ k, ok k → k ≠ p.block) (u : Value) : N d e (w.setCell p u) base ok v xs := N_step h (fun k ho _ => Below.heap_setCell w p u k (hok k ho))
theorem N_elderB (h : N d e w base ok v xs) (a : Nat) (ha : w.heap.size ≤ a) : N d e w base (fun k => ok k ∧ k ≠ a) v xs := N_mono (N_bound h) (fun k hk => ⟨hk.1, by have := hk.2; omega⟩)
theorem N_slice (h : N d e w base ok v xs) : ∃ A c, v = .slice A xs.length c := by
 obtain ⟨_, rows, hl, hR, _⟩ := h
 obtain ⟨A, c, he⟩ := R_slice hR
 exact ⟨A, c, by rw [he, hl]⟩
theorem N_reads' {n c : Nat} (h : N d e w base ok (.slice A n c) xs) : n = xs.length ∧ n ≤ c ∧ d.C w A xs.length xs := by
 obtain ⟨_, rows, hl, hR, hf⟩ := h
 obtain ⟨hn, hc, hC⟩ := R_reads' hR
 refine ⟨by omega, hc, ?_⟩
 rw [hl] at hC
 refine ⟨rfl, hC.2.1, fun hp => ?_⟩
 obtain ⟨ad, he, hcell⟩ := hC.2.2 hp
 refine ⟨ad, he, fun j p hj => ?_⟩
 have hjl : j < rows.length := by have := (List.getElem?_eq_some_iff.1 hj).1; omega
 obtain ⟨c', hcl, hK, hcc⟩ := hcell j _ (List.getElem?_eq_getElem hjl)
 have hk := FK_now (hf j p _ hj (List.getElem?_eq_getElem hjl))
 refine ⟨c', hcl, ?_, hcc⟩
 rw [show c' = rows[j] from hK.1]
 exact hk
theorem N_reads (h : N d e w base ok v xs) : ∃ A c, v = .slice A xs.length c ∧ xs.length ≤ c ∧ d.C w A xs.length xs := by
 obtain ⟨A, c, rfl⟩ := N_slice h
 exact ⟨A, c, rfl, (N_reads' h).2⟩
theorem N_F {n : Nat} (h : N d e w base ok (.slice A n cc) xs) : F d w ok A n xs := fun W' hW => by
 have h2 := N_reads' (N_step h hW)
 rw [h2.1]
 exact h2.2.2
end
end Kd
end Go.Proofs.YteebhoehflgfoaaGreatDoorW.PrintWords
end
section
/-! ### 48. N's events: append, a whole row appended, zeros appended, literals, make, stores, cuts, an element taken out -/
namespace Go.Proofs.YteebhoehflgfoaaGreatDoorW.PrintWords
open Go.RowKit
namespace Kd
section
variable {α : Type} {d : Kd α} {e base n cap g : Nat} {ok ok' okp : Nat → Prop} {w w1 W : World} {v v1 : Value} {xs ys : List α}
/-- Behind an append: the old elements and the new ones, moved. -/
theorem N_appended {rows news : List (List Value)} (h0 : ∀ k, v.ownBlock = some k → ok k) (hl : rows.length = xs.length) (hf : ∀ (j : Nat) (x : α) (c : List Value), xs[j]? = some x → rows[j]? = some c → FK d W (fun k => ok k ∧ some k ≠ v.ownBlock) x c)
  (hl2 : news.length = ys.length) (hf2 : ∀ (j : Nat) (x : α) (c : List Value), ys[j]? = some x → news[j]? = some c → FK d W okp x c) (hokp : ∀ k, okp k → ok k ∧ some k ≠ v.ownBlock) (hfresh : ∀ k, W.heap.size ≤ k → ok k)
  (hR : (raw d.sz).R e w1 base (fun _ => True) v1 (rows ++ news)) (hg : W.grownBy w1 v.ownBlock) (hat : v1.ownBlock = v.ownBlock ∨ ∃ b, v1.ownBlock = some b ∧ W.heap.size ≤ b) : N d e w1 base ok v1 (xs ++ ys) := by
 have hne : ∀ k, some k ≠ v.ownBlock → k < W.heap.size → some k ≠ v1.ownBlock := by
  intro k hk hlt
  rcases hat with hat | ⟨b, hb, hle⟩
  ·rw [hat]; exact hk
  ·rw [hb]
   intro he
   injection he with he
   omega
 have step : ∀ {x : α} {c : List Value} {o : Nat → Prop}, FK d W o x c → (∀ k, o k → ok k ∧ some k ≠ v.ownBlock) → FK d w1 (fun k => ok k ∧ some k ≠ v1.ownBlock) x c := by
  intro x c o hq ho
  exact FK_mono (FK_step (FK_bound hq) (fun k hk hlt => hg.block k hlt (ho k hk.1).2)) (fun k hk => ⟨(ho k hk.1).1, hne k (ho k hk.1).2 hk.2⟩)
 refine ⟨fun k hk => ?_, rows ++ news, by rw [List.length_append, List.length_append, hl, hl2], raw_tight hR, fun j x c hx hc => ?_⟩
 ·rcases hat with hat | ⟨b, hb, hle⟩
  ·exact h0 k (hat ▸ hk)
  ·rw [hb] at hk
   injection hk with hk
   exact hfresh k (by omega)
 ·rcases Nat.lt_or_ge j xs.length with hlt | hge
  ·rw [List.getElem?_append_left hlt] at hx
   rw [List.getElem?_append_left (by omega)] at hc
   exact step (hf j x c hx hc) (fun _ hk => hk)
  ·rw [List.getElem?_append_right hge] at hx
   rw [List.getElem?_append_right (by omega), hl] at hc
   exact step (hf2 _ x c hx hc) hokp
theorem FK_raw {x : α} {c : List Value} (h : FK d W ok x c) : c = c ∧ c.length = d.sz ∧ ∀ u ∈ c, u.oneCell' = true := ⟨rfl, d.K_len (FK_now h), d.K_one (FK_now h)⟩
end
section
variable {P : Program} {ops : Array Oper} {rest : List Oper} {o : Oper} {a : Act} {Q : Exit → Act → World → Prop} {Kc : Act → World → Prop} {α : Type}
/-- append(v, x), behind 'at_builtin': x's cells are cs. -/
theorem N_append (d : Kd α) {w0 W : World} (base : Nat) (hgd : o.guard = none) (s x : Operand) (t e : TypeId) (z : Value) (bytes : Nat)
  (ho : o.op = .call { callee := .builtin .append, args := #[s, x], argTypes := #[t, t] })
  (ht : P.underlying t = some (.slice e)) (hinfo : (P.info? e).map (fun i => (i.zero, i.size, i.bytes)) = some (some z, d.sz, bytes)) (hz : z.cells.size = d.sz) (hs0 : 0 < d.sz) (hb0 : 0 < bytes)
  (v : Value) (xs : List α) (p : α) (cs : List Value) (ok okp : Nat → Prop) (hs : a.eval s = v) (hx : a.eval x = .slice (some ⟨W.heap.size, 0, none⟩) 1 1) (hp : FK d W okp p cs) (hokp : ∀ k, okp k → ok k ∧ some k ≠ v.ownBlock) (hfresh : ∀ k, W.heap.size ≤ k → ok k)
  (HO : N d e W base ok v xs) (HB : Below base w0 W) (hbase : base ≤ W.heap.size) (hl : (xs.length + 1) * bytes ≤ 140737488355328)
  (h : ∀ v1 w1, N d e w1 base ok v1 (xs ++ [p]) → Below base w0 w1 → W.grownBy w1 v.ownBlock → (v1.ownBlock = v.ownBlock ∨ ∃ b, v1.ownBlock = some b ∧ W.heap.size ≤ b) → wpList P ops Q rest (a.put o.dst v1) w1) :
  wpList P ops Q (o :: rest) a (W.alloc (.cells cs.toArray e)) := by
 obtain ⟨h0, rows, hlr, hR, hf⟩ := HO
 refine R_append (raw d.sz) base hgd s x t e z bytes ho ht hinfo hz hs0 hb0 v rows cs cs (fun _ => True) (fun _ => False) hs hx (FK_raw hp) (fun _ hk => hk.elim) (fun _ _ => trivial) (raw_any hR) HB hbase (by rw [hlr]; exact hl) ?_
 intro v1 w1 hr hb hg hat
 exact h v1 w1 (N_appended h0 hlr hf (ys := [p]) (news := [cs]) rfl (fun j y c hy hc => by
  rcases j with _ | j
  ·simp only [List.getElem?_cons_zero, Option.some.injEq] at hy hc
   rw [← hy, ← hc]; exact hp
  ·simp at hy) hokp hfresh hr hg hat) hb hg hat
end
end Kd
end Go.Proofs.YteebhoehflgfoaaGreatDoorW.PrintWords
end
section
namespace Go.Proofs.YteebhoehflgfoaaGreatDoorW.PrintMore
open Go.RowKit Go.Proofs.YteebhoehflgfoaaGreatDoorW.PrintWords
namespace Kd
open Go.Proofs.YteebhoehflgfoaaGreatDoorW.PrintWords.Kd
end Kd
namespace Kd
open Go.Proofs.YteebhoehflgfoaaGreatDoorW.PrintWords.Kd
section
variable {α : Type} {d : Kd α} {e base g N : Nat} {ok : Nat → Prop} {W w1 : World} {u v : Value} {xs : List α}
end
end Kd
/-- 'max' and 'min' of two whole numbers. -/
theorem max2_int (k k' : IntKind) (x y : Int) : Builtin.max2 (.int k x) (.int k' y) = pure (.int k (if x < y then y else x)) := by simp only [Builtin.max2, gt_iff_lt]
theorem min2_int (k k' : IntKind) (x y : Int) : Builtin.min2 (.int k x) (.int k' y) = pure (.int k (if y < x then y else x)) := by simp only [Builtin.min2]
theorem max_two (ats : Array TypeId) (ty : TypeId) (a b : Value) : Builtin.max_ ats ty #[a, b] = (Builtin.max2 a b >>= fun s => pure s) := by simp only [Builtin.max_, List.foldlM_cons, List.foldlM_nil]
theorem min_two (ats : Array TypeId) (ty : TypeId) (a b : Value) : Builtin.min_ ats ty #[a, b] = (Builtin.min2 a b >>= fun s => pure s) := by simp only [Builtin.min_, List.foldlM_cons, List.foldlM_nil]
theorem max_three (ats : Array TypeId) (ty : TypeId) (a b c : Value) : Builtin.max_ ats ty #[a, b, c] = (Builtin.max2 a b >>= fun s => Builtin.max2 s c >>= fun s => pure s) := by simp only [Builtin.max_, List.foldlM_cons, List.foldlM_nil]
theorem min_three (ats : Array TypeId) (ty : TypeId) (a b c : Value) : Builtin.min_ ats ty #[a, b, c] = (Builtin.min2 a b >>= fun s => Builtin.min2 s c >>= fun s => pure s) := by simp only [Builtin.min_, List.foldlM_cons, List.foldlM_nil]
theorem max_four (ats : Array TypeId) (ty : TypeId) (a b c d : Value) : Builtin.max_ ats ty #[a, b, c, d] = (Builtin.max2 a b >>= fun s => Builtin.max2 s c >>= fun s => Builtin.max2 s d >>= fun s => pure s) := by simp only [Builtin.max_, List.foldlM_cons, List.foldlM_nil]
theorem min_four (ats : Array TypeId) (ty : TypeId) (a b c d : Value) : Builtin.min_ ats ty #[a, b, c, d] = (Builtin.min2 a b >>= fun s => Builtin.min2 s c >>= fun s => Builtin.min2 s d >>= fun s => pure s) := by simp only [Builtin.min_, List.foldlM_cons, List.foldlM_nil]
end Go.Proofs.YteebhoehflgfoaaGreatDoorW.PrintMore
namespace Go.Proofs.YteebhoehflgfoaaGreatDoorW.PrintWords
open Go.RowKit
section
variable {P : Program} {ops : Array Oper} {rest : List Oper} {o : Oper} {a : Act} {Q : Exit → Act → World → Prop} {W : World}
/-- The operation is a call of this function (a cheap look ahead of a dear step). -/
theorem gate_callee {f : FuncId} {asx : Array Operand} {ts : Array TypeId} (_ho : o.op = .call { callee := .value (.func f), args := asx, argTypes := ts }) (h : wpList P ops Q (o :: rest) a W) : wpList P ops Q (o :: rest) a W := h
/-- The operation is a builtin over these places. -/
theorem gate_builtin {b : Builtin} {xs : Array Operand} {ts : Array TypeId} (_ho : o.op = .call { callee := .builtin b, args := xs, argTypes := ts }) (h : wpList P ops Q (o :: rest) a W) : wpList P ops Q (o :: rest) a W := h
end
/-- A shift to the left, asx Go tells it: a count beyond the width leaves nothing. -/
def shl (k : IntKind) (x y : Int) : Int := k.wrap (x * 2 ^ min y.toNat k.bits)
theorem shl_small {k : IntKind} {x y j : Int} (h : shl k x y = j) (hy : y ≤ k.bits) : k.wrap (x * 2 ^ y.toNat) = j := by rw [← h]; unfold shl; rw [Nat.min_eq_left (by omega)]
namespace Kd
section
variable {α : Type} {d : Kd α} {e base : Nat} {ok : Nat → Prop} {W w1 : World} {v : Value} {xs : List α}
end
section
variable {α : Type} {d : Kd α} {e base g n cap : Nat} {ok oki okp : Nat → Prop} {W : World} {xs : List α} {i : Int} {c : List Value}
end
section
variable {α : Type} {d : Kd α} {e base b b' g N : Nat} {ok ok1 : Nat → Prop} {W W2 w1 : World} {u v : Value} {xs ys : List α} {S : Nat → Prop}
end
end Kd
end Go.Proofs.YteebhoehflgfoaaGreatDoorW.PrintWords
namespace Go.Proofs.YteebhoehflgfoaaGreatDoorW.PrintWords
open Go.RowKit
namespace Kd
/-- A row that is only read, told by its value: its form, its length, what it leads to (in ok). e and base say nothing; they make it asx the others are. -/
def V {α : Type} (d : Kd α) (_e : Nat) (W : World) (_base : Nat) (ok : Nat → Prop) (v : Value) (xs : List α) : Prop := ∃ A c, v = .slice A xs.length c ∧ xs.length ≤ c ∧ F d W ok A xs.length xs
section
variable {α β : Type} {d : Kd α} {e base base' n m c g N' lo hi : Nat} {ok ok' S : Nat → Prop} {w W w1 : World} {A : Option Addr} {ad : Addr} {u v v1 : Value} {xs : List α}
theorem V_map (h : V d e W base ok v xs) (hF : ∀ A, F d W ok A xs.length xs → F d w1 ok' A xs.length xs) : V d e w1 base' ok' v xs := by
 obtain ⟨A, c, hv, hl, hf⟩ := h
 exact ⟨A, c, hv, hl, hF A hf⟩
theorem V_mk (hl : xs.length ≤ c) (hf : F d W ok A xs.length xs) : V d e W base ok (.slice A xs.length c) xs := ⟨A, c, rfl, hl, hf⟩
theorem V_slice (h : V d e W base ok v xs) : ∃ A c, v = .slice A xs.length c := by
 obtain ⟨A, c, hv, _⟩ := h
 exact ⟨A, c, hv⟩
theorem V_at (h : V d e W base ok (.slice A n c) xs) : n = xs.length ∧ n ≤ c ∧ F d W ok A xs.length xs := by
 obtain ⟨A', c', hv, hl, hf⟩ := h
 injection hv with ha hn hc
 subst ha; subst hc
 exact ⟨hn, by rw [hn]; exact hl, hf⟩
theorem V_reads' (h : V d e W base ok (.slice A n c) xs) : n = xs.length ∧ n ≤ c ∧ d.C W A xs.length xs := ⟨(V_at h).1, (V_at h).2.1, F_now (V_at h).2.2⟩
theorem V_F (h : V d e W base ok (.slice A n c) xs) : F d W ok A n xs := by
 obtain ⟨hn, _, hf⟩ := V_at h
 rw [hn]
 exact hf
theorem V_nil (d : Kd α) (e : Nat) (W : World) (base : Nat) (ok : Nat → Prop) : V d e W base ok (.slice none 0 0) [] := ⟨none, 0, rfl, Nat.le_refl _, F_nil d W ok⟩
theorem R_V (h : d.R e W base ok v xs) : V d e W base' ok v xs := by
 obtain ⟨A, c, rfl⟩ := R_slice h
 exact ⟨A, c, rfl, (R_reads' h).2.1, R_F h⟩
theorem S_V (h : Kd.S d e W base ok v xs) : V d e W base' ok v xs := R_V (S_R h)
theorem N_V (h : N d e W base ok v xs) : V d e W base' ok v xs := by
 obtain ⟨A, c, rfl⟩ := N_slice h
 exact ⟨A, c, rfl, (N_reads' h).2.1, N_F h⟩
theorem V_mono (h : V d e W base ok v xs) (hok : ∀ k, ok k → ok' k) : V d e W base ok' v xs := V_map h (fun _ hf => F_mono hf hok)
theorem V_bound (h : V d e W base ok v xs) : V d e W base (fun k => ok k ∧ k < W.heap.size) v xs := V_map h (fun _ hf => F_bound hf)
theorem V_lower (h : V d e W base ok v xs) (_ : base' ≤ base) : V d e W base' ok v xs := h
theorem V_below (h : V d e W base ok v xs) (hb : Below W.heap.size W w1) : V d e w1 base ok v xs := V_map h (fun _ hf => F_below hf hb)
theorem V_alloc (h : V d e W base ok v xs) (o : Obj) : V d e (W.alloc o) base ok v xs := V_map h (fun _ hf => F_alloc hf o)
theorem V_drew (h : V d e W base ok v xs) : V d e W.drew base ok v xs := V_map h (fun _ hf => F_drew hf)
theorem V_drewN (h : V d e W base ok v xs) (m : Nat) : V d e (W.drewN m) base ok v xs := V_map h (fun _ hf => F_drewN hf m)
theorem V_far (h : V d e W base ok v xs) {p : Addr} (hok : ∀ k, ok k → k ≠ p.block) (u : Value) : V d e (W.setCell p u) base ok v xs := V_map h (fun _ hf => F_far hf hok u)
theorem V_after (h : V d e W base (fun k => ok k ∧ some k ≠ u.ownBlock) v xs) (hg : W.grownBy w1 u.ownBlock) (hat : v1.ownBlock = u.ownBlock ∨ ∃ b, v1.ownBlock = some b ∧ W.heap.size ≤ b) : V d e w1 base (fun k => ok k ∧ some k ≠ v1.ownBlock) v xs := V_map h (fun _ hf => F_after hf hg hat)
theorem V_afterv (h : V d e W base (fun k => ok k ∧ some k ≠ v.ownBlock) u xs) (hg : W.grownBy w1 v.ownBlock) (hat : v1.ownBlock = v.ownBlock ∨ ∃ b, v1.ownBlock = some b ∧ W.heap.size ≤ b) : V d e w1 base (fun k => ok k ∧ some k ≠ v1.ownBlock) u xs := V_after h hg hat
theorem V_elder' (h : V d e W base ok v xs) (hbase : ∀ k, u.ownBlock = some k → W.heap.size ≤ k) (hb : Below W.heap.size W w1) : V d e w1 base (fun k => ok k ∧ some k ≠ u.ownBlock) v xs := V_map h (fun _ hf => F_elder' hf hbase hb)
theorem V_elderB (h : V d e W base ok v xs) (a : Nat) (ha : W.heap.size ≤ a) : V d e W base (fun k => ok k ∧ k ≠ a) v xs := V_map h (fun _ hf => F_elderB hf a ha)
theorem V_get (h : V d e W base ok (.slice (some ad) n c) xs) (z : α) (i : Int) (h0 : 0 ≤ i) (h1 : i < n) :
  ∃ cs, cs.length = d.sz ∧ FK d W ok (xs.getD i.toNat z) cs ∧ ∀ j u, cs[j]? = some u → W.cell? (ad.add (i.toNat * d.sz + j)) = some u := by
 obtain ⟨ad', cs, he, hcl, hK, hcc, _⟩ := F_get (V_F h) z i h0 h1
 injection he with he
 subst he
 exact ⟨cs, hcl, hK, hcc⟩
end
end Kd
end Go.Proofs.YteebhoehflgfoaaGreatDoorW.PrintWords
end
section
namespace Go.Proofs.YteebhoehflgfoaaGreatDoorW.PrintWords
open Go.RowKit
/-- '[]byte(s)', as if a call: the bytes, if they fit. -/
def gosem_conv.f (s : ByteArray) : Option (List Int) := if s.size ≤ 140737488355328 then some (bytesOf s) else none
theorem conv_ev {P : Program} {ops : Array Oper} {rest : List Oper} {o : Oper} {a : Act} {Q : Exit → Act → World → Prop} {W : World} (T U E : TypeId) {x : Operand}
  (hgd : o.guard = none) (ho : o.op = .convert T U x) (hT : P.underlying T = some .string) (hU : P.underlying U = some (.slice E)) (hE : P.underlying E = some (.int .u8))
  (s : ByteArray) (hx : a.eval x = .string s) {r : List Int} (h : gosem_conv.f s = some r)
  (k : ∀ e w', (∃ v0_ : Value, e = Ending.returned v0_ ∧ Kd.V (Kd.int .u8) E w' W.heap.size (fun k_ => (W.heap.size ≤ k_)) v0_ r ∧ Below W.heap.size W w') → ∃ v, e = Ending.returned v ∧ wpList P ops Q rest (a.put o.dst v) w') :
  wpList P ops Q (o :: rest) a W := by
 unfold gosem_conv.f at h
 split at h
 ·rename_i hs
  obtain rfl := Option.some.inj h
  have hlen : (bytesOf s).length = s.size := bytesOf_length s
  have hcap : s.size ≤ grownCap W s.size 0 E := grownCap_ge _ _ _ _
  have hF : Kd.F (Kd.int .u8) (Lib.bytesWorld W E s) (fun k_ => (W.heap.size ≤ k_)) (some ⟨W.heap.size, 0, none⟩) (bytesOf s).length (bytesOf s) := fun W' hW => by
   have hb : W'.heap[W.heap.size]? = (Lib.bytesWorld W E s).heap[W.heap.size]? := hW W.heap.size (Nat.le_refl _) (by rw [Lib.bytesWorld_size]; omega)
   obtain ⟨h1, h2, h3⟩ := bytes_reads W E s (by omega)
   rw [hlen]
   refine Kd.C_of_reads (d := (0 : Int)) ⟨h1, h2, fun hn => ?_⟩
   obtain ⟨ad, he, hc⟩ := h3 hn
   refine ⟨ad, he, fun j hj => ?_⟩
   injection he with he
   subst he
   rw [World.cell?_of_block (w := Lib.bytesWorld W E s) (by rw [add_plain]; exact hb)]
   exact hc j hj
  obtain ⟨v, hv, hk⟩ := k (.returned (.slice (some ⟨W.heap.size, 0, none⟩) (bytesOf s).length (grownCap W s.size 0 E))) (Lib.bytesWorld W E s) ⟨_, rfl, Kd.V_mk (by rw [hlen]; exact hcap) hF, bytes_below (Below.refl _ _) (Nat.le_refl _) E s⟩
  injection hv with hv
  subst hv
  refine Kd.event_run hgd ?_ hk
  rw [hlen]
  unfold execOp
  simp [ho, hx, print_bytes T U E hT hU hE s W]
 ·cases h
/-- make([]T, 0, n): nothing yet. -/
theorem Kd.R_make0 {P : Program} {ops : Array Oper} {rest : List Oper} {o : Oper} {a : Act} {Q : Exit → Act → World → Prop} {α : Type} (d : Kd α) {w0 W : World} (base e : Nat) (hgd : o.guard = none) {N : Tmp} (_hd : o.dst = some N) (t : TypeId) (x y : Operand) (ho : o.op = .makeSlice t x y) (n : Int) (hx : a.eval x = .int .i64 0) (hy : a.eval y = .int .i64 n)
  (ht : P.underlying t = some (.slice e)) (z : Value) (bytes : Nat) (hinfo : (P.info? e).map (fun i => (i.zero, i.size, i.bytes)) = some (some z, d.sz, bytes)) (_hz : z.cells.size = d.sz) (_hs0 : 0 < d.sz) (hb0 : 0 < bytes)
  {ok okp : Nat → Prop} (_hok : ∀ k, okp k → ok k) (hfresh : ok W.heap.size) (h0 : 0 ≤ n) (hl : n.toNat * bytes ≤ 281474976710656) (HB : Below base w0 W) (hbase : base ≤ W.heap.size)
  (h : ∀ v1 w1, d.R e w1 base ok v1 [] → Below base w0 w1 → W.grownBy w1 none → (∃ b, v1.ownBlock = some b ∧ W.heap.size ≤ b) → wpList P ops Q rest (a.put o.dst v1) w1) : wpList P ops Q (o :: rest) a W := by
 obtain ⟨m, rfl⟩ := Int.eq_ofNat_of_zero_le h0
 simp only [Int.toNat_natCast] at hl
 obtain ⟨i0, hi, hzz⟩ := Option.map_eq_some_iff.1 hinfo
 simp only [Prod.mk.injEq] at hzz
 obtain ⟨hz0, hz1, hz2⟩ := hzz
 have hm : m ≤ 281474976710656 := Nat.le_trans (Nat.le_mul_of_pos_right _ hb0) hl
 have hr := run_make (P := P) W t e i0 z ht hi hz0 .i64 .i64 (0 : Int) (m : Int) (by omega) (by omega)
  (by
   have h3 : ((i0.bytes * m : Nat) : Int) ≤ 281474976710656 := by rw [hz2, Nat.mul_comm]; omega
   rwa [Int.natCast_mul] at h3) (by omega)
 simp only [Int.toNat_natCast, Int.toNat_zero] at hr
 rw [hz1] at hr
 refine Kd.event_run (v := .slice (some ⟨W.heap.size, 0, none⟩) 0 m) (w1 := W.alloc (.cells (madeCells z.cells (m * d.sz)) e)) hgd (by simp [execOp, ho, hx, hy, hr]) (h _ _ ⟨fun k hk => ?_, [], ?_, Reps.none _ _⟩ (HB.alloc hbase _) (World.grownBy_alloc W _ none) ⟨W.heap.size, by simp [Value.ownBlock], Nat.le_refl _⟩)
 ·have : W.heap.size = k := by simpa [Value.ownBlock] using hk
  subst this
  exact hfresh
 ·refine ⟨by simp, .inr ⟨W.heap.size, m, madeCells z.cells (m * d.sz), rfl, hbase, by simpa using heap_alloc_new W _, Nat.zero_le _, ?_, ?_, by simp⟩⟩
  ·simp only [maxLen]; omega
  ·simp [size_madeCells]
/-- Go's table of powers of ten is as its text lays it. -/
def XTab (w : World) : Prop := Lib.TabIs Tryz.prog w "internal/strconv.uint64pow10" .u64 Lib.pow10Tab
theorem XTab.below {w W : World} (h : XTab w) (hb : Below w.heap.size w W) : XTab W := Lib.tabBelow_of_tabIs h W hb
end Go.Proofs.YteebhoehflgfoaaGreatDoorW.PrintWords
end
section
/-! ### 50. A region's order in a table, made once a region: each step asks the table (numbers alone), not the operations -/
namespace Go.Proofs.YteebhoehflgfoaaGreatDoorW.PrintLast
open Go.Proofs.YteebhoehflgfoaaGreatDoorW.PrintWords (Aside0)
section
variable {md : Region.Mode} {ops : Array Oper} {T : Bool × List (List Nat × List Nat)} {l l' li lj lk : Array Bool} {ds : List Nat} {i j k : Nat}
end
end Go.Proofs.YteebhoehflgfoaaGreatDoorW.PrintLast
end
section
/-! ### 56. Four, five, six operations that may come up next, in any order -/
namespace Go.Proofs.YteebhoehflgfoaaGreatDoorW.PrintLast
section
variable {P : Program} {ops : Array Oper} {Q : Exit → Act → World → Prop} {md : Region.Mode} {S : World → Prop} {ds : List Nat} {T : Bool × List (List Nat × List Nat)}
end
end Go.Proofs.YteebhoehflgfoaaGreatDoorW.PrintLast
end
section
/-! ### 52. A row that stays read whatever happens to a block (a set of blocks) doesn't lie there -/
namespace Go.Proofs.YteebhoehflgfoaaGreatDoorW.PrintWords
open Go.RowKit
namespace Kd
section
variable {α : Type} {d : Kd α} {W : World} {g n : Nat} {S ok : Nat → Prop} {A : Option Addr} {ad : Addr} {xs : List α}
end
end Kd
end Go.Proofs.YteebhoehflgfoaaGreatDoorW.PrintWords
end
section
/-! ### 54. Behind orders that were drawn quietly: the same facts at the world's new name; a flat row's foot -/
namespace Go.Proofs.YteebhoehflgfoaaGreatDoorW.PrintWords
open Go.RowKit
section
variable {w w' u : World} {m B g : Nat} {o : Obj} {row : Option Nat} {S : Nat → Prop} {a : Addr} {v : Value}
end
namespace Kd
section
variable {α : Type} {d : Kd α} {e base n m : Nat} {ok : Nat → Prop} {w w' : World} {v : Value} {A : Option Addr} {xs : List α}
end
end Kd
end Go.Proofs.YteebhoehflgfoaaGreatDoorW.PrintWords
end
section
/-! ### 53. '==' of structs as_ one Bool -/
namespace Go.Proofs.YteebhoehflgfoaaGreatDoorW.PrintWords
open Go.RowKit
section
variable {P : Program} {d : Nat} {xs ys : Array Value} {f : Field} {fs : List Field} {a b : Value} {r s : Bool} {w : World}
end
end Go.Proofs.YteebhoehflgfoaaGreatDoorW.PrintWords
end
section
/-! ### 55. Reps told from the front, no append: for rows of one-cell elements and of wider ones -/
namespace Go.Proofs.YteebhoehflgfoaaGreatDoorW.PrintWords
/-- One cell an element. -/
theorem Reps.one {α : Type} {R : α → List Value → Prop} {ps : List α} {cs : List Value} {p : α} {v : Value} (hp : R p [v]) (h : Reps R 1 ps cs) : Reps R 1 (p :: ps) (v :: cs) := by
 refine ⟨by simp [h.1], fun j q hq => ?_⟩
 cases j with
 | zero =>
  simp only [List.getElem?_cons_zero, Option.some.injEq] at hq
  subst hq
  simpa using hp
 | succ j =>
  simp only [List.getElem?_cons_succ] at hq
  have h1 := h.2 j q hq
  simpa [Nat.mul_one] using h1
/-- More cells an element: told apart by the cells' list. -/
theorem Reps.front {α : Type} {R : α → List Value → Prop} {size : Nat} {ps : List α} {cs c all : List Value} {p : α} (hp : R p c) (hc : c.length = size) (h : Reps R size ps cs) (ha : c ++ cs = all) : Reps R size (p :: ps) all := by
 subst ha
 refine ⟨by rw [List.length_append, hc, h.1, List.length_cons, Nat.succ_mul, Nat.add_comm], fun j q hq => ?_⟩
 cases j with
 | zero =>
  simp only [List.getElem?_cons_zero, Option.some.injEq] at hq
  subst hq
  rw [Nat.zero_mul, List.drop_zero, List.take_append_of_le_length (by omega), List.take_of_length_le (by omega)]
  exact hp
 | succ j =>
  simp only [List.getElem?_cons_succ] at hq
  have h1 := h.2 j q hq
  rw [Nat.succ_mul, List.drop_append, List.drop_of_length_le (by rw [hc]; exact Nat.le_add_left _ _), List.nil_append, hc, Nat.add_sub_cancel]
  exact h1
theorem Reps.c2 {α : Type} {R : α → List Value → Prop} {ps : List α} {cs : List Value} {p : α} {va vb : Value} (hp : R p [va, vb]) (h : Reps R 2 ps cs) : Reps R 2 (p :: ps) (va :: vb :: cs) := Reps.front hp rfl h rfl
end Go.Proofs.YteebhoehflgfoaaGreatDoorW.PrintWords
end
section
/-! ### 57. A region of open order by ONE relation over what is listed so far: each operation is shown once, whatever came up before it -/
namespace Go.Proofs.YteebhoehflgfoaaGreatDoorW.PrintLast
/-- Number i is listed too. -/
def up (b : Nat → Bool) (i : Nat) : Nat → Bool := fun j => if j = i then true else b j
section
variable {P : Program} {ops : Array Oper} {Q : Exit → Act → World → Prop} {md : Region.Mode} {T : Bool × List (List Nat × List Nat)} {B : List Nat} {O : List Nat} {b : Nat → Bool} {i j n : Nat}
end
end Go.Proofs.YteebhoehflgfoaaGreatDoorW.PrintLast
end
section
namespace Go.Proofs.YteebhoehflgfoaaGreatDoorW.PrintWords
open Go.RowKit
end Go.Proofs.YteebhoehflgfoaaGreatDoorW.PrintWords
namespace Go.Proofs.YteebhoehflgfoaaGreatDoorW.PrintLast
section
variable {ops : Array Oper} {a : Act} {o og : Oper} {g : Nat} {t : Tmp} {u : Bool}
end
end Go.Proofs.YteebhoehflgfoaaGreatDoorW.PrintLast
end
section
/-! ### 58. A guarded operation whose guard is known to want it: the same goal without the guard -/
namespace Go.Proofs.YteebhoehflgfoaaGreatDoorW.PrintWords
open Go.RowKit
section
variable {P : Program} {ops : Array Oper} {rest : List Oper} {o : Oper} {a : Act} {Q : Exit → Act → World → Prop} {W : World}
end
end Go.Proofs.YteebhoehflgfoaaGreatDoorW.PrintWords
end
section
namespace Go.Proofs.YteebhoehflgfoaaGreatDoor.Y
open Go.RowKit Go.Proofs.YteebhoehflgfoaaGreatDoorW.PrintWords Go.Proofs.YteebhoehflgfoaaGreatDoorW.PrintLast Go.Proofs.YteebhoehflgfoaaGreatDoorW.PrintMore
attribute [local go_sem] max2_int min2_int max_two min_two max_three min_three max_four min_four
set_option linter.unusedVariables false
set_option linter.unusedSimpArgs false
def errW : Option Int → Value
 | none => .nilIface
 | some c => .iface 0 (.int .i64 c)
theorem errW_none : errW none = .nilIface := rfl
theorem errW_some (c : Int) : errW (some c) = .iface 0 (.int .i64 c) := rfl
theorem info3 : (Tryz.prog.info? 3).map (fun i => (i.zero, i.size, i.bytes)) = some (some (.int .i64 0), 1, 8) := by kernel_rfl
theorem info5 : (Tryz.prog.info? 5).map (fun i => (i.zero, i.size, i.bytes)) = some (some (.int .u8 0), 1, 1) := by kernel_rfl
theorem info9 : (Tryz.prog.info? 9).map (fun i => (i.zero, i.size, i.bytes)) = some (some (.string ⟨#[]⟩), 1, 16) := by kernel_rfl
theorem info38 : (Tryz.prog.info? 38).map (fun i => (i.zero, i.size, i.bytes)) = some (some (.agg #[(.int .i64 0), (.int .i64 0), (.int .i64 0), (.string ⟨#[]⟩), (.slice none 0 0)]), 5, 64) := by kernel_rfl
theorem info137 : (Tryz.prog.info? 137).map (fun i => (i.zero, i.size, i.bytes)) = some (some (.agg #[(.int .i64 0), (.int .i64 0), (.int .u8 0), (.int .i64 0), (.slice none 0 0), (.slice none 0 0)]), 6, 80) := by kernel_rfl
-- the values' own types
/-! #### struct type 38 -/
structure S38 where
 f0 : Int
 f1 : Int
 f2 : Int
 f3 : ByteArray
 f4 : (List Int)
def z38 : S38 := ⟨(0 : Int), (0 : Int), (0 : Int), (⟨#[]⟩ : ByteArray), ([] : List Int)⟩
def k38 : Kd S38 := Kd.iso (Kd.pair (Kd.int .i64) (Kd.pair (Kd.int .i64) (Kd.pair (Kd.int .i64) (Kd.pair Kd.string (Kd.slice 2 (Kd.int .i64)))))) (fun x : S38 => (x.f0, x.f1, x.f2, x.f3, x.f4))
theorem k38_open {w : World} {x : S38} {cs : List Value} (h : k38.K w x cs) : ∃ A4 c4, cs = [.int .i64 x.f0, .int .i64 x.f1, .int .i64 x.f2, .string x.f3, .slice A4 x.f4.length c4] ∧ x.f4.length ≤ c4 ∧ (Kd.int .i64).C w A4 x.f4.length x.f4 := by
 obtain ⟨_, _, rfl, rfl, ⟨_, _, rfl, rfl, ⟨_, _, rfl, rfl, ⟨_, _, rfl, rfl, ⟨A4, c4, rfl, l4, g4⟩⟩⟩⟩⟩ := h
 exact ⟨A4, c4, rfl, l4, g4⟩
theorem k38_openM {w : World} {base : Nat} {ok : Nat → Prop} {x : S38} {cs : List Value} (h : k38.M w base ok x cs) : ∃ v4, cs = [.int .i64 x.f0, .int .i64 x.f1, .int .i64 x.f2, .string x.f3, v4] ∧ (Kd.int .i64).R 2 w base ok v4 x.f4 := by
 obtain ⟨_, _, rfl, rfl, ⟨_, _, rfl, rfl, ⟨_, _, rfl, rfl, ⟨_, _, rfl, rfl, ⟨v4, rfl, g4⟩⟩⟩⟩⟩ := h
 exact ⟨v4, rfl, g4⟩
theorem k38_mk (w : World) (x : S38) {A4 : Option Addr} {c4 : Nat} (l4 : x.f4.length ≤ c4) (g4 : (Kd.int .i64).C w A4 x.f4.length x.f4) : k38.K w x [.int .i64 x.f0, .int .i64 x.f1, .int .i64 x.f2, .string x.f3, .slice A4 x.f4.length c4] := ⟨[.int .i64 x.f0], [.int .i64 x.f1, .int .i64 x.f2, .string x.f3, .slice A4 x.f4.length c4], rfl, rfl, ⟨[.int .i64 x.f1], [.int .i64 x.f2, .string x.f3, .slice A4 x.f4.length c4], rfl, rfl, ⟨[.int .i64 x.f2], [.string x.f3, .slice A4 x.f4.length c4], rfl, rfl, ⟨[.string x.f3], [.slice A4 x.f4.length c4], rfl, rfl, ⟨A4, c4, rfl, l4, g4⟩⟩⟩⟩⟩
theorem k38_mkM (w : World) (base : Nat) (ok : Nat → Prop) (x : S38) {v4 : Value} (g4 : (Kd.int .i64).R 2 w base ok v4 x.f4) : k38.M w base ok x [.int .i64 x.f0, .int .i64 x.f1, .int .i64 x.f2, .string x.f3, v4] := ⟨[.int .i64 x.f0], [.int .i64 x.f1, .int .i64 x.f2, .string x.f3, v4], rfl, rfl, ⟨[.int .i64 x.f1], [.int .i64 x.f2, .string x.f3, v4], rfl, rfl, ⟨[.int .i64 x.f2], [.string x.f3, v4], rfl, rfl, ⟨[.string x.f3], [v4], rfl, rfl, ⟨v4, rfl, g4⟩⟩⟩⟩⟩
def rd_T38 (xs : List S38) (i : Int) : S38 := xs.getD i.toNat z38
theorem at_T38 {w : World} {A : Option Addr} {n : Nat} {xs : List S38} (h : Kd.C k38 w A n xs) (i : Int) (h0 : 0 ≤ i) (h1 : i < n) : ∃ ad A4 c4, A = some ad ∧ w.cell? (ad.add (i.toNat * 5)) = some (.int .i64 (rd_T38 xs i).f0) ∧ w.cell? ⟨(ad.add (i.toNat * 5)).block, (ad.add (i.toNat * 5)).off + 1, none⟩ = some (.int .i64 (rd_T38 xs i).f1) ∧ w.cell? ⟨(ad.add (i.toNat * 5)).block, (ad.add (i.toNat * 5)).off + 2, none⟩ = some (.int .i64 (rd_T38 xs i).f2) ∧ w.cell? ⟨(ad.add (i.toNat * 5)).block, (ad.add (i.toNat * 5)).off + 3, none⟩ = some (.string (rd_T38 xs i).f3) ∧ w.cell? ⟨(ad.add (i.toNat * 5)).block, (ad.add (i.toNat * 5)).off + 4, none⟩ = some (.slice A4 (rd_T38 xs i).f4.length c4) ∧ (rd_T38 xs i).f4.length ≤ c4 ∧ (Kd.int .i64).C w A4 (rd_T38 xs i).f4.length (rd_T38 xs i).f4 := by
 obtain ⟨ad, c, e, _, hK, hc0⟩ := Kd.C_get h z38 i h0 h1
 have hc : ∀ j u, c[j]? = some u → w.cell? (ad.add (i.toNat * 5 + j)) = some u := hc0
 obtain ⟨A4, c4, rfl, l4, g4⟩ := k38_open hK
 exact ⟨ad, A4, c4, e, hc 0 _ rfl, by rw [← add_field _ _ 1 (by omega)]; exact hc 1 _ rfl, by rw [← add_field _ _ 2 (by omega)]; exact hc 2 _ rfl, by rw [← add_field _ _ 3 (by omega)]; exact hc 3 _ rfl, by rw [← add_field _ _ 4 (by omega)]; exact hc 4 _ rfl, l4, g4⟩
/-! #### struct type 43 -/
structure S43 where
 f0 : Int
 f1 : Int
 f2 : Int
 f3 : Int
 f4 : (List Int)
 f5 : (List Int)
def z43 : S43 := ⟨(0 : Int), (0 : Int), (0 : Int), (0 : Int), ([] : List Int), ([] : List Int)⟩
def k43 : Kd S43 := Kd.iso (Kd.pair (Kd.int .i64) (Kd.pair (Kd.int .i64) (Kd.pair (Kd.int .u8) (Kd.pair (Kd.int .i64) (Kd.pair (Kd.slice 2 (Kd.int .i64)) (Kd.slice 5 (Kd.int .u8))))))) (fun x : S43 => (x.f0, x.f1, x.f2, x.f3, x.f4, x.f5))
theorem k43_open {w : World} {x : S43} {cs : List Value} (h : k43.K w x cs) : ∃ A4 c4 A5 c5, cs = [.int .i64 x.f0, .int .i64 x.f1, .int .u8 x.f2, .int .i64 x.f3, .slice A4 x.f4.length c4, .slice A5 x.f5.length c5] ∧ x.f4.length ≤ c4 ∧ (Kd.int .i64).C w A4 x.f4.length x.f4 ∧ x.f5.length ≤ c5 ∧ (Kd.int .u8).C w A5 x.f5.length x.f5 := by
 obtain ⟨_, _, rfl, rfl, ⟨_, _, rfl, rfl, ⟨_, _, rfl, rfl, ⟨_, _, rfl, rfl, ⟨_, _, rfl, ⟨A4, c4, rfl, l4, g4⟩, ⟨A5, c5, rfl, l5, g5⟩⟩⟩⟩⟩⟩ := h
 exact ⟨A4, c4, A5, c5, rfl, l4, g4, l5, g5⟩
theorem k43_openM {w : World} {base : Nat} {ok : Nat → Prop} {x : S43} {cs : List Value} (h : k43.M w base ok x cs) : ∃ v4 v5, cs = [.int .i64 x.f0, .int .i64 x.f1, .int .u8 x.f2, .int .i64 x.f3, v4, v5] ∧ (Kd.int .i64).R 2 w base ok v4 x.f4 ∧ (Kd.int .u8).R 5 w base ok v5 x.f5 := by
 obtain ⟨_, _, rfl, rfl, ⟨_, _, rfl, rfl, ⟨_, _, rfl, rfl, ⟨_, _, rfl, rfl, ⟨_, _, rfl, ⟨v4, rfl, g4⟩, ⟨v5, rfl, g5⟩⟩⟩⟩⟩⟩ := h
 exact ⟨v4, v5, rfl, g4, g5⟩
theorem k43_mkM (w : World) (base : Nat) (ok : Nat → Prop) (x : S43) {v4 : Value} (g4 : (Kd.int .i64).R 2 w base ok v4 x.f4) {v5 : Value} (g5 : (Kd.int .u8).R 5 w base ok v5 x.f5) : k43.M w base ok x [.int .i64 x.f0, .int .i64 x.f1, .int .u8 x.f2, .int .i64 x.f3, v4, v5] := ⟨[.int .i64 x.f0], [.int .i64 x.f1, .int .u8 x.f2, .int .i64 x.f3, v4, v5], rfl, rfl, ⟨[.int .i64 x.f1], [.int .u8 x.f2, .int .i64 x.f3, v4, v5], rfl, rfl, ⟨[.int .u8 x.f2], [.int .i64 x.f3, v4, v5], rfl, rfl, ⟨[.int .i64 x.f3], [v4, v5], rfl, rfl, ⟨[v4], [v5], rfl, ⟨v4, rfl, g4⟩, ⟨v5, rfl, g5⟩⟩⟩⟩⟩⟩
theorem k43_openF {W : World} {ok : Nat → Prop} {x : S43} {cs : List Value} (h : Kd.FK k43 W ok x cs) : ∃ A4 c4 A5 c5, cs = [.int .i64 x.f0, .int .i64 x.f1, .int .u8 x.f2, .int .i64 x.f3, .slice A4 x.f4.length c4, .slice A5 x.f5.length c5] ∧ x.f4.length ≤ c4 ∧ Kd.F (Kd.int .i64) W ok A4 x.f4.length x.f4 ∧ x.f5.length ≤ c5 ∧ Kd.F (Kd.int .u8) W ok A5 x.f5.length x.f5 := by
 obtain ⟨A4, c4, A5, c5, rfl, l4, _, l5, _⟩ := k43_open (Kd.FK_now h)
 exact ⟨A4, c4, A5, c5, rfl, l4, (fun W' hW => by obtain ⟨A4_, c4_, A5_, c5_, he, l4_, g4_, l5_, g5_⟩ := k43_open (h W' hW); injection (Option.some.inj (show some (Value.slice A4 x.f4.length c4) = some (Value.slice A4_ x.f4.length c4_) from congrArg (fun l => l[4]?) he)) with ha_ _ _; rw [ha_]; exact g4_), l5, (fun W' hW => by obtain ⟨A4_, c4_, A5_, c5_, he, l4_, g4_, l5_, g5_⟩ := k43_open (h W' hW); injection (Option.some.inj (show some (Value.slice A5 x.f5.length c5) = some (Value.slice A5_ x.f5.length c5_) from congrArg (fun l => l[5]?) he)) with ha_ _ _; rw [ha_]; exact g5_)⟩
def rd_T43 (xs : List S43) (i : Int) : S43 := xs.getD i.toNat z43
theorem at_T43 {w : World} {A : Option Addr} {n : Nat} {xs : List S43} (h : Kd.C k43 w A n xs) (i : Int) (h0 : 0 ≤ i) (h1 : i < n) : ∃ ad A4 c4 A5 c5, A = some ad ∧ w.cell? (ad.add (i.toNat * 6)) = some (.int .i64 (rd_T43 xs i).f0) ∧ w.cell? ⟨(ad.add (i.toNat * 6)).block, (ad.add (i.toNat * 6)).off + 1, none⟩ = some (.int .i64 (rd_T43 xs i).f1) ∧ w.cell? ⟨(ad.add (i.toNat * 6)).block, (ad.add (i.toNat * 6)).off + 2, none⟩ = some (.int .u8 (rd_T43 xs i).f2) ∧ w.cell? ⟨(ad.add (i.toNat * 6)).block, (ad.add (i.toNat * 6)).off + 3, none⟩ = some (.int .i64 (rd_T43 xs i).f3) ∧ w.cell? ⟨(ad.add (i.toNat * 6)).block, (ad.add (i.toNat * 6)).off + 4, none⟩ = some (.slice A4 (rd_T43 xs i).f4.length c4) ∧ w.cell? ⟨(ad.add (i.toNat * 6)).block, (ad.add (i.toNat * 6)).off + 5, none⟩ = some (.slice A5 (rd_T43 xs i).f5.length c5) ∧ (rd_T43 xs i).f4.length ≤ c4 ∧ (Kd.int .i64).C w A4 (rd_T43 xs i).f4.length (rd_T43 xs i).f4 ∧ (rd_T43 xs i).f5.length ≤ c5 ∧ (Kd.int .u8).C w A5 (rd_T43 xs i).f5.length (rd_T43 xs i).f5 := by
 obtain ⟨ad, c, e, _, hK, hc0⟩ := Kd.C_get h z43 i h0 h1
 have hc : ∀ j u, c[j]? = some u → w.cell? (ad.add (i.toNat * 6 + j)) = some u := hc0
 obtain ⟨A4, c4, A5, c5, rfl, l4, g4, l5, g5⟩ := k43_open hK
 exact ⟨ad, A4, c4, A5, c5, e, hc 0 _ rfl, by rw [← add_field _ _ 1 (by omega)]; exact hc 1 _ rfl, by rw [← add_field _ _ 2 (by omega)]; exact hc 2 _ rfl, by rw [← add_field _ _ 3 (by omega)]; exact hc 3 _ rfl, by rw [← add_field _ _ 4 (by omega)]; exact hc 4 _ rfl, by rw [← add_field _ _ 5 (by omega)]; exact hc 5 _ rfl, l4, g4, l5, g5⟩
/-! #### struct type 33 -/
structure S33 where
 f0 : Bool
 f1 : Int
def z33 : S33 := ⟨false, (0 : Int)⟩
def k33 : Kd S33 := Kd.iso (Kd.pair Kd.bool (Kd.int .i64)) (fun x : S33 => (x.f0, x.f1))
theorem k33_open {w : World} {x : S33} {cs : List Value} (h : k33.K w x cs) : cs = [.bool x.f0, .int .i64 x.f1] := by
 obtain ⟨_, _, rfl, rfl, rfl⟩ := h
 exact rfl
theorem k33_mkM (w : World) (base : Nat) (ok : Nat → Prop) (x : S33)  : k33.M w base ok x [.bool x.f0, .int .i64 x.f1] := ⟨[.bool x.f0], [.int .i64 x.f1], rfl, rfl, rfl⟩
def rd_T33 (xs : List S33) (i : Int) : S33 := xs.getD i.toNat z33
theorem at_T33 {w : World} {A : Option Addr} {n : Nat} {xs : List S33} (h : Kd.C k33 w A n xs) (i : Int) (h0 : 0 ≤ i) (h1 : i < n) : ∃ ad , A = some ad ∧ w.cell? (ad.add (i.toNat * 2)) = some (.bool (rd_T33 xs i).f0) ∧ w.cell? ⟨(ad.add (i.toNat * 2)).block, (ad.add (i.toNat * 2)).off + 1, none⟩ = some (.int .i64 (rd_T33 xs i).f1) := by
 obtain ⟨ad, c, e, _, hK, hc0⟩ := Kd.C_get h z33 i h0 h1
 have hc : ∀ j u, c[j]? = some u → w.cell? (ad.add (i.toNat * 2 + j)) = some u := hc0
 obtain rfl := k33_open hK
 exact ⟨ad, e, hc 0 _ rfl, by rw [← add_field _ _ 1 (by omega)]; exact hc 1 _ rfl⟩
/-! #### struct type 137 -/
structure S137 where
 f0 : Int
 f1 : Int
 f2 : Int
 f3 : Int
 f4 : (List Int)
 f5 : (List Int)
def z137 : S137 := ⟨(0 : Int), (0 : Int), (0 : Int), (0 : Int), ([] : List Int), ([] : List Int)⟩
def k137 : Kd S137 := Kd.iso (Kd.pair (Kd.int .i64) (Kd.pair (Kd.int .i64) (Kd.pair (Kd.int .u8) (Kd.pair (Kd.int .i64) (Kd.pair (Kd.slice 2 (Kd.int .i64)) (Kd.slice 5 (Kd.int .u8))))))) (fun x : S137 => (x.f0, x.f1, x.f2, x.f3, x.f4, x.f5))
theorem k137_open {w : World} {x : S137} {cs : List Value} (h : k137.K w x cs) : ∃ A4 c4 A5 c5, cs = [.int .i64 x.f0, .int .i64 x.f1, .int .u8 x.f2, .int .i64 x.f3, .slice A4 x.f4.length c4, .slice A5 x.f5.length c5] ∧ x.f4.length ≤ c4 ∧ (Kd.int .i64).C w A4 x.f4.length x.f4 ∧ x.f5.length ≤ c5 ∧ (Kd.int .u8).C w A5 x.f5.length x.f5 := by
 obtain ⟨_, _, rfl, rfl, ⟨_, _, rfl, rfl, ⟨_, _, rfl, rfl, ⟨_, _, rfl, rfl, ⟨_, _, rfl, ⟨A4, c4, rfl, l4, g4⟩, ⟨A5, c5, rfl, l5, g5⟩⟩⟩⟩⟩⟩ := h
 exact ⟨A4, c4, A5, c5, rfl, l4, g4, l5, g5⟩
theorem k137_mk (w : World) (x : S137) {A4 : Option Addr} {c4 : Nat} (l4 : x.f4.length ≤ c4) (g4 : (Kd.int .i64).C w A4 x.f4.length x.f4) {A5 : Option Addr} {c5 : Nat} (l5 : x.f5.length ≤ c5) (g5 : (Kd.int .u8).C w A5 x.f5.length x.f5) : k137.K w x [.int .i64 x.f0, .int .i64 x.f1, .int .u8 x.f2, .int .i64 x.f3, .slice A4 x.f4.length c4, .slice A5 x.f5.length c5] := ⟨[.int .i64 x.f0], [.int .i64 x.f1, .int .u8 x.f2, .int .i64 x.f3, .slice A4 x.f4.length c4, .slice A5 x.f5.length c5], rfl, rfl, ⟨[.int .i64 x.f1], [.int .u8 x.f2, .int .i64 x.f3, .slice A4 x.f4.length c4, .slice A5 x.f5.length c5], rfl, rfl, ⟨[.int .u8 x.f2], [.int .i64 x.f3, .slice A4 x.f4.length c4, .slice A5 x.f5.length c5], rfl, rfl, ⟨[.int .i64 x.f3], [.slice A4 x.f4.length c4, .slice A5 x.f5.length c5], rfl, rfl, ⟨[.slice A4 x.f4.length c4], [.slice A5 x.f5.length c5], rfl, ⟨A4, c4, rfl, l4, g4⟩, ⟨A5, c5, rfl, l5, g5⟩⟩⟩⟩⟩⟩
theorem k137_mkF (W : World) (ok : Nat → Prop) (x : S137) {A4 : Option Addr} {c4 : Nat} (l4 : x.f4.length ≤ c4) (g4 : Kd.F (Kd.int .i64) W ok A4 x.f4.length x.f4) {A5 : Option Addr} {c5 : Nat} (l5 : x.f5.length ≤ c5) (g5 : Kd.F (Kd.int .u8) W ok A5 x.f5.length x.f5) : Kd.FK k137 W ok x [.int .i64 x.f0, .int .i64 x.f1, .int .u8 x.f2, .int .i64 x.f3, .slice A4 x.f4.length c4, .slice A5 x.f5.length c5] := fun W2 hW => k137_mk W2 x l4 (g4 W2 hW) l5 (g5 W2 hW)
def rd_T137 (xs : List S137) (i : Int) : S137 := xs.getD i.toNat z137
theorem at_T137 {w : World} {A : Option Addr} {n : Nat} {xs : List S137} (h : Kd.C k137 w A n xs) (i : Int) (h0 : 0 ≤ i) (h1 : i < n) : ∃ ad A4 c4 A5 c5, A = some ad ∧ w.cell? (ad.add (i.toNat * 6)) = some (.int .i64 (rd_T137 xs i).f0) ∧ w.cell? ⟨(ad.add (i.toNat * 6)).block, (ad.add (i.toNat * 6)).off + 1, none⟩ = some (.int .i64 (rd_T137 xs i).f1) ∧ w.cell? ⟨(ad.add (i.toNat * 6)).block, (ad.add (i.toNat * 6)).off + 2, none⟩ = some (.int .u8 (rd_T137 xs i).f2) ∧ w.cell? ⟨(ad.add (i.toNat * 6)).block, (ad.add (i.toNat * 6)).off + 3, none⟩ = some (.int .i64 (rd_T137 xs i).f3) ∧ w.cell? ⟨(ad.add (i.toNat * 6)).block, (ad.add (i.toNat * 6)).off + 4, none⟩ = some (.slice A4 (rd_T137 xs i).f4.length c4) ∧ w.cell? ⟨(ad.add (i.toNat * 6)).block, (ad.add (i.toNat * 6)).off + 5, none⟩ = some (.slice A5 (rd_T137 xs i).f5.length c5) ∧ (rd_T137 xs i).f4.length ≤ c4 ∧ (Kd.int .i64).C w A4 (rd_T137 xs i).f4.length (rd_T137 xs i).f4 ∧ (rd_T137 xs i).f5.length ≤ c5 ∧ (Kd.int .u8).C w A5 (rd_T137 xs i).f5.length (rd_T137 xs i).f5 := by
 obtain ⟨ad, c, e, _, hK, hc0⟩ := Kd.C_get h z137 i h0 h1
 have hc : ∀ j u, c[j]? = some u → w.cell? (ad.add (i.toNat * 6 + j)) = some u := hc0
 obtain ⟨A4, c4, A5, c5, rfl, l4, g4, l5, g5⟩ := k137_open hK
 exact ⟨ad, A4, c4, A5, c5, e, hc 0 _ rfl, by rw [← add_field _ _ 1 (by omega)]; exact hc 1 _ rfl, by rw [← add_field _ _ 2 (by omega)]; exact hc 2 _ rfl, by rw [← add_field _ _ 3 (by omega)]; exact hc 3 _ rfl, by rw [← add_field _ _ 4 (by omega)]; exact hc 4 _ rfl, by rw [← add_field _ _ 5 (by omega)]; exact hc 5 _ rfl, l4, g4, l5, g5⟩
end Go.Proofs.YteebhoehflgfoaaGreatDoor.Y
end
