/- Texts of this claim, joined: WWords WMore XConv WEqStruct Y0 Y72D Y73D Y1 Y74D Y76D Y77D Q0 Q1D Q1. Of each, what the claim uses. -/
import Derived.Test.YtjkjnhcnmjknmaaGreatDoorKaa
import Derived.Test.YtjkjnhcnmjknmaaGreatDoorKab
import Derived.Test.YtjkjnhcnmjknmaaGreatDoorKac
import Derived.Test.YtjkjnhcnmjknmaaGreatDoorKad
import Derived.Test.YtjkjnhcnmjknmaaGreatDoorKae
import Derived.Test.YtjkjnhcnmjknmaaGreatDoorKaf
import Derived.Test.YtjkjnhcnmjknmaaGreatDoorKag
import Derived.Test.YtjkjnhcnmjknmaaGreatDoorKah
import Derived.Test.YtjkjnhcnmjknmaaGreatDoorKai
import Derived.Test.YtjkjnhcnmjknmaaGreatDoorKaj
import Derived.Test.YtjkjnhcnmjknmaaGreatDoorKak
import Derived.Test.YtjkjnhcnmjknmaaGreatDoorKal
import Derived.Test.YtjkjnhcnmjknmaaGreatDoorKam
import Derived.Test.YtjkjnhcnmjknmaaGreatDoorKan
import Derived.Test.YtjkjnhcnmjknmaaGreatDoorKao
import Derived.Test.YtjkjnhcnmjknmaaGreatDoorKap
import Derived.Test.YtjkjnhcnmjknmaaGreatDoorKaq
import Derived.Test.YtjkjnhcnmjknmaaGreatDoorKar
import Derived.Test.YtjkjnhcnmjknmaaGreatDoorKas
import Derived.Test.YtjkjnhcnmjknmaaGreatDoorKat
import Derived.Test.YtjkjnhcnmjknmaaGreatDoorKaz
import Derived.Below
import Derived.Deep.Draws
import Derived.Deep.AppendLies
import Derived.Maps.AppendAt
import Derived.OwnWalk
import Derived.Laws.BytesArg
import Derived.Laws.MakeOwn
import Derived.Laws.OwnMore
import Derived.Deep.OwnRows
import Derived.Tactics
import Derived.Lib.ConvBytes
import Derived.Laws.Slices
import Derived.WalkKit
import Derived.KernelRfl
import Derived.RowKit3
import Derived.Deep.LoopGhost
import Derived.Deep.QuietTactic
import Derived.BigQuiet
import Derived.WideLaws
import Derived.Deep.DeepCutAuto
import Derived.Deep.CutBlock
import Derived.Deep.RegionHeld3
import Derived.Laws.Rows
import Derived.Lib.AppendStr
import Derived.ArgAppend
import Derived.Laws.IdiomCopy
import Derived.RowKit
import Derived.Test.YtjkjnhcnmjknmaaGreatDoorProg
import Derived.Lib.AppendIntMem
import Derived.Laws.Runes
import Derived.Laws.StructEq
import Derived.OrdersHeld
import Derived.Laws.BitsLemmas
section
set_option linter.unusedVariables false
set_option linter.unusedSimpArgs false
namespace Go.Proofs.YtjkjnhcnmjknmaaGreatDoorW.PrintWords
open Go.RowKit
/-! ### 5. append(v, x): behind 'at_builtin'; the goal's world is 'W.alloc' of the variadic's box -/
section
variable {P : Program} {ops : Array Oper} {rest : List Oper} {o : Oper} {a : Act} {Q : Exit → Act → World → Prop}
end
/-! ### 6. make([]T, n), n an Int; a literal -/
section
variable {P : Program}
end
/-! ### 8. append(v, ys...): ys a slice that is read, nil let in; behind 'at_builtin' -/
section
variable {P : Program} {ops : Array Oper} {rest : List Oper} {o : Oper} {a : Act} {Q : Exit → Act → World → Prop}
end
section
variable {P : Program} {ops : Array Oper} {rest : List Oper} {o : Oper} {a : Act} {Q : Exit → Act → World → Prop}
end
/-! ### 14. append as_ one step of a region that draws its order: for 'go_region_law' (and a region walked by hand) -/
section
variable {P : Program} {ops : Array Oper} {o : Oper} {a : Act} {Q : Exit → Act → World → Prop} {K : Act → World → Prop}
end
/-! ### 16. Parts 3 to 9 for ANY element of one cell: 'enc' (Value.int k, Value.string, Value.bool), a default 'd' -/
section
variable {α : Type} {enc : α → Value} {d : α}
end
section
variable {α : Type} {P : Program} {ops : Array Oper} {rest : List Oper} {o : Oper} {a : Act} {Q : Exit → Act → World → Prop}
end
/-! ### 19. Results that lie in memory beside others -/
section
variable {P : Program}
end
section
variable {α : Type} {R R' : α → List Value → Prop} {e : TypeId} {size : Nat} {w w1 : World} {base : Nat} {v : Value} {ps : List α}
end
section
variable {P : Program} {ops : Array Oper} {rest : List Oper} {o : Oper} {a : Act} {Q : Exit → Act → World → Prop} {α : Type} {R : α → List Value → Prop}
end
section
variable {P : Program} {ops : Array Oper} {o : Oper} {a : Act} {Q : Exit → Act → World → Prop} {K : Act → World → Prop} {α : Type} {R : α → List Value → Prop}
end
/-! ### 21. Cuts of a slice that came in, lengths spelled as_ the lists' -/
section
variable {α : Type} {P : Program}
end
/-! ### 22. append([]byte, s...), s a string; behind 'at_builtin'. (No word on where the new row lies: two rows of bytes at once don't go by it.) -/
section
variable {P : Program} {ops : Array Oper} {rest : List Oper} {o : Oper} {a : Act} {Q : Exit → Act → World → Prop}
end
namespace Kd
section
variable {α : Type} {d : Kd α} {e : Nat} {w w1 : World} {base : Nat} {ok ok' : Nat → Prop} {v : Value} {xs : List α}
/-- Another row (a block, or none) has been written. -/
theorem R_grown (h : d.R e w base ok v xs) {row : Option Nat} (hg : w.grownBy w1 row) (hok : ∀ k, ok k → some k ≠ row) : d.R e w1 base ok v xs := R_step h (fun k ho hk => hg.block k hk (hok k ho))
end
section
variable {P : Program} {ops : Array Oper} {rest : List Oper} {o : Oper} {a : Act} {Q : Exit → Act → World → Prop} {α : Type}
end
section
variable {P : Program} {ops : Array Oper} {o : Oper} {a : Act} {Q : Exit → Act → World → Prop} {Kc : Act → World → Prop} {α : Type}
end
end Kd
/-! ### 24. Kinds nested in themselves -/
namespace Kd
section
variable {α : Type} {F : Kd α → Kd α} {sz : Nat} {E : List Nat} {hs : ∀ n, (upto F sz E n).sz = sz} {hE : ∀ n q, q ∈ (upto F sz E n).E → q ∈ E}
end
end Kd
/-! ### 25. What is held while another row is written: 'ok' says that its rows are none of that row's block -/
namespace Kd
/-- Behind an append to v (it left v1): what is held apart from v is held apart from v1. -/
theorem R_after {α : Type} {d : Kd α} {e base : Nat} {ok : Nat → Prop} {W w1 : World} {u v v1 : Value} {xs : List α} (h : d.R e W base (fun k => ok k ∧ some k ≠ v.ownBlock) u xs) (hg : W.grownBy w1 v.ownBlock) (hat : v1.ownBlock = v.ownBlock ∨ ∃ b, v1.ownBlock = some b ∧ W.heap.size ≤ b) : d.R e w1 base (fun k => ok k ∧ some k ≠ v1.ownBlock) u xs := by
  refine R_mono (R_move (R_bound h) (fun k hk => hg.block k hk.2.2.1 hk.1.2)) (fun k hk => ⟨hk.1.1, ?_⟩)
  rcases hat with hat | ⟨b, hb, hle⟩
  · rw [hat]; exact hk.1.2
  · rw [hb]
    intro he
    injection he with he
    have := hk.2.2.1
    omega
end Kd
/-! ### 26. Words for a printer that takes every slice by its kind -/
namespace Kd
section
variable {α β : Type} {d : Kd α} {d' : Kd β} {e e' : Nat} {w w1 W : World} {base b b' : Nat} {ok ok' okv oku : Nat → Prop} {v u : Value} {xs : List α} {ys : List β}
/-- The row's own block is no block that isn't ok. -/
theorem R_away (h : d.R e w base ok v xs) {g : Nat} (hok : ∀ k, ok k → k ≠ g) : some g ≠ v.ownBlock := fun e => hok g (h.1 g e.symm) rfl
end
/-! #### scalars -/
section
variable {w W : World} {A : Option Addr} {n : Nat}
variable {α : Type} {enc : α → Value} {h1 : ∀ x, (enc x).oneCell' = true} {e base g cap : Nat} {ok : Nat → Prop} {xs : List α}
end
/-! #### events: a letter for what make and a literal leave -/
section
variable {P : Program} {ops : Array Oper} {rest : List Oper} {o : Oper} {a : Act} {Q : Exit → Act → World → Prop}
variable {α : Type}
end
end Kd
section
variable {P : Program}
end
section
variable {w w1 : World} {base n size : Nat} {e : TypeId} {v : Value} {xs : List Value}
end
section
variable {P : Program}
end
/-! ### 28. The kinds' words for cuts: R_take; Q (a row that may begin inside its block) with all of R's movers -/
namespace Kd
section
variable {α : Type} {d : Kd α} {e : Nat} {w w1 W : World} {base : Nat} {ok ok' : Nat → Prop} {v : Value} {xs : List α}
end
section
variable {P : Program} {ops : Array Oper} {rest : List Oper} {o : Oper} {a : Act} {Q' : Exit → Act → World → Prop} {Kc : Act → World → Prop} {α : Type}
end
end Kd
/-! ### 29. Movers that ask of another row no more than they need: for R and for Q -/
namespace Kd
section
variable {α : Type} {d : Kd α} {e e' : Nat} {w w1 W : World} {base : Nat} {ok : Nat → Prop} {u v : Value} {xs : List α}
end
end Kd
namespace Kd
section
variable {α : Type} {d : Kd α} {e base g n cap : Nat} {ok okp : Nat → Prop} {W : World} {xs : List α}
end
end Kd
/-! ### 31. What came in, put into what is made: 'fixed d w0' (read in w0, whatever happens since), 'or_ a b', 'mix' (a slice that came in, or one that is made) -/
namespace Kd
section
variable {α : Type} {F : Kd α → Kd α} {sz : Nat} {E : List Nat} {hs : ∀ n, (upto F sz E n).sz = sz} {hE : ∀ n q, q ∈ (upto F sz E n).E → q ∈ E}
end
end Kd
/-! ### 32. A whole row appended, of elements of any kind; copy onto a row of scalars of one's own -/
namespace Kd
section
variable {P : Program} {ops : Array Oper} {rest : List Oper} {o : Oper} {a : Act} {Q : Exit → Act → World → Prop} {α : Type}
end
end Kd
namespace Kd
section
variable {P : Program} {ops : Array Oper} {rest : List Oper} {o : Oper} {a : Act} {Q : Exit → Act → World → Prop} {α : Type}
end
end Kd
namespace Kd
section
variable {α : Type} {k : Kd α} {w : World} {A : Option Addr} {xs : List α} {m c : Nat}
end
end Kd
section
variable {P : Program}
end
namespace Kd
section
variable {α β : Type} {d : Kd α} {d' : Kd β} {e e' base base' n : Nat} {ok ok' : Nat → Prop} {w W w1 W1 : World} {v u : Value} {xs : List α} {ys : List β} {A : Option Addr} {c : Nat}
end
section
variable {α : Type} {enc : α → Value} {h1 : ∀ x, (enc x).oneCell' = true} {w W : World} {A : Option Addr} {n g : Nat} {xs : List α}
end
end Kd
namespace Kd
section
variable {α : Type} {d : Kd α} {e base g : Nat} {ok : Nat → Prop} {w w1 : World} {v : Value} {xs : List α} {o : Obj}
theorem R_elderB (h : d.R e w base ok v xs) (a : Nat) (ha : w.heap.size ≤ a) : d.R e w base (fun k => ok k ∧ k ≠ a) v xs := R_mono (R_bound h) (fun k hk => ⟨hk.1, by have := hk.2.2.1; omega⟩)
theorem R_newB (h : d.R e w1 w.heap.size ok v xs) (hb : w.heap[g]? = some o) : d.R e w1 w.heap.size (fun k => ok k ∧ k ≠ g) v xs := R_mono (R_bound h) (fun k hk => ⟨hk.1, by have := blk_lt hb; have := hk.2.1; omega⟩)
end
end Kd
section
variable {P : Program} {ops : Array Oper} {rest : List Oper} {o : Oper} {a : Act} {Q : Exit → Act → World → Prop}
end
namespace Kd
section
variable {α : Type} {enc : α → Value} {h1 : ∀ x, (enc x).oneCell' = true} {e base g n cap : Nat} {ok : Nat → Prop} {W : World} {xs : List α}
end
end Kd
section
variable {P : Program} {ops : Array Oper} {rest : List Oper} {o : Oper} {a : Act} {Q : Exit → Act → World → Prop}
end
namespace Kd
section
variable {α : Type} {enc : α → Value} {h1 : ∀ x, (enc x).oneCell' = true} {e base g n cap : Nat} {ok : Nat → Prop} {W : World} {xs : List α}
end
end Kd
section
variable {P : Program} {ops : Array Oper} {rest : List Oper} {o : Oper} {a : Act} {Q : Exit → Act → World → Prop} {W : World}
end
/-! ### 36. Events as_ one step of a region that draws (for one_, two_, three_) -/
section
variable {P : Program} {ops : Array Oper} {o : Oper} {a : Act} {Q : Exit → Act → World → Prop} {Kc : Act → World → Prop}
namespace Kd
variable {α : Type}
end Kd
end
section
variable {P : Program} {tmps : Array Value} {w : World}
end
/-! ### 38. 'out = append(out[:k], out[k+1:]...)': an element taken out of a row of one's own, in place -/
namespace Kd
section
variable {P : Program} {α : Type}
end
section
variable {P : Program} {ops : Array Oper} {rest : List Oper} {o : Oper} {a : Act} {Q : Exit → Act → World → Prop} {Kc : Act → World → Prop} {α : Type}
end
end Kd
end Go.Proofs.YtjkjnhcnmjknmaaGreatDoorW.PrintWords
end
section
namespace Go.Proofs.YtjkjnhcnmjknmaaGreatDoorW.PrintMore
open Go.RowKit Go.Proofs.YtjkjnhcnmjknmaaGreatDoorW.PrintWords
namespace Kd
open Go.Proofs.YtjkjnhcnmjknmaaGreatDoorW.PrintWords.Kd
end Kd
namespace Kd
open Go.Proofs.YtjkjnhcnmjknmaaGreatDoorW.PrintWords.Kd
section
variable {α : Type} {d : Kd α} {e base g N : Nat} {ok : Nat → Prop} {W w1 : World} {u v : Value} {xs : List α}
end
end Kd
end Go.Proofs.YtjkjnhcnmjknmaaGreatDoorW.PrintMore
namespace Go.Proofs.YtjkjnhcnmjknmaaGreatDoorW.PrintWords
open Go.RowKit
section
variable {P : Program} {ops : Array Oper} {rest : List Oper} {o : Oper} {a : Act} {Q : Exit → Act → World → Prop} {W : World}
end
namespace Kd
section
variable {α : Type} {d : Kd α} {e base : Nat} {ok : Nat → Prop} {W w1 : World} {v : Value} {xs : List α}
/-- A row of scalars beside a block that is not its own: written. -/
theorem R_grown1 (h : d.R e W base ok v xs) (hE : d.E = []) {row : Option Nat} (hg : W.grownBy w1 row) (hne : row ≠ v.ownBlock) : d.R e w1 base ok v xs :=
  R_mono (R_grown (R_tight hE h) hg (fun _ hk e_ => hne (e_.symm.trans hk))) (fun k hk => h.1 k hk.symm)
end
section
variable {α : Type} {d : Kd α} {e base g n cap : Nat} {ok oki okp : Nat → Prop} {W : World} {xs : List α} {i : Int} {c : List Value}
end
section
variable {α : Type} {d : Kd α} {e base b b' g N : Nat} {ok ok1 : Nat → Prop} {W W2 w1 : World} {u v : Value} {xs ys : List α} {S : Nat → Prop}
end
end Kd
end Go.Proofs.YtjkjnhcnmjknmaaGreatDoorW.PrintWords
namespace Go.Proofs.YtjkjnhcnmjknmaaGreatDoorW.PrintWords
open Go.RowKit
namespace Kd
section
variable {α β : Type} {d : Kd α} {e base base' n m c g N' lo hi : Nat} {ok ok' S : Nat → Prop} {w W w1 : World} {A : Option Addr} {ad : Addr} {u v v1 : Value} {xs : List α}
end
end Kd
end Go.Proofs.YtjkjnhcnmjknmaaGreatDoorW.PrintWords
end
section
namespace Go.Proofs.YtjkjnhcnmjknmaaGreatDoorW.PrintWords
open Go.RowKit
/-- make([]T, 0, n): nothing yet. -/
theorem Kd.R_make0 {P : Program} {ops : Array Oper} {rest : List Oper} {o : Oper} {a : Act} {Q : Exit → Act → World → Prop} {α : Type} (d : Kd α) {w0 W : World} (base e : Nat) (hgd : o.guard = none) {N : Tmp} (_hd : o.dst = some N) (t : TypeId) (x y : Operand) (ho : o.op = .makeSlice t x y) (n : Int) (hx : a.eval x = .int .i64 0) (hy : a.eval y = .int .i64 n)
    (ht : P.underlying t = some (.slice e)) (z : Value) (bytes : Nat) (hinfo : (P.info? e).map (fun i => (i.zero, i.size, i.bytes)) = some (some z, d.sz, bytes)) (_hz : z.cells.size = d.sz) (_hs0 : 0 < d.sz) (hb0 : 0 < bytes)
    {ok okp : Nat → Prop} (_hok : ∀ k, okp k → ok k) (hfresh : ok W.heap.size) (h0 : 0 ≤ n) (hl : n.toNat * bytes ≤ 281474976710656) (HB : Below base w0 W) (hbase : base ≤ W.heap.size)
    (h : ∀ v1 w1, d.R e w1 base ok v1 [] → Below base w0 w1 → W.grownBy w1 none → (∃ b, v1.ownBlock = some b ∧ W.heap.size ≤ b) → wpList P ops Q rest (a.put o.dst v1) w1) : wpList P ops Q (o :: rest) a W := by
  obtain ⟨m, rfl⟩ := Int.eq_ofNat_of_zero_le h0
  simp only [Int.toNat_natCast] at hl
  obtain ⟨i0, hi, hzz⟩ := Option.map_eq_some_iff.1 hinfo
  simp only [Prod.mk.injEq] at hzz
  obtain ⟨hz0, hz1, hz2⟩ := hzz
  have hm : m ≤ 281474976710656 := Nat.le_trans (Nat.le_mul_of_pos_right _ hb0) hl
  have hr := run_make (P := P) W t e i0 z ht hi hz0 .i64 .i64 (0 : Int) (m : Int) (by omega) (by omega)
    (by
      have h3 : ((i0.bytes * m : Nat) : Int) ≤ 281474976710656 := by rw [hz2, Nat.mul_comm]; omega
      rwa [Int.natCast_mul] at h3) (by omega)
  simp only [Int.toNat_natCast, Int.toNat_zero] at hr
  rw [hz1] at hr
  refine Kd.event_run (v := .slice (some ⟨W.heap.size, 0, none⟩) 0 m) (w1 := W.alloc (.cells (madeCells z.cells (m * d.sz)) e)) hgd (by simp [execOp, ho, hx, hy, hr]) (h _ _ ⟨fun k hk => ?_, [], ?_, Reps.none _ _⟩ (HB.alloc hbase _) (World.grownBy_alloc W _ none) ⟨W.heap.size, by simp [Value.ownBlock], Nat.le_refl _⟩)
  · have : W.heap.size = k := by simpa [Value.ownBlock] using hk
    subst this
    exact hfresh
  · refine ⟨by simp, .inr ⟨W.heap.size, m, madeCells z.cells (m * d.sz), rfl, hbase, by simpa using heap_alloc_new W _, Nat.zero_le _, ?_, ?_, by simp⟩⟩
    · simp only [maxLen]; omega
    · simp [size_madeCells]
end Go.Proofs.YtjkjnhcnmjknmaaGreatDoorW.PrintWords
end
section
/-! ### 53. '==' of structs as_ one Bool -/
namespace Go.Proofs.YtjkjnhcnmjknmaaGreatDoorW.PrintWords
open Go.RowKit
section
variable {P : Program} {d : Nat} {xs ys : Array Value} {f : Field} {fs : List Field} {a b : Value} {r s : Bool} {w : World}
/-- The last field that counts. -/
theorem eqf_last (hn : (f.name == "_") = false) (ha : (part f.type xs f.offset).run P w = .ok a w) (hb : (part f.type ys f.offset).run P w = .ok b w) (he : (Op.equalIn d f.type a b).run P w = .ok r w) : (Op.eqFields d xs ys [f]).run P w = .ok r w := by
  have hn' : f.name ≠ "_" := by simpa using hn
  simp only [Op.eqFields, if_pos hn', Sem.run_bind, ha, hb, he, Result.andThen_ok]
  cases r <;> simp
theorem eqf_cons (hn : (f.name == "_") = false) (ha : (part f.type xs f.offset).run P w = .ok a w) (hb : (part f.type ys f.offset).run P w = .ok b w) (he : (Op.equalIn d f.type a b).run P w = .ok r w) (hr : (Op.eqFields d xs ys fs).run P w = .ok s w) : (Op.eqFields d xs ys (f :: fs)).run P w = .ok (r && s) w := by
  have hn' : f.name ≠ "_" := by simpa using hn
  rw [Op.eqFields]
  simp only [if_pos hn', Sem.run_bind, ha, hb, he, Result.andThen_ok]
  cases r
  · simp
  · simpa using hr
theorem eqA_of {t : TypeId} {fs : Array Field} (hu : P.underlying t = some (.struct fs)) (hp : P.stoodInHeld t = false) (h : (Op.eqFields d xs ys fs.toList).run P w = .ok r w) : (Op.equalIn (d + 1) t (.agg xs) (.agg ys)).run P w = .ok r w := by
  have hf : P.fieldsOf t = fs := by simp [Program.fieldsOf, hu]
  rw [run_equalIn_struct (P := P) w d t xs ys (by rw [hf]; exact hu) hp, hf]
  exact h
end
end Go.Proofs.YtjkjnhcnmjknmaaGreatDoorW.PrintWords
end
section
namespace Go.Proofs.YtjkjnhcnmjknmaaGreatDoor.Y
open Go.RowKit Go.Proofs.YtjkjnhcnmjknmaaGreatDoorW.PrintWords Go.Proofs.YtjkjnhcnmjknmaaGreatDoorW.PrintLast Go.Proofs.YtjkjnhcnmjknmaaGreatDoorW.PrintMore
set_option linter.unusedVariables false
set_option linter.unusedSimpArgs false
theorem info45 : (Tryz.prog.info? 45).map (fun i => (i.zero, i.size, i.bytes)) = some (some (.agg #[(.bool false), (.int .i64 0)]), 2, 16) := by kernel_rfl
-- the values' own types
/-! #### struct type 23 -/
structure S23 where
  f0 : Bool
  f1 : Int
def z23 : S23 := ⟨false, (0 : Int)⟩
def k23 : Kd S23 := Kd.iso (Kd.pair Kd.bool (Kd.int .i64)) (fun x : S23 => (x.f0, x.f1))
theorem k23_open {w : World} {x : S23} {cs : List Value} (h : k23.K w x cs) : cs = [.bool x.f0, .int .i64 x.f1] := by
  obtain ⟨_, _, rfl, rfl, rfl⟩ := h
  exact rfl
theorem k23_mk (w : World) (x : S23)  : k23.K w x [.bool x.f0, .int .i64 x.f1] := ⟨[.bool x.f0], [.int .i64 x.f1], rfl, rfl, rfl⟩
def rd_T23 (xs : List S23) (i : Int) : S23 := xs.getD i.toNat z23
theorem at_T23 {w : World} {A : Option Addr} {n : Nat} {xs : List S23} (h : Kd.C k23 w A n xs) (i : Int) (h0 : 0 ≤ i) (h1 : i < n) : ∃ ad , A = some ad ∧ w.cell? (ad.add (i.toNat * 2)) = some (.bool (rd_T23 xs i).f0) ∧ w.cell? ⟨(ad.add (i.toNat * 2)).block, (ad.add (i.toNat * 2)).off + 1, none⟩ = some (.int .i64 (rd_T23 xs i).f1) := by
  obtain ⟨ad, c, e, _, hK, hc0⟩ := Kd.C_get h z23 i h0 h1
  have hc : ∀ j u, c[j]? = some u → w.cell? (ad.add (i.toNat * 2 + j)) = some u := hc0
  obtain rfl := k23_open hK
  exact ⟨ad, e, hc 0 _ rfl, by rw [← add_field _ _ 1 (by omega)]; exact hc 1 _ rfl⟩
/-! #### struct type 43 -/
structure S43 where
  f0 : Bool
  f1 : (List S23)
def z43 : S43 := ⟨false, ([] : List S23)⟩
def k43 : Kd S43 := Kd.iso (Kd.pair Kd.bool (Kd.slice 23 k23)) (fun x : S43 => (x.f0, x.f1))
theorem k43_open {w : World} {x : S43} {cs : List Value} (h : k43.K w x cs) : ∃ A1 c1, cs = [.bool x.f0, .slice A1 x.f1.length c1] ∧ x.f1.length ≤ c1 ∧ k23.C w A1 x.f1.length x.f1 := by
  obtain ⟨_, _, rfl, rfl, ⟨A1, c1, rfl, l1, g1⟩⟩ := h
  exact ⟨A1, c1, rfl, l1, g1⟩
theorem k43_mk (w : World) (x : S43) {A1 : Option Addr} {c1 : Nat} (l1 : x.f1.length ≤ c1) (g1 : k23.C w A1 x.f1.length x.f1) : k43.K w x [.bool x.f0, .slice A1 x.f1.length c1] := ⟨[.bool x.f0], [.slice A1 x.f1.length c1], rfl, rfl, ⟨A1, c1, rfl, l1, g1⟩⟩
def rd_T43 (xs : List S43) (i : Int) : S43 := xs.getD i.toNat z43
theorem at_T43 {w : World} {A : Option Addr} {n : Nat} {xs : List S43} (h : Kd.C k43 w A n xs) (i : Int) (h0 : 0 ≤ i) (h1 : i < n) : ∃ ad A1 c1, A = some ad ∧ w.cell? (ad.add (i.toNat * 2)) = some (.bool (rd_T43 xs i).f0) ∧ w.cell? ⟨(ad.add (i.toNat * 2)).block, (ad.add (i.toNat * 2)).off + 1, none⟩ = some (.slice A1 (rd_T43 xs i).f1.length c1) ∧ (rd_T43 xs i).f1.length ≤ c1 ∧ k23.C w A1 (rd_T43 xs i).f1.length (rd_T43 xs i).f1 := by
  obtain ⟨ad, c, e, _, hK, hc0⟩ := Kd.C_get h z43 i h0 h1
  have hc : ∀ j u, c[j]? = some u → w.cell? (ad.add (i.toNat * 2 + j)) = some u := hc0
  obtain ⟨A1, c1, rfl, l1, g1⟩ := k43_open hK
  exact ⟨ad, A1, c1, e, hc 0 _ rfl, by rw [← add_field _ _ 1 (by omega)]; exact hc 1 _ rfl, l1, g1⟩
/-! #### struct type 45 -/
structure S45 where
  f0 : Bool
  f1 : Int
def z45 : S45 := ⟨false, (0 : Int)⟩
def k45 : Kd S45 := Kd.iso (Kd.pair Kd.bool (Kd.int .i64)) (fun x : S45 => (x.f0, x.f1))
theorem k45_open {w : World} {x : S45} {cs : List Value} (h : k45.K w x cs) : cs = [.bool x.f0, .int .i64 x.f1] := by
  obtain ⟨_, _, rfl, rfl, rfl⟩ := h
  exact rfl
theorem k45_mkM (w : World) (base : Nat) (ok : Nat → Prop) (x : S45)  : k45.M w base ok x [.bool x.f0, .int .i64 x.f1] := ⟨[.bool x.f0], [.int .i64 x.f1], rfl, rfl, rfl⟩
def rd_T45 (xs : List S45) (i : Int) : S45 := xs.getD i.toNat z45
theorem at_T45 {w : World} {A : Option Addr} {n : Nat} {xs : List S45} (h : Kd.C k45 w A n xs) (i : Int) (h0 : 0 ≤ i) (h1 : i < n) : ∃ ad , A = some ad ∧ w.cell? (ad.add (i.toNat * 2)) = some (.bool (rd_T45 xs i).f0) ∧ w.cell? ⟨(ad.add (i.toNat * 2)).block, (ad.add (i.toNat * 2)).off + 1, none⟩ = some (.int .i64 (rd_T45 xs i).f1) := by
  obtain ⟨ad, c, e, _, hK, hc0⟩ := Kd.C_get h z45 i h0 h1
  have hc : ∀ j u, c[j]? = some u → w.cell? (ad.add (i.toNat * 2 + j)) = some u := hc0
  obtain rfl := k45_open hK
  exact ⟨ad, e, hc 0 _ rfl, by rw [← add_field _ _ 1 (by omega)]; exact hc 1 _ rfl⟩
end Go.Proofs.YtjkjnhcnmjknmaaGreatDoor.Y
end
section
namespace Go.Proofs.YtjkjnhcnmjknmaaGreatDoor.Y
open Go.RowKit Go.Proofs.YtjkjnhcnmjknmaaGreatDoorW.PrintWords Go.Proofs.YtjkjnhcnmjknmaaGreatDoorW.PrintLast Go.Proofs.YtjkjnhcnmjknmaaGreatDoorW.PrintMore
attribute [local go_sem] max2_int min2_int max_two min_two max_three min_three max_four min_four   -- for this text's walks alone
set_option linter.unusedVariables false
set_option linter.unusedSimpArgs false
/-! ### laws_zzFits10: function 38 -/
def laws_zzFits10.f (a0_0 : Bool) (l0_1 : List (S23)) : Option (Bool) := if (l0_1.length : Int) > 2147483647 then (some false) else (some true)
end Go.Proofs.YtjkjnhcnmjknmaaGreatDoor.Y
end
section
namespace Go.Proofs.YtjkjnhcnmjknmaaGreatDoor.Y
open Go.RowKit Go.Proofs.YtjkjnhcnmjknmaaGreatDoorW.PrintWords Go.Proofs.YtjkjnhcnmjknmaaGreatDoorW.PrintLast Go.Proofs.YtjkjnhcnmjknmaaGreatDoorW.PrintMore
attribute [local go_sem] max2_int min2_int max_two min_two max_three min_three max_four min_four   -- for this text's walks alone
set_option linter.unusedVariables false
set_option linter.unusedSimpArgs false
/-! ### laws_zzFits9: function 16 -/
def laws_zzFits9.l0 : Nat → List (S43) → Int → Int → Option (Bool)
  | 0, _, _, _ => none
  | k + 1, x8, x9, x10 => if x10 < x9 then (if 0 ≤ x10 then (if x10 < (x8.length : Int) then ((laws_zzFits10.f ((rd_T43 x8 x10).f0) ((rd_T43 x8 x10).f1)).bind fun t278 => (if t278 = true then (laws_zzFits9.l0 k x8 x9 (wrap64 (x10 + 1))) else (some false))) else (none)) else (none)) else (some true)
def laws_zzFits9.f (k : Nat) (l0 : List (S43)) : Option (Bool) := if (l0.length : Int) > 2147483647 then (some false) else (laws_zzFits9.l0 k l0 (l0.length : Int) 0)
theorem laws_zzFits9.mono_l : ∀ k, (∀ y0 y1 y2, LeO (laws_zzFits9.l0 k y0 y1 y2) (laws_zzFits9.l0 (k + 1) y0 y1 y2))
  | 0 => fun _ _ _ r h => by simp [laws_zzFits9.l0] at h
  | k + 1 => by
    have ih0 := laws_zzFits9.mono_l k
    · intro y0 y1 y2
      unfold laws_zzFits9.l0
      repeat' first
      | (with_reducible exact ih0 _ _ _)
      | (with_reducible exact LeO.refl _)
      | (with_reducible exact LeO.none _)
      | (with_reducible refine LeO.ite ?_ ?_)
      | (with_reducible refine LeO.bind ?_ (fun _ => ?_))
      | exact ih0 _ _ _
      | exact LeO.none _
      | refine LeO.ite ?_ ?_
      | refine LeO.bind ?_ (fun _ => ?_)
theorem laws_zzFits9.mono : ∀ a0 k, LeO (laws_zzFits9.f k a0) (laws_zzFits9.f (k + 1) a0) := by
  intro a0 k
  have ih0 := laws_zzFits9.mono_l k
  unfold laws_zzFits9.f
  repeat' first
      | (with_reducible exact ih0 _ _ _)
      | (with_reducible exact LeO.refl _)
      | (with_reducible exact LeO.none _)
      | (with_reducible refine LeO.ite ?_ ?_)
      | (with_reducible refine LeO.bind ?_ (fun _ => ?_))
      | exact ih0 _ _ _
      | exact LeO.none _
      | refine LeO.ite ?_ ?_
      | refine LeO.bind ?_ (fun _ => ?_)
end Go.Proofs.YtjkjnhcnmjknmaaGreatDoor.Y
end
section
namespace Go.Proofs.YtjkjnhcnmjknmaaGreatDoor.Y
open Go.RowKit Go.Proofs.YtjkjnhcnmjknmaaGreatDoorW.PrintWords Go.Proofs.YtjkjnhcnmjknmaaGreatDoorW.PrintLast Go.Proofs.YtjkjnhcnmjknmaaGreatDoorW.PrintMore
attribute [local go_sem] max2_int min2_int max_two min_two max_three min_three max_four min_four   -- for this text's walks alone
set_option linter.unusedVariables false
set_option linter.unusedSimpArgs false
theorem eqA45 (d : Nat) (w : World) (x0 y0 : Bool) (x1 y1 : Int) :
    (Op.equalIn (d + 2) 45 (.agg #[.bool x0, .int .i64 x1]) (.agg #[.bool y0, .int .i64 y1])).run Tryz.prog w = .ok (x0 == y0 && (x1 == y1)) w := by
  refine eqA_of Tryz.underlying45 (by kernel_rfl) ?_
  refine eqf_cons (by rfl) (by go_simp; rfl) (by go_simp; rfl) (by go_simp) ?_
  exact eqf_last (by rfl) (by go_simp; rfl) (by go_simp; rfl) (by go_simp)
end Go.Proofs.YtjkjnhcnmjknmaaGreatDoor.Y
end
section
namespace Go.Proofs.YtjkjnhcnmjknmaaGreatDoor.Y
open Go.RowKit Go.Proofs.YtjkjnhcnmjknmaaGreatDoorW.PrintWords Go.Proofs.YtjkjnhcnmjknmaaGreatDoorW.PrintLast Go.Proofs.YtjkjnhcnmjknmaaGreatDoorW.PrintMore
attribute [local go_sem] max2_int min2_int max_two min_two max_three min_three max_four min_four   -- for this text's walks alone
set_option linter.unusedVariables false
set_option linter.unusedSimpArgs false
attribute [local go_sem high] eqA45
/-! ### spec_DrawModeWithout: function 17 -/
def spec_DrawModeWithout.l0 : Nat → List (S45) → List (S45) → Int → Int → Bool → Int → Option ((List (S45)))
  | 0, _, _, _, _, _, _ => none
  | k + 1, x5, x8, x9, x10, x280000, x280001 => if x10 < x9 then (if 0 ≤ x10 then (if x10 < (x8.length : Int) then (if (!(((rd_T45 x8 x10).f0) == x280000) || (!(((rd_T45 x8 x10).f1) == x280001))) = true then (if x5.length < 8796093022208 then (spec_DrawModeWithout.l0 k (x5 ++ [(⟨(rd_T45 x8 x10).f0, (rd_T45 x8 x10).f1⟩ : S45)]) x8 x9 (wrap64 (x10 + 1)) x280000 x280001) else (none)) else (spec_DrawModeWithout.l0 k x5 x8 x9 (wrap64 (x10 + 1)) x280000 x280001)) else (none)) else (none)) else (some x5)
def spec_DrawModeWithout.f (k : Nat) (l0 : List (S45)) (a1_0 : Bool) (a1_1 : Int) : Option ((List (S45))) := spec_DrawModeWithout.l0 k ([] : List (S45)) l0 (l0.length : Int) 0 a1_0 a1_1
theorem spec_DrawModeWithout.mono_l : ∀ k, (∀ y0 y1 y2 y3 y4 y5, LeO (spec_DrawModeWithout.l0 k y0 y1 y2 y3 y4 y5) (spec_DrawModeWithout.l0 (k + 1) y0 y1 y2 y3 y4 y5))
  | 0 => fun _ _ _ _ _ _ r h => by simp [spec_DrawModeWithout.l0] at h
  | k + 1 => by
    have ih0 := spec_DrawModeWithout.mono_l k
    · intro y0 y1 y2 y3 y4 y5
      unfold spec_DrawModeWithout.l0
      repeat' first
      | (with_reducible exact ih0 _ _ _ _ _ _)
      | (with_reducible exact LeO.refl _)
      | (with_reducible exact LeO.none _)
      | (with_reducible refine LeO.ite ?_ ?_)
      | (with_reducible refine LeO.bind ?_ (fun _ => ?_))
      | exact ih0 _ _ _ _ _ _
      | exact LeO.none _
      | refine LeO.ite ?_ ?_
      | refine LeO.bind ?_ (fun _ => ?_)
theorem spec_DrawModeWithout.mono : ∀ a0 a1 a2 k, LeO (spec_DrawModeWithout.f k a0 a1 a2) (spec_DrawModeWithout.f (k + 1) a0 a1 a2) := by
  intro a0 a1 a2 k
  have ih0 := spec_DrawModeWithout.mono_l k
  unfold spec_DrawModeWithout.f
  repeat' first
      | (with_reducible exact ih0 _ _ _ _ _ _)
      | (with_reducible exact LeO.refl _)
      | (with_reducible exact LeO.none _)
      | (with_reducible refine LeO.ite ?_ ?_)
      | (with_reducible refine LeO.bind ?_ (fun _ => ?_))
      | exact ih0 _ _ _ _ _ _
      | exact LeO.none _
      | refine LeO.ite ?_ ?_
      | refine LeO.bind ?_ (fun _ => ?_)
end Go.Proofs.YtjkjnhcnmjknmaaGreatDoor.Y
end
section
namespace Go.Proofs.YtjkjnhcnmjknmaaGreatDoor.Y
open Go.RowKit Go.Proofs.YtjkjnhcnmjknmaaGreatDoorW.PrintWords Go.Proofs.YtjkjnhcnmjknmaaGreatDoorW.PrintLast Go.Proofs.YtjkjnhcnmjknmaaGreatDoorW.PrintMore
attribute [local go_sem] max2_int min2_int max_two min_two max_three min_three max_four min_four   -- for this text's walks alone
set_option linter.unusedVariables false
set_option linter.unusedSimpArgs false
/-! ### spec_SameDrawModes: function 19 -/
def spec_SameDrawModes.l0 : Nat → List (S45) → List (S45) → Int → Int → Option (Bool)
  | 0, _, _, _, _ => none
  | k + 1, x1, x12, x13, x14 => if x14 < x13 then (if 0 ≤ x14 then (if x14 < (x12.length : Int) then ((spec_DrawModeWithout.f k x1 ((rd_T45 x12 x14).f0) ((rd_T45 x12 x14).f1)).bind fun t287 => (if (t287.length : Int) = (wrap64 ((x1.length : Int) - 1)) then (spec_SameDrawModes.l0 k x1 x12 x13 (wrap64 (x14 + 1))) else (some false))) else (none)) else (none)) else (some true)
def spec_SameDrawModes.f (k : Nat) (l0 : List (S45)) (l1 : List (S45)) : Option (Bool) := if (l0.length : Int) = (l1.length : Int) then (spec_SameDrawModes.l0 k l1 l0 (l0.length : Int) 0) else (some false)
theorem spec_SameDrawModes.mono_l : ∀ k, (∀ y0 y1 y2 y3, LeO (spec_SameDrawModes.l0 k y0 y1 y2 y3) (spec_SameDrawModes.l0 (k + 1) y0 y1 y2 y3))
  | 0 => fun _ _ _ _ r h => by simp [spec_SameDrawModes.l0] at h
  | k + 1 => by
    have ih0 := spec_SameDrawModes.mono_l k
    · intro y0 y1 y2 y3
      unfold spec_SameDrawModes.l0
      repeat' first
      | (with_reducible exact ih0 _ _ _ _)
      | (with_reducible exact spec_DrawModeWithout.mono _ _ _ _)
      | (with_reducible exact LeO.refl _)
      | (with_reducible exact LeO.none _)
      | (with_reducible refine LeO.ite ?_ ?_)
      | (with_reducible refine LeO.bind ?_ (fun _ => ?_))
      | exact ih0 _ _ _ _
      | exact spec_DrawModeWithout.mono _ _ _ _
      | exact LeO.none _
      | refine LeO.ite ?_ ?_
      | refine LeO.bind ?_ (fun _ => ?_)
theorem spec_SameDrawModes.mono : ∀ a0 a1 k, LeO (spec_SameDrawModes.f k a0 a1) (spec_SameDrawModes.f (k + 1) a0 a1) := by
  intro a0 a1 k
  have ih0 := spec_SameDrawModes.mono_l k
  unfold spec_SameDrawModes.f
  repeat' first
      | (with_reducible exact ih0 _ _ _ _)
      | (with_reducible exact spec_DrawModeWithout.mono _ _ _ _)
      | (with_reducible exact LeO.refl _)
      | (with_reducible exact LeO.none _)
      | (with_reducible refine LeO.ite ?_ ?_)
      | (with_reducible refine LeO.bind ?_ (fun _ => ?_))
      | exact ih0 _ _ _ _
      | exact spec_DrawModeWithout.mono _ _ _ _
      | exact LeO.none _
      | refine LeO.ite ?_ ?_
      | refine LeO.bind ?_ (fun _ => ?_)
end Go.Proofs.YtjkjnhcnmjknmaaGreatDoor.Y
end
section
namespace Go.Proofs.YtjkjnhcnmjknmaaGreatDoor.Y
open Go.RowKit Go.Proofs.YtjkjnhcnmjknmaaGreatDoorW.PrintWords Go.Proofs.YtjkjnhcnmjknmaaGreatDoorW.PrintLast Go.Proofs.YtjkjnhcnmjknmaaGreatDoorW.PrintMore
attribute [local go_sem] max2_int min2_int max_two min_two max_three min_three max_four min_four   -- for this text's walks alone
set_option linter.unusedVariables false
set_option linter.unusedSimpArgs false
/-! ### spec_DrawModes: function 20 -/
mutual
def spec_DrawModes.l0 : Nat → List (S45) → List (S65) → Int → Int → Option ((List (S45)))
  | 0, _, _, _, _ => none
  | k + 1, x3, x10, x11, x12 => if x12 < x11 then (if 0 ≤ x12 then (if x12 < (x10.length : Int) then (if ((rd_T65 x10 x12).f0) = 2 then (if (Go.bits .and .i64 ((rd_T65 x10 x12).f3) 127) = 104 then (if (Go.bits .and .i64 (((rd_T65 x10 x12).f3) / 256) 255) = 0 then (spec_DrawModes.j1 k x3 (Go.bits .and .i64 ((rd_T65 x10 x12).f3) 127) (Go.bits .and .i64 (((rd_T65 x10 x12).f3) / 256) 255) x10 x11 x12 false ((rd_T65 x10 x12).f0) ((rd_T65 x10 x12).f1) ((rd_T65 x10 x12).f2) ((rd_T65 x10 x12).f3) ((rd_T65 x10 x12).f4) ((rd_T65 x10 x12).f5)) else (spec_DrawModes.j1 k x3 (Go.bits .and .i64 ((rd_T65 x10 x12).f3) 127) (Go.bits .and .i64 (((rd_T65 x10 x12).f3) / 256) 255) x10 x11 x12 ((Go.bits .and .i64 (((rd_T65 x10 x12).f3) / 256) 255) != 63) ((rd_T65 x10 x12).f0) ((rd_T65 x10 x12).f1) ((rd_T65 x10 x12).f2) ((rd_T65 x10 x12).f3) ((rd_T65 x10 x12).f4) ((rd_T65 x10 x12).f5))) else (if (Go.bits .and .i64 ((rd_T65 x10 x12).f3) 127) = 108 then (if (Go.bits .and .i64 (((rd_T65 x10 x12).f3) / 256) 255) = 0 then (spec_DrawModes.j1 k x3 (Go.bits .and .i64 ((rd_T65 x10 x12).f3) 127) (Go.bits .and .i64 (((rd_T65 x10 x12).f3) / 256) 255) x10 x11 x12 false ((rd_T65 x10 x12).f0) ((rd_T65 x10 x12).f1) ((rd_T65 x10 x12).f2) ((rd_T65 x10 x12).f3) ((rd_T65 x10 x12).f4) ((rd_T65 x10 x12).f5)) else (spec_DrawModes.j1 k x3 (Go.bits .and .i64 ((rd_T65 x10 x12).f3) 127) (Go.bits .and .i64 (((rd_T65 x10 x12).f3) / 256) 255) x10 x11 x12 ((Go.bits .and .i64 (((rd_T65 x10 x12).f3) / 256) 255) != 63) ((rd_T65 x10 x12).f0) ((rd_T65 x10 x12).f1) ((rd_T65 x10 x12).f2) ((rd_T65 x10 x12).f3) ((rd_T65 x10 x12).f4) ((rd_T65 x10 x12).f5))) else (spec_DrawModes.j1 k x3 (Go.bits .and .i64 ((rd_T65 x10 x12).f3) 127) (Go.bits .and .i64 (((rd_T65 x10 x12).f3) / 256) 255) x10 x11 x12 true ((rd_T65 x10 x12).f0) ((rd_T65 x10 x12).f1) ((rd_T65 x10 x12).f2) ((rd_T65 x10 x12).f3) ((rd_T65 x10 x12).f4) ((rd_T65 x10 x12).f5)))) else (spec_DrawModes.j1 k x3 (Go.bits .and .i64 ((rd_T65 x10 x12).f3) 127) (Go.bits .and .i64 (((rd_T65 x10 x12).f3) / 256) 255) x10 x11 x12 true ((rd_T65 x10 x12).f0) ((rd_T65 x10 x12).f1) ((rd_T65 x10 x12).f2) ((rd_T65 x10 x12).f3) ((rd_T65 x10 x12).f4) ((rd_T65 x10 x12).f5))) else (none)) else (none)) else (some x3)
def spec_DrawModes.j1 : Nat → List (S45) → Int → Int → List (S65) → Int → Int → Bool → Int → Int → Int → Int → List Int → List Int → Option ((List (S45)))
  | 0, _, _, _, _, _, _, _, _, _, _, _, _, _ => none
  | k + 1, x3, x6, x7, x10, x11, x12, x41, x292000, x292001, x292002, x292003, x292004, x292005 => if x41 = true then (spec_DrawModes.l0 k x3 x10 x11 (wrap64 (x12 + 1))) else (spec_DrawModes.l1 k x3 x6 x7 x10 x11 x12 (x292004.length : Int) 0 x292000 x292001 x292002 x292003 x292004 x292005)
def spec_DrawModes.l1 : Nat → List (S45) → Int → Int → List (S65) → Int → Int → Int → Int → Int → Int → Int → Int → List Int → List Int → Option ((List (S45)))
  | 0, _, _, _, _, _, _, _, _, _, _, _, _, _, _ => none
  | k + 1, x3, x6, x7, x10, x11, x12, x44, x45, x292000, x292001, x292002, x292003, x292004, x292005 => if x45 < x44 then ((spec_DrawParam.f x292004 x45 0).bind fun t292 => ((spec_DrawModeWithout.f k x3 (x7 == 63) t292).bind fun t294 => (if x6 = 104 then (if t294.length < 8796093022208 then (spec_DrawModes.l1 k (t294 ++ [(⟨(x7 == 63), t292⟩ : S45)]) x6 x7 x10 x11 x12 x44 (wrap64 (x45 + 1)) x292000 x292001 x292002 x292003 x292004 x292005) else (none)) else (spec_DrawModes.l1 k t294 x6 x7 x10 x11 x12 x44 (wrap64 (x45 + 1)) x292000 x292001 x292002 x292003 x292004 x292005)))) else (spec_DrawModes.l0 k x3 x10 x11 (wrap64 (x12 + 1)))
end
def spec_DrawModes.f (k : Nat) (l0 : List (S65)) : Option ((List (S45))) := spec_DrawModes.l0 k ([] : List (S45)) l0 (l0.length : Int) 0
theorem spec_DrawModes.mono_l : ∀ k, (∀ y0 y1 y2 y3, LeO (spec_DrawModes.l0 k y0 y1 y2 y3) (spec_DrawModes.l0 (k + 1) y0 y1 y2 y3)) ∧ (∀ y0 y1 y2 y3 y4 y5 y6 y7 y8 y9 y10 y11 y12, LeO (spec_DrawModes.j1 k y0 y1 y2 y3 y4 y5 y6 y7 y8 y9 y10 y11 y12) (spec_DrawModes.j1 (k + 1) y0 y1 y2 y3 y4 y5 y6 y7 y8 y9 y10 y11 y12)) ∧ (∀ y0 y1 y2 y3 y4 y5 y6 y7 y8 y9 y10 y11 y12 y13, LeO (spec_DrawModes.l1 k y0 y1 y2 y3 y4 y5 y6 y7 y8 y9 y10 y11 y12 y13) (spec_DrawModes.l1 (k + 1) y0 y1 y2 y3 y4 y5 y6 y7 y8 y9 y10 y11 y12 y13))
  | 0 => ⟨fun _ _ _ _ r h => by simp [spec_DrawModes.l0] at h, fun _ _ _ _ _ _ _ _ _ _ _ _ _ r h => by simp [spec_DrawModes.j1] at h, fun _ _ _ _ _ _ _ _ _ _ _ _ _ _ r h => by simp [spec_DrawModes.l1] at h⟩
  | k + 1 => by
    obtain ⟨ih0, ih1, ih2⟩ := spec_DrawModes.mono_l k
    refine ⟨?_, ?_, ?_⟩
    · intro y0 y1 y2 y3
      unfold spec_DrawModes.l0
      repeat' first
      | (with_reducible exact ih0 _ _ _ _)
      | (with_reducible exact ih1 _ _ _ _ _ _ _ _ _ _ _ _ _)
      | (with_reducible exact ih2 _ _ _ _ _ _ _ _ _ _ _ _ _ _)
      | (with_reducible exact spec_DrawModeWithout.mono _ _ _ _)
      | (with_reducible exact LeO.refl _)
      | (with_reducible exact LeO.none _)
      | (with_reducible refine LeO.ite ?_ ?_)
      | (with_reducible refine LeO.bind ?_ (fun _ => ?_))
      | exact ih0 _ _ _ _
      | exact ih1 _ _ _ _ _ _ _ _ _ _ _ _ _
      | exact ih2 _ _ _ _ _ _ _ _ _ _ _ _ _ _
      | exact spec_DrawModeWithout.mono _ _ _ _
      | exact LeO.none _
      | refine LeO.ite ?_ ?_
      | refine LeO.bind ?_ (fun _ => ?_)
    · intro y0 y1 y2 y3 y4 y5 y6 y7 y8 y9 y10 y11 y12
      unfold spec_DrawModes.j1
      repeat' first
      | (with_reducible exact ih0 _ _ _ _)
      | (with_reducible exact ih1 _ _ _ _ _ _ _ _ _ _ _ _ _)
      | (with_reducible exact ih2 _ _ _ _ _ _ _ _ _ _ _ _ _ _)
      | (with_reducible exact spec_DrawModeWithout.mono _ _ _ _)
      | (with_reducible exact LeO.refl _)
      | (with_reducible exact LeO.none _)
      | (with_reducible refine LeO.ite ?_ ?_)
      | (with_reducible refine LeO.bind ?_ (fun _ => ?_))
      | exact ih0 _ _ _ _
      | exact ih1 _ _ _ _ _ _ _ _ _ _ _ _ _
      | exact ih2 _ _ _ _ _ _ _ _ _ _ _ _ _ _
      | exact spec_DrawModeWithout.mono _ _ _ _
      | exact LeO.none _
      | refine LeO.ite ?_ ?_
      | refine LeO.bind ?_ (fun _ => ?_)
    · intro y0 y1 y2 y3 y4 y5 y6 y7 y8 y9 y10 y11 y12 y13
      unfold spec_DrawModes.l1
      repeat' first
      | (with_reducible exact ih0 _ _ _ _)
      | (with_reducible exact ih1 _ _ _ _ _ _ _ _ _ _ _ _ _)
      | (with_reducible exact ih2 _ _ _ _ _ _ _ _ _ _ _ _ _ _)
      | (with_reducible exact spec_DrawModeWithout.mono _ _ _ _)
      | (with_reducible exact LeO.refl _)
      | (with_reducible exact LeO.none _)
      | (with_reducible refine LeO.ite ?_ ?_)
      | (with_reducible refine LeO.bind ?_ (fun _ => ?_))
      | exact ih0 _ _ _ _
      | exact ih1 _ _ _ _ _ _ _ _ _ _ _ _ _
      | exact ih2 _ _ _ _ _ _ _ _ _ _ _ _ _ _
      | exact spec_DrawModeWithout.mono _ _ _ _
      | exact LeO.none _
      | refine LeO.ite ?_ ?_
      | refine LeO.bind ?_ (fun _ => ?_)
theorem spec_DrawModes.mono : ∀ a0 k, LeO (spec_DrawModes.f k a0) (spec_DrawModes.f (k + 1) a0) := by
  intro a0 k
  obtain ⟨ih0, ih1, ih2⟩ := spec_DrawModes.mono_l k
  unfold spec_DrawModes.f
  repeat' first
      | (with_reducible exact ih0 _ _ _ _)
      | (with_reducible exact ih1 _ _ _ _ _ _ _ _ _ _ _ _ _)
      | (with_reducible exact ih2 _ _ _ _ _ _ _ _ _ _ _ _ _ _)
      | (with_reducible exact spec_DrawModeWithout.mono _ _ _ _)
      | (with_reducible exact LeO.refl _)
      | (with_reducible exact LeO.none _)
      | (with_reducible refine LeO.ite ?_ ?_)
      | (with_reducible refine LeO.bind ?_ (fun _ => ?_))
      | exact ih0 _ _ _ _
      | exact ih1 _ _ _ _ _ _ _ _ _ _ _ _ _
      | exact ih2 _ _ _ _ _ _ _ _ _ _ _ _ _ _
      | exact spec_DrawModeWithout.mono _ _ _ _
      | exact LeO.none _
      | refine LeO.ite ?_ ?_
      | refine LeO.bind ?_ (fun _ => ?_)
end Go.Proofs.YtjkjnhcnmjknmaaGreatDoor.Y
end
section
namespace Go.Proofs.YtjkjnhcnmjknmaaGreatDoor.Q
open Go.RowKit Go.Proofs.YtjkjnhcnmjknmaaGreatDoorW.PrintWords Go.Proofs.YtjkjnhcnmjknmaaGreatDoorW.PrintLast Go.Proofs.YtjkjnhcnmjknmaaGreatDoorW.PrintMore
attribute [local go_sem] max2_int min2_int max_two min_two max_three min_three max_four min_four   -- for this text's walks alone
set_option linter.unusedVariables false
set_option linter.unusedSimpArgs false
def errW : Option Int → Value
  | none => .nilIface
  | some c => .iface 0 (.int .i64 c)
theorem errW_none : errW none = .nilIface := rfl
theorem errW_some (c : Int) : errW (some c) = .iface 0 (.int .i64 c) := rfl
-- the values' own types
end Go.Proofs.YtjkjnhcnmjknmaaGreatDoor.Q
end
section
namespace Go.Proofs.YtjkjnhcnmjknmaaGreatDoor.Q
open Go.RowKit Go.Proofs.YtjkjnhcnmjknmaaGreatDoorW.PrintWords Go.Proofs.YtjkjnhcnmjknmaaGreatDoorW.PrintLast Go.Proofs.YtjkjnhcnmjknmaaGreatDoorW.PrintMore
attribute [local go_sem] max2_int min2_int max_two min_two max_three min_three max_four min_four   -- for this text's walks alone
set_option linter.unusedVariables false
set_option linter.unusedSimpArgs false
/-! ### xansi_zzJoin: function 113 -/
def xansi_zzJoin.l0 : Nat → ByteArray → ByteArray → List ByteArray → Int → Int → Option (ByteArray)
  | 0, _, _, _, _, _ => none
  | k + 1, x1, x5, x8, x9, x10 => if x10 < x9 then (if 0 ≤ x10 then (if x10 < (x8.length : Int) then (if x10 > 0 then (if x5.size + x1.size ≤ 9223372036854775807 then (if x5.size + x1.size + (rdOf ByteArray.empty x8 x10).size ≤ 9223372036854775807 then (xansi_zzJoin.l0 k x1 ((x5 ++ x1) ++ (rdOf ByteArray.empty x8 x10)) x8 x9 (wrap64 (x10 + 1))) else (none)) else (none)) else (if x5.size + (rdOf ByteArray.empty x8 x10).size ≤ 9223372036854775807 then (xansi_zzJoin.l0 k x1 (x5 ++ (rdOf ByteArray.empty x8 x10)) x8 x9 (wrap64 (x10 + 1))) else (none))) else (none)) else (none)) else (some x5)
def xansi_zzJoin.f (k : Nat) (l0 : List ByteArray) (a1 : ByteArray) : Option (ByteArray) := xansi_zzJoin.l0 k a1 (⟨#[]⟩ : ByteArray) l0 (l0.length : Int) 0
theorem xansi_zzJoin.mono_l : ∀ k, (∀ y0 y1 y2 y3 y4, LeO (xansi_zzJoin.l0 k y0 y1 y2 y3 y4) (xansi_zzJoin.l0 (k + 1) y0 y1 y2 y3 y4))
  | 0 => fun _ _ _ _ _ r h => by simp [xansi_zzJoin.l0] at h
  | k + 1 => by
    have ih0 := xansi_zzJoin.mono_l k
    · intro y0 y1 y2 y3 y4
      unfold xansi_zzJoin.l0
      repeat' first
      | (with_reducible exact ih0 _ _ _ _ _)
      | (with_reducible exact LeO.refl _)
      | (with_reducible exact LeO.none _)
      | (with_reducible refine LeO.ite ?_ ?_)
      | (with_reducible refine LeO.bind ?_ (fun _ => ?_))
      | exact ih0 _ _ _ _ _
      | exact LeO.none _
      | refine LeO.ite ?_ ?_
      | refine LeO.bind ?_ (fun _ => ?_)
theorem xansi_zzJoin.mono : ∀ a0 a1 k, LeO (xansi_zzJoin.f k a0 a1) (xansi_zzJoin.f (k + 1) a0 a1) := by
  intro a0 a1 k
  have ih0 := xansi_zzJoin.mono_l k
  unfold xansi_zzJoin.f
  repeat' first
      | (with_reducible exact ih0 _ _ _ _ _)
      | (with_reducible exact LeO.refl _)
      | (with_reducible exact LeO.none _)
      | (with_reducible refine LeO.ite ?_ ?_)
      | (with_reducible refine LeO.bind ?_ (fun _ => ?_))
      | exact ih0 _ _ _ _ _
      | exact LeO.none _
      | refine LeO.ite ?_ ?_
      | refine LeO.bind ?_ (fun _ => ?_)
end Go.Proofs.YtjkjnhcnmjknmaaGreatDoor.Q
end
section
namespace Go.Proofs.YtjkjnhcnmjknmaaGreatDoor.Q
open Go.RowKit Go.Proofs.YtjkjnhcnmjknmaaGreatDoorW.PrintWords Go.Proofs.YtjkjnhcnmjknmaaGreatDoorW.PrintLast Go.Proofs.YtjkjnhcnmjknmaaGreatDoorW.PrintMore
attribute [local go_sem] max2_int min2_int max_two min_two max_three min_three max_four min_four   -- for this text's walks alone
set_option linter.unusedVariables false
set_option linter.unusedSimpArgs false
set_option maxHeartbeats 8000000 in
set_option maxRecDepth 100000 in
theorem xansi_zzJoin.calls (k : Nat) (A0 : Option Addr) (c0 : Nat) (l0 : List ByteArray) (a1 : ByteArray) (r : ByteArray) (w : World) (hr0 : Kd.C Kd.string w A0 l0.length l0) (hc0 : l0.length ≤ c0) (h : xansi_zzJoin.f k l0 a1 = some r) :
    Calls Tryz.prog 113 #[.slice A0 l0.length c0, .string a1] w fun e w' => e = .returned (.string r) ∧ Drawn0 w w' := by
  have HR0 := Aside0.mk hr0
  have HC0 := Aside0.mk hc0
  clear hr0 hc0
  have H : (xansi_zzJoin.l0 k a1 (⟨#[]⟩ : ByteArray) l0 (l0.length : Int) 0) = some r := h
  clear h
  have H' := Aside0.mk H
  clear H
  go_enter Tryz.func113, Tryz.ntmps113
  go_wp2
  go_loopg [5, 10] k (fun kq v5 v10 w' => ∃ (x5_1 : ByteArray) (x10_1 : Int), v5 = .string x5_1 ∧ v10 = .int .i64 x10_1 ∧ Aside0 (xansi_zzJoin.l0 kq a1 x5_1 l0 (l0.length : Int) x10_1 = some r) ∧ Aside0 (kq ≤ k) ∧ Drawn0 w w')
  case atStart => exact ⟨((⟨#[]⟩ : ByteArray)), (0), (by first | rfl | (simp; done) | (simp [*]; done)), (by first | rfl | (simp; done) | (simp [*]; done)), H', ⟨Nat.le_refl _⟩, by repeat (first | exact Drawn0.refl _ | apply Drawn0.step)⟩
  case round =>
    clear H'
    try clear c1
    try clear p2
    obtain ⟨x5_1, x10_1, rfl, rfl, HA, HK1, ⟨m1, rfl⟩⟩ := hrel
    cases gk with
    | zero => exact absurd HA.out (by simp [xansi_zzJoin.l0])
    | succ k1 =>
      have H := HA.out
      clear HA
      simp only [xansi_zzJoin.l0] at H
      by_cases c3 : x10_1 < (l0.length : Int)
      · rw [if_pos c3] at H
        have c3b0 : decide (x10_1 < (l0.length : Int)) = true := decide_eq_true c3
        clear c3
        by_cases c4 : 0 ≤ x10_1
        · rw [if_pos c4] at H
          have c4b0 : decide (0 ≤ x10_1) = true := decide_eq_true c4
          clear c4
          by_cases c5 : x10_1 < (l0.length : Int)
          · rw [if_pos c5] at H
            have c5b0 : decide (x10_1 < (l0.length : Int)) = true := decide_eq_true c5
            clear c5
            by_cases c6 : x10_1 > 0
            · rw [if_pos c6] at H
              have c6b0 : decide (0 < x10_1) = true := decide_eq_true c6
              clear c6
              by_cases c7 : x5_1.size + a1.size ≤ 9223372036854775807
              · rw [if_pos c7] at H
                have c7b0 := eq_true c7
                have c7b1 : decide (x5_1.size + a1.size ≤ 9223372036854775807) = true := decide_eq_true c7
                try have c7b2 : (9223372036854775807 < x5_1.size + a1.size) = False := eq_false (Nat.not_lt.2 c7)
                by_cases c8 : x5_1.size + a1.size + (rdOf ByteArray.empty l0 x10_1).size ≤ 9223372036854775807
                · rw [if_pos c8] at H
                  have c8b0 := eq_true c8
                  have c8b1 : decide (x5_1.size + a1.size + (rdOf ByteArray.empty l0 x10_1).size ≤ 9223372036854775807) = true := decide_eq_true c8
                  try have c8b2 : (9223372036854775807 < x5_1.size + a1.size + (rdOf ByteArray.empty l0 x10_1).size) = False := eq_false (Nat.not_lt.2 c8)
                  have H' := Aside0.mk H
                  clear H
                  have p101 : 0 ≤ (x10_1 : Int) := of_decide_eq_true (by first | (with_reducible assumption) | assumption)
                  have q101 : x10_1 < (l0.length : Int) := of_decide_eq_true (by first | (with_reducible assumption) | assumption)
                  obtain ⟨ad101, e101, hx101_0⟩ := Kd.at_string HR0.out x10_1 p101 q101
                  cases e101
                  replace p101 := eq_true p101
                  replace q101 := eq_true q101
                  go_wp2
                  go_roundg k1
                  case measure => have := HK1.out; omega
                  case rel => exact ⟨((x5_1 ++ a1) ++ (rdOf ByteArray.empty l0 x10_1)), (wrap64 (x10_1 + 1)), (by first | rfl | (simp; done) | (simp [*]; done)), (by first | rfl | (simp; done) | (simp [*]; done)), H', ⟨by have := HK1.out; omega⟩, by repeat (first | exact Drawn0.refl _ | apply Drawn0.step)⟩
                · rw [if_neg c8] at H
                  exact absurd H (by simp)
              · rw [if_neg c7] at H
                exact absurd H (by simp)
            · rw [if_neg c6] at H
              have c6b0 : decide (0 < x10_1) = false := decide_eq_false c6
              clear c6
              by_cases c9 : x5_1.size + (rdOf ByteArray.empty l0 x10_1).size ≤ 9223372036854775807
              · rw [if_pos c9] at H
                have c9b0 := eq_true c9
                have c9b1 : decide (x5_1.size + (rdOf ByteArray.empty l0 x10_1).size ≤ 9223372036854775807) = true := decide_eq_true c9
                try have c9b2 : (9223372036854775807 < x5_1.size + (rdOf ByteArray.empty l0 x10_1).size) = False := eq_false (Nat.not_lt.2 c9)
                have H' := Aside0.mk H
                clear H
                have p101 : 0 ≤ (x10_1 : Int) := of_decide_eq_true (by first | (with_reducible assumption) | assumption)
                have q101 : x10_1 < (l0.length : Int) := of_decide_eq_true (by first | (with_reducible assumption) | assumption)
                obtain ⟨ad101, e101, hx101_0⟩ := Kd.at_string HR0.out x10_1 p101 q101
                cases e101
                replace p101 := eq_true p101
                replace q101 := eq_true q101
                go_wp2
                go_roundg k1
                case measure => have := HK1.out; omega
                case rel => exact ⟨(x5_1 ++ (rdOf ByteArray.empty l0 x10_1)), (wrap64 (x10_1 + 1)), (by first | rfl | (simp; done) | (simp [*]; done)), (by first | rfl | (simp; done) | (simp [*]; done)), H', ⟨by have := HK1.out; omega⟩, by repeat (first | exact Drawn0.refl _ | apply Drawn0.step)⟩
              · rw [if_neg c9] at H
                exact absurd H (by simp)
          · rw [if_neg c5] at H
            exact absurd H (by simp)
        · rw [if_neg c4] at H
          exact absurd H (by simp)
      · rw [if_neg c3] at H
        have c3b0 : decide (x10_1 < (l0.length : Int)) = false := decide_eq_false c3
        clear c3
        obtain rfl := Option.some.inj H
        go_wp2
        go_ret
        exact ⟨by first | rfl | (simp; done) | (simp [*]; done), by repeat (first | exact Drawn0.refl _ | apply Drawn0.step)⟩
end Go.Proofs.YtjkjnhcnmjknmaaGreatDoor.Q
end
