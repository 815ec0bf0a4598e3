/- Texts of this claim, joined: WWords WApart WShare WMore XReset Y32D XLawReset. Of each, what the claim uses. -/
import Derived.Test.YtaaejhodlindeaaGreatDoorKaa
import Derived.Test.YtaaejhodlindeaaGreatDoorKab
import Derived.Test.YtaaejhodlindeaaGreatDoorKac
import Derived.Test.YtaaejhodlindeaaGreatDoorKad
import Derived.Test.YtaaejhodlindeaaGreatDoorKae
import Derived.Test.YtaaejhodlindeaaGreatDoorKaf
import Derived.Test.YtaaejhodlindeaaGreatDoorKag
import Derived.Test.YtaaejhodlindeaaGreatDoorKah
import Derived.Test.YtaaejhodlindeaaGreatDoorKai
import Derived.Test.YtaaejhodlindeaaGreatDoorKaj
import Derived.Test.YtaaejhodlindeaaGreatDoorKak
import Derived.Test.YtaaejhodlindeaaGreatDoorKal
import Derived.Test.YtaaejhodlindeaaGreatDoorKam
import Derived.Test.YtaaejhodlindeaaGreatDoorKan
import Derived.Test.YtaaejhodlindeaaGreatDoorKao
import Derived.Test.YtaaejhodlindeaaGreatDoorKap
import Derived.Test.YtaaejhodlindeaaGreatDoorKaq
import Derived.Test.YtaaejhodlindeaaGreatDoorKar
import Derived.Test.YtaaejhodlindeaaGreatDoorKas
import Derived.Test.YtaaejhodlindeaaGreatDoorKat
import Derived.Test.YtaaejhodlindeaaGreatDoorKau
import Derived.Test.YtaaejhodlindeaaGreatDoorKav
import Derived.Test.YtaaejhodlindeaaGreatDoorKaw
import Derived.Test.YtaaejhodlindeaaGreatDoorKax
import Derived.Test.YtaaejhodlindeaaGreatDoorKay
import Derived.Test.YtaaejhodlindeaaGreatDoorKaz
import Derived.Test.YtaaejhodlindeaaGreatDoorKba
import Derived.Test.YtaaejhodlindeaaGreatDoorKbb
import Derived.Test.YtaaejhodlindeaaGreatDoorKbc
import Derived.Test.YtaaejhodlindeaaGreatDoorKbd
import Derived.Test.YtaaejhodlindeaaGreatDoorKbh
import Derived.Below
import Derived.Deep.Draws
import Derived.Deep.AppendLies
import Derived.Maps.AppendAt
import Derived.OwnWalk
import Derived.Laws.BytesArg
import Derived.Laws.MakeOwn
import Derived.Laws.OwnMore
import Derived.Deep.OwnRows
import Derived.Tactics
import Derived.Lib.ConvBytes
import Derived.Laws.Slices
import Derived.WalkKit
import Derived.KernelRfl
import Derived.RowKit3
import Derived.Deep.LoopGhost
import Derived.Deep.QuietTactic
import Derived.BigQuiet
import Derived.WideLaws
import Derived.Deep.DeepCutAuto
import Derived.Deep.CutBlock
import Derived.Deep.RegionHeld3
import Derived.Laws.Rows
import Derived.Lib.AppendStr
import Derived.ArgAppend
import Derived.Laws.IdiomCopy
import Derived.RowKit
section
set_option linter.unusedVariables false
set_option linter.unusedSimpArgs false
namespace Go.Proofs.YtaaejhodlindeaaGreatDoorW.PrintWords
open Go.RowKit
/-! ### 5. append(v, x): behind 'at_builtin'; the goal's world is 'W.alloc' of the variadic's box -/
section
variable {P : Program} {ops : Array Oper} {rest : List Oper} {o : Oper} {a : Act} {Q : Exit → Act → World → Prop}
end
/-! ### 6. make([]T, n), n an Int; a literal -/
section
variable {P : Program}
end
/-! ### 8. append(v, ys...): ys a slice that is read, nil let in; behind 'at_builtin' -/
section
variable {P : Program} {ops : Array Oper} {rest : List Oper} {o : Oper} {a : Act} {Q : Exit → Act → World → Prop}
end
section
variable {P : Program} {ops : Array Oper} {rest : List Oper} {o : Oper} {a : Act} {Q : Exit → Act → World → Prop}
end
/-! ### 14. append as_ one step of a region that draws its order: for 'go_region_law' (and a region walked by hand) -/
section
variable {P : Program} {ops : Array Oper} {o : Oper} {a : Act} {Q : Exit → Act → World → Prop} {K : Act → World → Prop}
end
/-! ### 16. Parts 3 to 9 for ANY element of one cell: 'enc' (Value.int k, Value.string, Value.bool), a default 'd' -/
section
variable {α : Type} {enc : α → Value} {d : α}
end
section
variable {α : Type} {P : Program} {ops : Array Oper} {rest : List Oper} {o : Oper} {a : Act} {Q : Exit → Act → World → Prop}
end
/-! ### 19. Results that lie in memory beside others -/
section
variable {P : Program}
end
section
variable {α : Type} {R R' : α → List Value → Prop} {e : TypeId} {size : Nat} {w w1 : World} {base : Nat} {v : Value} {ps : List α}
end
section
variable {P : Program} {ops : Array Oper} {rest : List Oper} {o : Oper} {a : Act} {Q : Exit → Act → World → Prop} {α : Type} {R : α → List Value → Prop}
end
section
variable {P : Program} {ops : Array Oper} {o : Oper} {a : Act} {Q : Exit → Act → World → Prop} {K : Act → World → Prop} {α : Type} {R : α → List Value → Prop}
end
/-! ### 21. Cuts of a slice that came in, lengths spelled as_ the lists' -/
section
variable {α : Type} {P : Program}
end
/-! ### 22. append([]byte, s...), s a string; behind 'at_builtin'. (No word on where the new row lies: two rows of bytes at once don't go by it.) -/
section
variable {P : Program} {ops : Array Oper} {rest : List Oper} {o : Oper} {a : Act} {Q : Exit → Act → World → Prop}
end
namespace Kd
section
variable {α : Type} {d : Kd α} {e : Nat} {w w1 : World} {base : Nat} {ok ok' : Nat → Prop} {v : Value} {xs : List α}
/-- By types alone: the rows inside are none of a block of type t. -/
theorem R_types (h : d.R e w base ok v xs) {g t : Nat} {cells : Array Value} (hb : w.heap[g]? = some (.cells cells t (0, 0))) (ht : ∀ q, q ∈ e :: d.E → q ≠ t) : d.R e w base (fun k => ok k ∧ k ≠ g) v xs :=
  R_mono (R_bound h) (fun k hk => ⟨hk.1, by
    obtain ⟨_, _, _, q, hq, cells', hc⟩ := hk
    rintro rfl
    rw [hc] at hb
    injection hb with hb
    injection hb with _ hb
    exact ht q hq hb⟩)
end
section
variable {P : Program} {ops : Array Oper} {rest : List Oper} {o : Oper} {a : Act} {Q : Exit → Act → World → Prop} {α : Type}
end
section
variable {P : Program} {ops : Array Oper} {o : Oper} {a : Act} {Q : Exit → Act → World → Prop} {Kc : Act → World → Prop} {α : Type}
end
end Kd
/-! ### 24. Kinds nested in themselves -/
namespace Kd
section
variable {α : Type} {F : Kd α → Kd α} {sz : Nat} {E : List Nat} {hs : ∀ n, (upto F sz E n).sz = sz} {hE : ∀ n q, q ∈ (upto F sz E n).E → q ∈ E}
end
end Kd
/-! ### 25. What is held while another row is written: 'ok' says that its rows are none of that row's block -/
namespace Kd
end Kd
/-! ### 26. Words for a printer that takes every slice by its kind -/
namespace Kd
section
variable {α β : Type} {d : Kd α} {d' : Kd β} {e e' : Nat} {w w1 W : World} {base b b' : Nat} {ok ok' okv oku : Nat → Prop} {v u : Value} {xs : List α} {ys : List β}
end
/-! #### scalars -/
section
variable {w W : World} {A : Option Addr} {n : Nat}
variable {α : Type} {enc : α → Value} {h1 : ∀ x, (enc x).oneCell' = true} {e base g cap : Nat} {ok : Nat → Prop} {xs : List α}
end
/-! #### events: a letter for what make and a literal leave -/
section
variable {P : Program} {ops : Array Oper} {rest : List Oper} {o : Oper} {a : Act} {Q : Exit → Act → World → Prop}
variable {α : Type}
end
end Kd
section
variable {P : Program}
end
section
variable {w w1 : World} {base n size : Nat} {e : TypeId} {v : Value} {xs : List Value}
end
section
variable {P : Program}
end
/-! ### 28. The kinds' words for cuts: R_take; Q (a row that may begin inside its block) with all of R's movers -/
namespace Kd
section
variable {α : Type} {d : Kd α} {e : Nat} {w w1 W : World} {base : Nat} {ok ok' : Nat → Prop} {v : Value} {xs : List α}
end
section
variable {P : Program} {ops : Array Oper} {rest : List Oper} {o : Oper} {a : Act} {Q' : Exit → Act → World → Prop} {Kc : Act → World → Prop} {α : Type}
end
end Kd
/-! ### 29. Movers that ask of another row no more than they need: for R and for Q -/
namespace Kd
section
variable {α : Type} {d : Kd α} {e e' : Nat} {w w1 W : World} {base : Nat} {ok : Nat → Prop} {u v : Value} {xs : List α}
end
end Kd
namespace Kd
section
variable {α : Type} {d : Kd α} {e base g n cap : Nat} {ok okp : Nat → Prop} {W : World} {xs : List α}
end
end Kd
/-! ### 31. What came in, put into what is made: 'fixed d w0' (read in w0, whatever happens since), 'or_ a b', 'mix' (a slice that came in, or one that is made) -/
namespace Kd
section
variable {α : Type} {F : Kd α → Kd α} {sz : Nat} {E : List Nat} {hs : ∀ n, (upto F sz E n).sz = sz} {hE : ∀ n q, q ∈ (upto F sz E n).E → q ∈ E}
end
end Kd
/-! ### 32. A whole row appended, of elements of any kind; copy onto a row of scalars of one's own -/
namespace Kd
section
variable {P : Program} {ops : Array Oper} {rest : List Oper} {o : Oper} {a : Act} {Q : Exit → Act → World → Prop} {α : Type}
end
end Kd
namespace Kd
section
variable {P : Program} {ops : Array Oper} {rest : List Oper} {o : Oper} {a : Act} {Q : Exit → Act → World → Prop} {α : Type}
end
end Kd
namespace Kd
section
variable {α : Type} {k : Kd α} {w : World} {A : Option Addr} {xs : List α} {m c : Nat}
end
end Kd
section
variable {P : Program}
end
namespace Kd
section
variable {α β : Type} {d : Kd α} {d' : Kd β} {e e' base base' n : Nat} {ok ok' : Nat → Prop} {w W w1 W1 : World} {v u : Value} {xs : List α} {ys : List β} {A : Option Addr} {c : Nat}
end
section
variable {α : Type} {enc : α → Value} {h1 : ∀ x, (enc x).oneCell' = true} {w W : World} {A : Option Addr} {n g : Nat} {xs : List α}
end
end Kd
namespace Kd
section
variable {α : Type} {d : Kd α} {e base g : Nat} {ok : Nat → Prop} {w w1 : World} {v : Value} {xs : List α} {o : Obj}
end
end Kd
section
variable {P : Program} {ops : Array Oper} {rest : List Oper} {o : Oper} {a : Act} {Q : Exit → Act → World → Prop}
end
namespace Kd
section
variable {α : Type} {enc : α → Value} {h1 : ∀ x, (enc x).oneCell' = true} {e base g n cap : Nat} {ok : Nat → Prop} {W : World} {xs : List α}
end
end Kd
section
variable {P : Program} {ops : Array Oper} {rest : List Oper} {o : Oper} {a : Act} {Q : Exit → Act → World → Prop}
end
namespace Kd
section
variable {α : Type} {enc : α → Value} {h1 : ∀ x, (enc x).oneCell' = true} {e base g n cap : Nat} {ok : Nat → Prop} {W : World} {xs : List α}
end
end Kd
section
variable {P : Program} {ops : Array Oper} {rest : List Oper} {o : Oper} {a : Act} {Q : Exit → Act → World → Prop} {W : World}
end
/-! ### 36. Events as_ one step of a region that draws (for one_, two_, three_) -/
section
variable {P : Program} {ops : Array Oper} {o : Oper} {a : Act} {Q : Exit → Act → World → Prop} {Kc : Act → World → Prop}
namespace Kd
variable {α : Type}
end Kd
end
section
variable {P : Program} {tmps : Array Value} {w : World}
end
/-! ### 38. 'out = append(out[:k], out[k+1:]...)': an element taken out of a row of one's own, in place -/
namespace Kd
section
variable {P : Program} {α : Type}
end
section
variable {P : Program} {ops : Array Oper} {rest : List Oper} {o : Oper} {a : Act} {Q : Exit → Act → World → Prop} {Kc : Act → World → Prop} {α : Type}
end
end Kd
end Go.Proofs.YtaaejhodlindeaaGreatDoorW.PrintWords
end
section
/-! ### 40. Elements whose inner rows lie apart: what is stored into one says nothing of the others.
   S: asx R, with an owner function f (block to element's index). H: asx S with a hole: of element i its cells alone are told, its blocks are oki. -/
namespace Go.Proofs.YtaaejhodlindeaaGreatDoorW.PrintWords
open Go.RowKit
namespace Kd
section
variable {α β : Type} {d : Kd α} {d' : Kd β} {e e' : Nat} {w w1 W : World} {base b : Nat} {ok ok' okv oku : Nat → Prop} {u v : Value} {xs : List α} {ys : List β}
theorem S_types (h : S d e w base ok v xs) {g t : Nat} {cells : Array Value} (hb : w.heap[g]? = some (.cells cells t (0, 0))) (ht : ∀ q, q ∈ e :: d.E → q ≠ t) : S d e w base (fun k => ok k ∧ k ≠ g) v xs := by
  obtain ⟨f, h⟩ := h
  exact ⟨f, R_types h hb ht⟩
theorem S_typed (h : S d e w base ok v xs) : ∀ k, v.ownBlock = some k → ∃ cells, w.heap[k]? = some (.cells cells e (0, 0)) := R_typed (S_R h)
end
section
variable {α β : Type} {d : Kd α} {d' : Kd β} {e e' g : Nat} {w w1 W : World} {base b : Nat} {ok ok' okv oku : Nat → Prop} {u v : Value} {xs : List α} {ys : List β}
end
/-! #### append, make, literals: the new element's blocks are none of the elder ones' -/
section
variable {P : Program} {ops : Array Oper} {rest : List Oper} {o : Oper} {a : Act} {Q : Exit → Act → World → Prop} {Kc : Act → World → Prop} {α : Type}
end
section
variable {α β : Type} {d : Kd α} {e e' g n cap : Nat} {w w1 W : World} {base : Nat} {ok ok' oki okp : Nat → Prop} {u v : Value} {xs : List α} {i : Int} {c : List Value}
end
section
variable {P : Program} {ops : Array Oper} {rest : List Oper} {o : Oper} {a : Act} {Q : Exit → Act → World → Prop} {α : Type}
end
end Kd
end Go.Proofs.YtaaejhodlindeaaGreatDoorW.PrintWords
end
section
/-! ### 46. Values that share: what is only read, with the blocks it lies in (its footprint 'ok'): Foot, F (a row that is read), FK (an element's cells) -/
namespace Go.Proofs.YtaaejhodlindeaaGreatDoorW.PrintWords
open Go.RowKit
namespace Foot
variable {P Q : World → Prop} {W W1 : World} {ok ok' : Nat → Prop}
end Foot
namespace Kd
section
variable {α β : Type} {d : Kd α} {e base n n' cc g N : Nat} {ok ok' okp S : Nat → Prop} {w w0 w1 W W1 : World} {A A' : Option Addr} {u v v1 : Value} {xs : List α} {xs' : List β} {d' : Kd β} {x : α} {c : List Value}
theorem F_old (h : F d W ok A n xs) (hb : Below W.heap.size W W1) : F d W1 (fun k => ok k ∧ k < W.heap.size) A n xs := Foot.old h hb
theorem F_told (h : F d W1 (fun k => ok k ∧ k < N) A n xs) (hbase : ∀ k, v.ownBlock = some k → N ≤ k) : F d W1 (fun k => (ok k ∧ some k ≠ v.ownBlock) ∧ k < N) A n xs :=
  F_mono h (fun k hk => ⟨⟨hk.1, fun he => Nat.lt_irrefl _ (Nat.lt_of_lt_of_le hk.2 (hbase k he.symm))⟩, hk.2⟩)
end
end Kd
end Go.Proofs.YtaaejhodlindeaaGreatDoorW.PrintWords
end
section
namespace Go.Proofs.YtaaejhodlindeaaGreatDoorW.PrintMore
open Go.RowKit Go.Proofs.YtaaejhodlindeaaGreatDoorW.PrintWords
namespace Kd
open Go.Proofs.YtaaejhodlindeaaGreatDoorW.PrintWords.Kd
end Kd
namespace Kd
open Go.Proofs.YtaaejhodlindeaaGreatDoorW.PrintWords.Kd
section
variable {α : Type} {d : Kd α} {e base g N : Nat} {ok : Nat → Prop} {W w1 : World} {u v : Value} {xs : List α}
end
end Kd
end Go.Proofs.YtaaejhodlindeaaGreatDoorW.PrintMore
namespace Go.Proofs.YtaaejhodlindeaaGreatDoorW.PrintWords
open Go.RowKit
section
variable {P : Program} {ops : Array Oper} {rest : List Oper} {o : Oper} {a : Act} {Q : Exit → Act → World → Prop} {W : World}
end
namespace Kd
section
variable {α : Type} {d : Kd α} {e base : Nat} {ok : Nat → Prop} {W w1 : World} {v : Value} {xs : List α}
end
section
variable {α : Type} {d : Kd α} {e base g n cap : Nat} {ok oki okp : Nat → Prop} {W : World} {xs : List α} {i : Int} {c : List Value}
end
section
variable {α : Type} {d : Kd α} {e base b b' g N : Nat} {ok ok1 : Nat → Prop} {W W2 w1 : World} {u v : Value} {xs ys : List α} {S : Nat → Prop}
end
end Kd
end Go.Proofs.YtaaejhodlindeaaGreatDoorW.PrintWords
namespace Go.Proofs.YtaaejhodlindeaaGreatDoorW.PrintWords
open Go.RowKit
namespace Kd
section
variable {α β : Type} {d : Kd α} {e base base' n m c g N' lo hi : Nat} {ok ok' S : Nat → Prop} {w W w1 : World} {A : Option Addr} {ad : Addr} {u v v1 : Value} {xs : List α}
theorem V_old (h : V d e W base ok v xs) (hb : Below W.heap.size W w1) : V d e w1 base (fun k => ok k ∧ k < W.heap.size) v xs := V_map h (fun _ hf => F_old hf hb)
theorem V_told (h : V d e w1 base (fun k => ok k ∧ k < N') v xs) (hbase : ∀ k, u.ownBlock = some k → N' ≤ k) : V d e w1 base (fun k => (ok k ∧ some k ≠ u.ownBlock) ∧ k < N') v xs := V_map h (fun _ hf => F_told hf hbase)
end
end Kd
end Go.Proofs.YtaaejhodlindeaaGreatDoorW.PrintWords
end
section
namespace Go.Proofs.YtaaejhodlindeaaGreatDoor.Y
open Go.RowKit Go.Proofs.YtaaejhodlindeaaGreatDoorW.PrintWords Go.Proofs.YtaaejhodlindeaaGreatDoorW.PrintLast Go.Proofs.YtaaejhodlindeaaGreatDoorW.PrintMore
/-- What FeedReset tells. -/
def impl_FeedReset.f (a0 : Int) (a1 : Int) (l2 : List Int) (l3 : List Int) : Option ((List (S83)) × (List (S83))) :=
  if a0 = 32 ∧ a1 = 4096 ∧ (l2.length ≤ 100000000000 ∧ l3.length ≤ 100000000000) ∧ (∀ x ∈ l2, 0 ≤ x) ∧ (∀ x ∈ l3, 0 ≤ x) then
    (X.run .gr (l2.map Int.toNat)).bind fun x => (X.run .gr (l3.map Int.toNat)).map fun y => (x.2.map X.toS, y.2.map X.toS) else none
end Go.Proofs.YtaaejhodlindeaaGreatDoor.Y
namespace Go.Proofs.YtaaejhodlindeaaGreatDoor.X
open Go.RowKit Go.Proofs.YtaaejhodlindeaaGreatDoorW.PrintWords Go.Proofs.YtaaejhodlindeaaGreatDoorW.PrintLast Go.Proofs.YtaaejhodlindeaaGreatDoorW.PrintMore
/-- Reset. -/
theorem reset_calls {w0 w : World} {L : Loc} {r : RawSt} {evs : List Ev} (h : Inv w0 w L r evs) :
    Calls Tryz.prog 99 #[.pointer (some ⟨L.P, 0, none⟩)] w fun e w' => e = .returned (.tuple #[]) ∧ Inv w0 w' L { r with st := 0, cmd := 0, plen := 0, pc := r.pc.set 0 Miss } evs := by
  have HI := Lib.hid h
  clear h
  go_enter Tryz.func99, Tryz.ntmps99
  go_wp2_with fail
  refine (clear_calls HI.out).mono ?_
  rintro e w1 ⟨rfl, h1⟩
  have h2 := Lib.hid (h1.setSt 0)
  have c14 := h1.raw.c14
  have f14 := Raw.frozen h1.raw 14
  clear h1
  go_wp2_with fail
  go_end0
  exact ⟨rfl, h2.out⟩
end Go.Proofs.YtaaejhodlindeaaGreatDoor.X
namespace Go.Proofs.YtaaejhodlindeaaGreatDoor.X
open Go.RowKit Go.Proofs.YtaaejhodlindeaaGreatDoorW.PrintWords Go.Proofs.YtaaejhodlindeaaGreatDoorW.PrintLast Go.Proofs.YtaaejhodlindeaaGreatDoorW.PrintMore
set_option linter.unusedVariables false
theorem rel_dlen {w : World} {L : Loc} {r : RawSt} {s : PS} (hR : Rel s r) (hr : Raw w L r) : ∃ n : Nat, n ≤ 4096 ∧ r.dlen = n := by
  have hd : ∀ data, Data r data → ∃ n : Nat, n ≤ 4096 ∧ r.dlen = n := fun data h => by
    refine ⟨data.length, ?_, h.1⟩
    have := congrArg List.length h.2
    rw [List.length_take, hr.ldc] at this
    omega
  cases s with
  | gr => exact hR.1
  | esc => exact hR.1
  | csi k cmd ps cur => exact hR.1
  | dcs k cmd ps cur => exact hR.1
  | dstr cmd ps cur data => exact hd _ hR.2.2.2
  | osc cmd data => exact hd _ hR.2.2.2.2.1
  | apc data => exact hd _ hR.2.2.2
theorem feed_stop {w4 wr : World} {L : Loc} {l : List Int} {fin : List Ev} {i : Nat} (hi : l.length ≤ i) (h : FeedAt w4 wr L l fin i) : ∃ s r, Inv w4 wr L r fin ∧ Rel s r := by
  obtain ⟨s, r, evs, e2, s2, hI, hR, hn, hrun, hfin⟩ := h
  rw [List.drop_of_length_le hi] at hrun
  simp only [List.map_nil, run, Option.some.injEq, Prod.mk.injEq] at hrun
  obtain ⟨_, rfl⟩ := hrun
  rw [List.append_nil] at hfin
  subst hfin
  exact ⟨s, r, hI, hR⟩
/-- A parser that stands at the ground, its handlers laid, and nothing told. -/
theorem begin_inv {w : World} (L : Loc) (r : RawSt) (hL : L.L0 = w.heap.size)
    (hP : w.heap[L.P]? = some (.cells (pblock (hfs L.box) [.slice (some ⟨L.pp, 0, none⟩) 32 32, .slice (some ⟨L.pd, 0, none⟩) 4096 4096, .int .i64 r.dlen, .int .i64 r.plen, .int .i64 r.cmd, .int .u8 r.st]) 118 (0, 0)))
    (hpp : w.heap[L.pp]? = some (.cells (ints .i64 r.pc) 3 (0, 0))) (hpd : w.heap[L.pd]? = some (.cells (ints .u8 r.dc) 5 (0, 0))) (hbox : w.heap[L.box]? = some (.cells #[.pointer (some ⟨L.out, 0, none⟩)] 79 (0, 0)))
    (hout : w.heap[L.out]? = some (.cells #[.slice none 0 0] 28 (0, 0))) (lpc : r.pc.length = 32) (ldc : r.dc.length = 4096) (bP : L.B ≤ L.P) (bpp : L.B ≤ L.pp) (bpd : L.B ≤ L.pd) (bout : L.B ≤ L.out)
    (olt : L.own < w.heap.size) (oP : L.own ≠ L.P) (opp : L.own ≠ L.pp) (opd : L.own ≠ L.pd) (oout : L.own ≠ L.out) : Inv w w L r [] :=
  ⟨⟨hP, hpp, hpd, hbox, lpc, ldc, bP, bpp, bpd, bout, by have := blk_lt hP; omega, by have := blk_lt hP; omega, by have := blk_lt hpp; omega, by have := blk_lt hpd; omega, by have := blk_lt hbox; omega, by have := blk_lt hout; omega, by omega⟩,
    ⟨_, hout, Kd.S_nil _ _ _ _ _⟩, Below.refl _ _, fun _ _ _ _ _ _ => rfl, by omega, oP, opp, opd, oout⟩
/-- A block that holds what is read, and is none of the parser's. -/
theorem own_block {w3 w4 : World} {l : List Int} {Ad : Option Addr} {cd g q d o z : Nat} {t : TypeId} {cs : Array Value} (hD : Kd.R (Kd.int .u8) 5 w4 w3.heap.size (fun _ => True) (.slice Ad l.length cd) l) (hB : Below w3.heap.size w3 w4)
    (hg : g < w3.heap.size) (hq : q < w3.heap.size) (hd : d < w3.heap.size) (ho : o < w3.heap.size) (hz : z < w3.heap.size) (zg : z ≠ g) (zq : z ≠ q) (zd : z ≠ d) (zo : z ≠ o) :
    ∃ own : Nat, (l ≠ [] → Ad = some ⟨own, 0, none⟩) ∧ own < w4.heap.size ∧ own ≠ g ∧ own ≠ q ∧ own ≠ d ∧ own ≠ o := by
  have b4 := hB.size
  by_cases hl : l = []
  · exact ⟨z, fun h => absurd hl h, by omega, zg, zq, zd, zo⟩
  · obtain ⟨k, c, e, hk, hk2, _⟩ := Kd.R_form hD (List.length_pos_iff.2 hl)
    injection e with e _ _
    exact ⟨k, fun _ => e, hk2, by omega, by omega, by omega, by omega⟩
end Go.Proofs.YtaaejhodlindeaaGreatDoor.X
namespace Go.Proofs.YtaaejhodlindeaaGreatDoor.X
open Go.RowKit Go.Proofs.YtaaejhodlindeaaGreatDoorW.PrintWords Go.Proofs.YtaaejhodlindeaaGreatDoorW.PrintLast Go.Proofs.YtaaejhodlindeaaGreatDoorW.PrintMore
abbrev nilOut : Obj := .cells #[.slice none 0 0] 28
theorem outs_blocks (w : World) : ((w.alloc nilOut).alloc nilOut).heap[w.heap.size]? = some (.cells #[.slice none 0 0] 28 (0, 0)) ∧ ((w.alloc nilOut).alloc nilOut).heap[w.heap.size + 1]? = some (.cells #[.slice none 0 0] 28 (0, 0)) ∧ ((w.alloc nilOut).alloc nilOut).heap.size = w.heap.size + 2 ∧ Below w.heap.size w ((w.alloc nilOut).alloc nilOut) :=
  ⟨blk_alloc (blk_new w _) _, by have := blk_new (w.alloc nilOut) nilOut; simpa using this, by simp, below_alloc (below_alloc (Below.refl _ _) _) _⟩
/-- Where the first reading begins. -/
structure First (w w4 : World) (L : Loc) (g q d : Nat) : Prop where
  eB : L.B = w.heap.size
  eP : L.P = g
  ep : L.pp = q
  ed : L.pd = d
  eo : L.out = w.heap.size
  eL : L.L0 = w4.heap.size
  two : w4.heap[w.heap.size + 1]? = some (.cells #[.slice none 0 0] 28 (0, 0))
  ng : w.heap.size + 1 < g
  nq : w.heap.size + 1 < q
  nd : w.heap.size + 1 < d
theorem first_begin {w w1 w3 w4 : World} {g q d b : Nat} {l : List Int} {fin : List Ev} {s2 : PS} {Ad : Option Addr} {cd : Nat} (hM : Made ((w.alloc nilOut).alloc nilOut) w1 nofs g q d 32 4096)
    (hH : Handed w1 w3 g b [.slice (some ⟨q, 0, none⟩) 32 32, .slice (some ⟨d, 0, none⟩) 4096 4096, .int .i64 0, .int .i64 0, .int .i64 0, .int .u8 0])
    (hbox : w3.heap[b]? = some (.cells #[.pointer (some ⟨w.heap.size, 0, none⟩)] 79 (0, 0))) (hB4 : Below w3.heap.size w3 w4)
    (hD : Kd.R (Kd.int .u8) 5 w4 w3.heap.size (fun _ => True) (.slice Ad l.length cd) l) (hrun : run .gr (l.map Int.toNat) = some (s2, fin)) :
    ∃ L : Loc, First w w4 L g q d ∧ (l ≠ [] → Ad = some ⟨L.own, 0, none⟩) ∧ FeedAt w4 w4 L l fin 0 := by
  obtain ⟨u1, u2, u3, u4⟩ := outs_blocks w
  have lg := blk_lt hM.blk
  have lq := blk_lt hM.row
  have ld := blk_lt hM.dat
  have ng := hM.ng
  have nq := hM.nq
  have nd := hM.nd
  have hqg : q ≠ g := blk_ne hM.row hM.blk (by decide)
  have hdg : d ≠ g := blk_ne hM.dat hM.blk (by decide)
  have s1 := hM.below.size
  have s3 := hH.size
  have s4 := hB4.size
  have up : ∀ {i : Nat} {o : Obj}, i ≠ g → w1.heap[i]? = some o → w4.heap[i]? = some o := fun {i} {o} hne hi => blk_below ((hH.keep i (blk_lt hi) hne).trans hi) hB4
  have h1 := up (by omega) (blk_below u1 hM.below)
  have h2 := up (by omega) (blk_below u2 hM.below)
  obtain ⟨own, o0, o1, o2, o3, o4, o5⟩ := own_block (z := w.heap.size + 1) (o := w.heap.size) (t := 0) (cs := #[]) hD hB4 (g := g) (q := q) (d := d) (by omega) (by omega) (by omega) (by omega) (by omega) (by omega) (by omega) (by omega) (by omega)
  refine ⟨⟨w.heap.size, w4.heap.size, g, q, d, b, w.heap.size, own⟩, ⟨rfl, rfl, rfl, rfl, rfl, rfl, h2, by omega, by omega, by omega⟩, o0, .gr, ⟨0, 0, 0, 0, zeros 32, zeros 4096⟩, [], fin, s2, ?_, ⟨⟨0, by omega, rfl⟩, rfl⟩, by simp, by simpa using hrun, by simp⟩
  exact begin_inv _ _ rfl (blk_below hH.blk hB4) (up hqg hM.row) (up hdg hM.dat) (blk_below hbox hB4) h1 (zeros_len _) (zeros_len _) (by simp only; omega) (by simp only; omega) (by simp only; omega) (Nat.le_refl _) o1 o2 o3 o4 o5
/-- Where the second reading begins. -/
structure Second (w w4 w7 : World) (L L2 : Loc) (v1 : Value) (ev1 : List Ev) : Prop where
  eP : L2.P = L.P
  eB : L2.B = w.heap.size
  eo : L2.out = w.heap.size + 1
  eL : L2.L0 = w7.heap.size
  one : w7.heap[w.heap.size]? = some (.cells #[v1] 28 (0, 0))
  rows : Kd.S kEv 83 w7 w.heap.size (fun k => k < w7.heap.size ∧ k ≠ L2.P ∧ k ≠ L2.pp ∧ k ≠ L2.pd ∧ k ≠ L2.out) v1 (ev1.map toS)
  below : Below w.heap.size w w7
  none : w.heap.size ≠ L2.P ∧ w.heap.size ≠ L2.pp ∧ w.heap.size ≠ L2.pd
theorem second_begin {w w4 w5 w6 w7 : World} {L : Loc} {g q d b : Nat} {r : RawSt} {ev1 : List Ev} {l : List Int} {fin : List Ev} {s2 : PS} {Ad : Option Addr} {cd : Nat} (hF : First w w4 L g q d) (h4 : Below w.heap.size w w4) (hI : Inv w4 w5 L r ev1) (hst : r.st = 0) (hdl : ∃ n : Nat, n ≤ 4096 ∧ r.dlen = n)
    (hH : Handed w5 w6 g b [.slice (some ⟨q, 0, none⟩) 32 32, .slice (some ⟨d, 0, none⟩) 4096 4096, .int .i64 r.dlen, .int .i64 r.plen, .int .i64 r.cmd, .int .u8 r.st])
    (hbox : w6.heap[b]? = some (.cells #[.pointer (some ⟨w.heap.size + 1, 0, none⟩)] 79 (0, 0))) (hB7 : Below w6.heap.size w6 w7)
    (hD : Kd.R (Kd.int .u8) 5 w7 w6.heap.size (fun _ => True) (.slice Ad l.length cd) l) (hrun : run .gr (l.map Int.toNat) = some (s2, fin)) :
    ∃ L2 v1, Second w w4 w7 L L2 v1 ev1 ∧ (l ≠ [] → Ad = some ⟨L2.own, 0, none⟩) ∧ FeedAt w7 w7 L2 l fin 0 := by
  obtain ⟨B, L0, P, pp, pd, box, out, own0⟩ := L
  obtain ⟨e1, e2, e3, e4, e5, e6, two, ng, nq, nd⟩ := hF
  simp only at e1 e2 e3 e4 e5 e6
  subst e1 e2 e3 e4 e5 e6
  have hraw := hI.raw
  have tP := hraw.tP
  have tpp := hraw.tpp
  have tpd := hraw.tpd
  have tout := hraw.tout
  have sz := hraw.size
  simp only at tP tpp tpd tout sz
  have s6 := hH.size
  have s7 := hB7.size
  have l2 := blk_lt two
  have two5 : w5.heap[w.heap.size + 1]? = some (.cells #[.slice none 0 0] 28 (0, 0)) := (hI.own (w.heap.size + 1) l2 (by simp only; omega) (by simp only; omega) (by simp only; omega) (by simp only; omega)).trans two
  have up : ∀ {i : Nat} {o : Obj}, i ≠ P → w5.heap[i]? = some o → w7.heap[i]? = some o := fun {i} {o} hne hi => blk_below ((hH.keep i (blk_lt hi) hne).trans hi) hB7
  obtain ⟨v1, hv1, hS1⟩ := hI.evs
  simp only at hv1 hS1
  have one7 := up (by omega) hv1
  have two7 := up (i := w.heap.size + 1) (by omega) two5
  have hne : pp ≠ P := blk_ne hraw.hpp hraw.hP (by decide)
  have hne2 : pd ≠ P := blk_ne hraw.hpd hraw.hP (by decide)
  obtain ⟨own, o0, o1, o2, o3, o4, o5⟩ := own_block (z := w.heap.size) (o := w.heap.size + 1) (t := 0) (cs := #[]) hD hB7 (g := P) (q := pp) (d := pd) (by omega) (by omega) (by omega) (by omega) (by omega) (by omega) (by omega) (by omega) (by omega)
  have hS7 : Kd.S kEv 83 w7 w4.heap.size (fun k => w4.heap.size ≤ k) v1 (ev1.map toS) := Kd.S_step hS1 (fun k hk hlt => by
    rw [hB7.block k (by omega)]
    exact hH.keep k hlt (by omega))
  refine ⟨⟨w.heap.size, w7.heap.size, P, pp, pd, b, w.heap.size + 1, own⟩, v1, ⟨rfl, rfl, rfl, rfl, one7, Kd.S_mono (Kd.S_lower (Kd.S_bound hS7) h4.size) (fun k hk => ⟨hk.2.2.1, ?_, ?_, ?_, ?_⟩), ?_, by simp only; omega, by simp only; omega, by simp only; omega⟩, o0, .gr, r, [], fin, s2, ?_, ⟨hdl, hst⟩, by simp, by simpa using hrun, by simp⟩
  · have := hk.1; simp only; omega
  · have := hk.1; simp only; omega
  · have := hk.1; simp only; omega
  · have := hk.1; simp only; omega
  · exact h4.trans (hI.below.trans ((hH.below w.heap.size (by omega) (by have := h4.size; omega)).trans (hB7.mono (by have := h4.size; omega))))
  · exact begin_inv _ _ rfl (blk_below hH.blk hB7) (up hne hraw.hpp) (up hne2 hraw.hpd) (blk_below hbox hB7) two7 hraw.lpc hraw.ldc (by show w.heap.size ≤ P; omega) (by show w.heap.size ≤ pp; omega) (by show w.heap.size ≤ pd; omega) (by show w.heap.size ≤ w.heap.size + 1; omega) o1 o2 o3 o4 o5
/-- What both readings have told. -/
theorem both_end {w w4 w7 wr : World} {L L2 : Loc} {v1 : Value} {ev1 : List Ev} {l : List Int} {fin : List Ev} {i : Nat} (hi : l.length ≤ i) (hS : Second w w4 w7 L L2 v1 ev1) (h : FeedAt w7 wr L2 l fin i) :
    ∃ v2, wr.heap[w.heap.size]? = some (.cells #[v1] 28 (0, 0)) ∧ wr.heap[w.heap.size + 1]? = some (.cells #[v2] 28 (0, 0)) ∧ Below w.heap.size w wr ∧
      Kd.S kEv 83 wr w.heap.size (fun k => (k ≠ w.heap.size ∧ k ≠ w.heap.size + 1) ∧ some k ≠ v2.ownBlock) v1 (ev1.map toS) ∧ Kd.S kEv 83 wr w.heap.size (fun k => (k ≠ w.heap.size ∧ k ≠ w.heap.size + 1) ∧ some k ≠ v1.ownBlock) v2 (fin.map toS) := by
  obtain ⟨s, r, hI, _⟩ := feed_stop hi h
  obtain ⟨B, L0, P, pp, pd, box, out, own0⟩ := L2
  obtain ⟨e1, e2, e3, e4, one, rows, bel, hn⟩ := hS
  simp only at e1 e2 e3 e4 hn
  subst e2 e3 e4
  obtain ⟨v2, hv2, hS2⟩ := hI.evs
  simp only at hv2 hS2 rows
  have l1 := blk_lt one
  have sz := hI.raw.size
  have tout := hI.raw.tout
  simp only at sz tout
  have one2 := (hI.own w.heap.size l1 hn.1 hn.2.1 hn.2.2 (by simp only; omega)).trans one
  have hne1 : ∀ k, v1.ownBlock = some k → k ≠ w.heap.size ∧ k < w7.heap.size := fun k hk => by
    obtain ⟨cells, hc⟩ := Kd.S_typed rows k hk
    exact ⟨blk_ne hc one (by decide), Kd.S_lt rows k hk⟩
  refine ⟨v2, one2, hv2, bel.trans hI.below, ?_, ?_⟩
  · have r2 := Kd.S_types rows one (by decide)
    have r3 : Kd.S kEv 83 wr w.heap.size _ v1 (ev1.map toS) := Kd.S_step r2 (fun k hk _ => hI.own k hk.1.1 hk.1.2.1 hk.1.2.2.1 hk.1.2.2.2.1 hk.1.2.2.2.2)
    refine Kd.S_mono r3 (fun k hk => ⟨⟨hk.2, hk.1.2.2.2.2⟩, fun e => ?_⟩)
    have := Kd.S_base hS2 k e.symm
    have := hk.1.1
    omega
  · refine Kd.S_mono (Kd.S_lower hS2 (by have := bel.size; omega)) (fun k hk => ⟨⟨by omega, by omega⟩, fun e => ?_⟩)
    have := (hne1 k e.symm).2
    omega
end Go.Proofs.YtaaejhodlindeaaGreatDoor.X
namespace Go.Proofs.YtaaejhodlindeaaGreatDoor.Y
open Go.RowKit Go.Proofs.YtaaejhodlindeaaGreatDoorW.PrintWords Go.Proofs.YtaaejhodlindeaaGreatDoorW.PrintLast Go.Proofs.YtaaejhodlindeaaGreatDoorW.PrintMore
set_option linter.unusedSimpArgs false
set_option linter.unusedVariables false
set_option maxRecDepth 200000 in
set_option maxHeartbeats 8000000 in
theorem impl_FeedReset.calls (a0 : Int) (a1 : Int) (A2 : Option Addr) (c2 : Nat) (l2 : List Int) (A3 : Option Addr) (c3 : Nat) (l3 : List Int) (r1 : List (S83)) (r2 : List (S83)) (w : World) (hr2 : Kd.C (Kd.int .u8) w A2 l2.length l2) (hc2 : l2.length ≤ c2) (hr3 : Kd.C (Kd.int .u8) w A3 l3.length l3) (hc3 : l3.length ≤ c3) (h : impl_FeedReset.f a0 a1 l2 l3 = some (r1, r2)) :
    Calls Tryz.prog 36 #[.int .i64 a0, .int .i64 a1, .slice A2 l2.length c2, .slice A3 l3.length c3] w fun e w' => ∃ v0_ v1_ : Value, e = .returned (.tuple #[v0_, v1_]) ∧ Kd.S k83 83 w' w.heap.size (fun k_ => some k_ ≠ (v1_ : Value).ownBlock) v0_ r1 ∧ Kd.S k83 83 w' w.heap.size (fun k_ => some k_ ≠ (v0_ : Value).ownBlock) v1_ r2 ∧ Below w.heap.size w w' := by
  unfold impl_FeedReset.f at h
  split at h
  · rename_i hc
    obtain ⟨rfl, rfl, ⟨hl2, hl3⟩, hp2, hp3⟩ := hc
    obtain ⟨⟨s2, ev1⟩, hrun1, h⟩ := Option.bind_eq_some_iff.1 h
    obtain ⟨⟨s3, ev2⟩, hrun2, h⟩ := Option.map_eq_some_iff.1 h
    simp only [Prod.mk.injEq] at h
    obtain ⟨rfl, rfl⟩ := h
    have HC := Lib.hid (And.intro hr2 (And.intro hr3 (And.intro hp2 (And.intro hp3 (And.intro hrun1 hrun2)))))
    clear hr2 hr3 hp2 hp3 hrun1 hrun2
    go_enter Tryz.func36, Tryz.ntmps36
    go_wp2_with fail
    with_reducible refine (X.newParser_calls _).mono ?_
    rintro e w1 ⟨g, q, d, rfl, hM⟩
    have HM := Lib.hid hM
    clear hM
    go_wp2_with fail
    refine (X.listen_calls w.heap.size _ g X.nofs rfl _ rfl HM.out.blk).mono ?_
    rintro e w3 ⟨rfl, b, hbn, hH, hbox⟩
    have HH := Lib.hid (And.intro hH hbox)
    clear hbn hH hbox
    have hB3 : Below w.heap.size w w3 := (X.outs_blocks w).2.2.2.trans ((HM.out.below.mono (by rw [(X.outs_blocks w).2.2.1]; omega)).trans (HH.out.1.below w.heap.size (by have := HM.out.ng; rw [(X.outs_blocks w).2.2.1] at this; omega) (by have := HM.out.below.size; rw [(X.outs_blocks w).2.2.1] at this; omega)))
    have HB3 := Lib.hid hB3
    clear hB3
    go_wp2_with fail
    refine (X.own_calls _ _ _ _ (Kd.C_below HC.out.1 HB3.out) hc2 (by omega)).mono ?_
    rintro e w4 ⟨dv, rfl, hD, hB4⟩
    obtain ⟨Ad, cd, rfl⟩ := Kd.R_slice hD
    obtain ⟨L, hF, hA, hAt⟩ := X.first_begin HM.out HH.out.1 HH.out.2 hB4 hD HC.out.2.2.2.2.1
    have HF := Lib.hid (And.intro hF (And.intro hA (And.intro hD (HB3.out.trans (hB4.mono HB3.out.size)))))
    have HAt := Lib.hid hAt
    have hgP : g = L.P := hF.eP.symm
    clear hF hA hD hB4 hAt
    subst hgP
    go_wp2_with fail
    go_loopg [33] l2.length (fun kq v33 w' => ∃ i : Nat, v33 = .int .i64 (i : Int) ∧ i + kq = l2.length ∧ X.FeedAt w4 w' L l2 ev1 i)
    case atStart => exact ⟨0, rfl, by omega, HAt.out⟩
    case round =>
      clear HAt
      obtain ⟨i, rfl, hk, hAt⟩ := hrel
      have e20 : IntKind.i64.wrap ((i : Int) + 1) = ((i + 1 : Nat) : Int) := by rw [IntKind.wrap_i64]; omega
      by_cases hi : i < l2.length
      · have d1 : decide ((i : Int) < (l2.length : Int)) = true := decide_eq_true (by omega)
        have d2 : (0 : Int) ≤ (i : Int) := by omega
        have d4 : (i : Int) < (l2.length : Int) := by omega
        have hne : l2 ≠ [] := fun e => by rw [e] at hi; simp at hi
        obtain rfl := HF.out.2.1 hne
        have hcell := X.feed_cell hi hAt HF.out.2.2.1
        have h0 : 0 ≤ l2.getD i 0 := by
          have := HC.out.2.2.1 (l2[i]) (List.getElem_mem hi)
          simpa [hi] using this
        have HS := Lib.hid (X.feed_step hi hl2 h0 hAt)
        generalize l2.getD i 0 = x at hcell HS h0
        clear hAt hne h0
        go_wp2_with (
          go_at_call 81
          refine HS.out.mono ?_
          rintro e w5 ⟨v5, rfl, hF2⟩
          have HF2 := Lib.hid hF2
          clear hF2)
        go_roundg (l2.length - (i + 1))
        case measure => omega
        case rel => exact ⟨i + 1, by simp, by omega, HF2.out⟩
      · have d1 : decide ((i : Int) < (l2.length : Int)) = false := decide_eq_false (by omega)
        obtain ⟨s, r, hI, hR⟩ := X.feed_stop (by omega) hAt
        have HDL := Lib.hid (X.rel_dlen hR hI.raw)
        have HI := Lib.hid hI
        clear hAt hI hR e20 hk
        go_wp2_with fail
        refine (X.reset_calls HI.out).mono ?_
        rintro e w5 ⟨rfl, hI5⟩
        have HI5 := Lib.hid hI5
        clear hI5 HI
        go_wp2_with fail
        refine (X.listen_calls (w.heap.size + 1) _ L.P (X.hfs L.box) rfl [.slice (some ⟨L.pp, 0, none⟩) 32 32, .slice (some ⟨L.pd, 0, none⟩) 4096 4096, .int .i64 r.dlen, .int .i64 0, .int .i64 0, .int .u8 0] rfl HI5.out.raw.hP).mono ?_
        rintro e w6 ⟨rfl, b2, hbn2, hH2, hbox2⟩
        have hB6 : Below w.heap.size w w6 := HF.out.2.2.2.trans ((HF.out.1.eB ▸ HI5.out.below).trans (hH2.below w.heap.size (by have := HI5.out.raw.bP; rw [HF.out.1.eB] at this; omega) (by have := HF.out.2.2.2.size; have := HI5.out.below.size; omega)))
        have HH2 := Lib.hid (And.intro hH2 (And.intro hbox2 hB6))
        clear hbn2 hH2 hbox2 hB6
        go_wp2_with fail
        refine (X.own_calls _ _ _ _ (Kd.C_below HC.out.2.1 HH2.out.2.2) hc3 (by omega)).mono ?_
        rintro e w7 ⟨dv2, rfl, hD7, hB7⟩
        obtain ⟨Ad2, cd2, rfl⟩ := Kd.R_slice hD7
        obtain ⟨L2, v1, hS, hA2, hAt2⟩ := X.second_begin (r := { r with st := 0, cmd := 0, plen := 0, pc := r.pc.set 0 X.Miss }) HF.out.1 HF.out.2.2.2 HI5.out rfl HDL.out (by
          have e2 := HF.out.1.ep
          have e3 := HF.out.1.ed
          subst e2 e3
          exact HH2.out.1) HH2.out.2.1 hB7 hD7 HC.out.2.2.2.2.2
        have HS2 := Lib.hid (And.intro hS (And.intro hA2 hD7))
        have HAt2 := Lib.hid hAt2
        have hgP2 := hS.eP
        clear hS hA2 hD7 hB7 hAt2
        rw [← hgP2]
        have HP2 := Lib.hid hgP2
        clear hgP2
        go_wp2_with fail
        go_loopg [48] l3.length (fun kq v48 w' => ∃ i : Nat, v48 = .int .i64 (i : Int) ∧ i + kq = l3.length ∧ X.FeedAt w7 w' L2 l3 ev2 i)
        case atStart => exact ⟨0, rfl, by omega, HAt2.out⟩
        case round =>
          clear HAt2
          obtain ⟨j, rfl, hk, hAt⟩ := hrel
          have e20 : IntKind.i64.wrap ((j : Int) + 1) = ((j + 1 : Nat) : Int) := by rw [IntKind.wrap_i64]; omega
          by_cases hj : j < l3.length
          · have d5 : decide ((j : Int) < (l3.length : Int)) = true := decide_eq_true (by omega)
            have d2 : (0 : Int) ≤ (j : Int) := by omega
            have d4 : (j : Int) < (l3.length : Int) := by omega
            have hne : l3 ≠ [] := fun e => by rw [e] at hj; simp at hj
            obtain rfl := HS2.out.2.1 hne
            have hcell := X.feed_cell hj hAt HS2.out.2.2
            have h0 : 0 ≤ l3.getD j 0 := by
              have := HC.out.2.2.2.1 (l3[j]) (List.getElem_mem hj)
              simpa [hj] using this
            have HS := Lib.hid (X.feed_step hj hl3 h0 hAt)
            generalize l3.getD j 0 = x at hcell HS h0
            clear hAt hne h0
            go_wp2_with (
              go_at_call 81
              refine HS.out.mono ?_
              rintro e w8 ⟨v8, rfl, hF8⟩
              have HF8 := Lib.hid hF8
              clear hF8)
            go_roundg (l3.length - (j + 1))
            case measure => omega
            case rel => exact ⟨j + 1, by simp, by omega, HF8.out⟩
          · have d5 : decide ((j : Int) < (l3.length : Int)) = false := decide_eq_false (by omega)
            obtain ⟨v2, b1, b2, b3, b4, b5⟩ := X.both_end (by omega) HS2.out.1 hAt
            clear HS2
            obtain ⟨Av1, cv1, rfl⟩ := Kd.S_slice b4
            obtain ⟨Av2, cv2, rfl⟩ := Kd.S_slice b5
            have c1 := blk_cell b1 0
            have c2 := blk_cell b2 0
            have f1 := blk_frozen b1 0
            have f2 := blk_frozen b2 0
            have HB := Lib.hid (And.intro b1 (And.intro b2 (And.intro b3 (And.intro b4 b5))))
            clear hAt b1 b2 b3 b4 b5 hk e20
            have hne : w.heap.size ≠ w.heap.size + 1 := by omega
            go_wp2_with fail
            refine bodyPost_ret (v := .tuple #[.slice Av1 (ev1.map X.toS).length cv1, .slice Av2 (ev2.map X.toS).length cv2]) ?_ rfl ⟨_, _, rfl, ?_, ?_, ?_⟩
            · have n1 : (⟨w.heap.size + 1, 0, none⟩ : Addr).block ≠ (⟨w.heap.size, 0, none⟩ : Addr).block := by simp
              have n2 : (⟨w.heap.size, 0, none⟩ : Addr).block ≠ (⟨w.heap.size + 1, 0, none⟩ : Addr).block := by simp
              have k1 : ((wr.setCell ⟨w.heap.size, 0, none⟩ (.slice Av1 ev1.length cv1)).setCell ⟨w.heap.size + 1, 0, none⟩ (.slice Av2 ev2.length cv2)).cell? ⟨w.heap.size, 0, none⟩ = some (.slice Av1 ev1.length cv1) := by
                rw [World.cell?_setCell_far _ _ _ _ n1, World.cell?_setCell_same' _ _ _ (by rw [c1]; rfl)]
              have k2 : ((wr.setCell ⟨w.heap.size, 0, none⟩ (.slice Av1 ev1.length cv1)).setCell ⟨w.heap.size + 1, 0, none⟩ (.slice Av2 ev2.length cv2)).cell? ⟨w.heap.size + 1, 0, none⟩ = some (.slice Av2 ev2.length cv2) := by
                rw [World.cell?_setCell_same' _ _ _ (by rw [World.cell?_setCell_far _ _ _ _ n2, c2]; rfl)]
              simp [results, Tryz.results36, go_sem, k1, k2]
            · exact Kd.S_mono (Kd.S_far (Kd.S_far HB.out.2.2.2.1 (p := ⟨w.heap.size, 0, none⟩) (fun k hk => hk.1.1) _) (p := ⟨w.heap.size + 1, 0, none⟩) (fun k hk => hk.1.2) _) (fun k hk => hk.2)
            · exact Kd.S_mono (Kd.S_far (Kd.S_far HB.out.2.2.2.2 (p := ⟨w.heap.size, 0, none⟩) (fun k hk => hk.1.1) _) (p := ⟨w.heap.size + 1, 0, none⟩) (fun k hk => hk.1.2) _) (fun k hk => hk.2)
            · exact (HB.out.2.2.1.setCell (Nat.le_refl _) _).setCell (by simp only; omega) _
  · exact absurd h (by simp)
end Go.Proofs.YtaaejhodlindeaaGreatDoor.Y
end
section
namespace Go.Proofs.YtaaejhodlindeaaGreatDoor.Y
open Go.RowKit Go.Proofs.YtaaejhodlindeaaGreatDoorW.PrintWords Go.Proofs.YtaaejhodlindeaaGreatDoorW.PrintLast Go.Proofs.YtaaejhodlindeaaGreatDoorW.PrintMore
attribute [local go_sem] max2_int min2_int max_two min_two max_three min_three max_four min_four   -- for this text's walks alone
set_option linter.unusedVariables false
set_option linter.unusedSimpArgs false
/-! ### laws_FnDrawReset: function 13 -/
mutual
def laws_FnDrawReset.j0 : Nat → List (S42) → List (S42) → Int → Bool → Option (Bool)
  | 0, _, _, _, _ => none
  | k + 1, x0, x1, x2, x18 => if x18 = true then (some true) else ((spec_IsDrawPlan.f k x0).bind fun t284 => (if t284 = true then ((spec_IsDrawPlan.f k x1).bind fun t285 => (laws_FnDrawReset.j1 k x0 x1 x2 (!t285))) else (laws_FnDrawReset.j1 k x0 x1 x2 true)))
def laws_FnDrawReset.j1 : Nat → List (S42) → List (S42) → Int → Bool → Option (Bool)
  | 0, _, _, _, _ => none
  | k + 1, x0, x1, x2, x26 => if x26 = true then ((laws_drawAwake.f).bind fun t286 => (some t286)) else ((laws_drawText.f k x0).bind fun t287 => ((laws_drawText.f k x1).bind fun t290 => (if (wrap64 ((t287.length : Int) + 1)) = 0 then (none) else (if 0 ≤ (Int.tmod (wrap64 (x2)) (wrap64 ((t287.length : Int) + 1))) then (if (Int.tmod (wrap64 (x2)) (wrap64 ((t287.length : Int) + 1))) ≤ (t287.length : Int) then ((some (t287.take ((Int.tmod (wrap64 (x2)) (wrap64 ((t287.length : Int) + 1))) : Int).toNat : List Int)).bind fun y293 => ((impl_FeedReset.f 32 4096 y293 t290).bind fun bt298 => ((laws_drawEvents.f k bt298.1).bind fun t304 => ((impl_Feed.f 32 4096 y293).bind fun t307 => ((laws_drawEvents.f k t307).bind fun t310 => ((spec_SameEvents.f t304 t310).bind fun t313 => (if t313 = true then ((laws_drawEvents.f k bt298.2).bind fun t314 => ((impl_Feed.f 32 4096 t290).bind fun t317 => ((laws_drawEvents.f k t317).bind fun t320 => ((spec_SameEvents.f t314 t320).bind fun t323 => (if t323 = true then ((laws_drawAwake.f).bind fun t324 => (some t324)) else (some false)))))) else (some false)))))))) else (none)) else (none)))))
end
def laws_FnDrawReset.f (k : Nat) (l0 : List (S42)) (l1 : List (S42)) (a2 : Int) : Option (Bool) := (laws_zzFits3.f k l0).bind fun t282 => (if t282 = true then ((laws_zzFits3.f k l1).bind fun t283 => (laws_FnDrawReset.j0 k l0 l1 a2 (!t283))) else (laws_FnDrawReset.j0 k l0 l1 a2 true))
theorem laws_FnDrawReset.mono_l : ∀ k, (∀ y0 y1 y2 y3, LeO (laws_FnDrawReset.j0 k y0 y1 y2 y3) (laws_FnDrawReset.j0 (k + 1) y0 y1 y2 y3)) ∧ (∀ y0 y1 y2 y3, LeO (laws_FnDrawReset.j1 k y0 y1 y2 y3) (laws_FnDrawReset.j1 (k + 1) y0 y1 y2 y3))
  | 0 => ⟨fun _ _ _ _ r h => by simp [laws_FnDrawReset.j0] at h, fun _ _ _ _ r h => by simp [laws_FnDrawReset.j1] at h⟩
  | k + 1 => by
    obtain ⟨ih0, ih1⟩ := laws_FnDrawReset.mono_l k
    refine ⟨?_, ?_⟩
    · intro y0 y1 y2 y3
      unfold laws_FnDrawReset.j0
      repeat' first
      | (with_reducible exact ih0 _ _ _ _)
      | (with_reducible exact ih1 _ _ _ _)
      | (with_reducible exact laws_drawEvents.mono _ _)
      | (with_reducible exact laws_drawText.mono _ _)
      | (with_reducible exact laws_zzFits3.mono _ _)
      | (with_reducible exact spec_IsDrawPlan.mono _ _)
      | (with_reducible exact LeO.refl _)
      | (with_reducible exact LeO.none _)
      | (with_reducible refine LeO.ite ?_ ?_)
      | (with_reducible refine LeO.bind ?_ (fun _ => ?_))
      | exact ih0 _ _ _ _
      | exact ih1 _ _ _ _
      | exact laws_drawEvents.mono _ _
      | exact laws_drawText.mono _ _
      | exact laws_zzFits3.mono _ _
      | exact spec_IsDrawPlan.mono _ _
      | exact LeO.none _
      | refine LeO.ite ?_ ?_
      | refine LeO.bind ?_ (fun _ => ?_)
    · intro y0 y1 y2 y3
      unfold laws_FnDrawReset.j1
      repeat' first
      | (with_reducible exact ih0 _ _ _ _)
      | (with_reducible exact ih1 _ _ _ _)
      | (with_reducible exact laws_drawEvents.mono _ _)
      | (with_reducible exact laws_drawText.mono _ _)
      | (with_reducible exact laws_zzFits3.mono _ _)
      | (with_reducible exact spec_IsDrawPlan.mono _ _)
      | (with_reducible exact LeO.refl _)
      | (with_reducible exact LeO.none _)
      | (with_reducible refine LeO.ite ?_ ?_)
      | (with_reducible refine LeO.bind ?_ (fun _ => ?_))
      | exact ih0 _ _ _ _
      | exact ih1 _ _ _ _
      | exact laws_drawEvents.mono _ _
      | exact laws_drawText.mono _ _
      | exact laws_zzFits3.mono _ _
      | exact spec_IsDrawPlan.mono _ _
      | exact LeO.none _
      | refine LeO.ite ?_ ?_
      | refine LeO.bind ?_ (fun _ => ?_)
theorem laws_FnDrawReset.mono : ∀ a0 a1 a2 k, LeO (laws_FnDrawReset.f k a0 a1 a2) (laws_FnDrawReset.f (k + 1) a0 a1 a2) := by
  intro a0 a1 a2 k
  obtain ⟨ih0, ih1⟩ := laws_FnDrawReset.mono_l k
  unfold laws_FnDrawReset.f
  repeat' first
      | (with_reducible exact ih0 _ _ _ _)
      | (with_reducible exact ih1 _ _ _ _)
      | (with_reducible exact laws_drawEvents.mono _ _)
      | (with_reducible exact laws_drawText.mono _ _)
      | (with_reducible exact laws_zzFits3.mono _ _)
      | (with_reducible exact spec_IsDrawPlan.mono _ _)
      | (with_reducible exact LeO.refl _)
      | (with_reducible exact LeO.none _)
      | (with_reducible refine LeO.ite ?_ ?_)
      | (with_reducible refine LeO.bind ?_ (fun _ => ?_))
      | exact ih0 _ _ _ _
      | exact ih1 _ _ _ _
      | exact laws_drawEvents.mono _ _
      | exact laws_drawText.mono _ _
      | exact laws_zzFits3.mono _ _
      | exact spec_IsDrawPlan.mono _ _
      | exact LeO.none _
      | refine LeO.ite ?_ ?_
      | refine LeO.bind ?_ (fun _ => ?_)
end Go.Proofs.YtaaejhodlindeaaGreatDoor.Y
end
section
namespace Go.Proofs.YtaaejhodlindeaaGreatDoor.Y
open Go.RowKit Go.Proofs.YtaaejhodlindeaaGreatDoorW.PrintWords Go.Proofs.YtaaejhodlindeaaGreatDoorW.PrintLast Go.Proofs.YtaaejhodlindeaaGreatDoorW.PrintMore
set_option linter.unusedSimpArgs false
set_option linter.unusedVariables false
theorem feed2_l (l m : List Nat) (hl : l.length ≤ 100000000000) (hm : m.length ≤ 100000000000) {s1 s2 : X.PS} {e1 e2 : List X.Ev} (h1 : X.run .gr l = some (s1, e1)) (h2 : X.run .gr m = some (s2, e2)) :
    impl_FeedReset.f 32 4096 (ints l) (ints m) = some (e1.map X.toS, e2.map X.toS) := by
  have hp : ∀ (q : List Nat), ∀ x ∈ ints q, 0 ≤ x := fun q x hx => by
    obtain ⟨b, _, rfl⟩ := List.mem_map.1 hx
    omega
  have hq : ∀ q : List Nat, (ints q).map Int.toNat = q := fun q => by simp [ints, Function.comp_def]
  unfold impl_FeedReset.f
  rw [if_pos ⟨rfl, rfl, ⟨by simpa [ints] using hl, by simpa [ints] using hm⟩, hp l, hp m⟩, hq, hq, h1, Option.bind_some, h2]
  rfl
theorem reset_j1 (l m : List Op) (hl : RightPlan l) (hm : RightPlan m) (a2 : Int) (h0 : 0 ≤ a2) (h1 : a2 ≤ 65535) (k : Nat) (hk : 1000 ≤ k) : laws_FnDrawReset.j1 k l m a2 false = some true := by
  obtain ⟨k, rfl⟩ : ∃ k', k = k' + 1 := ⟨k - 1, by omega⟩
  obtain ⟨ps, T, _, m1, _, m3, m4, m5, m6⟩ := plan_run l hl
  obtain ⟨qs, B, _, b1, _, b3, b4, b5, b6⟩ := plan_run m hm
  generalize (ps.map (·.2)).flatten = ea at m4 m5 m6
  generalize (qs.map (·.2)).flatten = eb at b4 b5 b6
  have e1 : (ints T).length = T.length := by simp [ints]
  obtain ⟨n, hn, hn2⟩ : ∃ n : Nat, Int.tmod (wrap64 a2) (wrap64 (((ints T).length : Int) + 1)) = (n : Int) ∧ n ≤ T.length := by
    rw [e1, wrap64_of a2 (by omega) (by omega), wrap64_of _ (by omega) (by omega), Int.tmod_eq_emod_of_nonneg h0]
    refine ⟨(a2 % ((T.length : Int) + 1)).toNat, ?_, ?_⟩
    · have := Int.emod_nonneg a2 (show ((T.length : Int) + 1) ≠ 0 by omega)
      omega
    · have := Int.emod_lt_of_pos a2 (show (0 : Int) < (T.length : Int) + 1 by omega)
      have := Int.emod_nonneg a2 (show ((T.length : Int) + 1) ≠ 0 by omega)
      omega
  have hw : wrap64 (((ints T).length : Int) + 1) ≠ 0 := by rw [e1, wrap64_of _ (by omega) (by omega)]; omega
  obtain ⟨u, f, g, g1, rfl⟩ := run_start (l := T.take n) (m := T.drop n) (by rw [List.take_append_drop]; exact m4)
  have e2 : (ints T).take ((n : Int)).toNat = ints (T.take n) := by simp [ints]
  rw [List.length_append] at m6
  have hff : ∀ e ∈ f, EvFit e := fun e he => m5 e (List.mem_append_left _ he)
  have hlt : (T.take n).length ≤ 100000000000 := by rw [List.length_take]; omega
  rw [laws_FnDrawReset.j1, if_neg (by simp), m1 k (by omega), Option.bind_some, b1 k (by omega), Option.bind_some, if_neg hw, hn, if_pos (by omega), if_pos (by rw [e1]; omega), e2, Option.bind_some, feed2_l _ B hlt (by omega) g1 b4, Option.bind_some]
  simp only
  rw [drawEvents_f _ (by rw [List.length_map]; omega) k (by rw [List.length_map]; omega), Option.bind_some, feed_l _ hlt g1, Option.bind_some, drawEvents_f _ (by rw [List.length_map]; omega) k (by rw [List.length_map]; omega), Option.bind_some, same_evs _ hff, Option.bind_some, if_pos rfl,
    drawEvents_f _ (by rw [List.length_map]; omega) k (by rw [List.length_map]; omega), Option.bind_some, feed_l B (by omega) b4, Option.bind_some, drawEvents_f _ (by rw [List.length_map]; omega) k (by rw [List.length_map]; omega), Option.bind_some, same_evs _ b5, Option.bind_some, if_pos rfl, awake, Option.bind_some]
theorem reset_law (l m : List Op) (a2 : Int) (h0 : 0 ≤ a2) (h1 : a2 ≤ 65535) (k : Nat) (hk : 7000000000 ≤ k) : laws_FnDrawReset.f k l m a2 = some true := by
  have out : laws_FnDrawReset.j0 k l m a2 true = some true := by
    obtain ⟨k, rfl⟩ : ∃ k', k = k' + 1 := ⟨k - 1, by omega⟩
    rw [laws_FnDrawReset.j0, if_pos rfl]
  unfold laws_FnDrawReset.f
  obtain ⟨a, a1, a3⟩ := fits_f l k (by omega)
  obtain ⟨b, b1, b2⟩ := fits_f m k (by omega)
  rw [a1, Option.bind_some]
  cases a with
  | false => rw [if_neg (by simp), out]
  | true =>
    rw [if_pos rfl, b1, Option.bind_some]
    cases b with
    | false => exact out
    | true =>
      obtain ⟨k, rfl⟩ : ∃ k', k = k' + 2 := ⟨k - 2, by omega⟩
      have out : laws_FnDrawReset.j1 (k + 1) l m a2 true = some true := by rw [laws_FnDrawReset.j1, if_pos rfl, awake, Option.bind_some]
      obtain ⟨c, c1, c2⟩ := plan_f l (a3 rfl) (k + 1) (by omega)
      obtain ⟨d, d1, d2⟩ := plan_f m (b2 rfl) (k + 1) (by omega)
      show laws_FnDrawReset.j0 (k + 2) l m a2 false = some true
      rw [laws_FnDrawReset.j0, if_neg (by simp), c1, Option.bind_some]
      cases c with
      | false => rw [if_neg (by simp), out]
      | true =>
        rw [if_pos rfl, d1, Option.bind_some]
        cases d with
        | false => exact out
        | true => exact reset_j1 l m (c2 rfl) (d2 rfl) a2 h0 h1 (k + 1) (by omega)
theorem FnDrawReset_true {Q R : Op → Prop} (l : List Op) (_ : l.length ≤ maxLen) (_ : ∀ a ∈ l, Q a) (m : List Op) (_ : m.length ≤ maxLen) (_ : ∀ a ∈ m, R a) (a2 : Int) (hw : (Lit.int .u16 a2).wf = true) : laws_FnDrawReset.f 7000000000 l m a2 = some true := by
  have h : 0 ≤ a2 ∧ a2 ≤ 65535 := by simpa [Lit.wf, IntKind.min, IntKind.max, IntKind.signed, IntKind.bits] using hw
  exact reset_law l m a2 h.1 h.2 _ (Nat.le_refl _)
end Go.Proofs.YtaaejhodlindeaaGreatDoor.Y
end
