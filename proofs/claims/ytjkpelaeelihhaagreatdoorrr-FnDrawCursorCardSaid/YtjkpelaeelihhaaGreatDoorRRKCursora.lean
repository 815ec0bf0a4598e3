/- Texts of this claim, joined: WWords WShare WN WMore XDraw XNums XCurNum XRowE XTextOwn. Of each, what the claim uses. -/
import Derived.Test.YtjkpelaeelihhaaGreatDoorRRKaa
import Derived.Test.YtjkpelaeelihhaaGreatDoorRRKab
import Derived.Test.YtjkpelaeelihhaaGreatDoorRRKac
import Derived.Test.YtjkpelaeelihhaaGreatDoorRRKad
import Derived.Test.YtjkpelaeelihhaaGreatDoorRRKae
import Derived.Test.YtjkpelaeelihhaaGreatDoorRRKaf
import Derived.Test.YtjkpelaeelihhaaGreatDoorRRKag
import Derived.Test.YtjkpelaeelihhaaGreatDoorRRKah
import Derived.Test.YtjkpelaeelihhaaGreatDoorRRKai
import Derived.Test.YtjkpelaeelihhaaGreatDoorRRKaj
import Derived.Test.YtjkpelaeelihhaaGreatDoorRRKak
import Derived.Test.YtjkpelaeelihhaaGreatDoorRRKal
import Derived.Test.YtjkpelaeelihhaaGreatDoorRRKam
import Derived.Test.YtjkpelaeelihhaaGreatDoorRRKan
import Derived.Test.YtjkpelaeelihhaaGreatDoorRRKao
import Derived.Test.YtjkpelaeelihhaaGreatDoorRRKap
import Derived.Test.YtjkpelaeelihhaaGreatDoorRRKaq
import Derived.Test.YtjkpelaeelihhaaGreatDoorRRKar
import Derived.Test.YtjkpelaeelihhaaGreatDoorRRKas
import Derived.Test.YtjkpelaeelihhaaGreatDoorRRKat
import Derived.Test.YtjkpelaeelihhaaGreatDoorRRKau
import Derived.Test.YtjkpelaeelihhaaGreatDoorRRKav
import Derived.Test.YtjkpelaeelihhaaGreatDoorRRKaw
import Derived.Test.YtjkpelaeelihhaaGreatDoorRRKax
import Derived.Test.YtjkpelaeelihhaaGreatDoorRRKba
import Derived.Test.YtjkpelaeelihhaaGreatDoorRRKbb
import Derived.Test.YtjkpelaeelihhaaGreatDoorRRKbc
import Derived.Test.YtjkpelaeelihhaaGreatDoorRRKbd
import Derived.Test.YtjkpelaeelihhaaGreatDoorRRKbe
import Derived.Test.YtjkpelaeelihhaaGreatDoorRRKbf
import Derived.Test.YtjkpelaeelihhaaGreatDoorRRKbg
import Derived.Below
import Derived.Deep.Draws
import Derived.Deep.AppendLies
import Derived.Maps.AppendAt
import Derived.OwnWalk
import Derived.Laws.BytesArg
import Derived.Laws.MakeOwn
import Derived.Laws.OwnMore
import Derived.Deep.OwnRows
import Derived.Tactics
import Derived.Lib.ConvBytes
import Derived.Laws.Slices
import Derived.WalkKit
import Derived.KernelRfl
import Derived.RowKit3
import Derived.Deep.LoopGhost
import Derived.Deep.QuietTactic
import Derived.BigQuiet
import Derived.WideLaws
import Derived.Deep.DeepCutAuto
import Derived.Deep.CutBlock
import Derived.Deep.RegionHeld3
import Derived.Laws.Rows
import Derived.Lib.AppendStr
import Derived.ArgAppend
import Derived.Laws.IdiomCopy
import Derived.RowKit
import Derived.Lib.FrozenHead
section
set_option linter.unusedVariables false
set_option linter.unusedSimpArgs false
namespace Go.Proofs.YtjkpelaeelihhaaGreatDoorRRW.PrintWords
open Go.RowKit
/-! ### 5. append(v, x): behind 'at_builtin'; the goal's world is 'W.alloc' of the variadic's box -/
section
variable {P : Program} {ops : Array Oper} {rest : List Oper} {o : Oper} {a : Act} {Q : Exit → Act → World → Prop}
end
/-! ### 6. make([]T, n), n an Int; a literal -/
section
variable {P : Program}
end
/-! ### 8. append(v, ys...): ys a slice that is read, nil let in; behind 'at_builtin' -/
section
variable {P : Program} {ops : Array Oper} {rest : List Oper} {o : Oper} {a : Act} {Q : Exit → Act → World → Prop}
end
section
variable {P : Program} {ops : Array Oper} {rest : List Oper} {o : Oper} {a : Act} {Q : Exit → Act → World → Prop}
end
/-! ### 14. append as_ one step of a region that draws its order: for 'go_region_law' (and a region walked by hand) -/
section
variable {P : Program} {ops : Array Oper} {o : Oper} {a : Act} {Q : Exit → Act → World → Prop} {K : Act → World → Prop}
end
/-! ### 16. Parts 3 to 9 for ANY element of one cell: 'enc' (Value.int k, Value.string, Value.bool), a default 'd' -/
section
variable {α : Type} {enc : α → Value} {d : α}
end
section
variable {α : Type} {P : Program} {ops : Array Oper} {rest : List Oper} {o : Oper} {a : Act} {Q : Exit → Act → World → Prop}
end
/-! ### 19. Results that lie in memory beside others -/
section
variable {P : Program}
end
section
variable {α : Type} {R R' : α → List Value → Prop} {e : TypeId} {size : Nat} {w w1 : World} {base : Nat} {v : Value} {ps : List α}
end
section
variable {P : Program} {ops : Array Oper} {rest : List Oper} {o : Oper} {a : Act} {Q : Exit → Act → World → Prop} {α : Type} {R : α → List Value → Prop}
end
section
variable {P : Program} {ops : Array Oper} {o : Oper} {a : Act} {Q : Exit → Act → World → Prop} {K : Act → World → Prop} {α : Type} {R : α → List Value → Prop}
end
/-! ### 21. Cuts of a slice that came in, lengths spelled as_ the lists' -/
section
variable {α : Type} {P : Program}
end
/-! ### 22. append([]byte, s...), s a string; behind 'at_builtin'. (No word on where the new row lies: two rows of bytes at once don't go by it.) -/
section
variable {P : Program} {ops : Array Oper} {rest : List Oper} {o : Oper} {a : Act} {Q : Exit → Act → World → Prop}
end
namespace Kd
section
variable {α : Type} {d : Kd α} {e : Nat} {w w1 : World} {base : Nat} {ok ok' : Nat → Prop} {v : Value} {xs : List α}
end
section
variable {P : Program} {ops : Array Oper} {rest : List Oper} {o : Oper} {a : Act} {Q : Exit → Act → World → Prop} {α : Type}
end
section
variable {P : Program} {ops : Array Oper} {o : Oper} {a : Act} {Q : Exit → Act → World → Prop} {Kc : Act → World → Prop} {α : Type}
end
end Kd
/-! ### 24. Kinds nested in themselves -/
namespace Kd
section
variable {α : Type} {F : Kd α → Kd α} {sz : Nat} {E : List Nat} {hs : ∀ n, (upto F sz E n).sz = sz} {hE : ∀ n q, q ∈ (upto F sz E n).E → q ∈ E}
end
end Kd
/-! ### 25. What is held while another row is written: 'ok' says that its rows are none of that row's block -/
namespace Kd
end Kd
/-! ### 26. Words for a printer that takes every slice by its kind -/
namespace Kd
section
variable {α β : Type} {d : Kd α} {d' : Kd β} {e e' : Nat} {w w1 W : World} {base b b' : Nat} {ok ok' okv oku : Nat → Prop} {v u : Value} {xs : List α} {ys : List β}
end
/-! #### scalars -/
section
variable {w W : World} {A : Option Addr} {n : Nat}
variable {α : Type} {enc : α → Value} {h1 : ∀ x, (enc x).oneCell' = true} {e base g cap : Nat} {ok : Nat → Prop} {xs : List α}
end
/-! #### events: a letter for what make and a literal leave -/
section
variable {P : Program} {ops : Array Oper} {rest : List Oper} {o : Oper} {a : Act} {Q : Exit → Act → World → Prop}
variable {α : Type}
end
end Kd
section
variable {P : Program}
end
section
variable {w w1 : World} {base n size : Nat} {e : TypeId} {v : Value} {xs : List Value}
end
section
variable {P : Program}
end
/-! ### 28. The kinds' words for cuts: R_take; Q (a row that may begin inside its block) with all of R's movers -/
namespace Kd
section
variable {α : Type} {d : Kd α} {e : Nat} {w w1 W : World} {base : Nat} {ok ok' : Nat → Prop} {v : Value} {xs : List α}
end
section
variable {P : Program} {ops : Array Oper} {rest : List Oper} {o : Oper} {a : Act} {Q' : Exit → Act → World → Prop} {Kc : Act → World → Prop} {α : Type}
end
end Kd
/-! ### 29. Movers that ask of another row no more than they need: for R and for Q -/
namespace Kd
section
variable {α : Type} {d : Kd α} {e e' : Nat} {w w1 W : World} {base : Nat} {ok : Nat → Prop} {u v : Value} {xs : List α}
end
end Kd
namespace Kd
section
variable {α : Type} {d : Kd α} {e base g n cap : Nat} {ok okp : Nat → Prop} {W : World} {xs : List α}
end
end Kd
/-! ### 31. What came in, put into what is made: 'fixed d w0' (read in w0, whatever happens since), 'or_ a b', 'mix' (a slice that came in, or one that is made) -/
namespace Kd
section
variable {α : Type} {F : Kd α → Kd α} {sz : Nat} {E : List Nat} {hs : ∀ n, (upto F sz E n).sz = sz} {hE : ∀ n q, q ∈ (upto F sz E n).E → q ∈ E}
end
end Kd
/-! ### 32. A whole row appended, of elements of any kind; copy onto a row of scalars of one's own -/
namespace Kd
section
variable {P : Program} {ops : Array Oper} {rest : List Oper} {o : Oper} {a : Act} {Q : Exit → Act → World → Prop} {α : Type}
end
end Kd
namespace Kd
section
variable {P : Program} {ops : Array Oper} {rest : List Oper} {o : Oper} {a : Act} {Q : Exit → Act → World → Prop} {α : Type}
end
end Kd
namespace Kd
section
variable {α : Type} {k : Kd α} {w : World} {A : Option Addr} {xs : List α} {m c : Nat}
theorem C_drop (h : k.C w A xs.length xs) (hm : m ≤ xs.length) (hc : xs.length ≤ c) : k.C w (if c = m then A else A.map (·.add (m * k.sz))) (xs.drop m).length (xs.drop m) := by
  have hl : (xs.drop m).length = xs.length - m := List.length_drop
  refine ⟨rfl, by rw [hl]; have := h.2.1; omega, fun hp => ?_⟩
  rw [hl] at hp
  obtain ⟨ad, rfl, hcell⟩ := h.2.2 (by omega)
  rw [if_neg (by omega)]
  refine ⟨ad.add (m * k.sz), rfl, fun j p hj => ?_⟩
  rw [List.getElem?_drop] at hj
  obtain ⟨cs, h1, h2, h3⟩ := hcell (m + j) p hj
  refine ⟨cs, h1, h2, fun i u hu => ?_⟩
  rw [add_add, show m * k.sz + (j * k.sz + i) = (m + j) * k.sz + i by rw [Nat.add_mul]; omega]
  exact h3 i u hu
end
end Kd
section
variable {P : Program}
end
namespace Kd
section
variable {α β : Type} {d : Kd α} {d' : Kd β} {e e' base base' n : Nat} {ok ok' : Nat → Prop} {w W w1 W1 : World} {v u : Value} {xs : List α} {ys : List β} {A : Option Addr} {c : Nat}
end
section
variable {α : Type} {enc : α → Value} {h1 : ∀ x, (enc x).oneCell' = true} {w W : World} {A : Option Addr} {n g : Nat} {xs : List α}
end
end Kd
namespace Kd
section
variable {α : Type} {d : Kd α} {e base g : Nat} {ok : Nat → Prop} {w w1 : World} {v : Value} {xs : List α} {o : Obj}
end
end Kd
section
variable {P : Program} {ops : Array Oper} {rest : List Oper} {o : Oper} {a : Act} {Q : Exit → Act → World → Prop}
end
namespace Kd
section
variable {α : Type} {enc : α → Value} {h1 : ∀ x, (enc x).oneCell' = true} {e base g n cap : Nat} {ok : Nat → Prop} {W : World} {xs : List α}
end
end Kd
section
variable {P : Program} {ops : Array Oper} {rest : List Oper} {o : Oper} {a : Act} {Q : Exit → Act → World → Prop}
end
namespace Kd
section
variable {α : Type} {enc : α → Value} {h1 : ∀ x, (enc x).oneCell' = true} {e base g n cap : Nat} {ok : Nat → Prop} {W : World} {xs : List α}
end
end Kd
section
variable {P : Program} {ops : Array Oper} {rest : List Oper} {o : Oper} {a : Act} {Q : Exit → Act → World → Prop} {W : World}
end
/-! ### 36. Events as_ one step of a region that draws (for one_, two_, three_) -/
section
variable {P : Program} {ops : Array Oper} {o : Oper} {a : Act} {Q : Exit → Act → World → Prop} {Kc : Act → World → Prop}
namespace Kd
variable {α : Type}
end Kd
end
section
variable {P : Program} {tmps : Array Value} {w : World}
end
/-! ### 38. 'out = append(out[:k], out[k+1:]...)': an element taken out of a row of one's own, in place -/
namespace Kd
section
variable {P : Program} {α : Type}
end
section
variable {P : Program} {ops : Array Oper} {rest : List Oper} {o : Oper} {a : Act} {Q : Exit → Act → World → Prop} {Kc : Act → World → Prop} {α : Type}
end
end Kd
end Go.Proofs.YtjkpelaeelihhaaGreatDoorRRW.PrintWords
end
section
/-! ### 46. Values that share: what is only read, with the blocks it lies in (its footprint 'ok'): Foot, F (a row that is read), FK (an element's cells) -/
namespace Go.Proofs.YtjkpelaeelihhaaGreatDoorRRW.PrintWords
open Go.RowKit
namespace Foot
variable {P Q : World → Prop} {W W1 : World} {ok ok' : Nat → Prop}
theorem imp (h : Foot P W ok) (hi : ∀ W', P W' → Q W') : Foot Q W ok := fun W' hW => hi W' (h W' hW)
end Foot
namespace Kd
section
variable {α β : Type} {d : Kd α} {e base n n' cc g N : Nat} {ok ok' okp S : Nat → Prop} {w w0 w1 W W1 : World} {A A' : Option Addr} {u v v1 : Value} {xs : List α} {xs' : List β} {d' : Kd β} {x : α} {c : List Value}
theorem F_imp (h : F d W ok A n xs) (hi : ∀ W', d.C W' A n xs → d'.C W' A' n' xs') : F d' W ok A' n' xs' := Foot.imp h hi
theorem R_F (h : d.R e W base ok (.slice A n cc) xs) : F d W ok A n xs := fun W' hW => by
  have h2 := R_reads' (R_step h hW)
  rw [h2.1]
  exact h2.2.2
end
end Kd
end Go.Proofs.YtjkpelaeelihhaaGreatDoorRRW.PrintWords
end
section
/-! ### 47. N: a row of the call's own whose elements share (what they lead to is only read) -/
namespace Go.Proofs.YtjkpelaeelihhaaGreatDoorRRW.PrintWords
open Go.RowKit
namespace Kd
section
variable {α : Type} {d : Kd α} {e base n cc g : Nat} {ok ok' okp S : Nat → Prop} {w w1 W W1 : World} {A : Option Addr} {u v v1 : Value} {xs : List α} {x : α} {c : List Value}
theorem N_reads (h : N d e w base ok v xs) : ∃ A c, v = .slice A xs.length c ∧ xs.length ≤ c ∧ d.C w A xs.length xs := by
  obtain ⟨A, c, rfl⟩ := N_slice h
  exact ⟨A, c, rfl, (N_reads' h).2⟩
end
end Kd
end Go.Proofs.YtjkpelaeelihhaaGreatDoorRRW.PrintWords
end
section
namespace Go.Proofs.YtjkpelaeelihhaaGreatDoorRRW.PrintMore
open Go.RowKit Go.Proofs.YtjkpelaeelihhaaGreatDoorRRW.PrintWords
namespace Kd
open Go.Proofs.YtjkpelaeelihhaaGreatDoorRRW.PrintWords.Kd
end Kd
namespace Kd
open Go.Proofs.YtjkpelaeelihhaaGreatDoorRRW.PrintWords.Kd
section
variable {α : Type} {d : Kd α} {e base g N : Nat} {ok : Nat → Prop} {W w1 : World} {u v : Value} {xs : List α}
end
end Kd
end Go.Proofs.YtjkpelaeelihhaaGreatDoorRRW.PrintMore
namespace Go.Proofs.YtjkpelaeelihhaaGreatDoorRRW.PrintWords
open Go.RowKit
section
variable {P : Program} {ops : Array Oper} {rest : List Oper} {o : Oper} {a : Act} {Q : Exit → Act → World → Prop} {W : World}
end
namespace Kd
section
variable {α : Type} {d : Kd α} {e base : Nat} {ok : Nat → Prop} {W w1 : World} {v : Value} {xs : List α}
end
section
variable {α : Type} {d : Kd α} {e base g n cap : Nat} {ok oki okp : Nat → Prop} {W : World} {xs : List α} {i : Int} {c : List Value}
end
section
variable {α : Type} {d : Kd α} {e base b b' g N : Nat} {ok ok1 : Nat → Prop} {W W2 w1 : World} {u v : Value} {xs ys : List α} {S : Nat → Prop}
end
end Kd
end Go.Proofs.YtjkpelaeelihhaaGreatDoorRRW.PrintWords
namespace Go.Proofs.YtjkpelaeelihhaaGreatDoorRRW.PrintWords
open Go.RowKit
namespace Kd
section
variable {α β : Type} {d : Kd α} {e base base' n m c g N' lo hi : Nat} {ok ok' S : Nat → Prop} {w W w1 : World} {A : Option Addr} {ad : Addr} {u v v1 : Value} {xs : List α}
theorem R_V (h : d.R e W base ok v xs) : V d e W base' ok v xs := by
  obtain ⟨A, c, rfl⟩ := R_slice h
  exact ⟨A, c, rfl, (R_reads' h).2.1, R_F h⟩
theorem S_V (h : Kd.S d e W base ok v xs) : V d e W base' ok v xs := R_V (S_R h)
theorem F_cut (h : F d W ok A xs.length xs) (hm : m ≤ xs.length) (hc : xs.length ≤ c) : F d W ok (if c = m then A else A.map (·.add (m * d.sz))) (xs.drop m).length (xs.drop m) := F_imp h (fun _ hC => C_drop hC hm hc)
end
end Kd
end Go.Proofs.YtjkpelaeelihhaaGreatDoorRRW.PrintWords
end
section
namespace Go.Proofs.YtjkpelaeelihhaaGreatDoorRR.Y
open Go.RowKit Go.Proofs.YtjkpelaeelihhaaGreatDoorRRW.PrintWords Go.Proofs.YtjkpelaeelihhaaGreatDoorRRW.PrintLast Go.Proofs.YtjkpelaeelihhaaGreatDoorRRW.PrintMore
theorem rdU_at (l : List S49) (i : Nat) (h : i < l.length) : rd_T49 l (i : Int) = l[i] := by
  simp [rd_T49, h]
end Go.Proofs.YtjkpelaeelihhaaGreatDoorRR.Y
end
section
namespace Go.Proofs.YtjkpelaeelihhaaGreatDoorRR.Y
open Go.RowKit Go.Proofs.YtjkpelaeelihhaaGreatDoorRRW.PrintWords Go.Proofs.YtjkpelaeelihhaaGreatDoorRRW.PrintLast Go.Proofs.YtjkpelaeelihhaaGreatDoorRRW.PrintMore
theorem numbers_l0 (e : S49) (hl : e.f4.length < 1000000) (hv : ∀ p ∈ e.f4, 0 ≤ p ∧ p < 2147483647) :
    ∀ (m i k : Nat), i + m = e.f4.length → m < k → spec_DrawNumbers.l0 k [e] (e.f4.take i) (e.f4.length : Int) (i : Int) = some (e.f3, e.f4, true)
  | 0, i, k + 1, h, hk => by
    have g : rd_T49 [e] 0 = e := rdU_at [e] 0 (by simp)
    rw [spec_DrawNumbers.l0, if_neg (by omega), if_pos (by simp), g, List.take_of_length_le (by omega)]
  | m + 1, i, k + 1, h, hk => by
    have g : rd_T49 [e] 0 = e := rdU_at [e] 0 (by simp)
    have hi : i < e.f4.length := by omega
    obtain ⟨p0, p1⟩ := hv _ (List.getElem_mem hi)
    rw [spec_DrawNumbers.l0, if_pos (by omega), if_pos (by simp), g, param_f _ i _ hi p0 p1, Option.bind_some, if_pos (by rw [List.length_take]; omega), wrap64_of _ (by omega) (by omega)]
    have e3 : e.f4.take i ++ [e.f4[i]] = e.f4.take (i + 1) := (List.take_succ_eq_append_getElem hi).symm
    rw [e3]
    exact numbers_l0 e hl hv m (i + 1) k (by omega) (by omega)
/-- One control sequence: its command, all its parameters. -/
theorem numbers_f (e : S49) (hk2 : e.f0 = 2) (hl : e.f4.length < 1000000) (hv : ∀ p ∈ e.f4, 0 ≤ p ∧ p < 2147483647) (k : Nat) (hk : e.f4.length + 1 < k) :
    spec_DrawNumbers.f k [e] = some (e.f3, e.f4, true) := by
  obtain ⟨k, rfl⟩ : ∃ k', k = k' + 1 := ⟨k - 1, by omega⟩
  have g : rd_T49 [e] 0 = e := rdU_at [e] 0 (by simp)
  unfold spec_DrawNumbers.f
  rw [if_pos (by simp), if_pos (by simp), g, hk2, spec_DrawNumbers.j0, if_neg (by simp), if_pos (by simp), g]
  exact numbers_l0 e hl hv e.f4.length 0 k (by omega) (by omega)
theorem same_l0 (a : List Int) (hl : a.length < 1000000) : ∀ (m i k : Nat), i + m = a.length → m < k → spec_SameInts.l0 k a a (a.length : Int) (i : Int) = some true
  | 0, i, k + 1, h, hk => by rw [spec_SameInts.l0, if_neg (by omega)]
  | m + 1, i, k + 1, h, hk => by
    rw [spec_SameInts.l0, if_pos (by omega), if_pos (by omega), if_pos (by omega), if_pos (by omega), if_pos rfl, wrap64_of _ (by omega) (by omega)]
    exact same_l0 a hl m (i + 1) k (by omega) (by omega)
theorem same_f (a : List Int) (hl : a.length < 1000000) (k : Nat) (hk : a.length < k) : spec_SameInts.f k a a = some true := by
  unfold spec_SameInts.f
  rw [if_pos rfl]
  exact same_l0 a hl a.length 0 k (by omega) hk
end Go.Proofs.YtjkpelaeelihhaaGreatDoorRR.Y
end
section
namespace Go.Proofs.YtjkpelaeelihhaaGreatDoorRR.Y
open Go.RowKit Go.Proofs.YtjkpelaeelihhaaGreatDoorRRW.PrintWords Go.Proofs.YtjkpelaeelihhaaGreatDoorRRW.PrintLast Go.Proofs.YtjkpelaeelihhaaGreatDoorRRW.PrintMore
set_option linter.unusedSimpArgs false
set_option linter.unusedVariables false
set_option maxRecDepth 100000
def curQ : Int := (impl_Pack.f 0 32 113).getD 0
def curT (m : Nat) : ByteArray := (impl_MakeNumber.f 23 (m : Int)).getD ⟨#[]⟩
def curE (m : Nat) : X.Ev := match X.run .gr (X.nb (curT m)) with
  | some (_, e :: _) => e
  | _ => X.evExec 0
theorem cur_made (m : Nat) (hm : m < 7) : impl_MakeNumber.f 23 (m : Int) = some (curT m) := by
  rcases (show m = 0 ∨ m = 1 ∨ m = 2 ∨ m = 3 ∨ m = 4 ∨ m = 5 ∨ m = 6 by omega) with rfl | rfl | rfl | rfl | rfl | rfl | rfl <;> kernel_rfl
theorem cur_size (m : Nat) (hm : m < 7) : (curT m).size ≤ 100 := by
  have h : (List.range 7).all (fun m => decide ((curT m).size ≤ 100)) = true := by kernel_rfl
  have := List.all_eq_true.1 h m (List.mem_range.2 hm)
  simpa using this
theorem cur_run (m : Nat) (hm : m < 7) : X.run .gr (X.nb (curT m)) = some (.gr, [curE m]) := by
  rcases (show m = 0 ∨ m = 1 ∨ m = 2 ∨ m = 3 ∨ m = 4 ∨ m = 5 ∨ m = 6 by omega) with rfl | rfl | rfl | rfl | rfl | rfl | rfl <;> kernel_rfl
theorem cur_ev (m : Nat) (hm : m < 7) : (cv (X.toS (curE m))).f0 = 2 ∧ (cv (X.toS (curE m))).f3 = curQ ∧ (cv (X.toS (curE m))).f4 = [(m : Int)] := by
  rcases (show m = 0 ∨ m = 1 ∨ m = 2 ∨ m = 3 ∨ m = 4 ∨ m = 5 ∨ m = 6 by omega) with rfl | rfl | rfl | rfl | rfl | rfl | rfl <;> exact ⟨by kernel_rfl, by kernel_rfl, by kernel_rfl⟩
theorem cur_pack : impl_Pack.f 0 32 113 = some curQ := by kernel_rfl
theorem cursor_plan (l : List Op) (h : RightPlan l) (m : Nat) (hm : m < 7) : ∃ (T : List Int) (n : Nat) (el : List S48) (x : S48),
    laws_drawText.f 400 l = some T ∧ T.length ≤ 2000 ∧ impl_Feed.f 32 4096 (T ++ bytesOf (curT m)) = some el ∧ el.length = n + 1 ∧ n ≤ 1000 ∧ el.drop n = [x] ∧ laws_drawEvents.f 400 [x] = some [cv x] ∧ spec_DrawNumbers.f 400 [cv x] = some (curQ, [(m : Int)], true) := by
  obtain ⟨ps, T, p0, p1, _, p3, p4, p5, p6⟩ := plan_run l h
  generalize (ps.map (·.2)).flatten = ev at p4 p5 p6
  obtain ⟨e1, e2, e3⟩ := cur_ev m hm
  have hb : ints T ++ bytesOf (curT m) = ints (T ++ X.nb (curT m)) := by rw [bytesOf_ints]; simp [ints]
  refine ⟨ints T, ev.length, (ev ++ [curE m]).map X.toS, X.toS (curE m), p1 400 (Nat.le_refl _), by simpa [ints] using p3, ?_, by simp, by omega, ?_, ?_, ?_⟩
  · rw [hb]
    have hs := cur_size m hm
    have hn : (X.nb (curT m)).length = (curT m).size := by simp [X.nb]
    exact feed_l _ (by rw [List.length_append, hn]; omega) (X.run_of p4 (cur_run m hm))
  · rw [List.map_append, List.drop_append_of_le_length (by simp)]
    simp
  · exact drawEvents_f [X.toS (curE m)] (by simp) 400 (by simp)
  · have := numbers_f (cv (X.toS (curE m))) e1 (by rw [e3]; simp) (fun p hp => by rw [e3] at hp; rw [List.mem_singleton.1 hp]; omega) 400 (by rw [e3]; simp)
    rw [this, e2, e3]
theorem cur_same (m : Nat) : spec_SameInts.f 400 [(m : Int)] [(m : Int)] = some true := same_f [(m : Int)] (by simp) 400 (by simp)
end Go.Proofs.YtjkpelaeelihhaaGreatDoorRR.Y
end
section
namespace Go.Proofs.YtjkpelaeelihhaaGreatDoorRR.Y
open Go.RowKit Go.Proofs.YtjkpelaeelihhaaGreatDoorRRW.PrintWords Go.Proofs.YtjkpelaeelihhaaGreatDoorRRW.PrintLast Go.Proofs.YtjkpelaeelihhaaGreatDoorRRW.PrintMore
set_option linter.unusedSimpArgs false
set_option linter.unusedVariables false
/-- No cell of a row of n is frozen. -/
def FzE (fz : Nat × Nat) (n : Nat) : Prop := fz.2 = 0 ∨ n ≤ fz.1
/-- A row of one's own of which no cell is frozen. -/
structure RowE (w : World) (base g e cap n : Nat) (xs : List Value) : Prop where
  bg : base ≤ g
  row : ∃ cur fz, w.heap[g]? = some (.cells cur e fz) ∧ FzE fz cur.size ∧ cur.size = cap ∧ cur.toList.take n = xs
  nc : n ≤ cap
  cm : cap ≤ maxLen
  len : xs.length = n
def OwnE (w : World) (base e : Nat) (v : Value) (r : List Int) : Prop := ∃ g cap, v = .slice (some ⟨g, 0, none⟩) r.length cap ∧ RowE w base g e cap r.length (nums .u8 r)
theorem RowE.move {w w' : World} {base g e cap n : Nat} {xs : List Value} (h : RowE w base g e cap n xs) (hm : w'.heap[g]? = w.heap[g]?) : RowE w' base g e cap n xs := by
  obtain ⟨h1, ⟨cur, fz, h2⟩, h3, h4, h5⟩ := h
  exact ⟨h1, ⟨cur, fz, hm.trans h2.1, h2.2⟩, h3, h4, h5⟩
theorem RowE.lt {w : World} {base g e cap n : Nat} {xs : List Value} (h : RowE w base g e cap n xs) : g < w.heap.size := by
  obtain ⟨cur, fz, h2, _⟩ := h.row
  exact blk_lt h2
theorem own_low {w : World} {base base' e : Nat} {v : Value} {r : List Int} (h : OwnE w base e v r) (hb : base' ≤ base) : OwnE w base' e v r := by
  obtain ⟨g, cap, h1, h2, h3, h4, h5, h6⟩ := h
  exact ⟨g, cap, h1, Nat.le_trans hb h2, h3, h4, h5, h6⟩
theorem own_keep {w w' : World} {base e : Nat} {v : Value} {r : List Int} (h : OwnE w base e v r) (hb : Below w.heap.size w w') : OwnE w' base e v r := by
  obtain ⟨g, cap, h1, h2⟩ := h
  exact ⟨g, cap, h1, h2.move (hb.block g h2.lt)⟩
theorem own_readsE {w : World} {base e : Nat} {v : Value} {r : List Int} (h : OwnE w base e v r) : ∃ A c, v = .slice A r.length c ∧ r.length ≤ c ∧ (Kd.int .u8).C w A r.length r := by
  obtain ⟨g, cap, h1, h2⟩ := h
  obtain ⟨cur, fz, h3, _, h4, h5⟩ := h2.row
  have hlen : r.length ≤ 9223372036854775807 := Nat.le_trans (Nat.le_trans h2.nc h2.cm) (by decide)
  refine ⟨_, _, h1, h2.nc, Kd.C_of_reads (d := (0 : Int)) (enc := Value.int .u8) (h1 := fun _ => rfl) ⟨rfl, hlen, fun hn => ⟨_, rfl, fun j hj => ?_⟩⟩⟩
  have hadd : (⟨g, 0, none⟩ : Addr).add j = ⟨g, j, none⟩ := by unfold Addr.add; split <;> simp_all
  rw [hadd, cell_of_row w g j cur e fz h3]
  have h6 : cur.toList[j]? = (cur.toList.take r.length)[j]? := by rw [List.getElem?_take, if_pos hj]
  rw [← Array.getElem?_toList, h6, h5]
  simp [nums, hj, List.getD_eq_getElem?_getD]
theorem own_blockE {w : World} {base e : Nat} {v : Value} {r : List Int} (h : OwnE w base e v r) : ∀ k, v.ownBlock = some k → base ≤ k := by
  obtain ⟨g, cap, rfl, h2⟩ := h
  intro k hk
  simp [Value.ownBlock] at hk
  subst hk
  exact h2.bg
/-- Cells stored into a row of which none is frozen. -/
theorem run_storeCells_atE (P : Program) (g o : Nat) (t : TypeId) (fz : Nat × Nat) : ∀ (vs : List Value) (i : Nat) (cur : Array Value) (w : World), w.heap[g]? = some (.cells cur t fz) → FzE fz cur.size → o + i + vs.length ≤ cur.size → (∀ v ∈ vs, v.oneCell' = true) →
    (storeCells ⟨g, o, none⟩ vs i).run P w = .ok () (w.setRow g (cur.toList.take (o + i) ++ vs ++ cur.toList.drop (o + i + vs.length)).toArray)
  | [], i, cur, w, hg, _, _, _ => by
    simp only [storeCells, List.append_nil, List.length_nil, Nat.add_zero, List.take_append_drop, Array.toArray_toList]
    rw [setRow_self w g cur t fz hg]
    rfl
  | v :: rest, i, cur, w, hg, hfz, hl, h1 => by
    have hi : o + i < cur.size := by simp at hl; omega
    have hadd : (⟨g, o, none⟩ : Addr).add i = ⟨g, o + i, none⟩ := by unfold Addr.add; split <;> simp_all
    have hcell : w.cell? ⟨g, o + i, none⟩ = some cur[o + i] := by simp [World.cell?, hg, hi]
    have hfro : w.frozen? ⟨g, o + i, none⟩ = false := by
      obtain ⟨lo, hi'⟩ := fz
      simp only [World.frozen?, hg, Bool.and_eq_false_iff, decide_eq_false_iff_not]
      rcases hfz with h | h
      · right
        simp only at h
        omega
      · left
        simp only at h
        omega
    have hst : (store ((⟨g, o, none⟩ : Addr).add i) v).run P w = .ok () (w.setRow g (cur.setIfInBounds (o + i) v)) := by
      rw [hadd, run_store P w _ v _ (h1 v (by simp)), hcell]
      simp [hfro, setCell_eq_setRow w g (o + i) cur t fz v hg]
    have ih := run_storeCells_atE P g o t fz rest (i + 1) (cur.setIfInBounds (o + i) v) (w.setRow g (cur.setIfInBounds (o + i) v)) (setRow_heap w g cur _ t _ hg) (by simpa using hfz) (by simp at hl ⊢; omega) (fun x hx => h1 x (by simp [hx]))
    simp only [storeCells, Sem.run_bind, hst, Result.andThen_ok, ih, setRow_setRow]
    congr 3
    have e := list_seg_step cur.toList (o + i) v rest (by simp at hl ⊢; omega)
    simpa [Array.toList_setIfInBounds, Nat.add_assoc] using e
theorem strCells_bytesOf (s : ByteArray) : Lib.strCells s = nums .u8 (bytesOf s) := by
  simp [Lib.strCells, nums, bytesOf]
section
variable {P : Program} (w : World)
theorem run_append_room_stringE (t u ty e : TypeId) (i : TypeInfo) (ht : P.underlying t = some (.slice e)) (hu : P.underlying u = some .string) (hi : P.info? e = some i) (hs1 : i.size = 1)
    (g sLen sCap : Nat) (cur : Array Value) (fz : Nat × Nat) (hg : w.heap[g]? = some (.cells cur e fz)) (hfz : FzE fz cur.size) (s : ByteArray)
    (hroom : sLen + s.size ≤ sCap) (hfit : sLen + s.size ≤ cur.size) :
    (Builtin.append_ #[t, u] ty #[.slice (some ⟨g, 0, none⟩) sLen sCap, .string s]).run P w =
      .ok (.slice (some ⟨g, 0, none⟩) (sLen + s.size) sCap) (w.setRow g (cur.toList.take sLen ++ Lib.strCells s ++ cur.toList.drop (sLen + s.size)).toArray) := by
  have hf := Lib.run_firstCells_string (P := P) w 1 s
  have hst := run_storeCells_atE P g sLen e fz (Lib.strCells s) 0 cur w hg hfz (by simpa [Lib.strCells_length] using hfit) (Lib.strCells_oneCell s)
  simp only [Nat.add_zero, Lib.strCells_length] at hst
  simp [Builtin.append_, run_underlying ht, run_underlying hu, sizeOf, typeInfo, hi, hs1, Builtin.lenOf, hroom, hf, Addr.add_lit, hst]
theorem run_append_own_stringE (base : Nat) (t u ty e : TypeId) (i : TypeInfo) (ht : P.underlying t = some (.slice e)) (hu : P.underlying u = some .string) (hi : P.info? e = some i) (hz : i.zero = some (.int .u8 0))
    (hsize : i.size = 1) (hby : i.bytes = 1)
    (v : Value) (r : List Int) (hown : OwnE w base e v r) (s : ByteArray)
    (h63 : r.length + s.size ≤ maxLen) (hbytes : r.length + s.size ≤ 140737488355328) (hbase : base ≤ w.heap.size) :
    ∃ v' w', (Builtin.append_ #[t, u] ty #[v, .string s]).run P w = .ok v' w' ∧ OwnE w' base e v' (r ++ bytesOf s) ∧ w.grownBy w' v.ownBlock := by
  obtain ⟨g, cap, rfl, hbg, ⟨cur, fz, hg, hfz, hcs, htake⟩, hnc, hcm, hxl⟩ := hown
  have hsmall : r.length + s.size ≤ 9223372036854775807 := by simp only [maxLen] at h63; omega
  have hln : (r ++ bytesOf s).length = r.length + s.size := by rw [List.length_append, bytesOf_length]
  have hnum : nums .u8 (r ++ bytesOf s) = nums .u8 r ++ Lib.strCells s := by rw [strCells_bytesOf]; simp [nums]
  have hlen : (nums .u8 r ++ Lib.strCells s).length = r.length + s.size := by rw [List.length_append, hxl, Lib.strCells_length]
  by_cases hroom : r.length + s.size ≤ cap
  · have hr := run_append_room_stringE (P := P) w t u ty e i ht hu hi hsize g r.length cap cur fz hg hfz s hroom (by omega)
    have hsz : (cur.toList.take r.length ++ Lib.strCells s ++ cur.toList.drop (r.length + s.size)).toArray.size = cur.size := by
      simp only [List.size_toArray, List.length_append, List.length_take, List.length_drop, Array.length_toList, Lib.strCells_length]
      omega
    refine ⟨_, _, hr, ⟨g, cap, by rw [hln], hbg, ⟨_, fz, setRow_heap w g cur _ e _ hg, by rw [hsz]; exact hfz, by rw [hsz]; exact hcs, ?_⟩, by rw [hln]; exact hroom, hcm, by rw [hnum, hln, hlen]⟩, ⟨rfl, rfl, rfl, by simp, fun k _ hk => setRow_other w g k _ (fun e => hk (by simp [Value.ownBlock, e]))⟩⟩
    rw [htake, hnum, hln, ← hlen]
    exact List.take_left
  · have holds : ∀ j u, (nums .u8 r)[j]? = some u → w.cell? ((⟨g, 0, none⟩ : Addr).add j) = some u := by
      intro j u hu
      have hadd : (⟨g, 0, none⟩ : Addr).add j = ⟨g, j, none⟩ := by unfold Addr.add; split <;> simp_all
      rw [hadd, cell_of_row w g j cur e fz hg]
      rw [← htake, List.getElem?_take] at hu
      split at hu
      · simpa using hu
      · cases hu
    have hr := Lib.run_append_grow_string (P := P) w t u ty e i (.int .u8 0) ht hu hi hz ⟨g, 0, none⟩ r.length cap (nums .u8 r) (by rw [hsize]; simpa using hxl) holds s (by omega) (by omega) (by rw [hby]; exact growslice_fits (by omega) (by omega))
    have hge := grownCap_ge w (r.length + s.size) cap e
    have hcm2 : grownCap w (r.length + s.size) cap e ≤ maxLen := grownCap_le_maxLen w (r.length + s.size) cap e h63
    refine ⟨_, _, hr, ⟨w.heap.size, _, by rw [hln], hbase, ⟨_, (0, 0), heap_alloc_new w.drew _, Or.inl rfl, ?_, ?_⟩, by rw [hln]; exact hge, hcm2, by rw [hnum, hln, hlen]⟩, ⟨rfl, rfl, rfl, by simp, fun k hk _ => heap_alloc_old w.drew _ hk⟩⟩
    · have hz1 : (Value.int IntKind.u8 0).cells.size = 1 := rfl
      simp only [Array.size_append, List.size_toArray, size_zeroCells, hz1, hxl, Lib.strCells_length]
      omega
    · simp only [Array.toList_append, List.append_assoc]
      rw [← List.append_assoc, hnum, hln, ← hlen]
      exact List.take_left
/-- The operation, for a walk: the row may be one that the call's own row was not. -/
theorem wpList_append_own_stringE {ops : Array Oper} {rest : List Oper} {o : Oper} {a : Act} {Q : Exit → Act → World → Prop} (hgd : o.guard = none) (sl x : Operand) (t u : TypeId)
    (ho : o.op = .call { callee := .builtin .append, args := #[sl, x], argTypes := #[t, u] })
    (base : Nat) (e : TypeId) (i : TypeInfo) (ht : P.underlying t = some (.slice e)) (hu : P.underlying u = some .string) (hi : P.info? e = some i) (hz : i.zero = some (.int .u8 0))
    (hsize : i.size = 1) (hby : i.bytes = 1)
    (v : Value) (r : List Int) (hs : a.eval sl = v) (hown : OwnE w base e v r) (s : ByteArray) (hx : a.eval x = .string s)
    (h63 : r.length + s.size ≤ maxLen) (hbytes : r.length + s.size ≤ 140737488355328) (hbase : base ≤ w.heap.size)
    (h : ∀ v' w', OwnE w' base e v' (r ++ bytesOf s) → w.grownBy w' v.ownBlock → wpList P ops Q rest (a.put o.dst v') w') : wpList P ops Q (o :: rest) a w := by
  refine wpList_plain hgd fun K hK => ?_
  obtain ⟨v', w', hr, h2, h3⟩ := run_append_own_stringE (P := P) w base t u o.type e i ht hu hi hz hsize hby v r hown s h63 hbytes hbase
  unfold Oper.wp execOp
  simp only [ho, resolve, invoke, builtin, Sem.run_bind, Sem.run_pure, Result.andThen_ok, List.map_toArray, List.map_cons, List.map_nil, hs, hx, hr]
  exact hK _ _ (h v' w' h2 h3)
end
theorem bytesWorld_own (W : World) (E : TypeId) (s : ByteArray) (hs : s.size ≤ 140737488355328) : OwnE (Lib.bytesWorld W E s) W.heap.size E (.slice (some ⟨W.heap.size, 0, none⟩) (bytesOf s).length (grownCap W s.size 0 E)) (bytesOf s) := by
  have hlen : (bytesOf s).length = s.size := bytesOf_length s
  have hge : s.size ≤ grownCap W s.size 0 E := grownCap_ge _ _ _ _
  refine ⟨W.heap.size, _, rfl, Nat.le_refl _, ⟨_, _, Lib.bytesWorld_at_new W E s, Or.inr (Nat.le_refl _), ?_, ?_⟩, by rw [hlen]; exact hge, grownCap_le_maxLen _ _ _ _ (by simp only [maxLen]; omega), by simp [nums]⟩
  · simp only [Lib.bytesCells, Array.size_append, Array.size_map, Array.size_replicate]
    have : s.data.size = s.size := rfl
    omega
  · have h1 : (Lib.bytesCells W E s).toList = Lib.strCells s ++ List.replicate (grownCap W s.size 0 E - s.size) (Value.int .u8 0) := by simp [Lib.bytesCells, Lib.strCells]
    rw [h1, ← strCells_bytesOf, hlen, ← Lib.strCells_length s]
    exact List.take_left
theorem conv_own {P : Program} {ops : Array Oper} {rest : List Oper} {o : Oper} {a : Act} {Q : Exit → Act → World → Prop} {W : World} (T U E : TypeId) {x : Operand}
    (hgd : o.guard = none) (ho : o.op = .convert T U x) (hT : P.underlying T = some .string) (hU : P.underlying U = some (.slice E)) (hE : P.underlying E = some (.int .u8))
    (s : ByteArray) (hx : a.eval x = .string s) {r : List Int} (h : gosem_conv.f s = some r)
    (k : ∀ e w', (∃ v0_ : Value, e = Ending.returned v0_ ∧ OwnE w' W.heap.size E v0_ r ∧ Below W.heap.size W w') → ∃ v, e = Ending.returned v ∧ wpList P ops Q rest (a.put o.dst v) w') :
    wpList P ops Q (o :: rest) a W := by
  unfold gosem_conv.f at h
  split at h
  · rename_i hs
    obtain rfl := Option.some.inj h
    obtain ⟨v, hv, hk⟩ := k (.returned (.slice (some ⟨W.heap.size, 0, none⟩) (bytesOf s).length (grownCap W s.size 0 E))) (Lib.bytesWorld W E s) ⟨_, rfl, bytesWorld_own W E s hs, bytes_below (Below.refl _ _) (Nat.le_refl _) E s⟩
    injection hv with hv
    subst hv
    refine Kd.event_run hgd ?_ hk
    rw [bytesOf_length]
    unfold execOp
    simp [ho, hx, print_bytes T U E hT hU hE s W]
  · cases h
end Go.Proofs.YtjkpelaeelihhaaGreatDoorRR.Y
end
section
namespace Go.Proofs.YtjkpelaeelihhaaGreatDoorRR.Y
open Go.RowKit Go.Proofs.YtjkpelaeelihhaaGreatDoorRRW.PrintWords Go.Proofs.YtjkpelaeelihhaaGreatDoorRRW.PrintLast Go.Proofs.YtjkpelaeelihhaaGreatDoorRRW.PrintMore
attribute [local go_sem] max2_int min2_int max_two min_two max_three min_three max_four min_four   -- for this text's walks alone
set_option linter.unusedVariables false
set_option linter.unusedSimpArgs false
set_option maxHeartbeats 8000000 in
set_option maxRecDepth 100000 in
theorem laws_drawText.own (k : Nat) (A0 : Option Addr) (c0 : Nat) (l0 : List (S45)) (r : List Int) (w : World) (hT : XTab w) (hr0 : Kd.C k45 w A0 l0.length l0) (hc0 : l0.length ≤ c0) (h : laws_drawText.f k l0 = some r) :
    Calls Tryz.prog 12 #[.slice A0 l0.length c0] w fun e w' => ∃ v0_ : Value, e = .returned (v0_) ∧ OwnE w' w.heap.size 5 v0_ r ∧ Below w.heap.size w w' := by
  have hu45 := Tryz.underlying45
  have HT := Aside0.mk hT
  clear hT
  have HR0 := Aside0.mk hr0
  have HC0 := Aside0.mk hc0
  clear hr0 hc0
  have HB := Aside0.mk (Below.refl w.heap.size w)
  have H : (laws_drawText.l0 k (⟨#[]⟩ : ByteArray) l0 (l0.length : Int) 0) = some r := h
  clear h
  have H' := Aside0.mk H
  clear H
  go_enter Tryz.func12, Tryz.ntmps12
  go_wp2
  go_loopg [3, 8] k (fun kq v3 v8 w' => ∃ (x3_1 : ByteArray) (x8_1 : Int), v3 = .string x3_1 ∧ v8 = .int .i64 x8_1 ∧ Aside0 (laws_drawText.l0 kq x3_1 l0 (l0.length : Int) x8_1 = some r) ∧ Aside0 (kq ≤ k) ∧ Aside0 (Below w.heap.size w w'))
  case atStart => exact ⟨((⟨#[]⟩ : ByteArray)), (0), (by first | rfl | (simp; done) | (simp [*]; done)), (by first | rfl | (simp; done) | (simp [*]; done)), H', ⟨Nat.le_refl _⟩, ⟨by repeat (first | (with_reducible first | exact HB.out | apply below_alloc | apply pw_below_drewN | apply below_drew1) | exact HB.out)⟩⟩
  case round =>
    clear H'
    try clear c1
    obtain ⟨x3_1, x8_1, rfl, rfl, HA, HK1, HB⟩ := hrel
    cases gk with
    | zero => exact absurd HA.out (by simp [laws_drawText.l0])
    | succ k1 =>
      have H := HA.out
      clear HA
      simp only [laws_drawText.l0] at H
      by_cases c2 : x8_1 < (l0.length : Int)
      · rw [if_pos c2] at H
        have c2b0 : decide (x8_1 < (l0.length : Int)) = true := decide_eq_true c2
        clear c2
        by_cases c3 : 0 ≤ x8_1
        · rw [if_pos c3] at H
          have c3b0 : decide (0 ≤ x8_1) = true := decide_eq_true c3
          clear c3
          by_cases c4 : x8_1 < (l0.length : Int)
          · rw [if_pos c4] at H
            have c4b0 : decide (x8_1 < (l0.length : Int)) = true := decide_eq_true c4
            clear c4
            replace H := Option.bind_eq_some_iff.mp H
            obtain ⟨t187, A50, H⟩ := H
            replace H : (if x3_1.size + t187.size ≤ 9223372036854775807 then (laws_drawText.l0 k1 (x3_1 ++ t187) l0 (l0.length : Int) (wrap64 (x8_1 + 1))) else (none)) = some r := H
            have A5 := Aside0.mk A50
            clear A50
            by_cases c6 : x3_1.size + t187.size ≤ 9223372036854775807
            · rw [if_pos c6] at H
              have c6b0 := eq_true c6
              have c6b1 : decide (x3_1.size + t187.size ≤ 9223372036854775807) = true := decide_eq_true c6
              try have c6b2 : (9223372036854775807 < x3_1.size + t187.size) = False := eq_false (Nat.not_lt.2 c6)
              have H' := Aside0.mk H
              clear H
              have p185 : 0 ≤ (x8_1 : Int) := of_decide_eq_true (by first | (with_reducible assumption) | assumption)
              have q185 : x8_1 < (l0.length : Int) := of_decide_eq_true (by first | (with_reducible assumption) | assumption)
              obtain ⟨ad185, A185_4, c185_4, e185, hx185_0, hx185_1, hx185_2, hx185_3, hx185_4, hl185_4, hi185_4⟩ := at_T45 HR0.out x8_1 p185 q185
              cases e185
              replace hx185_0 := (HB.out.cell (World.block_lt_of_cell? w _ hx185_0)).trans hx185_0
              replace hx185_1 := (HB.out.cell (World.block_lt_of_cell? w _ hx185_1)).trans hx185_1
              replace hx185_2 := (HB.out.cell (World.block_lt_of_cell? w _ hx185_2)).trans hx185_2
              replace hx185_3 := (HB.out.cell (World.block_lt_of_cell? w _ hx185_3)).trans hx185_3
              replace hx185_4 := (HB.out.cell (World.block_lt_of_cell? w _ hx185_4)).trans hx185_4
              have HR185_4 := Aside0.mk hi185_4
              have HC185_4 := Aside0.mk hl185_4
              clear hi185_4 hl185_4
              replace p185 := eq_true p185
              replace q185 := eq_true q185
              go_wp2_with (first | ((with_reducible refine gate_dst (N := 5) rfl ?_); refine box_event ?hg (N := 5) ?hd (cs := #[.int .i64 0, .int .i64 0, .int .i64 0, .string (⟨#[]⟩ : ByteArray), .slice none 0 0]) (t := 45) ?hr ?_; (case hd => rfl); (case hg => rfl); (case hr => first | (go_simp; done) | (go_simp; rfl)); intro gb186 hg w7 hbox hb; have n0_ := Aside0.mk (below_step (by repeat (first | (with_reducible first | exact HB.out | apply below_alloc | apply pw_below_drewN | apply below_drew1) | exact HB.out)) hb); have n1_ := Aside0.mk (hbox); have n2_ := Aside0.mk ((by rw [hg]; exact (below_size (by repeat (first | (with_reducible first | exact HB.out | apply below_alloc | apply pw_below_drewN | apply below_drew1) | exact HB.out))) : w.heap.size ≤ gb186)); have n3_ := Aside0.mk ((by rw [hg]; exact (below_size (by repeat (first | (with_reducible first | exact HB.out | apply below_alloc | apply pw_below_drewN | apply below_drew1) | exact HB.out))) : w.heap.size ≤ gb186)); clear HB; have HB := n0_; have BK186 := n1_; have GW186 := n2_; have GE186 := n3_; clear n0_ n1_ n2_ n3_; clear hb hbox hg; have hcz8_0 : w7.cell? ⟨gb186, 0, none⟩ = some (.int .i64 0) := (blk_cell BK186.out 0).trans rfl; have hcz8_1 : w7.cell? ⟨gb186, 1, none⟩ = some (.int .i64 0) := (blk_cell BK186.out 1).trans rfl; have hcz8_2 : w7.cell? ⟨gb186, 2, none⟩ = some (.int .i64 0) := (blk_cell BK186.out 2).trans rfl; have hcz8_3 : w7.cell? ⟨gb186, 3, none⟩ = some (.string (⟨#[]⟩ : ByteArray)) := (blk_cell BK186.out 3).trans rfl; have hcz8_4 : w7.cell? ⟨gb186, 4, none⟩ = some (.slice none 0 0) := (blk_cell BK186.out 4).trans rfl; have hfz8_0 := blk_frozen BK186.out 0; have hfz8_1 := blk_frozen BK186.out 1; have hfz8_2 := blk_frozen BK186.out 2; have hfz8_3 := blk_frozen BK186.out 3; have hfz8_4 := blk_frozen BK186.out 4) | ((with_reducible refine gate_callee (f := 27) rfl ?_); refine goesL_ (some 14) rfl rfl Tryz.func27 (by kernel_rfl) rfl #[.agg #[.int .i64 ((rd_T45 l0 x8_1).f0), .int .i64 ((rd_T45 l0 x8_1).f1), .int .i64 ((rd_T45 l0 x8_1).f2), .string ((rd_T45 l0 x8_1).f3), .slice A185_4 ((rd_T45 l0 x8_1).f4).length c185_4]] rfl (by (try simp only [List.map_toArray, List.map_cons, List.map_nil]); first | done | rfl | (simp only [List.length_drop, List.length_take]; rfl)) ?_; (with_reducible refine (laws_drawMade.calls k1 ((rd_T45 l0 x8_1).f0) ((rd_T45 l0 x8_1).f1) ((rd_T45 l0 x8_1).f2) ((rd_T45 l0 x8_1).f3) _ _ ((rd_T45 l0 x8_1).f4) t187 _ ?side3 ?side1 ?side2 A5.out).mono ?_); (case side1 => exact Kd.C_below HR185_4.out (by repeat (first | (with_reducible first | exact HB.out | apply below_alloc | apply pw_below_drewN | apply below_drew1 | refine below_set ?_ GE186.out) | exact HB.out))); (case side2 => exact HC185_4.out); (case side3 => exact XTab.below HT.out (by repeat (first | (with_reducible first | exact HB.out | apply below_alloc | apply pw_below_drewN | apply below_drew1 | refine below_set ?_ GE186.out) | exact HB.out))); rintro e w9 ⟨rfl, hb⟩; refine ⟨_, rfl, ?_⟩; have n0_ := Aside0.mk (blk_below (g := gb186) (o := .cells #[.int .i64 ((rd_T45 l0 x8_1).f0), .int .i64 ((rd_T45 l0 x8_1).f1), .int .i64 ((rd_T45 l0 x8_1).f2), .string ((rd_T45 l0 x8_1).f3), .slice A185_4 ((rd_T45 l0 x8_1).f4).length c185_4] 45 (0, 0)) (by (with_reducible repeat (first | refine blk_drewN ?_ _ | refine blk_drew ?_ | refine blk_alloc ?_ _)); refine blk_put (cs := #[.int .i64 ((rd_T45 l0 x8_1).f0), .int .i64 ((rd_T45 l0 x8_1).f1), .int .i64 ((rd_T45 l0 x8_1).f2), .string ((rd_T45 l0 x8_1).f3), .slice none 0 0]) ?_ 4 _ rfl; (with_reducible repeat (first | refine blk_drewN ?_ _ | refine blk_drew ?_ | refine blk_alloc ?_ _)); refine blk_put (cs := #[.int .i64 ((rd_T45 l0 x8_1).f0), .int .i64 ((rd_T45 l0 x8_1).f1), .int .i64 ((rd_T45 l0 x8_1).f2), .string (⟨#[]⟩ : ByteArray), .slice none 0 0]) ?_ 3 _ rfl; (with_reducible repeat (first | refine blk_drewN ?_ _ | refine blk_drew ?_ | refine blk_alloc ?_ _)); refine blk_put (cs := #[.int .i64 ((rd_T45 l0 x8_1).f0), .int .i64 ((rd_T45 l0 x8_1).f1), .int .i64 0, .string (⟨#[]⟩ : ByteArray), .slice none 0 0]) ?_ 2 _ rfl; (with_reducible repeat (first | refine blk_drewN ?_ _ | refine blk_drew ?_ | refine blk_alloc ?_ _)); refine blk_put (cs := #[.int .i64 ((rd_T45 l0 x8_1).f0), .int .i64 0, .int .i64 0, .string (⟨#[]⟩ : ByteArray), .slice none 0 0]) ?_ 1 _ rfl; (with_reducible repeat (first | refine blk_drewN ?_ _ | refine blk_drew ?_ | refine blk_alloc ?_ _)); refine blk_put (cs := #[.int .i64 0, .int .i64 0, .int .i64 0, .string (⟨#[]⟩ : ByteArray), .slice none 0 0]) ?_ 0 _ rfl; (with_reducible repeat (first | refine blk_drewN ?_ _ | refine blk_drew ?_ | refine blk_alloc ?_ _)); exact BK186.out) hb); have n1_ := Aside0.mk (below_step (by repeat (first | (with_reducible first | exact HB.out | apply below_alloc | apply pw_below_drewN | apply below_drew1 | refine below_set ?_ GE186.out) | exact HB.out)) hb); clear BK186; clear HB; have BK186 := n0_; have HB := n1_; clear n0_ n1_; (try clear hb); (try clear hb2); (try clear hk); (try clear hi)))
              go_roundg k1
              case measure => have := HK1.out; omega
              case rel => exact ⟨(x3_1 ++ t187), (wrap64 (x8_1 + 1)), (by first | rfl | (simp; done) | (simp [*]; done)), (by first | rfl | (simp; done) | (simp [*]; done)), H', ⟨by have := HK1.out; omega⟩, ⟨by repeat (first | (with_reducible first | exact HB.out | apply below_alloc | apply pw_below_drewN | apply below_drew1 | refine below_set ?_ GE186.out) | exact HB.out)⟩⟩
            · rw [if_neg c6] at H
              exact absurd H (by simp)
          · rw [if_neg c4] at H
            exact absurd H (by simp)
        · rw [if_neg c3] at H
          exact absurd H (by simp)
      · rw [if_neg c2] at H
        have c2b0 : decide (x8_1 < (l0.length : Int)) = false := decide_eq_false c2
        clear c2
        replace H := Option.bind_eq_some_iff.mp H
        obtain ⟨t188, A100, H⟩ := H
        replace H : (some t188) = some r := H
        have A10 := Aside0.mk A100
        clear A100
        obtain rfl := Option.some.inj H
        go_wp2_with (first | ((with_reducible refine gate_dst (N := 18) rfl ?_); refine conv_own 9 31 5 rfl rfl Tryz.underlying9 Tryz.underlying31 Tryz.underlying5 x3_1 rfl A10.out ?_; rintro e w11 ⟨v189, rfl, ho0, hb⟩; refine ⟨_, rfl, ?_⟩; have n0_ := Aside0.mk (own_low ho0 (below_size (by repeat (first | (with_reducible first | exact HB.out | apply below_alloc | apply pw_below_drewN | apply below_drew1) | exact HB.out)))); have n1_ := Aside0.mk (below_step (by repeat (first | (with_reducible first | exact HB.out | apply below_alloc | apply pw_below_drewN | apply below_drew1) | exact HB.out)) hb); clear HB; have HO190 := n0_; have HB := n1_; clear n0_ n1_; (try clear hb); (try clear hb2); (try clear hk); (try clear hi); (try clear ho0)))
        go_ret
        exact ⟨_, by first | rfl | (simp [errW_none, errW_some] <;> rfl) | (simp [*, errW_none, errW_some] <;> rfl), HO190.out, by repeat (first | (with_reducible first | exact HB.out | apply below_alloc | apply pw_below_drewN | apply below_drew1) | exact HB.out)⟩
end Go.Proofs.YtjkpelaeelihhaaGreatDoorRR.Y
end
