/- Texts of this claim, joined: WWords WShare WN WMore XText XDraw XNums Y64D Y65D Y66D XRep. Of each, what the claim uses. -/
import Derived.Test.YtjkpelaeelihhaaGreatDoorRRKaa
import Derived.Test.YtjkpelaeelihhaaGreatDoorRRKab
import Derived.Test.YtjkpelaeelihhaaGreatDoorRRKac
import Derived.Test.YtjkpelaeelihhaaGreatDoorRRKad
import Derived.Test.YtjkpelaeelihhaaGreatDoorRRKae
import Derived.Test.YtjkpelaeelihhaaGreatDoorRRKaf
import Derived.Test.YtjkpelaeelihhaaGreatDoorRRKag
import Derived.Test.YtjkpelaeelihhaaGreatDoorRRKah
import Derived.Test.YtjkpelaeelihhaaGreatDoorRRKai
import Derived.Test.YtjkpelaeelihhaaGreatDoorRRKaj
import Derived.Test.YtjkpelaeelihhaaGreatDoorRRKak
import Derived.Test.YtjkpelaeelihhaaGreatDoorRRKal
import Derived.Test.YtjkpelaeelihhaaGreatDoorRRKam
import Derived.Test.YtjkpelaeelihhaaGreatDoorRRKan
import Derived.Test.YtjkpelaeelihhaaGreatDoorRRKao
import Derived.Test.YtjkpelaeelihhaaGreatDoorRRKap
import Derived.Test.YtjkpelaeelihhaaGreatDoorRRKaq
import Derived.Test.YtjkpelaeelihhaaGreatDoorRRKar
import Derived.Test.YtjkpelaeelihhaaGreatDoorRRKas
import Derived.Test.YtjkpelaeelihhaaGreatDoorRRKat
import Derived.Test.YtjkpelaeelihhaaGreatDoorRRKau
import Derived.Test.YtjkpelaeelihhaaGreatDoorRRKav
import Derived.Test.YtjkpelaeelihhaaGreatDoorRRKaw
import Derived.Test.YtjkpelaeelihhaaGreatDoorRRKax
import Derived.Test.YtjkpelaeelihhaaGreatDoorRRKba
import Derived.Test.YtjkpelaeelihhaaGreatDoorRRKbb
import Derived.Test.YtjkpelaeelihhaaGreatDoorRRKbc
import Derived.Below
import Derived.Deep.Draws
import Derived.Deep.AppendLies
import Derived.Maps.AppendAt
import Derived.OwnWalk
import Derived.Laws.BytesArg
import Derived.Laws.MakeOwn
import Derived.Laws.OwnMore
import Derived.Deep.OwnRows
import Derived.Tactics
import Derived.Lib.ConvBytes
import Derived.Laws.Slices
import Derived.WalkKit
import Derived.KernelRfl
import Derived.RowKit3
import Derived.Deep.LoopGhost
import Derived.Deep.QuietTactic
import Derived.BigQuiet
import Derived.WideLaws
import Derived.Deep.DeepCutAuto
import Derived.Deep.CutBlock
import Derived.Deep.RegionHeld3
import Derived.Laws.Rows
import Derived.Lib.AppendStr
import Derived.ArgAppend
import Derived.Laws.IdiomCopy
import Derived.RowKit
import Derived.Lib.ItoaNum
section
set_option linter.unusedVariables false
set_option linter.unusedSimpArgs false
namespace Go.Proofs.YtjkpelaeelihhaaGreatDoorRRW.PrintWords
open Go.RowKit
/-! ### 5. append(v, x): behind 'at_builtin'; the goal's world is 'W.alloc' of the variadic's box -/
section
variable {P : Program} {ops : Array Oper} {rest : List Oper} {o : Oper} {a : Act} {Q : Exit → Act → World → Prop}
end
/-! ### 6. make([]T, n), n an Int; a literal -/
section
variable {P : Program}
end
/-! ### 8. append(v, ys...): ys a slice that is read, nil let in; behind 'at_builtin' -/
section
variable {P : Program} {ops : Array Oper} {rest : List Oper} {o : Oper} {a : Act} {Q : Exit → Act → World → Prop}
end
section
variable {P : Program} {ops : Array Oper} {rest : List Oper} {o : Oper} {a : Act} {Q : Exit → Act → World → Prop}
end
/-! ### 14. append as_ one step of a region that draws its order: for 'go_region_law' (and a region walked by hand) -/
section
variable {P : Program} {ops : Array Oper} {o : Oper} {a : Act} {Q : Exit → Act → World → Prop} {K : Act → World → Prop}
end
/-! ### 16. Parts 3 to 9 for ANY element of one cell: 'enc' (Value.int k, Value.string, Value.bool), a default 'd' -/
section
variable {α : Type} {enc : α → Value} {d : α}
end
section
variable {α : Type} {P : Program} {ops : Array Oper} {rest : List Oper} {o : Oper} {a : Act} {Q : Exit → Act → World → Prop}
end
/-! ### 19. Results that lie in memory beside others -/
section
variable {P : Program}
end
section
variable {α : Type} {R R' : α → List Value → Prop} {e : TypeId} {size : Nat} {w w1 : World} {base : Nat} {v : Value} {ps : List α}
end
section
variable {P : Program} {ops : Array Oper} {rest : List Oper} {o : Oper} {a : Act} {Q : Exit → Act → World → Prop} {α : Type} {R : α → List Value → Prop}
end
section
variable {P : Program} {ops : Array Oper} {o : Oper} {a : Act} {Q : Exit → Act → World → Prop} {K : Act → World → Prop} {α : Type} {R : α → List Value → Prop}
end
/-! ### 21. Cuts of a slice that came in, lengths spelled as_ the lists' -/
section
variable {α : Type} {P : Program}
end
/-! ### 22. append([]byte, s...), s a string; behind 'at_builtin'. (No word on where the new row lies: two rows of bytes at once don't go by it.) -/
section
variable {P : Program} {ops : Array Oper} {rest : List Oper} {o : Oper} {a : Act} {Q : Exit → Act → World → Prop}
end
namespace Kd
section
variable {α : Type} {d : Kd α} {e : Nat} {w w1 : World} {base : Nat} {ok ok' : Nat → Prop} {v : Value} {xs : List α}
end
section
variable {P : Program} {ops : Array Oper} {rest : List Oper} {o : Oper} {a : Act} {Q : Exit → Act → World → Prop} {α : Type}
end
section
variable {P : Program} {ops : Array Oper} {o : Oper} {a : Act} {Q : Exit → Act → World → Prop} {Kc : Act → World → Prop} {α : Type}
end
end Kd
/-! ### 24. Kinds nested in themselves -/
namespace Kd
section
variable {α : Type} {F : Kd α → Kd α} {sz : Nat} {E : List Nat} {hs : ∀ n, (upto F sz E n).sz = sz} {hE : ∀ n q, q ∈ (upto F sz E n).E → q ∈ E}
end
end Kd
/-! ### 25. What is held while another row is written: 'ok' says that its rows are none of that row's block -/
namespace Kd
end Kd
/-! ### 26. Words for a printer that takes every slice by its kind -/
namespace Kd
section
variable {α β : Type} {d : Kd α} {d' : Kd β} {e e' : Nat} {w w1 W : World} {base b b' : Nat} {ok ok' okv oku : Nat → Prop} {v u : Value} {xs : List α} {ys : List β}
end
/-! #### scalars -/
section
variable {w W : World} {A : Option Addr} {n : Nat}
variable {α : Type} {enc : α → Value} {h1 : ∀ x, (enc x).oneCell' = true} {e base g cap : Nat} {ok : Nat → Prop} {xs : List α}
end
/-! #### events: a letter for what make and a literal leave -/
section
variable {P : Program} {ops : Array Oper} {rest : List Oper} {o : Oper} {a : Act} {Q : Exit → Act → World → Prop}
variable {α : Type}
end
end Kd
section
variable {P : Program}
end
section
variable {w w1 : World} {base n size : Nat} {e : TypeId} {v : Value} {xs : List Value}
end
section
variable {P : Program}
end
/-! ### 28. The kinds' words for cuts: R_take; Q (a row that may begin inside its block) with all of R's movers -/
namespace Kd
section
variable {α : Type} {d : Kd α} {e : Nat} {w w1 W : World} {base : Nat} {ok ok' : Nat → Prop} {v : Value} {xs : List α}
end
section
variable {P : Program} {ops : Array Oper} {rest : List Oper} {o : Oper} {a : Act} {Q' : Exit → Act → World → Prop} {Kc : Act → World → Prop} {α : Type}
end
end Kd
/-! ### 29. Movers that ask of another row no more than they need: for R and for Q -/
namespace Kd
section
variable {α : Type} {d : Kd α} {e e' : Nat} {w w1 W : World} {base : Nat} {ok : Nat → Prop} {u v : Value} {xs : List α}
end
end Kd
namespace Kd
section
variable {α : Type} {d : Kd α} {e base g n cap : Nat} {ok okp : Nat → Prop} {W : World} {xs : List α}
end
end Kd
/-! ### 31. What came in, put into what is made: 'fixed d w0' (read in w0, whatever happens since), 'or_ a b', 'mix' (a slice that came in, or one that is made) -/
namespace Kd
section
variable {α : Type} {F : Kd α → Kd α} {sz : Nat} {E : List Nat} {hs : ∀ n, (upto F sz E n).sz = sz} {hE : ∀ n q, q ∈ (upto F sz E n).E → q ∈ E}
end
end Kd
/-! ### 32. A whole row appended, of elements of any kind; copy onto a row of scalars of one's own -/
namespace Kd
section
variable {P : Program} {ops : Array Oper} {rest : List Oper} {o : Oper} {a : Act} {Q : Exit → Act → World → Prop} {α : Type}
end
end Kd
namespace Kd
section
variable {P : Program} {ops : Array Oper} {rest : List Oper} {o : Oper} {a : Act} {Q : Exit → Act → World → Prop} {α : Type}
end
end Kd
namespace Kd
section
variable {α : Type} {k : Kd α} {w : World} {A : Option Addr} {xs : List α} {m c : Nat}
theorem C_take (h : k.C w A xs.length xs) (hm : m ≤ xs.length) : k.C w A (xs.take m).length (xs.take m) := by
  have hl : (xs.take m).length = m := by rw [List.length_take]; omega
  refine ⟨rfl, by rw [hl]; have := h.2.1; omega, fun hp => ?_⟩
  obtain ⟨ad, e, hc⟩ := h.2.2 (by omega)
  refine ⟨ad, e, fun j p hj => hc j p ?_⟩
  rw [List.getElem?_take] at hj
  split at hj
  · exact hj
  · cases hj
end
end Kd
section
variable {P : Program}
end
theorem ReadsInt.ofRow {k : IntKind} {w : World} {a : Option Addr} {len cap : Nat} {zs : List Int} (h : (a = none ∧ len = 0 ∧ cap = 0 ∧ zs = []) ∨ ∃ x, a = some x ∧ len ≤ cap ∧ cap ≤ maxLen ∧ zs.length = cap ∧ (∀ i, i < zs.length → w.cell? (x.add i) = some (.int k (zs.getD i 0))) ∧ ∀ n ∈ zs, (Lit.int k n).wf = true) :
    ∃ l : List Int, len = l.length ∧ ReadsInt w k a l.length l ∧ l.length ≤ maxLen ∧ ∀ x ∈ l, (Lit.int k x).wf = true := by
  rcases h with ⟨rfl, rfl, rfl, rfl⟩ | ⟨x, rfl, hl, hm, hz, hc, hw⟩
  · exact ⟨[], rfl, ReadsInt.nil _ _, Nat.zero_le _, fun x hx => by simp at hx⟩
  · have e : (zs.take len).length = len := by simp; omega
    have hm' : len ≤ maxLen := Nat.le_trans hl hm
    refine ⟨zs.take len, e.symm, ⟨rfl, by rw [e]; simpa [maxLen] using hm', fun _ => ⟨x, rfl, fun j hj => ?_⟩⟩, by rw [e]; exact hm', fun y hy => hw y (List.mem_of_mem_take hy)⟩
    rw [e] at hj
    rw [hc j (by omega)]
    simp [List.getD, List.getElem?_take, hj]
theorem ReadsInt.ofRowC {k : IntKind} {w : World} {a : Option Addr} {len cap : Nat} {zs : List Int} (h : (a = none ∧ len = 0 ∧ cap = 0 ∧ zs = []) ∨ ∃ x, a = some x ∧ len ≤ cap ∧ cap ≤ maxLen ∧ zs.length = cap ∧ (∀ i, i < zs.length → w.cell? (x.add i) = some (.int k (zs.getD i 0))) ∧ ∀ n ∈ zs, (Lit.int k n).wf = true) :
    ∃ l : List Int, len = l.length ∧ ReadsInt w k a l.length l ∧ l.length ≤ maxLen ∧ (∀ x ∈ l, (Lit.int k x).wf = true) ∧ l.length ≤ cap := by
  have hl : len ≤ cap := by
    rcases h with ⟨_, rfl, rfl, _⟩ | ⟨_, _, h, _⟩
    · exact Nat.le_refl _
    · exact h
  obtain ⟨l, e, h1, h2, h3⟩ := ReadsInt.ofRow h
  exact ⟨l, e, h1, h2, h3, e ▸ hl⟩
namespace Kd
section
variable {α β : Type} {d : Kd α} {d' : Kd β} {e e' base base' n : Nat} {ok ok' : Nat → Prop} {w W w1 W1 : World} {v u : Value} {xs : List α} {ys : List β} {A : Option Addr} {c : Nat}
end
section
variable {α : Type} {enc : α → Value} {h1 : ∀ x, (enc x).oneCell' = true} {w W : World} {A : Option Addr} {n g : Nat} {xs : List α}
end
end Kd
namespace Kd
section
variable {α : Type} {d : Kd α} {e base g : Nat} {ok : Nat → Prop} {w w1 : World} {v : Value} {xs : List α} {o : Obj}
end
end Kd
section
variable {P : Program} {ops : Array Oper} {rest : List Oper} {o : Oper} {a : Act} {Q : Exit → Act → World → Prop}
end
namespace Kd
section
variable {α : Type} {enc : α → Value} {h1 : ∀ x, (enc x).oneCell' = true} {e base g n cap : Nat} {ok : Nat → Prop} {W : World} {xs : List α}
end
end Kd
section
variable {P : Program} {ops : Array Oper} {rest : List Oper} {o : Oper} {a : Act} {Q : Exit → Act → World → Prop}
end
namespace Kd
section
variable {α : Type} {enc : α → Value} {h1 : ∀ x, (enc x).oneCell' = true} {e base g n cap : Nat} {ok : Nat → Prop} {W : World} {xs : List α}
theorem R_putg (h : (scalar enc h1).R e W base ok (.slice (some ⟨g, 0, none⟩) n cap) xs) (i : Int) (x : α) : (scalar enc h1).R e (W.setCell ⟨g, i.toNat, none⟩ (enc x)) base ok (.slice (some ⟨g, 0, none⟩) n cap) (xs.set i.toNat x) ∧ W.grownBy (W.setCell ⟨g, i.toNat, none⟩ (enc x)) (some g) := by
  obtain ⟨rfl, _⟩ := R_reads' h
  exact R_put h i x
end
end Kd
section
variable {P : Program} {ops : Array Oper} {rest : List Oper} {o : Oper} {a : Act} {Q : Exit → Act → World → Prop} {W : World}
end
/-! ### 36. Events as_ one step of a region that draws (for one_, two_, three_) -/
section
variable {P : Program} {ops : Array Oper} {o : Oper} {a : Act} {Q : Exit → Act → World → Prop} {Kc : Act → World → Prop}
theorem event_step {W w1 : World} {v : Value} (hw : Region.wanted o (yielded ops a.tmps) = true) (hrun : (execOp a.eval o).run P W = .ok (.value v) w1) (h : Kc (a.put o.dst v) w1) : if Region.wanted o (yielded ops a.tmps) = true then Oper.wp P o a W Kc Q else Kc (a.put o.dst undef) W := by
  rw [if_pos hw]
  unfold Oper.wp
  rw [hrun]
  exact h
namespace Kd
variable {α : Type}
theorem R_append_rows_step (d : Kd α) {Rr : α → List Value → Prop} {w0 W : World} (base : Nat) (hw : Region.wanted o (yielded ops a.tmps) = true) (s x : Operand) (t e : TypeId) (z : Value) (bytes : Nat)
    (ho : o.op = .call { callee := .builtin .append, args := #[s, x], argTypes := #[t, t] })
    (ht : P.underlying t = some (.slice e)) (hinfo : (P.info? e).map (fun i => (i.zero, i.size, i.bytes)) = some (some z, d.sz, bytes)) (hz : z.cells.size = d.sz) (hs0 : 0 < d.sz) (hb0 : 0 < bytes)
    (v : Value) (xs ys : List α) (A : Option Addr) (m c : Nat) (ok okp : Nat → Prop) (hs : a.eval s = v) (hx : a.eval x = .slice A m c)
    (HO : d.R e W base ok v xs) (HR : ReadsRow Rr d.sz W A m ys) (hKM : ∀ x cs, Rr x cs → d.M W base okp x cs) (hokp : ∀ k, okp k → ok k ∧ some k ≠ v.ownBlock) (hfresh : ∀ k, W.heap.size ≤ k → ok k)
    (HB : Below base w0 W) (hbase : base ≤ W.heap.size) (hl : (xs.length + m) * bytes ≤ 140737488355328)
    (h : ∀ v1 w1, d.R e w1 base ok v1 (xs ++ ys) → Below base w0 w1 → W.grownBy w1 v.ownBlock → (v1.ownBlock = v.ownBlock ∨ ∃ b, v1.ownBlock = some b ∧ W.heap.size ≤ b) → Kc (a.put o.dst v1) w1) :
    if Region.wanted o (yielded ops a.tmps) = true then Oper.wp P o a W Kc Q else Kc (a.put o.dst undef) W := by
  obtain ⟨i0, hi, hzz⟩ := Option.map_eq_some_iff.1 hinfo
  simp only [Prod.mk.injEq] at hzz
  obtain ⟨hz0, hz1, hz2⟩ := hzz
  have hm : ys.length = m := HR.1
  have hlen : xs.length + m ≤ 140737488355328 := Nat.le_trans (Nat.le_mul_of_pos_right _ hb0) hl
  obtain ⟨hok, inner, hown, hr⟩ := HO
  have hrun : ∃ v1 w1, (Builtin.append_ #[t, t] o.type #[v, .slice A m c]).run P W = .ok v1 w1 ∧ d.R e w1 base ok v1 (xs ++ ys) ∧ W.grownBy w1 v.ownBlock ∧ (v1.ownBlock = v.ownBlock ∨ ∃ b, v1.ownBlock = some b ∧ W.heap.size ≤ b) := by
    rcases A with _ | ad
    · have h0 : m = 0 := by
        rcases Nat.eq_zero_or_pos m with h0 | h0
        · exact h0
        · obtain ⟨ad, h, _⟩ := HR.2.2 h0
          cases h
      subst h0
      obtain rfl : ys = [] := List.eq_nil_of_length_eq_zero hm
      refine ⟨v, W, ?_, by rw [List.append_nil]; exact ⟨hok, inner, hown, hr⟩, World.grownBy.refl W _, .inl rfl⟩
      rcases hown.2 with ⟨rfl, hn⟩ | ⟨g, cap, cur, rfl, _, _, hnc, _⟩
      · simp [Builtin.append_, run_underlying ht, sizeOf, typeInfo, hi, Builtin.lenOf, Builtin.firstCells]
      · simp [Builtin.append_, run_underlying ht, sizeOf, typeInfo, hi, Builtin.lenOf, Builtin.firstCells, hnc, storeCells]
    · obtain ⟨news, hnr, hnc⟩ := ReadsRow.inner_ HR
      have hnM : Reps (d.M W base okp) d.sz ys news := hnr.imp_ (fun p c hp => hKM p c hp)
      have hone : ∀ u ∈ news, u.oneCell' = true := by
        intro u hu
        obtain ⟨q, hq, rfl⟩ := List.mem_iff_getElem.1 hu
        have hql : q / d.sz < ys.length := by
          rw [Nat.div_lt_iff_lt_mul hs0]
          rw [← hnM.1]
          exact hq
        have hc := hnM.2 (q / d.sz) _ (List.getElem?_eq_getElem hql)
        refine d.K_one (d.K_of_M hc) _ ?_
        rw [List.mem_iff_getElem?]
        refine ⟨q % d.sz, ?_⟩
        rw [List.getElem?_take, if_pos (Nat.mod_lt _ hs0), List.getElem?_drop, Nat.mul_comm, Nat.div_add_mod, List.getElem?_eq_getElem hq]
      obtain ⟨v1, w1, hrun, h2, hg, _, hat⟩ := run_append_own_at (P := P) W base t o.type e i0 z d.sz bytes ht hi hz0 hz1 hz2 hz hs0 v xs.length inner hown ad m c news (by rw [hnM.1, hm]) hnc hone (by simp only [maxLen]; omega) hl hbase
      have hat' : v1.ownBlock = v.ownBlock ∨ ∃ b, v1.ownBlock = some b ∧ W.heap.size ≤ b := by
        rcases hat with hat | hat
        · exact .inl hat
        · exact .inr ⟨_, hat, Nat.le_refl _⟩
      have hne : ∀ k, some k ≠ v.ownBlock → k < W.heap.size → some k ≠ v1.ownBlock := by
        intro k hk hlt
        rcases hat' with hat | ⟨b, hb, hle⟩
        · rw [hat]; exact hk
        · rw [hb]
          intro he
          injection he with he
          omega
      have step : ∀ {q : α} {c : List Value} {o : Nat → Prop}, d.M W base o q c → (∀ k, o k → ok k ∧ some k ≠ v.ownBlock) → d.M w1 base (fun k => ok k ∧ some k ≠ v1.ownBlock) q c := by
        intro q c o hq ho
        have h1 := d.M_move (w1 := w1) (fun k hk => hg.block k hk.2.2.1 (ho k hk.1).2) (d.M_bound hq)
        exact d.M_mono (fun k hk => ⟨(ho k hk.1).1, hne k (ho k hk.1).2 hk.2.2.1⟩) h1
      refine ⟨v1, w1, hrun, ⟨fun k hk => ?_, inner ++ news, by rw [List.length_append, hm]; exact h2, reps_append (hr.imp_ (fun _ _ hq => step hq (fun _ hk => hk))) (hnM.imp_ (fun _ _ hq => step hq hokp))⟩, hg, hat'⟩
      rcases hat' with hat | ⟨b, hb, hle⟩
      · exact hok k (hat ▸ hk)
      · rw [hb] at hk
        injection hk with hk
        exact hfresh k (by omega)
  obtain ⟨v1, w1, hr1, h1, hg, hat⟩ := hrun
  rw [if_pos hw]
  unfold Oper.wp execOp
  simp only [ho, resolve, invoke, builtin, Sem.run_bind, Sem.run_pure, Result.andThen_ok, List.map_toArray, List.map_cons, List.map_nil, hs, hx, hr1]
  exact h v1 w1 h1 (HB.grown hg hbase (own_base hown)) hg hat
end Kd
end
section
variable {P : Program} {tmps : Array Value} {w : World}
end
/-! ### 38. 'out = append(out[:k], out[k+1:]...)': an element taken out of a row of one's own, in place -/
namespace Kd
section
variable {P : Program} {α : Type}
end
section
variable {P : Program} {ops : Array Oper} {rest : List Oper} {o : Oper} {a : Act} {Q : Exit → Act → World → Prop} {Kc : Act → World → Prop} {α : Type}
end
end Kd
end Go.Proofs.YtjkpelaeelihhaaGreatDoorRRW.PrintWords
end
section
/-! ### 46. Values that share: what is only read, with the blocks it lies in (its footprint 'ok'): Foot, F (a row that is read), FK (an element's cells) -/
namespace Go.Proofs.YtjkpelaeelihhaaGreatDoorRRW.PrintWords
open Go.RowKit
namespace Foot
variable {P Q : World → Prop} {W W1 : World} {ok ok' : Nat → Prop}
end Foot
namespace Kd
section
variable {α β : Type} {d : Kd α} {e base n n' cc g N : Nat} {ok ok' okp S : Nat → Prop} {w w0 w1 W W1 : World} {A A' : Option Addr} {u v v1 : Value} {xs : List α} {xs' : List β} {d' : Kd β} {x : α} {c : List Value}
theorem R_F (h : d.R e W base ok (.slice A n cc) xs) : F d W ok A n xs := fun W' hW => by
  have h2 := R_reads' (R_step h hW)
  rw [h2.1]
  exact h2.2.2
end
end Kd
end Go.Proofs.YtjkpelaeelihhaaGreatDoorRRW.PrintWords
end
section
/-! ### 47. N: a row of the call's own whose elements share (what they lead to is only read) -/
namespace Go.Proofs.YtjkpelaeelihhaaGreatDoorRRW.PrintWords
open Go.RowKit
namespace Kd
section
variable {α : Type} {d : Kd α} {e base n cc g : Nat} {ok ok' okp S : Nat → Prop} {w w1 W W1 : World} {A : Option Addr} {u v v1 : Value} {xs : List α} {x : α} {c : List Value}
theorem N_reads (h : N d e w base ok v xs) : ∃ A c, v = .slice A xs.length c ∧ xs.length ≤ c ∧ d.C w A xs.length xs := by
  obtain ⟨A, c, rfl⟩ := N_slice h
  exact ⟨A, c, rfl, (N_reads' h).2⟩
end
end Kd
end Go.Proofs.YtjkpelaeelihhaaGreatDoorRRW.PrintWords
end
section
namespace Go.Proofs.YtjkpelaeelihhaaGreatDoorRRW.PrintMore
open Go.RowKit Go.Proofs.YtjkpelaeelihhaaGreatDoorRRW.PrintWords
namespace Kd
open Go.Proofs.YtjkpelaeelihhaaGreatDoorRRW.PrintWords.Kd
end Kd
namespace Kd
open Go.Proofs.YtjkpelaeelihhaaGreatDoorRRW.PrintWords.Kd
section
variable {α : Type} {d : Kd α} {e base g N : Nat} {ok : Nat → Prop} {W w1 : World} {u v : Value} {xs : List α}
end
end Kd
end Go.Proofs.YtjkpelaeelihhaaGreatDoorRRW.PrintMore
namespace Go.Proofs.YtjkpelaeelihhaaGreatDoorRRW.PrintWords
open Go.RowKit
section
variable {P : Program} {ops : Array Oper} {rest : List Oper} {o : Oper} {a : Act} {Q : Exit → Act → World → Prop} {W : World}
end
namespace Kd
section
variable {α : Type} {d : Kd α} {e base : Nat} {ok : Nat → Prop} {W w1 : World} {v : Value} {xs : List α}
end
section
variable {α : Type} {d : Kd α} {e base g n cap : Nat} {ok oki okp : Nat → Prop} {W : World} {xs : List α} {i : Int} {c : List Value}
end
section
variable {α : Type} {d : Kd α} {e base b b' g N : Nat} {ok ok1 : Nat → Prop} {W W2 w1 : World} {u v : Value} {xs ys : List α} {S : Nat → Prop}
end
end Kd
end Go.Proofs.YtjkpelaeelihhaaGreatDoorRRW.PrintWords
namespace Go.Proofs.YtjkpelaeelihhaaGreatDoorRRW.PrintWords
open Go.RowKit
namespace Kd
section
variable {α β : Type} {d : Kd α} {e base base' n m c g N' lo hi : Nat} {ok ok' S : Nat → Prop} {w W w1 : World} {A : Option Addr} {ad : Addr} {u v v1 : Value} {xs : List α}
theorem R_V (h : d.R e W base ok v xs) : V d e W base' ok v xs := by
  obtain ⟨A, c, rfl⟩ := R_slice h
  exact ⟨A, c, rfl, (R_reads' h).2.1, R_F h⟩
theorem S_V (h : Kd.S d e W base ok v xs) : V d e W base' ok v xs := R_V (S_R h)
theorem foot_int {k : IntKind} {l : List Int} (h : (Kd.int k).C w (some ad) n l) (i : Int) (h0 : 0 ≤ i) (h1 : i < n) : w.cell? (ad.add i.toNat) = some (.int k (rd l i)) := by
  obtain ⟨ad', he, hc⟩ := at_int h i h0 h1
  injection he with he
  subst he
  exact hc
end
end Kd
end Go.Proofs.YtjkpelaeelihhaaGreatDoorRRW.PrintWords
end
section
namespace Go.Proofs.YtjkpelaeelihhaaGreatDoorRR.X
open Go.RowKit Go.Proofs.YtjkpelaeelihhaaGreatDoorRRW.PrintWords
set_option linter.unusedSimpArgs false
theorem nb_bytesOf (s : ByteArray) : (bytesOf s).map Int.toNat = nb s := by simp [bytesOf, nb, Function.comp_def]
end Go.Proofs.YtjkpelaeelihhaaGreatDoorRR.X
end
section
namespace Go.Proofs.YtjkpelaeelihhaaGreatDoorRR.Y
open Go.RowKit Go.Proofs.YtjkpelaeelihhaaGreatDoorRRW.PrintWords Go.Proofs.YtjkpelaeelihhaaGreatDoorRRW.PrintLast Go.Proofs.YtjkpelaeelihhaaGreatDoorRRW.PrintMore
theorem rdU_at (l : List S49) (i : Nat) (h : i < l.length) : rd_T49 l (i : Int) = l[i] := by
  simp [rd_T49, h]
theorem feed_f (s : ByteArray) (h : s.size ≤ 100000000000) {st : X.PS} {evs : List X.Ev} (hr : X.run .gr (X.nb s) = some (st, evs)) : impl_Feed.f 32 4096 (bytesOf s) = some (evs.map X.toS) := by
  have hp : ∀ x ∈ bytesOf s, 0 ≤ x := fun x hx => by
    obtain ⟨b, _, rfl⟩ := List.mem_map.1 hx
    omega
  have hl : (bytesOf s).length ≤ 100000000000 := by rw [bytesOf_length]; exact h
  unfold impl_Feed.f
  rw [if_pos ⟨rfl, rfl, hl, hp⟩, X.nb_bytesOf, hr]
  rfl
end Go.Proofs.YtjkpelaeelihhaaGreatDoorRR.Y
end
section
namespace Go.Proofs.YtjkpelaeelihhaaGreatDoorRR.Y
open Go.RowKit Go.Proofs.YtjkpelaeelihhaaGreatDoorRRW.PrintWords Go.Proofs.YtjkpelaeelihhaaGreatDoorRRW.PrintLast Go.Proofs.YtjkpelaeelihhaaGreatDoorRRW.PrintMore
theorem numbers_l0 (e : S49) (hl : e.f4.length < 1000000) (hv : ∀ p ∈ e.f4, 0 ≤ p ∧ p < 2147483647) :
    ∀ (m i k : Nat), i + m = e.f4.length → m < k → spec_DrawNumbers.l0 k [e] (e.f4.take i) (e.f4.length : Int) (i : Int) = some (e.f3, e.f4, true)
  | 0, i, k + 1, h, hk => by
    have g : rd_T49 [e] 0 = e := rdU_at [e] 0 (by simp)
    rw [spec_DrawNumbers.l0, if_neg (by omega), if_pos (by simp), g, List.take_of_length_le (by omega)]
  | m + 1, i, k + 1, h, hk => by
    have g : rd_T49 [e] 0 = e := rdU_at [e] 0 (by simp)
    have hi : i < e.f4.length := by omega
    obtain ⟨p0, p1⟩ := hv _ (List.getElem_mem hi)
    rw [spec_DrawNumbers.l0, if_pos (by omega), if_pos (by simp), g, param_f _ i _ hi p0 p1, Option.bind_some, if_pos (by rw [List.length_take]; omega), wrap64_of _ (by omega) (by omega)]
    have e3 : e.f4.take i ++ [e.f4[i]] = e.f4.take (i + 1) := (List.take_succ_eq_append_getElem hi).symm
    rw [e3]
    exact numbers_l0 e hl hv m (i + 1) k (by omega) (by omega)
/-- One control sequence: its command, all its parameters. -/
theorem numbers_f (e : S49) (hk2 : e.f0 = 2) (hl : e.f4.length < 1000000) (hv : ∀ p ∈ e.f4, 0 ≤ p ∧ p < 2147483647) (k : Nat) (hk : e.f4.length + 1 < k) :
    spec_DrawNumbers.f k [e] = some (e.f3, e.f4, true) := by
  obtain ⟨k, rfl⟩ : ∃ k', k = k' + 1 := ⟨k - 1, by omega⟩
  have g : rd_T49 [e] 0 = e := rdU_at [e] 0 (by simp)
  unfold spec_DrawNumbers.f
  rw [if_pos (by simp), if_pos (by simp), g, hk2, spec_DrawNumbers.j0, if_neg (by simp), if_pos (by simp), g]
  exact numbers_l0 e hl hv e.f4.length 0 k (by omega) (by omega)
theorem same_l0 (a : List Int) (hl : a.length < 1000000) : ∀ (m i k : Nat), i + m = a.length → m < k → spec_SameInts.l0 k a a (a.length : Int) (i : Int) = some true
  | 0, i, k + 1, h, hk => by rw [spec_SameInts.l0, if_neg (by omega)]
  | m + 1, i, k + 1, h, hk => by
    rw [spec_SameInts.l0, if_pos (by omega), if_pos (by omega), if_pos (by omega), if_pos (by omega), if_pos rfl, wrap64_of _ (by omega) (by omega)]
    exact same_l0 a hl m (i + 1) k (by omega) (by omega)
theorem same_f (a : List Int) (hl : a.length < 1000000) (k : Nat) (hk : a.length < k) : spec_SameInts.f k a a = some true := by
  unfold spec_SameInts.f
  rw [if_pos rfl]
  exact same_l0 a hl a.length 0 k (by omega) hk
end Go.Proofs.YtjkpelaeelihhaaGreatDoorRR.Y
end
section
namespace Go.Proofs.YtjkpelaeelihhaaGreatDoorRR.Y
open Go.RowKit Go.Proofs.YtjkpelaeelihhaaGreatDoorRRW.PrintWords Go.Proofs.YtjkpelaeelihhaaGreatDoorRRW.PrintLast Go.Proofs.YtjkpelaeelihhaaGreatDoorRRW.PrintMore
attribute [local go_sem] max2_int min2_int max_two min_two max_three min_three max_four min_four   -- for this text's walks alone
set_option linter.unusedVariables false
set_option linter.unusedSimpArgs false
/-! ### xansi_PrimaryDeviceAttributes: function 72 -/
mutual
def xansi_PrimaryDeviceAttributes.j0 : Nat → List Int → Option (ByteArray)
  | 0, _ => none
  | k + 1, x0 => if 0 ≤ (x0.length : Int) then (if ((x0.length : Int) : Int).toNat ≤ 17592186044416 then (xansi_PrimaryDeviceAttributes.l0 k (List.replicate ((x0.length : Int) : Int).toNat (⟨#[]⟩ : ByteArray)) x0 (x0.length : Int) 0) else (none)) else (none)
def xansi_PrimaryDeviceAttributes.l0 : Nat → List ByteArray → List Int → Int → Int → Option (ByteArray)
  | 0, _, _, _, _ => none
  | k + 1, x3, x21, x22, x23 => if x23 < x22 then (if 0 ≤ x23 then (if x23 < (x21.length : Int) then ((strconv_Itoa.f (rd x21 x23)).bind fun t366 => (if x23 < (x3.length : Int) then (xansi_PrimaryDeviceAttributes.l0 k (x3.set (x23 : Int).toNat t366) x21 x22 (wrap64 (x23 + 1))) else (none))) else (none)) else (none)) else ((xansi_zzJoin.f k x3 (⟨#[59]⟩ : ByteArray)).bind fun t368 => (if 3 + t368.size ≤ 9223372036854775807 then (if 3 + t368.size + 1 ≤ 9223372036854775807 then (some (((⟨#[27, 91, 63]⟩ : ByteArray) ++ t368) ++ (⟨#[99]⟩ : ByteArray))) else (none)) else (none)))
end
def xansi_PrimaryDeviceAttributes.f (k : Nat) (l0 : List Int) : Option (ByteArray) := if (l0.length : Int) = 0 then (some (⟨#[27, 91, 99]⟩ : ByteArray)) else (if (l0.length : Int) = 1 then (if 0 < (l0.length : Int) then (if (rd l0 0) = 0 then (some (⟨#[27, 91, 48, 99]⟩ : ByteArray)) else (xansi_PrimaryDeviceAttributes.j0 k l0)) else (none)) else (xansi_PrimaryDeviceAttributes.j0 k l0))
theorem xansi_PrimaryDeviceAttributes.mono_l : ∀ k, (∀ y0, LeO (xansi_PrimaryDeviceAttributes.j0 k y0) (xansi_PrimaryDeviceAttributes.j0 (k + 1) y0)) ∧ (∀ y0 y1 y2 y3, LeO (xansi_PrimaryDeviceAttributes.l0 k y0 y1 y2 y3) (xansi_PrimaryDeviceAttributes.l0 (k + 1) y0 y1 y2 y3))
  | 0 => ⟨fun _ r h => by simp [xansi_PrimaryDeviceAttributes.j0] at h, fun _ _ _ _ r h => by simp [xansi_PrimaryDeviceAttributes.l0] at h⟩
  | k + 1 => by
    obtain ⟨ih0, ih1⟩ := xansi_PrimaryDeviceAttributes.mono_l k
    refine ⟨?_, ?_⟩
    · intro y0
      unfold xansi_PrimaryDeviceAttributes.j0
      repeat' first
      | (with_reducible exact ih0 _)
      | (with_reducible exact ih1 _ _ _ _)
      | (with_reducible exact xansi_zzJoin.mono _ _ _)
      | (with_reducible exact LeO.refl _)
      | (with_reducible exact LeO.none _)
      | (with_reducible refine LeO.ite ?_ ?_)
      | (with_reducible refine LeO.bind ?_ (fun _ => ?_))
      | exact ih0 _
      | exact ih1 _ _ _ _
      | exact xansi_zzJoin.mono _ _ _
      | exact LeO.none _
      | refine LeO.ite ?_ ?_
      | refine LeO.bind ?_ (fun _ => ?_)
    · intro y0 y1 y2 y3
      unfold xansi_PrimaryDeviceAttributes.l0
      repeat' first
      | (with_reducible exact ih0 _)
      | (with_reducible exact ih1 _ _ _ _)
      | (with_reducible exact xansi_zzJoin.mono _ _ _)
      | (with_reducible exact LeO.refl _)
      | (with_reducible exact LeO.none _)
      | (with_reducible refine LeO.ite ?_ ?_)
      | (with_reducible refine LeO.bind ?_ (fun _ => ?_))
      | exact ih0 _
      | exact ih1 _ _ _ _
      | exact xansi_zzJoin.mono _ _ _
      | exact LeO.none _
      | refine LeO.ite ?_ ?_
      | refine LeO.bind ?_ (fun _ => ?_)
theorem xansi_PrimaryDeviceAttributes.mono : ∀ a0 k, LeO (xansi_PrimaryDeviceAttributes.f k a0) (xansi_PrimaryDeviceAttributes.f (k + 1) a0) := by
  intro a0 k
  obtain ⟨ih0, ih1⟩ := xansi_PrimaryDeviceAttributes.mono_l k
  unfold xansi_PrimaryDeviceAttributes.f
  repeat' first
      | (with_reducible exact ih0 _)
      | (with_reducible exact ih1 _ _ _ _)
      | (with_reducible exact xansi_zzJoin.mono _ _ _)
      | (with_reducible exact LeO.refl _)
      | (with_reducible exact LeO.none _)
      | (with_reducible refine LeO.ite ?_ ?_)
      | (with_reducible refine LeO.bind ?_ (fun _ => ?_))
      | exact ih0 _
      | exact ih1 _ _ _ _
      | exact xansi_zzJoin.mono _ _ _
      | exact LeO.none _
      | refine LeO.ite ?_ ?_
      | refine LeO.bind ?_ (fun _ => ?_)
end Go.Proofs.YtjkpelaeelihhaaGreatDoorRR.Y
end
section
namespace Go.Proofs.YtjkpelaeelihhaaGreatDoorRR.Y
open Go.RowKit Go.Proofs.YtjkpelaeelihhaaGreatDoorRRW.PrintWords Go.Proofs.YtjkpelaeelihhaaGreatDoorRRW.PrintLast Go.Proofs.YtjkpelaeelihhaaGreatDoorRRW.PrintMore
attribute [local go_sem] max2_int min2_int max_two min_two max_three min_three max_four min_four   -- for this text's walks alone
set_option linter.unusedVariables false
set_option linter.unusedSimpArgs false
/-! ### xansi_ExtendedCursorPositionReport: function 79 -/
mutual
def xansi_ExtendedCursorPositionReport.j0 : Nat → Int → Int → Int → Option (ByteArray)
  | 0, _, _, _ => none
  | k + 1, x0, x1, x2 => if x1 < 1 then (xansi_ExtendedCursorPositionReport.j1 k x0 1 x2) else (xansi_ExtendedCursorPositionReport.j1 k x0 x1 x2)
def xansi_ExtendedCursorPositionReport.j1 : Nat → Int → Int → Int → Option (ByteArray)
  | 0, _, _, _ => none
  | k + 1, x0, x1, x2 => if x2 < 1 then ((strconv_Itoa.f x0).bind fun t369 => (if 3 + t369.size ≤ 9223372036854775807 then (if 3 + t369.size + 1 ≤ 9223372036854775807 then ((strconv_Itoa.f x1).bind fun t370 => (if 3 + t369.size + 1 + t370.size ≤ 9223372036854775807 then (if 3 + t369.size + 1 + t370.size + 1 ≤ 9223372036854775807 then (some (((((⟨#[27, 91, 63]⟩ : ByteArray) ++ t369) ++ (⟨#[59]⟩ : ByteArray)) ++ t370) ++ (⟨#[82]⟩ : ByteArray))) else (none)) else (none))) else (none)) else (none))) else ((strconv_Itoa.f x0).bind fun t371 => (if 3 + t371.size ≤ 9223372036854775807 then (if 3 + t371.size + 1 ≤ 9223372036854775807 then ((strconv_Itoa.f x1).bind fun t372 => (if 3 + t371.size + 1 + t372.size ≤ 9223372036854775807 then (if 3 + t371.size + 1 + t372.size + 1 ≤ 9223372036854775807 then ((strconv_Itoa.f x2).bind fun t373 => (if 3 + t371.size + 1 + t372.size + 1 + t373.size ≤ 9223372036854775807 then (if 3 + t371.size + 1 + t372.size + 1 + t373.size + 1 ≤ 9223372036854775807 then (some (((((((⟨#[27, 91, 63]⟩ : ByteArray) ++ t371) ++ (⟨#[59]⟩ : ByteArray)) ++ t372) ++ (⟨#[59]⟩ : ByteArray)) ++ t373) ++ (⟨#[82]⟩ : ByteArray))) else (none)) else (none))) else (none)) else (none))) else (none)) else (none)))
end
def xansi_ExtendedCursorPositionReport.f (k : Nat) (a0 : Int) (a1 : Int) (a2 : Int) : Option (ByteArray) := if a0 < 1 then (xansi_ExtendedCursorPositionReport.j0 k 1 a1 a2) else (xansi_ExtendedCursorPositionReport.j0 k a0 a1 a2)
theorem xansi_ExtendedCursorPositionReport.mono_l : ∀ k, (∀ y0 y1 y2, LeO (xansi_ExtendedCursorPositionReport.j0 k y0 y1 y2) (xansi_ExtendedCursorPositionReport.j0 (k + 1) y0 y1 y2)) ∧ (∀ y0 y1 y2, LeO (xansi_ExtendedCursorPositionReport.j1 k y0 y1 y2) (xansi_ExtendedCursorPositionReport.j1 (k + 1) y0 y1 y2))
  | 0 => ⟨fun _ _ _ r h => by simp [xansi_ExtendedCursorPositionReport.j0] at h, fun _ _ _ r h => by simp [xansi_ExtendedCursorPositionReport.j1] at h⟩
  | k + 1 => by
    obtain ⟨ih0, ih1⟩ := xansi_ExtendedCursorPositionReport.mono_l k
    refine ⟨?_, ?_⟩
    · intro y0 y1 y2
      unfold xansi_ExtendedCursorPositionReport.j0
      repeat' first
      | (with_reducible exact ih0 _ _ _)
      | (with_reducible exact ih1 _ _ _)
      | (with_reducible exact LeO.refl _)
      | (with_reducible exact LeO.none _)
      | (with_reducible refine LeO.ite ?_ ?_)
      | (with_reducible refine LeO.bind ?_ (fun _ => ?_))
      | exact ih0 _ _ _
      | exact ih1 _ _ _
      | exact LeO.none _
      | refine LeO.ite ?_ ?_
      | refine LeO.bind ?_ (fun _ => ?_)
    · intro y0 y1 y2
      unfold xansi_ExtendedCursorPositionReport.j1
      repeat' first
      | (with_reducible exact ih0 _ _ _)
      | (with_reducible exact ih1 _ _ _)
      | (with_reducible exact LeO.refl _)
      | (with_reducible exact LeO.none _)
      | (with_reducible refine LeO.ite ?_ ?_)
      | (with_reducible refine LeO.bind ?_ (fun _ => ?_))
      | exact ih0 _ _ _
      | exact ih1 _ _ _
      | exact LeO.none _
      | refine LeO.ite ?_ ?_
      | refine LeO.bind ?_ (fun _ => ?_)
theorem xansi_ExtendedCursorPositionReport.mono : ∀ a0 a1 a2 k, LeO (xansi_ExtendedCursorPositionReport.f k a0 a1 a2) (xansi_ExtendedCursorPositionReport.f (k + 1) a0 a1 a2) := by
  intro a0 a1 a2 k
  obtain ⟨ih0, ih1⟩ := xansi_ExtendedCursorPositionReport.mono_l k
  unfold xansi_ExtendedCursorPositionReport.f
  repeat' first
      | (with_reducible exact ih0 _ _ _)
      | (with_reducible exact ih1 _ _ _)
      | (with_reducible exact LeO.refl _)
      | (with_reducible exact LeO.none _)
      | (with_reducible refine LeO.ite ?_ ?_)
      | (with_reducible refine LeO.bind ?_ (fun _ => ?_))
      | exact ih0 _ _ _
      | exact ih1 _ _ _
      | exact LeO.none _
      | refine LeO.ite ?_ ?_
      | refine LeO.bind ?_ (fun _ => ?_)
end Go.Proofs.YtjkpelaeelihhaaGreatDoorRR.Y
end
section
namespace Go.Proofs.YtjkpelaeelihhaaGreatDoorRR.Y
open Go.RowKit Go.Proofs.YtjkpelaeelihhaaGreatDoorRRW.PrintWords Go.Proofs.YtjkpelaeelihhaaGreatDoorRRW.PrintLast Go.Proofs.YtjkpelaeelihhaaGreatDoorRRW.PrintMore
attribute [local go_sem] max2_int min2_int max_two min_two max_three min_three max_four min_four   -- for this text's walks alone
set_option linter.unusedVariables false
set_option linter.unusedSimpArgs false
/-! ### xansi_InBandResize: function 80 -/
mutual
def xansi_InBandResize.j0 : Nat → Int → Int → Int → Int → Option (ByteArray)
  | 0, _, _, _, _ => none
  | k + 1, x0, x1, x2, x3 => if x1 < 0 then (xansi_InBandResize.j1 k x0 0 x2 x3) else (xansi_InBandResize.j1 k x0 x1 x2 x3)
def xansi_InBandResize.j1 : Nat → Int → Int → Int → Int → Option (ByteArray)
  | 0, _, _, _, _ => none
  | k + 1, x0, x1, x2, x3 => if x2 < 0 then (xansi_InBandResize.j2 k x0 x1 0 x3) else (xansi_InBandResize.j2 k x0 x1 x2 x3)
def xansi_InBandResize.j2 : Nat → Int → Int → Int → Int → Option (ByteArray)
  | 0, _, _, _, _ => none
  | k + 1, x0, x1, x2, x3 => if x3 < 0 then (xansi_InBandResize.j3 k x0 x1 x2 0) else (xansi_InBandResize.j3 k x0 x1 x2 x3)
def xansi_InBandResize.j3 : Nat → Int → Int → Int → Int → Option (ByteArray)
  | 0, _, _, _, _ => none
  | k + 1, x0, x1, x2, x3 => (strconv_Itoa.f x0).bind fun t374 => (if 5 + t374.size ≤ 9223372036854775807 then (if 5 + t374.size + 1 ≤ 9223372036854775807 then ((strconv_Itoa.f x1).bind fun t375 => (if 5 + t374.size + 1 + t375.size ≤ 9223372036854775807 then (if 5 + t374.size + 1 + t375.size + 1 ≤ 9223372036854775807 then ((strconv_Itoa.f x2).bind fun t376 => (if 5 + t374.size + 1 + t375.size + 1 + t376.size ≤ 9223372036854775807 then (if 5 + t374.size + 1 + t375.size + 1 + t376.size + 1 ≤ 9223372036854775807 then ((strconv_Itoa.f x3).bind fun t377 => (if 5 + t374.size + 1 + t375.size + 1 + t376.size + 1 + t377.size ≤ 9223372036854775807 then (if 5 + t374.size + 1 + t375.size + 1 + t376.size + 1 + t377.size + 1 ≤ 9223372036854775807 then (some (((((((((⟨#[27, 91, 52, 56, 59]⟩ : ByteArray) ++ t374) ++ (⟨#[59]⟩ : ByteArray)) ++ t375) ++ (⟨#[59]⟩ : ByteArray)) ++ t376) ++ (⟨#[59]⟩ : ByteArray)) ++ t377) ++ (⟨#[116]⟩ : ByteArray))) else (none)) else (none))) else (none)) else (none))) else (none)) else (none))) else (none)) else (none))
end
def xansi_InBandResize.f (k : Nat) (a0 : Int) (a1 : Int) (a2 : Int) (a3 : Int) : Option (ByteArray) := if a0 < 0 then (xansi_InBandResize.j0 k 0 a1 a2 a3) else (xansi_InBandResize.j0 k a0 a1 a2 a3)
theorem xansi_InBandResize.mono_l : ∀ k, (∀ y0 y1 y2 y3, LeO (xansi_InBandResize.j0 k y0 y1 y2 y3) (xansi_InBandResize.j0 (k + 1) y0 y1 y2 y3)) ∧ (∀ y0 y1 y2 y3, LeO (xansi_InBandResize.j1 k y0 y1 y2 y3) (xansi_InBandResize.j1 (k + 1) y0 y1 y2 y3)) ∧ (∀ y0 y1 y2 y3, LeO (xansi_InBandResize.j2 k y0 y1 y2 y3) (xansi_InBandResize.j2 (k + 1) y0 y1 y2 y3)) ∧ (∀ y0 y1 y2 y3, LeO (xansi_InBandResize.j3 k y0 y1 y2 y3) (xansi_InBandResize.j3 (k + 1) y0 y1 y2 y3))
  | 0 => ⟨fun _ _ _ _ r h => by simp [xansi_InBandResize.j0] at h, fun _ _ _ _ r h => by simp [xansi_InBandResize.j1] at h, fun _ _ _ _ r h => by simp [xansi_InBandResize.j2] at h, fun _ _ _ _ r h => by simp [xansi_InBandResize.j3] at h⟩
  | k + 1 => by
    obtain ⟨ih0, ih1, ih2, ih3⟩ := xansi_InBandResize.mono_l k
    refine ⟨?_, ?_, ?_, ?_⟩
    · intro y0 y1 y2 y3
      unfold xansi_InBandResize.j0
      repeat' first
      | (with_reducible exact ih0 _ _ _ _)
      | (with_reducible exact ih1 _ _ _ _)
      | (with_reducible exact ih2 _ _ _ _)
      | (with_reducible exact ih3 _ _ _ _)
      | (with_reducible exact LeO.refl _)
      | (with_reducible exact LeO.none _)
      | (with_reducible refine LeO.ite ?_ ?_)
      | (with_reducible refine LeO.bind ?_ (fun _ => ?_))
      | exact ih0 _ _ _ _
      | exact ih1 _ _ _ _
      | exact ih2 _ _ _ _
      | exact ih3 _ _ _ _
      | exact LeO.none _
      | refine LeO.ite ?_ ?_
      | refine LeO.bind ?_ (fun _ => ?_)
    · intro y0 y1 y2 y3
      unfold xansi_InBandResize.j1
      repeat' first
      | (with_reducible exact ih0 _ _ _ _)
      | (with_reducible exact ih1 _ _ _ _)
      | (with_reducible exact ih2 _ _ _ _)
      | (with_reducible exact ih3 _ _ _ _)
      | (with_reducible exact LeO.refl _)
      | (with_reducible exact LeO.none _)
      | (with_reducible refine LeO.ite ?_ ?_)
      | (with_reducible refine LeO.bind ?_ (fun _ => ?_))
      | exact ih0 _ _ _ _
      | exact ih1 _ _ _ _
      | exact ih2 _ _ _ _
      | exact ih3 _ _ _ _
      | exact LeO.none _
      | refine LeO.ite ?_ ?_
      | refine LeO.bind ?_ (fun _ => ?_)
    · intro y0 y1 y2 y3
      unfold xansi_InBandResize.j2
      repeat' first
      | (with_reducible exact ih0 _ _ _ _)
      | (with_reducible exact ih1 _ _ _ _)
      | (with_reducible exact ih2 _ _ _ _)
      | (with_reducible exact ih3 _ _ _ _)
      | (with_reducible exact LeO.refl _)
      | (with_reducible exact LeO.none _)
      | (with_reducible refine LeO.ite ?_ ?_)
      | (with_reducible refine LeO.bind ?_ (fun _ => ?_))
      | exact ih0 _ _ _ _
      | exact ih1 _ _ _ _
      | exact ih2 _ _ _ _
      | exact ih3 _ _ _ _
      | exact LeO.none _
      | refine LeO.ite ?_ ?_
      | refine LeO.bind ?_ (fun _ => ?_)
    · intro y0 y1 y2 y3
      unfold xansi_InBandResize.j3
      repeat' first
      | (with_reducible exact ih0 _ _ _ _)
      | (with_reducible exact ih1 _ _ _ _)
      | (with_reducible exact ih2 _ _ _ _)
      | (with_reducible exact ih3 _ _ _ _)
      | (with_reducible exact LeO.refl _)
      | (with_reducible exact LeO.none _)
      | (with_reducible refine LeO.ite ?_ ?_)
      | (with_reducible refine LeO.bind ?_ (fun _ => ?_))
      | exact ih0 _ _ _ _
      | exact ih1 _ _ _ _
      | exact ih2 _ _ _ _
      | exact ih3 _ _ _ _
      | exact LeO.none _
      | refine LeO.ite ?_ ?_
      | refine LeO.bind ?_ (fun _ => ?_)
theorem xansi_InBandResize.mono : ∀ a0 a1 a2 a3 k, LeO (xansi_InBandResize.f k a0 a1 a2 a3) (xansi_InBandResize.f (k + 1) a0 a1 a2 a3) := by
  intro a0 a1 a2 a3 k
  obtain ⟨ih0, ih1, ih2, ih3⟩ := xansi_InBandResize.mono_l k
  unfold xansi_InBandResize.f
  repeat' first
      | (with_reducible exact ih0 _ _ _ _)
      | (with_reducible exact ih1 _ _ _ _)
      | (with_reducible exact ih2 _ _ _ _)
      | (with_reducible exact ih3 _ _ _ _)
      | (with_reducible exact LeO.refl _)
      | (with_reducible exact LeO.none _)
      | (with_reducible refine LeO.ite ?_ ?_)
      | (with_reducible refine LeO.bind ?_ (fun _ => ?_))
      | exact ih0 _ _ _ _
      | exact ih1 _ _ _ _
      | exact ih2 _ _ _ _
      | exact ih3 _ _ _ _
      | exact LeO.none _
      | refine LeO.ite ?_ ?_
      | refine LeO.bind ?_ (fun _ => ?_)
end Go.Proofs.YtjkpelaeelihhaaGreatDoorRR.Y
end
section
namespace Go.Proofs.YtjkpelaeelihhaaGreatDoorRR.Y
open Go.RowKit Go.Proofs.YtjkpelaeelihhaaGreatDoorRRW.PrintWords Go.Proofs.YtjkpelaeelihhaaGreatDoorRRW.PrintLast Go.Proofs.YtjkpelaeelihhaaGreatDoorRRW.PrintMore
set_option linter.unusedSimpArgs false
set_option linter.unusedVariables false
set_option maxRecDepth 100000
/-- Numbers, with ';' between them. -/
def joinN (ns : List Nat) : List Nat :=
  match ns with
  | [] => []
  | n :: r => X.digs n ++ r.flatMap fun m => 59 :: X.digs m
theorem run_joinN : ∀ (r : List Nat) (n k : Nat) (c : Int) (ps : List Int) (fin : Nat), k ≠ 2 → (64 ≤ fin ∧ fin ≤ 126) → n ≤ 9999 → (∀ m ∈ r, m ≤ 9999) → ps.length + r.length ≤ 20 →
    X.run (.csi k c ps X.Miss) (joinN (n :: r) ++ [fin]) = some (.gr, [X.evCsi (c + fin) (ps ++ ((n :: r).map fun m : Nat => (m : Int)))])
  | [], n, k, c, ps, fin, hk, hb, hn, _, hl => by
    have hm : ¬ ((n : Int) = X.Miss) := fun h => by unfold X.Miss at h; omega
    have h1 := X.run_digs k hk c ps n (by omega)
    have h2 : X.run (.csi 3 c ps (n : Int)) [fin] = some (.gr, [X.evCsi (c + fin) (ps ++ [(n : Int)])]) := by
      simp [X.run, X.step, hb, X.closed, hm]
    have := X.run_of h1 h2
    simpa [joinN] using this
  | m :: r, n, k, c, ps, fin, hk, hb, hn, hr, hl => by
    have hm : ¬ ((n : Int) = X.Miss) := fun h => by unfold X.Miss at h; omega
    rw [List.length_cons] at hl
    have h1 := X.run_digs k hk c ps n (by omega)
    have h2 : X.run (.csi 3 c ps (n : Int)) [59] = some (.csi 3 c (ps ++ [(n : Int)]) X.Miss, []) := by
      have hb : ps.length < 29 := by omega
      simp [X.run, X.step, hb]
    have h3 := run_joinN r m 3 c (ps ++ [(n : Int)]) fin (by decide) hb (hr m (by simp)) (fun x hx => hr x (List.mem_cons_of_mem _ hx)) (by rw [List.length_append, List.length_singleton]; omega)
    have h4 := X.run_of (X.run_of h1 h2) h3
    have e : joinN (n :: m :: r) ++ [fin] = X.digs n ++ [59] ++ (joinN (m :: r) ++ [fin]) := by simp [joinN]
    rw [e, h4]
    simp
theorem run_plainN (n : Nat) (r : List Nat) (fin : Nat) (hf : 64 ≤ fin ∧ fin ≤ 126) (hn : n ≤ 9999) (hr : ∀ m ∈ r, m ≤ 9999) (hl : r.length ≤ 20) :
    X.run .gr ([27, 91] ++ joinN (n :: r) ++ [fin]) = some (.gr, [X.evCsi (fin : Int) ((n :: r).map fun m : Nat => (m : Int))]) := by
  have h1 : X.run .gr [27, 91] = some (.csi 1 0 [] X.Miss, []) := by rfl
  have h2 := X.run_of h1 (run_joinN r n 1 0 [] fin (by decide) hf hn hr (by simpa using hl))
  simpa using h2
theorem run_askN (n : Nat) (r : List Nat) (fin : Nat) (hf : 64 ≤ fin ∧ fin ≤ 126) (hn : n ≤ 9999) (hr : ∀ m ∈ r, m ≤ 9999) (hl : r.length ≤ 20) :
    X.run .gr ([27, 91, 63] ++ joinN (n :: r) ++ [fin]) = some (.gr, [X.evCsi (16128 + (fin : Int)) ((n :: r).map fun m : Nat => (m : Int))]) := by
  have h1 : X.run .gr [27, 91, 63] = some (.csi 3 16128 [] X.Miss, []) := by rfl
  have h2 := X.run_of h1 (run_joinN r n 3 16128 [] fin (by decide) hf hn hr (by simpa using hl))
  simpa using h2
theorem num_text (n : Nat) (h : n ≤ 9999) : ∃ t, strconv_Itoa.f (n : Int) = some t ∧ X.nb t = X.digs n ∧ t.size ≤ 4 := by
  obtain ⟨t, q1, q2, q3⟩ := X.itoa_text n (by omega)
  have := X.digs_pow 3 n (by omega)
  exact ⟨t, q1, q2, by omega⟩
theorem pair_rep (a b : Nat) (ha : 1 ≤ a ∧ a ≤ 9999) (hb : 1 ≤ b ∧ b ≤ 9999) (k : Nat) (hk : 10 ≤ k) : ∃ t, impl_MakePair.f k 4 a b = some t ∧ X.nb t = [27, 91] ++ joinN [a, b] ++ [82] ∧ t.size ≤ 100 := by
  obtain ⟨k, rfl⟩ : ∃ k', k = k' + 1 := ⟨k - 1, by omega⟩
  obtain ⟨ta, a1, a2, a3⟩ := num_text a ha.2
  obtain ⟨tb, b1, b2, b3⟩ := num_text b hb.2
  refine ⟨((((⟨#[27, 91]⟩ : ByteArray) ++ ta) ++ (⟨#[59]⟩ : ByteArray)) ++ tb) ++ (⟨#[82]⟩ : ByteArray), ?_, ?_, ?_⟩
  · unfold impl_MakePair.f xansi_CursorPositionReport.f
    rw [if_neg (by omega), if_neg (by omega), if_neg (by omega), if_neg (by omega), if_pos rfl, if_neg (by omega), xansi_CursorPositionReport.j0, if_neg (by omega), a1, Option.bind_some, if_pos (by omega), if_pos (by omega), b1, Option.bind_some, if_pos (by omega), if_pos (by omega), Option.bind_some]
  · have e1 : X.nb (⟨#[27, 91]⟩ : ByteArray) = [27, 91] := rfl
    have e2 : X.nb (⟨#[59]⟩ : ByteArray) = [59] := rfl
    have e3 : X.nb (⟨#[82]⟩ : ByteArray) = [82] := rfl
    simp only [X.nb_append, e1, e2, e3, a2, b2, joinN, List.flatMap_cons, List.flatMap_nil, List.append_nil, List.append_assoc, List.cons_append, List.nil_append]
  · have e1 : (⟨#[27, 91]⟩ : ByteArray).size = 2 := rfl
    have e2 : (⟨#[59]⟩ : ByteArray).size = 1 := rfl
    have e3 : (⟨#[82]⟩ : ByteArray).size = 1 := rfl
    simp only [ByteArray.size_append]
    omega
theorem place_rep (a b c : Nat) (ha : 1 ≤ a ∧ a ≤ 9999) (hb : 1 ≤ b ∧ b ≤ 9999) (hc : 1 ≤ c ∧ c ≤ 9999) (k : Nat) (hk : 10 ≤ k) : ∃ t, xansi_ExtendedCursorPositionReport.f k a b c = some t ∧ X.nb t = [27, 91, 63] ++ joinN [a, b, c] ++ [82] ∧ t.size ≤ 100 := by
  obtain ⟨k, rfl⟩ : ∃ k', k = k' + 2 := ⟨k - 2, by omega⟩
  obtain ⟨ta, a1, a2, a3⟩ := num_text a ha.2
  obtain ⟨tb, b1, b2, b3⟩ := num_text b hb.2
  obtain ⟨tc, c1, c2, c3⟩ := num_text c hc.2
  refine ⟨((((((⟨#[27, 91, 63]⟩ : ByteArray) ++ ta) ++ (⟨#[59]⟩ : ByteArray)) ++ tb) ++ (⟨#[59]⟩ : ByteArray)) ++ tc) ++ (⟨#[82]⟩ : ByteArray), ?_, ?_, ?_⟩
  · unfold xansi_ExtendedCursorPositionReport.f
    rw [if_neg (by omega), xansi_ExtendedCursorPositionReport.j0, if_neg (by omega), xansi_ExtendedCursorPositionReport.j1, if_neg (by omega), a1, Option.bind_some, if_pos (by omega), if_pos (by omega), b1, Option.bind_some, if_pos (by omega), if_pos (by omega), c1, Option.bind_some, if_pos (by omega), if_pos (by omega)]
  · have e1 : X.nb (⟨#[27, 91, 63]⟩ : ByteArray) = [27, 91, 63] := rfl
    have e2 : X.nb (⟨#[59]⟩ : ByteArray) = [59] := rfl
    have e3 : X.nb (⟨#[82]⟩ : ByteArray) = [82] := rfl
    simp only [X.nb_append, e1, e2, e3, a2, b2, c2, joinN, List.flatMap_cons, List.flatMap_nil, List.append_nil, List.append_assoc, List.cons_append, List.nil_append]
  · have e1 : (⟨#[27, 91, 63]⟩ : ByteArray).size = 3 := rfl
    have e2 : (⟨#[59]⟩ : ByteArray).size = 1 := rfl
    have e3 : (⟨#[82]⟩ : ByteArray).size = 1 := rfl
    simp only [ByteArray.size_append]
    omega
theorem digs48 : X.digs 48 = [52, 56] := by kernel_rfl
theorem resize_rep (a b c d : Nat) (ha : 1 ≤ a ∧ a ≤ 9999) (hb : 1 ≤ b ∧ b ≤ 9999) (hc : 1 ≤ c ∧ c ≤ 9999) (hd : 1 ≤ d ∧ d ≤ 9999) (k : Nat) (hk : 10 ≤ k) : ∃ t, xansi_InBandResize.f k a b c d = some t ∧ X.nb t = [27, 91] ++ joinN [48, a, b, c, d] ++ [116] ∧ t.size ≤ 100 := by
  obtain ⟨k, rfl⟩ : ∃ k', k = k' + 4 := ⟨k - 4, by omega⟩
  obtain ⟨ta, a1, a2, a3⟩ := num_text a ha.2
  obtain ⟨tb, b1, b2, b3⟩ := num_text b hb.2
  obtain ⟨tc, c1, c2, c3⟩ := num_text c hc.2
  obtain ⟨td, d1, d2, d3⟩ := num_text d hd.2
  refine ⟨((((((((⟨#[27, 91, 52, 56, 59]⟩ : ByteArray) ++ ta) ++ (⟨#[59]⟩ : ByteArray)) ++ tb) ++ (⟨#[59]⟩ : ByteArray)) ++ tc) ++ (⟨#[59]⟩ : ByteArray)) ++ td) ++ (⟨#[116]⟩ : ByteArray), ?_, ?_, ?_⟩
  · unfold xansi_InBandResize.f
    rw [if_neg (by omega), xansi_InBandResize.j0, if_neg (by omega), xansi_InBandResize.j1, if_neg (by omega), xansi_InBandResize.j2, if_neg (by omega), xansi_InBandResize.j3, a1, Option.bind_some, if_pos (by omega), if_pos (by omega), b1, Option.bind_some, if_pos (by omega), if_pos (by omega), c1, Option.bind_some, if_pos (by omega), if_pos (by omega), d1, Option.bind_some, if_pos (by omega), if_pos (by omega)]
  · have e1 : X.nb (⟨#[27, 91, 52, 56, 59]⟩ : ByteArray) = [27, 91, 52, 56, 59] := rfl
    have e2 : X.nb (⟨#[59]⟩ : ByteArray) = [59] := rfl
    have e3 : X.nb (⟨#[116]⟩ : ByteArray) = [116] := rfl
    simp only [X.nb_append, e1, e2, e3, a2, b2, c2, d2, joinN, digs48, List.flatMap_cons, List.flatMap_nil, List.append_nil, List.append_assoc, List.cons_append, List.nil_append]
  · have e1 : (⟨#[27, 91, 52, 56, 59]⟩ : ByteArray).size = 5 := rfl
    have e2 : (⟨#[59]⟩ : ByteArray).size = 1 := rfl
    have e3 : (⟨#[116]⟩ : ByteArray).size = 1 := rfl
    simp only [ByteArray.size_append]
    omega
/-- A number's text. -/
def txN (n : Nat) : ByteArray := (strconv_Itoa.f (n : Int)).getD ⟨#[]⟩
theorem txN_of (n : Nat) (h : n ≤ 9999) : strconv_Itoa.f (n : Int) = some (txN n) ∧ X.nb (txN n) = X.digs n ∧ (txN n).size ≤ 4 := by
  obtain ⟨t, h1, h2, h3⟩ := num_text n h
  have e : txN n = t := by unfold txN; rw [h1]; rfl
  rw [e]
  exact ⟨h1, h2, h3⟩
theorem zz_l0 (l : List ByteArray) (hl : l.length ≤ 1000) (hz : ∀ t ∈ l, t.size ≤ 4) : ∀ (m i : Nat) (x5 : ByteArray), i + m = l.length → 1 ≤ i → x5.size ≤ 5 * i →
    ∃ t, (∀ k, m < k → xansi_zzJoin.l0 k (⟨#[59]⟩ : ByteArray) x5 l (l.length : Int) (i : Int) = some t) ∧ X.nb t = X.nb x5 ++ (l.drop i).flatMap (fun u => 59 :: X.nb u) ∧ t.size ≤ 5 * l.length
  | 0, i, x5, h, hi, hs => ⟨x5, fun k hk => by
      obtain ⟨k, rfl⟩ : ∃ k', k = k' + 1 := ⟨k - 1, by omega⟩
      rw [xansi_zzJoin.l0, if_neg (by omega)], by rw [List.drop_of_length_le (by omega)]; simp, by omega⟩
  | m + 1, i, x5, h, hi, hs => by
    have hi2 : i < l.length := by omega
    have hrd : rdOf ByteArray.empty l (i : Int) = l[i] := by simp [rdOf, hi2]
    have hzz := hz _ (List.getElem_mem hi2)
    have e1 : (⟨#[59]⟩ : ByteArray).size = 1 := rfl
    obtain ⟨t, q1, q2, q3⟩ := zz_l0 l hl hz m (i + 1) ((x5 ++ (⟨#[59]⟩ : ByteArray)) ++ l[i]) (by omega) (by omega) (by rw [ByteArray.size_append, ByteArray.size_append]; omega)
    refine ⟨t, fun k hk => ?_, ?_, q3⟩
    · obtain ⟨k, rfl⟩ : ∃ k', k = k' + 1 := ⟨k - 1, by omega⟩
      rw [xansi_zzJoin.l0, if_pos (by omega), if_pos (by omega), if_pos (by omega), if_pos (by omega), hrd, if_pos (by omega), if_pos (by omega), wrap_up i (by omega)]
      exact q1 k (by omega)
    · rw [q2, X.nb_append, X.nb_append, List.drop_eq_getElem_cons hi2]
      have e2 : X.nb (⟨#[59]⟩ : ByteArray) = [59] := rfl
      rw [e2, List.flatMap_cons]
      simp only [List.append_assoc, List.cons_append, List.nil_append]
theorem flat_same : ∀ (r : List Nat), (∀ m ∈ r, X.nb (txN m) = X.digs m) → (r.flatMap fun m => 59 :: X.nb (txN m)) = r.flatMap fun m => 59 :: X.digs m
  | [], _ => rfl
  | m :: r, h => by rw [List.flatMap_cons, List.flatMap_cons, h m (by simp), flat_same r fun x hx => h x (List.mem_cons_of_mem _ hx)]
theorem zz_f (n : Nat) (r : List Nat) (hn : n ≤ 9999) (hr : ∀ m ∈ r, m ≤ 9999) (hl : r.length ≤ 20) : ∃ t, (∀ k, 100 ≤ k → xansi_zzJoin.f k ((n :: r).map txN) (⟨#[59]⟩ : ByteArray) = some t) ∧ X.nb t = joinN (n :: r) ∧ t.size ≤ 5 * (r.length + 1) := by
  have hz : ∀ t ∈ (n :: r).map txN, t.size ≤ 4 := fun t ht => by
    obtain ⟨m, hm, rfl⟩ := List.mem_map.1 ht
    rcases List.mem_cons.1 hm with rfl | hm
    · exact (txN_of _ hn).2.2
    · exact (txN_of _ (hr m hm)).2.2
  have hn4 := (txN_of n hn).2.2
  have e0 : (⟨#[]⟩ : ByteArray).size = 0 := rfl
  have hlen : ((n :: r).map txN).length = r.length + 1 := by simp
  obtain ⟨t, q1, q2, q3⟩ := zz_l0 ((n :: r).map txN) (by omega) hz r.length 1 ((⟨#[]⟩ : ByteArray) ++ txN n) (by omega) (by omega) (by rw [ByteArray.size_append]; omega)
  refine ⟨t, fun k hk => ?_, ?_, by omega⟩
  · obtain ⟨k, rfl⟩ : ∃ k', k = k' + 1 := ⟨k - 1, by omega⟩
    unfold xansi_zzJoin.f
    have hrd : rdOf ByteArray.empty ((n :: r).map txN) (0 : Int) = txN n := rfl
    have w1 : wrap64 (0 + 1) = ((1 : Nat) : Int) := wrap_up 0 (by omega)
    rw [xansi_zzJoin.l0, if_pos (by omega), if_pos (by omega), if_pos (by omega), if_neg (by omega), hrd, if_pos (by omega), w1]
    exact q1 k (by omega)
  · rw [q2, X.nb_append]
    have e2 : X.nb (⟨#[]⟩ : ByteArray) = [] := rfl
    rw [e2, (txN_of n hn).2.1]
    simp only [List.map_cons, List.drop_succ_cons, List.drop_zero, List.nil_append, joinN, List.flatMap_map]
    congr 1
    exact flat_same r fun m hm => (txN_of m (hr m hm)).2.1
theorem reps_l0 (ns : List Nat) (hl : ns.length ≤ 20) (hn : ∀ n ∈ ns, n ≤ 9999) (y : ByteArray) (hy : ∀ k, 100 ≤ k → xansi_zzJoin.f k (ns.map txN) (⟨#[59]⟩ : ByteArray) = some y) (hs : y.size ≤ 1000) : ∀ (m i k : Nat), i + m = ns.length → m + 100 < k →
    xansi_PrimaryDeviceAttributes.l0 k ((ns.map txN).take i ++ List.replicate m (⟨#[]⟩ : ByteArray)) (ns.map fun n : Nat => (n : Int)) (ns.length : Int) (i : Int) = some (((⟨#[27, 91, 63]⟩ : ByteArray) ++ y) ++ (⟨#[99]⟩ : ByteArray))
  | 0, i, k + 1, h, hk => by
    rw [xansi_PrimaryDeviceAttributes.l0, if_neg (by omega), List.take_of_length_le (by rw [List.length_map]; omega), List.replicate_zero, List.append_nil, hy k (by omega), Option.bind_some, if_pos (by omega), if_pos (by omega)]
  | m + 1, i, k + 1, h, hk => by
    have hi : i < ns.length := by omega
    have hi2 : i < (ns.map fun n : Nat => (n : Int)).length := by rw [List.length_map]; omega
    have hrd : rd (ns.map fun n : Nat => (n : Int)) (i : Int) = (ns[i] : Int) := by rw [rdI_at _ i hi2]; simp
    have hlen : ((ns.map txN).take i ++ List.replicate (m + 1) (⟨#[]⟩ : ByteArray)).length = ns.length := by simp; omega
    have hset : ((ns.map txN).take i ++ List.replicate (m + 1) (⟨#[]⟩ : ByteArray)).set ((i : Int)).toNat (txN ns[i]) = (ns.map txN).take (i + 1) ++ List.replicate m (⟨#[]⟩ : ByteArray) := by
      have e : ((ns.map txN).take i).length = i := by simp; omega
      rw [Int.toNat_natCast, List.set_append_right _ _ (by omega), e, Nat.sub_self, List.replicate_succ, List.set_cons_zero, List.take_succ_eq_append_getElem (by rw [List.length_map]; omega)]
      simp
    rw [xansi_PrimaryDeviceAttributes.l0, if_pos (by omega), if_pos (by omega), if_pos (by omega), hrd, (txN_of _ (hn _ (List.getElem_mem hi))).1, Option.bind_some, hlen, if_pos (by omega), hset, wrap_up i (by omega)]
    exact reps_l0 ns hl hn y hy hs m (i + 1) k (by omega) (by omega)
theorem attrs_rep (n : Nat) (r : List Nat) (hn : n ≤ 9999) (hr : ∀ m ∈ r, m ≤ 9999) (h1 : 1 ≤ r.length) (hl : r.length ≤ 10) (k : Nat) (hk : 1000 ≤ k) :
    ∃ t, xansi_PrimaryDeviceAttributes.f k ((n :: r).map fun n : Nat => (n : Int)) = some t ∧ X.nb t = [27, 91, 63] ++ joinN (n :: r) ++ [99] ∧ t.size ≤ 100 := by
  obtain ⟨k, rfl⟩ : ∃ k', k = k' + 1 := ⟨k - 1, by omega⟩
  obtain ⟨y, y1, y2, y3⟩ := zz_f n r hn hr (by omega)
  have hlen : ((n :: r).map fun n : Nat => (n : Int)).length = r.length + 1 := by simp
  refine ⟨((⟨#[27, 91, 63]⟩ : ByteArray) ++ y) ++ (⟨#[99]⟩ : ByteArray), ?_, ?_, ?_⟩
  · unfold xansi_PrimaryDeviceAttributes.f
    rw [hlen, if_neg (by omega), if_neg (by omega), xansi_PrimaryDeviceAttributes.j0, hlen, if_pos (by omega), if_pos (by omega)]
    have := reps_l0 (n :: r) (by rw [List.length_cons]; omega) (fun m hm => by
      rcases List.mem_cons.1 hm with rfl | hm
      · exact hn
      · exact hr m hm) y y1 (by omega) (r.length + 1) 0 k (by rw [List.length_cons]; omega) (by omega)
    simpa using this
  · have e1 : X.nb (⟨#[27, 91, 63]⟩ : ByteArray) = [27, 91, 63] := rfl
    have e3 : X.nb (⟨#[99]⟩ : ByteArray) = [99] := rfl
    simp only [X.nb_append, e1, e3, y2]
  · have e1 : (⟨#[27, 91, 63]⟩ : ByteArray).size = 3 := rfl
    have e3 : (⟨#[99]⟩ : ByteArray).size = 1 := rfl
    simp only [ByteArray.size_append]
    omega
theorem count_rep (l : List Int) (hl : l.length ≤ 1000) (k : Nat) (hk : 1001 ≤ k) : impl_count.f k l = some l := count_l0 l (by omega) l.length 0 k (by omega) (by omega)
end Go.Proofs.YtjkpelaeelihhaaGreatDoorRR.Y
end
