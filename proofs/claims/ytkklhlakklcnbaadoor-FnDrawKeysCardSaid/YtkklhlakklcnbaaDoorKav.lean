/- Texts of this claim, joined: WSized XOpen. Of each, what the claim uses. -/
import Derived.SizedLaws
import Derived.ChangeSlices
import Derived.Test.YtkklhlakklcnbaaDoorProg
import Derived.Test.YtkklhlakklcnbaaDoorKac
import Derived.ChangeArms
import Derived.DataReads
section
namespace Go.Proofs.YtkklhlakklcnbaaDoorW.PrintWords
open Go.ChangeShapes Go.WideShapes
end Go.Proofs.YtkklhlakklcnbaaDoorW.PrintWords
end
section
namespace Go.Proofs.YtkklhlakklcnbaaDoor.X
open Go.RowKit Go.Proofs.YtkklhlakklcnbaaDoorW.PrintWords
theorem len1 {cs : List Value} (h : cs.length = 1) : ∃ a, cs = [a] := by
  match cs, h with
  | [a], _ => exact ⟨a, rfl⟩
theorem list_of {α : Type} (P : Nat → α → Prop) : ∀ n, (∀ i, i < n → ∃ u, P i u) → ∃ l : List α, l.length = n ∧ ∀ i u, l[i]? = some u → P i u
  | 0, _ => ⟨[], rfl, fun i u h => by simp at h⟩
  | n + 1, h => by
    obtain ⟨l, hl, hP⟩ := list_of P n (fun i hi => h i (by omega))
    obtain ⟨u, hu⟩ := h n (by omega)
    refine ⟨l ++ [u], by simp [hl], fun i v hv => ?_⟩
    by_cases hi : i < l.length
    · rw [List.getElem?_append_left hi] at hv
      exact hP i v hv
    · rw [List.getElem?_append_right (by omega)] at hv
      have h0 : i - l.length = 0 := by
        have := (List.getElem?_eq_some_iff.1 hv).1
        simp at this
        omega
      rw [h0] at hv
      have : u = v := by simpa using hv
      subst this
      rwa [show i = n by omega]
theorem add_add (a : Addr) (m n : Nat) : (a.add m).add n = a.add (m + n) := by
  unfold Addr.add
  by_cases hm : m = 0
  · subst hm; simp
  · by_cases hn : n = 0
    · subst hn; simp [hm]
    · simp [hm, hn, Nat.add_assoc]
section
variable {H : Type} {enc : TypeId × Value → H} {W : World}
/-- What reads at type t holds an element of kind d, of which Q is known. -/
def Opens (enc : TypeId × Value → H) (W : World) (t : TypeId) {α : Type} (d : Kd α) (Q : α → Prop) : Prop :=
  ∀ fuel cs x, DataW.trod enc Tryd.prog W 0 (fun _ => true) true fuel t cs = some x → ∃ a, d.K W a cs ∧ Q a
theorem opens_int {t : TypeId} {k : IntKind} (ht : Tryd.prog.underlying t = some (.int k)) : Opens enc W t (Kd.int k) (fun n => (Lit.int k n).wf = true) := fun fuel cs x h => by
  obtain ⟨n, rfl, _, hw⟩ := DataW.trod_int ht h
  exact ⟨n, rfl, hw⟩
theorem opens_bool {t : TypeId} (ht : Tryd.prog.underlying t = some .bool) : Opens enc W t Kd.bool (fun _ => True) := fun fuel cs x h => by
  obtain ⟨n, rfl, _⟩ := DataW.trod_bool ht h
  exact ⟨n, rfl, trivial⟩
theorem opens_slice {t e : TypeId} {α : Type} {d : Kd α} {Q : α → Prop} (ht : Tryd.prog.underlying t = some (.slice e)) (hc : Tryd.prog.cellsOf e = d.sz) (he : Opens enc W e d Q) :
    Opens enc W t (Kd.slice e d) (fun l => l.length ≤ maxLen ∧ ∀ a ∈ l, Q a) := fun fuel cs x h => by
  rcases DataW.trod_slice ht h with ⟨rfl, _⟩ | ⟨a, len, cap, elems, rest, n, _, rfl, _, _, hlc, hcm, hlen, hel, _⟩
  · exact ⟨[], ⟨none, 0, rfl, Nat.le_refl _, rfl, by simp, fun h => absurd h (by simp)⟩, by simp, by simp⟩
  · have each : ∀ i, i < len → ∃ c u, W.cells? 0 (a.add (i * d.sz)) d.sz = some c ∧ d.K W u c ∧ Q u := fun i hi => by
      have h1 := hel i hi
      rw [hc, List.getElem?_eq_getElem (by omega)] at h1
      obtain ⟨c, h2, h3⟩ := Option.bind_eq_some_iff.1 h1
      obtain ⟨u, hu, hq⟩ := he _ _ _ h3
      exact ⟨c, u, h2, hu, hq⟩
    obtain ⟨l, hl, hP⟩ := list_of (fun i u => ∃ c, W.cells? 0 (a.add (i * d.sz)) d.sz = some c ∧ d.K W u c ∧ Q u) len (fun i hi => by obtain ⟨c, u, h1, h2, h3⟩ := each i hi; exact ⟨u, c, h1, h2, h3⟩)
    refine ⟨l, ⟨some a, cap, by rw [hl], by omega, rfl, by unfold maxLen at hcm; omega, fun _ => ⟨a, rfl, fun j u hj => ?_⟩⟩, by omega, fun u hu => ?_⟩
    · obtain ⟨c, h1, h2, _⟩ := hP j u hj
      obtain ⟨_, hcl, hcell⟩ := World.cells?_some h1
      refine ⟨c, hcl, h2, fun i v hv => ?_⟩
      have hi : i < d.sz := by
        have := (List.getElem?_eq_some_iff.1 hv).1
        omega
      have := hcell i hi
      rw [hv] at this
      rw [← this, add_add]
    · obtain ⟨j, hj, rfl⟩ := List.mem_iff_getElem.1 hu
      obtain ⟨c, _, _, h3⟩ := hP j l[j] (List.getElem?_eq_getElem hj)
      exact h3
end
end Go.Proofs.YtkklhlakklcnbaaDoor.X
end
