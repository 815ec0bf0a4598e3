/- Texts for the plain parser: numbers, joined texts. No program in sight. -/
/- What the laws' helpers do, plainly: events taken over, fuel. No conditions but lengths. -/
/- What a row hands in, told as the print's walks ask for it: numbers, flags, texts, rows of these, and rows of what is put together. Conditions: what reads as data at its type. -/
import Derived.Test.YtgcbnegdchladaaDoorCEngA
import Derived.Test.YtgcbnegdchladaaDoorCBase
import Derived.Lib.ItoaNum
import Derived.Test.YtgcbnegdchladaaDoorCPaPass
import Derived.Test.YtgcbnegdchladaaDoorProg
import Derived.Test.YtgcbnegdchladaaDoorWMore
import Derived.ChangeArms
import Derived.DataReads
namespace Go.Proofs.YtgcbnegdchladaaDoor.X
open Go.RowKit Go.Proofs.YtgcbnegdchladaaDoorW.PrintWords
set_option linter.unusedSimpArgs false

/-- A text's bytes, as numbers. -/
def nb (s : ByteArray) : List Nat := s.data.toList.map UInt8.toNat
theorem nb_bytesOf (s : ByteArray) : (bytesOf s).map Int.toNat = nb s := by simp [bytesOf, nb, Function.comp_def]
theorem nb_append (a b : ByteArray) : nb (a ++ b) = nb a ++ nb b := by
  simp only [nb, ByteArray.data_append, Array.toList_append, List.map_append]
theorem nb_mk (l : List UInt8) : nb ⟨l.toArray⟩ = l.map UInt8.toNat := by simp [nb]

/-- The digits of a number, as bytes. -/
def digs (n : Nat) : List Nat := (Lib.decDigits n).map UInt8.toNat
theorem toNat_ofNat48 (d : Nat) (h : d < 10) : (UInt8.ofNat (48 + d)).toNat = 48 + d := by
  simp
  omega
theorem digs_small {n : Nat} (h : n < 10) : digs n = [48 + n] := by
  unfold digs
  rw [Lib.decDigits, dif_pos h]
  rw [List.map_cons, toNat_ofNat48 n h]
  rfl
theorem digs_more {n : Nat} (h : ¬ n < 10) : digs n = digs (n / 10) ++ [48 + n % 10] := by
  unfold digs
  rw [Lib.decDigits, dif_neg h]
  rw [List.map_append, List.map_cons, toNat_ofNat48 (n % 10) (by omega)]
  rfl
theorem nb_itoa (n : Int) (h : 0 ≤ n) : nb ⟨(Lib.itoa n).toArray⟩ = digs n.toNat := by
  rw [nb_mk, Lib.itoa, if_neg (by omega)]
  rfl

/-- A number as a parameter. -/
theorem run_digs (k : Nat) (hk : k ≠ 2) (cmd : Int) (ps : List Int) (n : Nat) (hn : n ≤ 1000009) : run (.csi k cmd ps Miss) (digs n) = some (.csi 3 cmd ps n, []) := by
  induction n using Nat.strongRecOn with
  | _ n ih =>
    by_cases h : n < 10
    · rw [digs_small h]
      have h1 : ¬ (64 ≤ 48 + n ∧ 48 + n ≤ 126) := by omega
      have h2 : 48 ≤ 48 + n ∧ 48 + n ≤ 57 ∧ k ≠ 2 := ⟨by omega, by omega, hk⟩
      have h3 : (Miss ≤ 100000 ∨ Miss = Miss) := Or.inr rfl
      simp only [run, step, if_neg h1, if_pos h2, if_pos h3, Option.bind_some, Option.map_some, List.append_nil, digit, if_pos]
      simp
      omega
    · rw [digs_more h]
      have ih1 := ih (n / 10) (by omega) (by omega)
      have h1 : ¬ (64 ≤ 48 + n % 10 ∧ 48 + n % 10 ≤ 126) := by omega
      have h2 : 48 ≤ 48 + n % 10 ∧ 48 + n % 10 ≤ 57 ∧ (3 : Nat) ≠ 2 := ⟨by omega, by omega, by omega⟩
      have h3 : (((n / 10 : Nat) : Int) ≤ 100000 ∨ ((n / 10 : Nat) : Int) = Miss) := Or.inl (by omega)
      have h4 : ¬ (((n / 10 : Nat) : Int) = Miss) := by unfold Miss; omega
      refine run_of ih1 (e := []) (f := []) ?_
      simp only [run, step, if_neg h1, if_pos h2, if_pos h3, Option.bind_some, Option.map_some, List.append_nil, digit, if_neg h4]
      simp
      omega
end Go.Proofs.YtgcbnegdchladaaDoor.X
namespace Go.Proofs.YtgcbnegdchladaaDoor.Y
open Go.RowKit Go.Proofs.YtgcbnegdchladaaDoorW.PrintWords Go.Proofs.YtgcbnegdchladaaDoorW.PrintLast Go.Proofs.YtgcbnegdchladaaDoorW.PrintMore

/-- More fuel gives the same. -/
theorem lift {α : Type} {f : Nat → Option α} (hm : ∀ k, LeO (f k) (f (k + 1))) {k0 k : Nat} (h : k0 ≤ k) {r : α} (he : f k0 = some r) : f k = some r := by
  obtain ⟨d, rfl⟩ := Nat.le.dest h
  induction d with
  | zero => exact he
  | succ d ih => exact hm _ r (ih (by omega))

theorem awake : laws_drawAwake.f = some true := by kernel_rfl

theorem wrap64_of (n : Int) (h0 : -9223372036854775808 ≤ n) (h1 : n ≤ 9223372036854775807) : wrap64 n = n := by unfold wrap64; omega

/-- An event, as the specification has it. -/
def cv (e : S36) : S39 := ⟨e.f0, e.f1, e.f2, e.f3, e.f4, e.f5⟩
theorem rdT_at (l : List S36) (i : Nat) (h : i < l.length) : rd_T36 l (i : Int) = l[i] := by
  simp [rd_T36, h]
theorem rdU_at (l : List S39) (i : Nat) (h : i < l.length) : rd_T39 l (i : Int) = l[i] := by
  simp [rd_T39, h]
theorem drawEvents_l0 (l : List S36) (hl : l.length < 100000000000) : ∀ (m i : Nat) (k : Nat), i + m = l.length → m < k → laws_drawEvents.l0 k ((l.take i).map cv) l (l.length : Int) (i : Int) = some (l.map cv)
  | 0, i, k + 1, h, hk => by
    have e1 : ¬ ((i : Int) < (l.length : Int)) := by omega
    rw [laws_drawEvents.l0, if_neg e1, List.take_of_length_le (by omega)]
  | m + 1, i, k + 1, h, hk => by
    have hi : i < l.length := by omega
    have e1 : (i : Int) < (l.length : Int) := by omega
    have e2 : ((l.take i).map cv).length < 1759218604441 := by rw [List.length_map, List.length_take]; omega
    rw [laws_drawEvents.l0, if_pos e1, if_pos (by omega), if_pos e1, if_pos e2, rdT_at l i hi, wrap64_of _ (by omega) (by omega)]
    have e3 : ((l.take i).map cv) ++ [(⟨l[i].f0, l[i].f1, l[i].f2, l[i].f3, l[i].f4, l[i].f5⟩ : S39)] = (l.take (i + 1)).map cv := by
      rw [List.take_succ_eq_append_getElem hi, List.map_append]
      rfl
    rw [e3]
    exact drawEvents_l0 l hl m (i + 1) k (by omega) (by omega)
theorem drawEvents_f (l : List S36) (hl : l.length < 100000000000) (k : Nat) (hk : l.length < k) : laws_drawEvents.f k l = some (l.map cv) := by
  have := drawEvents_l0 l hl l.length 0 k (by omega) hk
  simpa [laws_drawEvents.f] using this
theorem conv_f (s : ByteArray) (h : s.size ≤ 100000000000) : gosem_conv.f s = some (bytesOf s) := by
  unfold gosem_conv.f
  rw [if_pos (by omega)]
theorem feed_f (s : ByteArray) (h : s.size ≤ 100000000000) {st : X.PS} {evs : List X.Ev} (hr : X.run .gr (X.nb s) = some (st, evs)) : impl_Feed.f 32 4096 (bytesOf s) = some (evs.map X.toS) := by
  have hp : ∀ x ∈ bytesOf s, 0 ≤ x := fun x hx => by
    obtain ⟨b, _, rfl⟩ := List.mem_map.1 hx
    omega
  have hl : (bytesOf s).length ≤ 100000000000 := by rw [bytesOf_length]; exact h
  unfold impl_Feed.f
  rw [if_pos ⟨rfl, rfl, hl, hp⟩, X.nb_bytesOf, hr]
  rfl
end Go.Proofs.YtgcbnegdchladaaDoor.Y
namespace Go.Proofs.YtgcbnegdchladaaDoor.X
open Go.RowKit Go.Proofs.YtgcbnegdchladaaDoorW.PrintWords

theorem len1 {cs : List Value} (h : cs.length = 1) : ∃ a, cs = [a] := by
  match cs, h with
  | [a], _ => exact ⟨a, rfl⟩
theorem len2 {cs : List Value} (h : cs.length = 2) : ∃ a b, cs = [a, b] := by
  match cs, h with
  | [a, b], _ => exact ⟨a, b, rfl⟩
theorem len3 {cs : List Value} (h : cs.length = 3) : ∃ a b c, cs = [a, b, c] := by
  match cs, h with
  | [a, b, c], _ => exact ⟨a, b, c, rfl⟩
theorem len4 {cs : List Value} (h : cs.length = 4) : ∃ a b c d, cs = [a, b, c, d] := by
  match cs, h with
  | [a, b, c, d], _ => exact ⟨a, b, c, d, rfl⟩
theorem len5 {cs : List Value} (h : cs.length = 5) : ∃ a b c d e, cs = [a, b, c, d, e] := by
  match cs, h with
  | [a, b, c, d, e], _ => exact ⟨a, b, c, d, e, rfl⟩
theorem len6 {cs : List Value} (h : cs.length = 6) : ∃ a b c d e f, cs = [a, b, c, d, e, f] := by
  match cs, h with
  | [a, b, c, d, e, f], _ => exact ⟨a, b, c, d, e, f, rfl⟩
theorem len7 {cs : List Value} (h : cs.length = 7) : ∃ a b c d e f g, cs = [a, b, c, d, e, f, g] := by
  match cs, h with
  | [a, b, c, d, e, f, g], _ => exact ⟨a, b, c, d, e, f, g, rfl⟩
theorem list_of {α : Type} (P : Nat → α → Prop) : ∀ n, (∀ i, i < n → ∃ u, P i u) → ∃ l : List α, l.length = n ∧ ∀ i u, l[i]? = some u → P i u
  | 0, _ => ⟨[], rfl, fun i u h => by simp at h⟩
  | n + 1, h => by
    obtain ⟨l, hl, hP⟩ := list_of P n (fun i hi => h i (by omega))
    obtain ⟨u, hu⟩ := h n (by omega)
    refine ⟨l ++ [u], by simp [hl], fun i v hv => ?_⟩
    by_cases hi : i < l.length
    · rw [List.getElem?_append_left hi] at hv
      exact hP i v hv
    · rw [List.getElem?_append_right (by omega)] at hv
      have h0 : i - l.length = 0 := by
        have := (List.getElem?_eq_some_iff.1 hv).1
        simp at this
        omega
      rw [h0] at hv
      have : u = v := by simpa using hv
      subst this
      rwa [show i = n by omega]
theorem add_add (a : Addr) (m n : Nat) : (a.add m).add n = a.add (m + n) := by
  unfold Addr.add
  by_cases hm : m = 0
  · subst hm; simp
  · by_cases hn : n = 0
    · subst hn; simp [hm]
    · simp [hm, hn, Nat.add_assoc]

section
variable {H : Type} {enc : TypeId × Value → H} {W : World}
/-- What reads at type t holds an element of kind d, of which Q is known. -/
def Opens (enc : TypeId × Value → H) (W : World) (t : TypeId) {α : Type} (d : Kd α) (Q : α → Prop) : Prop :=
  ∀ fuel cs x, DataW.trod enc Tryd.prog W 0 (fun _ => true) true fuel t cs = some x → ∃ a, d.K W a cs ∧ Q a
theorem opens_int {t : TypeId} {k : IntKind} (ht : Tryd.prog.underlying t = some (.int k)) : Opens enc W t (Kd.int k) (fun n => (Lit.int k n).wf = true) := fun fuel cs x h => by
  obtain ⟨n, rfl, _, hw⟩ := DataW.trod_int ht h
  exact ⟨n, rfl, hw⟩
theorem opens_bool {t : TypeId} (ht : Tryd.prog.underlying t = some .bool) : Opens enc W t Kd.bool (fun _ => True) := fun fuel cs x h => by
  obtain ⟨n, rfl, _⟩ := DataW.trod_bool ht h
  exact ⟨n, rfl, trivial⟩
theorem opens_string {t : TypeId} (ht : Tryd.prog.underlying t = some .string) : Opens enc W t Kd.string (fun s => s.size ≤ maxLen) := fun fuel cs x h => by
  obtain ⟨n, rfl, _, hw⟩ := DataW.trod_string ht h
  exact ⟨n, rfl, hw⟩
theorem opens_slice {t e : TypeId} {α : Type} {d : Kd α} {Q : α → Prop} (ht : Tryd.prog.underlying t = some (.slice e)) (hc : Tryd.prog.cellsOf e = d.sz) (he : Opens enc W e d Q) :
    Opens enc W t (Kd.slice e d) (fun l => l.length ≤ maxLen ∧ ∀ a ∈ l, Q a) := fun fuel cs x h => by
  rcases DataW.trod_slice ht h with ⟨rfl, _⟩ | ⟨a, len, cap, elems, rest, n, _, rfl, _, _, hlc, hcm, hlen, hel, _⟩
  · exact ⟨[], ⟨none, 0, rfl, Nat.le_refl _, rfl, by simp, fun h => absurd h (by simp)⟩, by simp, by simp⟩
  · have each : ∀ i, i < len → ∃ c u, W.cells? 0 (a.add (i * d.sz)) d.sz = some c ∧ d.K W u c ∧ Q u := fun i hi => by
      have h1 := hel i hi
      rw [hc, List.getElem?_eq_getElem (by omega)] at h1
      obtain ⟨c, h2, h3⟩ := Option.bind_eq_some_iff.1 h1
      obtain ⟨u, hu, hq⟩ := he _ _ _ h3
      exact ⟨c, u, h2, hu, hq⟩
    obtain ⟨l, hl, hP⟩ := list_of (fun i u => ∃ c, W.cells? 0 (a.add (i * d.sz)) d.sz = some c ∧ d.K W u c ∧ Q u) len (fun i hi => by obtain ⟨c, u, h1, h2, h3⟩ := each i hi; exact ⟨u, c, h1, h2, h3⟩)
    refine ⟨l, ⟨some a, cap, by rw [hl], by omega, rfl, by unfold maxLen at hcm; omega, fun _ => ⟨a, rfl, fun j u hj => ?_⟩⟩, by omega, fun u hu => ?_⟩
    · obtain ⟨c, h1, h2, _⟩ := hP j u hj
      obtain ⟨_, hcl, hcell⟩ := World.cells?_some h1
      refine ⟨c, hcl, h2, fun i v hv => ?_⟩
      have hi : i < d.sz := by
        have := (List.getElem?_eq_some_iff.1 hv).1
        omega
      have := hcell i hi
      rw [hv] at this
      rw [← this, add_add]
    · obtain ⟨j, hj, rfl⟩ := List.mem_iff_getElem.1 hu
      obtain ⟨c, _, _, h3⟩ := hP j l[j] (List.getElem?_eq_getElem hj)
      exact h3
end
end Go.Proofs.YtgcbnegdchladaaDoor.X
