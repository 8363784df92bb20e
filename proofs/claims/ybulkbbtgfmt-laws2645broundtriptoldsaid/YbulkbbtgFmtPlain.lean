/-
  THE PLAIN SIDE of LawS2645BRoundTrip: a map filled from a list of keys with repeats; how many different ones there are. No Go in sight.
-/
import Derived.Maps.Ext
namespace Go.Proofs.YbulkbbtgFmt.Mp
open Go.Maps

/-- A string's bytes. -/
abbrev Str := List UInt8
def bs (s : ByteArray) : Str := s.data.toList
theorem bs_inj {a b : ByteArray} (h : bs a = bs b) : a = b := by
  have e : a.data.toList = b.data.toList := h
  cases a; cases b
  simp_all

/-- How many elements of the list do not come again behind their place: how many different ones there are. -/
def nd : List Str → Nat
  | [] => 0
  | x :: xs => (if x ∈ xs then 0 else 1) + nd xs
theorem nd_snoc : ∀ (xs : List Str) (y : Str), nd (xs ++ [y]) = nd xs + if y ∈ xs then 0 else 1
  | [], y => by simp [nd]
  | x :: xs, y => by
    have ih := nd_snoc xs y
    simp only [List.cons_append, nd, ih, List.mem_append, List.mem_cons]
    by_cases h1 : x = y
    · subst h1
      by_cases h2 : x ∈ xs <;> simp [h2]
      omega
    · have h1' : ¬ y = x := fun e => h1 e.symm
      by_cases h2 : x ∈ xs <;> by_cases h3 : y ∈ xs <;> simp [h1, h1', h2, h3] <;> omega
theorem nd_le : ∀ xs : List Str, nd xs ≤ xs.length
  | [] => Nat.le_refl _
  | x :: xs => by
    have := nd_le xs
    simp only [nd, List.length_cons]
    split <;> omega

/-- A string as an element. -/
def vd (s : Str) : DataW Unit := .lit (.string s)
theorem vd_inj {a b : Str} (h : vd a = vd b) : a = b := by simpa [vd] using h

/-- The element that goes with key i: vals[i], or the empty string. -/
def val (vs : List Str) (i : Nat) : Str := vs.getD i []

/-- D is the map filled from the first k keys. -/
structure Built (ks vs : List Str) (k : Nat) (D : DataW Unit) : Prop where
  isMap : IsMap D
  size : Maps.size D = nd (ks.take k)
  has : ∀ s, Maps.has D (.string s) = decide (s ∈ ks.take k)
  last : ∀ l, l < k → (hl : l < ks.length) → (∀ j, l < j → j < k → (hj : j < ks.length) → ks[j] ≠ ks[l]) → ∀ zd, D.atKey (.string ks[l]) zd = vd (val vs l)

theorem Built.start (ks vs : List Str) : Built ks vs 0 (.map []) :=
  ⟨isMap_empty, rfl, fun s => by simp [Maps.has], fun l h => by omega⟩

theorem Built.step {ks vs : List Str} {k : Nat} {D : DataW Unit} (h : Built ks vs k D) (ht : Tidy D) (hk : k < ks.length) : Built ks vs (k + 1) (D.put (.string ks[k]) (vd (val vs k))) := by
  have et : ks.take (k + 1) = ks.take k ++ [ks[k]] := List.take_succ_eq_append_getElem hk
  refine ⟨h.isMap.put _ _, ?_, fun s => ?_, fun l hl hlk hlast zd => ?_⟩
  · rw [et, nd_snoc, ← h.size, size_put ht, h.has]
    by_cases hm : ks[k] ∈ ks.take k <;> simp [hm]
  · rw [et]
    by_cases e : s = ks[k]
    · subst e
      rw [has_put_same (k := .string ks[k]) h.isMap trivial]
      exact (decide_eq_true (List.mem_append.2 (.inr (List.mem_singleton.2 rfl)))).symm
    · rw [has_put_other (fun e' => e (by simpa using e')), h.has]
      have : (s ∈ ks.take k) ↔ (s ∈ ks.take k ++ [ks[k]]) := by
        rw [List.mem_append, List.mem_singleton]
        exact ⟨Or.inl, fun h => h.elim id (fun x => absurd x e)⟩
      exact decide_eq_decide.2 this
  · by_cases e : l = k
    · subst e
      exact atKey_put_same (k := .string ks[l]) h.isMap trivial _ _
    · have hne : ks[k] ≠ ks[l] := hlast k (by omega) (by omega) hk
      rw [atKey_put_other (fun e' => hne (by simpa using e'.symm))]
      exact h.last l (by omega) hlk (fun j h1 h2 hj => hlast j h1 (by omega) hj) zd

end Go.Proofs.YbulkbbtgFmt.Mp
