/-
  THE PLAIN LAW of the round trip: a row of elements, encoded one behind the other, is a chain of just those elements. No Go in sight.
-/
import Derived.Test.YbulkbbrqFmtPlain
namespace Go.Proofs.YbulkbbrqFmt.Hd

/-- An element as it was built: its identifier, its data, and the block in which the data lie. -/
structure E where
  id : Int
  d : List Int
  g : Nat

/-- One element's octets. -/
def enc1 (e : E) : List Int := e.id :: (e.d.length : Int) :: e.d
def encs (els : List E) : List Int := els.flatMap enc1
theorem encs_snoc (els : List E) (e : E) : encs (els ++ [e]) = encs els ++ enc1 e := by simp [encs]
/-- Where the elements begin, the first at s. -/
def pos : Nat → List E → List Nat
  | _, [] => []
  | s, e :: r => s :: pos (s + 2 + e.d.length) r
theorem pos_length : ∀ (els : List E) (s : Nat), (pos s els).length = els.length
  | [], _ => rfl
  | _ :: r, s => by simp [pos, pos_length r]

/-- An element that the package takes. -/
def Good (e : E) : Prop := 0 ≤ e.id ∧ e.id < 256 ∧ Bs e.d ∧ e.d.length ≤ 5 ∧ (0 ≤ fixed e.id → (e.d.length : Int) = fixed e.id)

theorem at_app {pre r : List Int} (i : Nat) : at_ (pre ++ r) (pre.length + i) = at_ r i := by
  unfold at_
  rw [List.getD_eq_getElem?_getD, List.getD_eq_getElem?_getD, List.getElem?_append_right (by omega)]
  congr 2
  omega
theorem at_app0 {pre r : List Int} : at_ (pre ++ r) pre.length = at_ r 0 := by simpa using at_app (pre := pre) (r := r) 0

theorem ln_enc (pre r : List Int) (e : E) : ln (pre ++ (enc1 e ++ r)) pre.length = e.d.length := by
  unfold ln
  rw [at_app 1]
  simp [enc1, at_]

theorem Bs.app {a b : List Int} (ha : Bs a) (hb : Bs b) : Bs (a ++ b) := by
  intro x hx
  rcases List.mem_append.1 hx with h | h
  · exact ha x h
  · exact hb x h
theorem bs_enc1 {e : E} (h : Good e) : Bs (enc1 e) := by
  obtain ⟨h0, h1, hd, hl, _⟩ := h
  intro x hx
  simp only [enc1, List.mem_cons] at hx
  rcases hx with rfl | rfl | hx
  · exact ⟨h0, h1⟩
  · exact ⟨by omega, by omega⟩
  · exact hd x hx
theorem bs_encs : ∀ {els : List E}, (∀ e ∈ els, Good e) → Bs (encs els)
  | [], _ => fun x hx => by cases hx
  | e :: r, h => by
    have e1 : encs (e :: r) = enc1 e ++ encs r := by simp [encs]
    rw [e1]
    exact (bs_enc1 (h e (by simp))).app (bs_encs (fun x hx => h x (by simp [hx])))

theorem ok_enc (pre r : List Int) (e : E) (h : Good e) : Ok (pre ++ (enc1 e ++ r)) pre.length := by
  have hl := ln_enc pre r e
  have e1 : (enc1 e).length = e.d.length + 2 := by simp [enc1]
  refine ⟨by simp [enc1], by rw [hl]; simp [enc1]; omega, fun hf => ?_⟩
  have ha : at_ (pre ++ (enc1 e ++ r)) pre.length = e.id := by rw [at_app0]; simp [enc1, at_]
  rw [ha] at hf ⊢
  rw [hl]
  exact h.2.2.2.2 hf

/-- The encoded elements are a chain to the end. -/
theorem chain_enc : ∀ (els : List E) (pre : List Int), (∀ e ∈ els, Good e) → Chain (pre ++ encs els) pre.length (pos pre.length els) (pre ++ encs els).length
  | [], pre, _ => by simp [encs, pos, Chain]
  | e :: r, pre, h => by
    have e1 : pre ++ encs (e :: r) = pre ++ (enc1 e ++ encs r) := by simp [encs]
    have e2 : pre ++ (enc1 e ++ encs r) = (pre ++ enc1 e) ++ encs r := by simp
    have e3 : (pre ++ enc1 e).length = pre.length + 2 + e.d.length := by simp [enc1]; omega
    have ih := chain_enc r (pre ++ enc1 e) (fun x hx => h x (by simp [hx]))
    rw [e3, ← e2] at ih
    rw [e1]
    refine ⟨rfl, ok_enc pre _ e (h e (by simp)), ?_⟩
    rw [ln_enc]
    exact ih

/-- What the chain's elements hold. -/
theorem read_enc : ∀ (els : List E) (pre : List Int) (k : Nat) (hk : k < els.length),
    ∃ p, (pos pre.length els)[k]? = some p ∧ at_ (pre ++ encs els) p = els[k].id ∧ ln (pre ++ encs els) p = els[k].d.length ∧ ∀ j, j < els[k].d.length → at_ (pre ++ encs els) (p + 2 + j) = at_ els[k].d j
  | [], _, k, hk => by simp at hk
  | e :: r, pre, 0, _ => by
    have e1 : pre ++ encs (e :: r) = pre ++ (enc1 e ++ encs r) := by simp [encs]
    rw [e1]
    refine ⟨pre.length, rfl, ?_, ln_enc pre _ e, fun j hj => ?_⟩
    · rw [at_app0]; simp [enc1, at_]
    · rw [Nat.add_assoc, at_app]
      have hj' : j < e.d.length := hj
      simp only [enc1, at_, List.getD_eq_getElem?_getD, List.cons_append, List.getElem_cons_zero]
      rw [show 2 + j = j + 1 + 1 from by omega, List.getElem?_cons_succ, List.getElem?_cons_succ, List.getElem?_append_left hj']
  | e :: r, pre, k + 1, hk => by
    have e1 : pre ++ encs (e :: r) = (pre ++ enc1 e) ++ encs r := by simp [encs]
    have e3 : (pre ++ enc1 e).length = pre.length + 2 + e.d.length := by simp [enc1]; omega
    obtain ⟨p, h1, h2, h3, h4⟩ := read_enc r (pre ++ enc1 e) k (by simpa using hk)
    rw [e3] at h1
    rw [e1]
    exact ⟨p, by simpa [pos] using h1, by simpa using h2, by simpa using h3, by simpa using h4⟩

theorem encs_len : ∀ (els : List E), 2 * els.length ≤ (encs els).length
  | [] => by simp [encs]
  | e :: r => by
    have e1 : encs (e :: r) = enc1 e ++ encs r := by simp [encs]
    have := encs_len r
    rw [e1]
    simp [enc1]
    omega

end Go.Proofs.YbulkbbrqFmt.Hd
