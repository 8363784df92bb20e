/-
  THE PLAIN SIDE of the user data header: which positions of a row of bytes begin an element. No Go in sight.
-/
namespace Go.Proofs.YbulkbbrqFmt.Hd

/-- The length that the package fixes for an identifier, or -1. -/
def fixed (x : Int) : Int := if x = 0 then 3 else if x = 4 then 2 else if x = 5 then 4 else if x = 8 then 4 else -1
/-- The byte at place i. -/
def at_ (u : List Int) (i : Nat) : Int := u.getD i 0
/-- The length octet of the element at p. -/
def ln (u : List Int) (p : Nat) : Nat := (at_ u (p + 1)).toNat
/-- A whole and fitting element begins at p. -/
def Ok (u : List Int) (p : Nat) : Prop := p + 1 < u.length ∧ p + 2 + ln u p ≤ u.length ∧ (0 ≤ fixed (at_ u p) → (ln u p : Int) = fixed (at_ u p))
/-- From p on the elements that begin at the places xs lie one behind the other, up to q. -/
def Chain (u : List Int) : Nat → List Nat → Nat → Prop
  | p, [], q => p = q
  | p, x :: xs, q => x = p ∧ Ok u p ∧ Chain u (p + 2 + ln u p) xs q

def Bs (u : List Int) : Prop := ∀ x ∈ u, 0 ≤ x ∧ x < 256
theorem Bs.get {u : List Int} (h : Bs u) (i : Nat) : 0 ≤ at_ u i ∧ at_ u i < 256 := by
  unfold at_
  by_cases hk : i < u.length
  · rw [List.getD_eq_getElem?_getD, List.getElem?_eq_getElem hk]; exact h _ (List.getElem_mem hk)
  · rw [List.getD_eq_getElem?_getD, List.getElem?_eq_none (by omega)]; decide

theorem Chain.snoc {u : List Int} : ∀ {xs : List Nat} {s p : Nat}, Chain u s xs p → Ok u p → Chain u s (xs ++ [p]) (p + 2 + ln u p)
  | [], s, p, h, k => by
    obtain rfl : s = p := h
    exact ⟨rfl, k, rfl⟩
  | _ :: _, _, _, h, k => ⟨h.1, h.2.1, Chain.snoc h.2.2 k⟩
theorem Chain.le {u : List Int} : ∀ {xs : List Nat} {s p : Nat}, Chain u s xs p → s ≤ p
  | [], _, _, h => Nat.le_of_eq h
  | _ :: _, _, _, h => by have := Chain.le h.2.2; omega
/-- At most half as many elements as bytes. -/
theorem Chain.len {u : List Int} : ∀ {xs : List Nat} {s p : Nat}, Chain u s xs p → s + 2 * xs.length ≤ p
  | [], _, _, h => by have : _ = _ := h; simp; omega
  | _ :: _, _, _, h => by have := Chain.len h.2.2; simp; omega
/-- Where a whole chain runs through, every chain that stops short stops at a fitting element. -/
theorem Chain.next {u : List Int} : ∀ {xs ys : List Nat} {s p q : Nat}, Chain u s ys q → Chain u s xs p → p < q → Ok u p
  | [], [], _, _, _, h, k, hl => by have h1 : _ = _ := h; have k1 : _ = _ := k; omega
  | [], _ :: _, _, _, _, h, k, _ => by obtain rfl : _ = _ := k; exact h.2.1
  | _ :: _, [], _, _, _, h, k, hl => by obtain rfl : _ = _ := h; have := Chain.le k.2.2; omega
  | _ :: _, _ :: _, _, _, _, h, k, hl => Chain.next h.2.2 k.2.2 hl
/-- Two chains from one place to one place are one. -/
theorem Chain.uniq {u : List Int} : ∀ {xs ys : List Nat} {s q : Nat}, Chain u s xs q → Chain u s ys q → xs = ys
  | [], [], _, _, _, _ => rfl
  | [], _ :: _, _, _, h, k => by obtain rfl : _ = _ := h; have := Chain.le k.2.2; omega
  | _ :: _, [], _, _, h, k => by obtain rfl : _ = _ := k; have := Chain.le h.2.2; omega
  | x :: xs, y :: ys, s, _, h, k => by
    obtain ⟨rfl, _, h3⟩ := h
    obtain ⟨rfl, _, k3⟩ := k
    rw [Chain.uniq h3 k3]
theorem Chain.split {u : List Int} : ∀ {xs : List Nat} {s q : Nat} (k : Nat), Chain u s xs q → ∃ m, Chain u s (xs.take k) m ∧ Chain u m (xs.drop k) q
  | xs, s, q, 0, h => ⟨s, rfl, h⟩
  | [], s, q, k + 1, h => ⟨s, rfl, h⟩
  | x :: xs, s, q, k + 1, h => by
    obtain ⟨m, h1, h2⟩ := Chain.split k h.2.2
    exact ⟨m, ⟨h.1, h.2.1, h1⟩, h2⟩
theorem Chain.end_eq {u : List Int} : ∀ {xs : List Nat} {s p q : Nat}, Chain u s xs p → Chain u s xs q → p = q
  | [], _, _, _, h, k => by have h1 : _ = _ := h; have k1 : _ = _ := k; omega
  | _ :: _, _, _, _, h, k => Chain.end_eq h.2.2 k.2.2

end Go.Proofs.YbulkbbrqFmt.Hd
