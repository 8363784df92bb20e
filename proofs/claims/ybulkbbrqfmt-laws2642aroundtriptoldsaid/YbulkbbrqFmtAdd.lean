/-
  THE CLOSURE of DecodeHeader (function 9) BY ITS CONTRACT: it appends one element to the variable that it captured. And zzs2642afixed.
-/
import Derived.Test.YbulkbbrqFmtFacts
import Derived.Test.YbulkbbrqFmtPlain
import Derived.Below
namespace Go.Proofs.YbulkbbrqFmt.Hd
open Go.RowKit

theorem info33 : (Ybaf.prog.info? 33).map (fun i => (i.zero, i.size, i.bytes)) = some (some (.agg #[.int .u8 0, .slice none 0 0]), 2, 32) := by kernel_rfl

/-- The variable 'elements' (block gE) holds a slice of k elements that owns the cells xs. -/
def El (gE k : Nat) (xs : List Value) (w : World) : Prop :=
  ∃ v, w.heap[gE]? = some (.cells #[v] 27 (0, 0)) ∧ w.ownsRow (gE + 1) 33 2 v k xs ∧ (k = 0 → v = .slice none 0 0)

theorem cell_two_blocks (w : World) (x y : Value) (t : TypeId) : ∀ (j : Nat) (u : Value), ([x, y] : List Value)[j]? = some u → (w.alloc (.cells #[x, y] t)).cell? ((⟨w.heap.size, 0, none⟩ : Addr).add j) = some u := by
  intro j u hj
  have e : (⟨w.heap.size, 0, none⟩ : Addr).add j = ⟨w.heap.size, j, none⟩ := by unfold Addr.add; split <;> simp_all
  rw [e, World.cell?_alloc_at _ _ _ _ rfl]
  simpa using hj

theorem fixed_any (x : Int) (w : World) : Calls Ybaf.prog 5 #[.int .u8 x] w fun e w' => e = .returned (.int .i64 (fixed x)) ∧ w = w' := by
  unfold fixed
  by_cases h0 : x = 0
  · subst h0
    go_enter Ybaf.func5, Ybaf.ntmps5
    go_wp2
    go_ret
    exact ⟨rfl, rfl⟩
  · by_cases h4 : x = 4
    · subst h4
      go_enter Ybaf.func5, Ybaf.ntmps5
      go_wp2
      go_ret
      exact ⟨rfl, rfl⟩
    · by_cases h5 : x = 5
      · subst h5
        go_enter Ybaf.func5, Ybaf.ntmps5
        go_wp2
        go_ret
        exact ⟨rfl, rfl⟩
      · by_cases h8 : x = 8
        · subst h8
          go_enter Ybaf.func5, Ybaf.ntmps5
          go_wp2
          go_ret
          exact ⟨rfl, rfl⟩
        · rw [if_neg h0, if_neg h4, if_neg h5, if_neg h8]
          have e0 : (x == 0) = false := by simpa using h0
          have e4 : (x == 4) = false := by simpa using h4
          have e5 : (x == 5) = false := by simpa using h5
          have e8 : (x == 8) = false := by simpa using h8
          clear h0 h4 h5 h8
          go_enter Ybaf.func5, Ybaf.ntmps5
          go_wp2
          go_ret
          exact ⟨rfl, rfl⟩

set_option maxHeartbeats 1000000 in
theorem add_any (gE k : Nat) (xs : List Value) (id : Int) (a : Option Addr) (l c : Nat) (w : World) (hk : k ≤ 100000) (h : El gE k xs w) :
    Calls Ybaf.prog 9 #[.agg #[.int .u8 id, .slice a l c], .pointer (some ⟨gE, 0, none⟩)] w fun e w' =>
      e = .returned (.tuple #[]) ∧ El gE (k + 1) (xs ++ [.int .u8 id, .slice a l c]) w' ∧ Below gE w w' := by
  obtain ⟨v, hv, hown, hnil⟩ := h
  obtain ⟨ti, hi, hz0, hz1, hz2⟩ := info_parts info33
  have hlt : gE < w.heap.size := (Array.getElem?_eq_some_iff.1 hv).1
  have hcv : w.cell? ⟨gE, 0, none⟩ = some v := cell_of_row w gE 0 _ 27 (0, 0) hv
  have hfv : w.frozen? ⟨gE, 0, none⟩ = false := frozen_of_row w gE 0 _ 27 hv
  go_enter Ybaf.func9, Ybaf.ntmps9
  go_wp2_with (at_builtin; refine wpList_append_own _ rfl (.tmp 3) (.tmp 5) 27 rfl (gE + 1) 33 ti (.agg #[.int .u8 0, .slice none 0 0]) 2 32 Ybaf.underlying27 hi hz0 hz1 hz2 rfl (by decide) v k xs rfl ((hown.alloc _).alloc _) ⟨w.heap.size + 1, 0, none⟩ 1 1 [.int .u8 id, .slice a l c] rfl rfl ?c1 ?c2 ?c3 ?c4 ?c5 ?_)
  case c1 =>
    have := cell_two_blocks (w.alloc (.cells #[.int .u8 id, .slice a l c] 33)) (.int .u8 id) (.slice a l c) 33
    simpa using this
  case c2 =>
    intro u hu
    simp at hu
    rcases hu with rfl | rfl <;> rfl
  case c3 => unfold maxLen; omega
  case c4 => omega
  case c5 => simp; omega
  intro v' w1 hown' hg hnil'
  have hne : some gE ≠ v.ownBlock := by
    intro e
    have := (hown.lt gE e.symm).1
    omega
  have hv1 : w1.heap[gE]? = some (.cells #[v] 27 (0, 0)) := by
    rw [hg.block gE (by simp; omega) hne, Below.heap_alloc _ _ _ (by simp; omega), Below.heap_alloc _ _ _ hlt]
    exact hv
  have hcv1 : w1.cell? ⟨gE, 0, none⟩ = some v := cell_of_row w1 gE 0 _ 27 (0, 0) hv1
  have hfv1 : w1.frozen? ⟨gE, 0, none⟩ = false := frozen_of_row w1 gE 0 _ 27 hv1
  have hb1 : Below gE w w1 := (((Below.refl _ _).alloc (by omega) _).alloc (by simp; omega) _).grown hg (by simp; omega) (fun j hj => by have := (hown.lt j hj).1; omega)
  have hsh : ∃ a' l' c', v' = .slice a' l' c' := by
    rcases hown'.2 with ⟨h1, _⟩ | ⟨g, cap, cur, h1, _⟩
    · exact ⟨_, _, _, h1⟩
    · exact ⟨_, _, _, h1⟩
  obtain ⟨a', l', c', rfl⟩ := hsh
  clear hcv hfv hv hnil hnil' hg
  go_wp2
  go_end0
  refine ⟨rfl, ⟨.slice a' l' c', ?_, ?_, fun h => by omega⟩, hb1.setCell (Nat.le_refl _) _⟩
  · rw [heap_setCell_same w1 gE 0 _ 27 _ hv1]
    simp
  · exact ownsRow_setCell_below hown' (by simp) _
end Go.Proofs.YbulkbbrqFmt.Hd
