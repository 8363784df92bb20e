/-
  THE WALK of packSeptets: what it does to a row of bytes of the caller's own.
-/
import Derived.Test.YbulkbbrqRows
import Derived.Test.YbulkbbrqPlain
import Derived.WalkKit
import Derived.WalkSpells
import Derived.RegionTactic
import Derived.ChangeAlike
namespace Go.Proofs.Ybulkbbrq.Pk
open Go.RowKit

/-- Block g is a row of bytes, the numbers xs, none frozen. -/
def Row (w : World) (g : Nat) (xs : List Int) : Prop := w.heap[g]? = some (.cells (xs.map (Value.int .u8)).toArray 5 (0, 0))

theorem Row.cell {w : World} {g : Nat} {xs : List Int} (h : Row w g xs) (j : Nat) (hj : j < xs.length) : w.cell? ⟨g, j, none⟩ = some (.int .u8 (xs.getD j 0)) := by
  rw [cell_of_row w g j _ 5 (0, 0) h, List.getD_eq_getElem?_getD, List.getElem?_eq_getElem hj]
  simp [hj]
theorem Row.frozen {w : World} {g : Nat} {xs : List Int} (h : Row w g xs) (j : Nat) : w.frozen? ⟨g, j, none⟩ = false := frozen_of_row w g j _ 5 h
theorem Row.lt {w : World} {g : Nat} {xs : List Int} (h : Row w g xs) : g < w.heap.size := (Array.getElem?_eq_some_iff.1 h).1
theorem Row.set {w : World} {g : Nat} {xs : List Int} (h : Row w g xs) (j : Nat) (z : Int) : Row (w.setCell ⟨g, j, none⟩ (.int .u8 z)) g (xs.set j z) := by
  unfold Row
  rw [heap_setCell_same w g j _ 5 _ h]
  simp [List.map_set]
theorem Row.other {w : World} {g : Nat} {xs : List Int} (h : Row w g xs) (g' j : Nat) (v : Value) (hne : g ≠ g') : Row (w.setCell ⟨g', j, none⟩ v) g xs :=
  (heap_setCell_other w ⟨g', j, none⟩ g v hne).trans h
theorem Row.kept {w w' : World} {g : Nat} {xs : List Int} {r : Option Nat} (h : Row w g xs) (hg : w.grownBy w' r) (hne : some g ≠ r) : Row w' g xs := (hg.block g h.lt hne).trans h
theorem grown_set {w : World} (g j : Nat) (v : Value) : w.grownBy (w.setCell ⟨g, j, none⟩ v) (some g) :=
  ⟨rfl, rfl, rfl, by simp, fun k _ hk => heap_setCell_other w ⟨g, j, none⟩ k v (fun e => hk (by simp [e]))⟩
theorem grown_drew {w w' : World} {r : Option Nat} (h : w.grownBy w' r) : w.grownBy w'.drew r := ⟨h.os, h.tape, h.output, h.size, h.block⟩

theorem mod_nat (f k : Nat) : 7 * ((f : Int) + (k : Int)) % 8 = ((7 * (f + k) % 8 : Nat) : Int) := by simp
theorem getD_set_next (l : List Int) (o : Nat) (v : Int) : (l.set o v).getD (o + 1) 0 = l.getD (o + 1) 0 := by
  rw [List.getD_eq_getElem?_getD, List.getElem?_set_ne (by omega), List.getD_eq_getElem?_getD]

set_option maxHeartbeats 1000000 in
theorem pack_any (gp gs n f m : Nat) (zs ss : List Int) (w : World) (hp : Row w gp zs) (hs : Row w gs ss) (hne : gs ≠ gp) (hm : ss.length = m) (hzl : zs.length = n) (hB : Bs zs) (h128 : ∀ x ∈ ss, 0 ≤ x ∧ x < 128)
    (hn : 7 * (f + m) ≤ 8 * n) (hf : f ≤ 63) (hm4 : m ≤ 1024) (hn4 : n ≤ 1000) :
    Calls Yba.prog 4 #[.slice (some ⟨gp, 0, none⟩) n n, .int .i64 f, .slice (some ⟨gs, 0, none⟩) m m] w fun e w' =>
      e = .returned (.tuple #[]) ∧ ∃ ys, Row w' gp ys ∧ Rel n f ss zs (7 * (f + m)) ys ∧ w.grownBy w' (some gp) := by
  go_enter Yba.func4, Yba.ntmps4
  go_wp2
  go_loopw [13] (fun i wr => ∃ k : Nat, k ≤ m ∧ i = .int .i64 k ∧ ∃ ys, Row wr gp ys ∧ Rel n f ss zs (7 * (f + k)) ys ∧ w.grownBy wr (some gp)) (fun i _ => m - (intOf i).toNat)
  case atStart => exact ⟨0, Nat.zero_le _, rfl, zs, hp, Rel.start hzl hB, World.grownBy.refl _ _⟩
  case round =>
    obtain ⟨k, hk, rfl, ys, hrow, hrel', hg⟩ := hrel
    by_cases hlt : k < m
    · have hsr := hs.kept hg (by simpa using hne)
      obtain ⟨s, hsd⟩ : ∃ s, s = ss.getD k 0 := ⟨_, rfl⟩
      have hcs := hsr.cell k (by omega)
      rw [← hsd] at hcs
      have hyl : ys.length ≤ n := Nat.le_of_eq hrel'.1
      have hyl' : n ≤ ys.length := Nat.le_of_eq hrel'.1.symm
      have hc1 := hrow.cell (7 * (f + k) / 8) (by omega)
      have hf1 := hrow.frozen (7 * (f + k) / 8)
      obtain ⟨y, hyd⟩ : ∃ y, y = ys.getD (7 * (f + k) / 8) 0 := ⟨_, rfl⟩
      rw [← hyd] at hc1
      have HS : Hid (s = ss.getD k 0) := hsd
      have HY : Hid (y = ys.getD (7 * (f + k) / 8) 0) := hyd
      clear hsd hyd
      by_cases hshN : 7 * (f + k) % 8 ≤ 1
      · have hsh : 7 * ((f : Int) + (k : Int)) % 8 ≤ 1 := by rw [mod_nat]; omega
        have H : Hid (7 * (f + k) % 8 ≤ 1) := hshN
        clear hshN
        go_wp2
        go_region
        all_goals go_wp2
        all_goals go_roundw
        case rel =>
          refine ⟨k + 1, by omega, by go_num, _, Row.set hrow (7 * (f + k) / 8) _, ?_, grown_drew (hg.trans (grown_set gp _ _))⟩
          rw [HY.out, HS.out]
          exact (hrel'.septet h128 (by omega) (by omega)).1 H.out
        case measure => simp [intOf]; omega
      · have hsh : 1 < 7 * ((f : Int) + (k : Int)) % 8 := by rw [mod_nat]; omega
        have H : Hid (1 < 7 * (f + k) % 8) := Nat.lt_of_not_le hshN
        have hc2 := hrow.cell (7 * (f + k) / 8 + 1) (by omega)
        have hf2 := hrow.frozen (7 * (f + k) / 8 + 1)
        obtain ⟨y2, hy2⟩ : ∃ y2, y2 = ys.getD (7 * (f + k) / 8 + 1) 0 := ⟨_, rfl⟩
        rw [← hy2] at hc2
        have HY2 : Hid (y2 = ys.getD (7 * (f + k) / 8 + 1) 0) := hy2
        clear hy2 hshN
        go_wp2
        go_region
        all_goals go_wp2
        all_goals go_region
        all_goals go_wp2
        all_goals go_roundw
        case rel =>
          refine ⟨k + 1, by omega, by go_num, _, (Row.set hrow (7 * (f + k) / 8) _).set (7 * (f + k) / 8 + 1) _, ?_, grown_drew (grown_drew ((hg.trans (grown_set gp _ _)).trans (grown_set gp _ _)))⟩
          have h2 := (hrel'.septet h128 (by omega) (by omega)).2 H.out _ rfl
          rw [getD_set_next, ← HY2.out, ← HS.out, ← HY.out] at h2
          exact h2
        case measure => simp [intOf]; omega
    · obtain rfl : k = m := by omega
      go_wp2
      go_end0
      exact ⟨rfl, ys, hrow, hrel', hg⟩
end Go.Proofs.Ybulkbbrq.Pk
