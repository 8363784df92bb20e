/-
  THE WALKS of LawS2647BExact: the two tests for a blank, trimBlanks, and the law.
-/
import Derived.Test.YbulkbbuiRows
import Derived.WalkKit
import Derived.ProofKit
import Derived.WalkSpells
import Derived.RegionTactic
import Derived.Below
import Derived.BigQuiet
import Derived.Deep.RegionHeld3
import Derived.Deep.DeepCutAuto
import Derived.Deep.CutBlock
namespace Go.Proofs.Ybulkbbui.Tb
open Go.RowKit

theorem Hid.mk' {p : Prop} (h : p) : Hid p := h
/-- A blank: a space, or from tab to carriage return. -/
def bl (z : Int) : Bool := z == 32 || (decide (9 ≤ z) && decide (z ≤ 13))

theorem blank_law (z : Int) (w : World) : Calls Yba.prog 5 #[.int .u8 z] w fun e w' => e = .returned (.bool (bl z)) ∧ w' = w := by
  by_cases h32 : z = 32
  · subst h32
    go_enter Yba.func5, Yba.ntmps5
    go_wp2
    go_ret
    exact ⟨by simp [bl], rfl⟩
  · have h32' : (z == 32) = false := by simpa using h32
    by_cases h9 : 9 ≤ z
    · go_enter Yba.func5, Yba.ntmps5
      go_wp2
      go_ret
      exact ⟨by simp [bl, h32', h9], rfl⟩
    · have h9' : z < 9 := by omega
      go_enter Yba.func5, Yba.ntmps5
      go_wp2
      go_ret
      exact ⟨by simp [bl, h32]; omega, rfl⟩

theorem blank_own (z : Int) (w : World) : Calls Yba.prog 7 #[.int .u8 z] w fun e w' => e = .returned (.bool (bl z)) ∧ w' = w := by
  by_cases h32 : z = 32
  · subst h32
    go_enter Yba.func7, Yba.ntmps7
    go_wp2
    go_ret
    exact ⟨by simp [bl], rfl⟩
  · have h32' : (z == 32) = false := by simpa using h32
    by_cases h9 : 9 ≤ z
    · go_enter Yba.func7, Yba.ntmps7
      go_wp2
      go_ret
      exact ⟨by simp [bl, h32', h9], rfl⟩
    · have h9' : z < 9 := by omega
      go_enter Yba.func7, Yba.ntmps7
      go_wp2
      go_ret
      exact ⟨by simp [bl, h32]; omega, rfl⟩

/-- The byte at k, as the walk spells it. -/
def ch (s : ByteArray) (k : Nat) : Int := if h : k < s.size then ((s[k]'h).toNat : Int) else 0
/-- i is the first position that holds no blank (or the end). -/
def Fr (s : ByteArray) (i : Nat) : Prop := i ≤ s.size ∧ (∀ k, k < i → bl (ch s k) = true) ∧ (i < s.size → bl (ch s i) = false)
/-- j is the end of the last byte, from i on, that is no blank (or i). -/
def Bk (s : ByteArray) (i j : Nat) : Prop := i ≤ j ∧ j ≤ s.size ∧ (∀ k, j ≤ k → k < s.size → bl (ch s k) = true) ∧ (i < j → bl (ch s (j - 1)) = false)

theorem Fr.one {s : ByteArray} {i i' : Nat} (h : Fr s i) (h' : Fr s i') : i = i' := by
  rcases Nat.lt_trichotomy i i' with hlt | rfl | hlt
  · have := h'.2.1 i hlt
    rw [h.2.2 (by have := h'.1; omega)] at this
    cases this
  · rfl
  · have := h.2.1 i' hlt
    rw [h'.2.2 (by have := h.1; omega)] at this
    cases this
theorem Bk.one {s : ByteArray} {i j j' : Nat} (h : Bk s i j) (h' : Bk s i j') : j = j' := by
  obtain ⟨a1, a2, a3, a4⟩ := h
  obtain ⟨b1, b2, b3, b4⟩ := h'
  rcases Nat.lt_trichotomy j j' with hlt | rfl | hlt
  · have := a3 (j' - 1) (by omega) (by omega)
    rw [b4 (by omega)] at this
    cases this
  · rfl
  · have := b3 (j - 1) (by omega) (by omega)
    rw [a4 (by omega)] at this
    cases this

theorem ch_at (s : ByteArray) (k : Nat) (h : k < s.size) : ch s k = ((s[k]'h).toNat : Int) := by simp [ch, h]
theorem ch_ext (s u : ByteArray) (a b k : Nat) (hu : u = s.extract a b) (hb : b ≤ s.size) (hk : k < u.size) : ((u[k]'hk).toNat : Int) = ch s (a + k) := by
  subst hu
  have h2 := hk
  rw [ByteArray.size_extract] at h2
  rw [ch_at s (a + k) (by omega), ByteArray.getElem_extract]
theorem empty_of (u : ByteArray) (h : u.size = 0) : u.toList.isEmpty = true := by
  rw [ByteArray.toList_eq, List.isEmpty_iff_length_eq_zero]
  exact h
theorem full_of (u : ByteArray) (h : 0 < u.size) : u.toList.isEmpty = false := by
  rw [ByteArray.toList_eq]
  have h' : 0 < u.data.toList.length := h
  cases hl : u.data.toList with
  | nil => rw [hl] at h'; exact absurd h' (by decide)
  | cons x l => rfl

set_option maxHeartbeats 1000000 in
theorem trim_any (s : ByteArray) (hs : s.size ≤ 4096) (w : World) : Calls Yba.prog 6 #[.string s] w fun e w' => (∃ i j, Fr s i ∧ Bk s i j ∧ e = .returned (.string (s.extract i j))) ∧ w' = w := by
  go_enter Yba.func6, Yba.ntmps6
  go_upto_block 0 with fail
  go_cut [0] from 3 to 11 (fun t wc => ∃ i u, t = .string u ∧ Hid (u = s.extract i s.size) ∧ Hid (Fr s i) ∧ u.size = s.size - i ∧ i ≤ s.size ∧ w = wc)
  case first =>
    go_wp2_with fail
    go_loopw [0] (fun t wr => ∃ i, i ≤ s.size ∧ ∃ u : ByteArray, t = .string u ∧ Hid (u = s.extract i s.size) ∧ Hid (∀ k, k < i → bl (ch s k) = true) ∧ u.size = s.size - i ∧ w = wr) (fun t _ => (match t with | .string u => u.size | _ => 0))
    case atStart => exact ⟨0, Nat.zero_le _, _, rfl, Hid.mk' (by simp), Hid.mk' (fun k hk => by omega), by simp, rfl⟩
    case round =>
    obtain ⟨i, hi, u, rfl, HU, HB, hul, rfl⟩ := hrel
    by_cases hlt : i < s.size
    · have hp : 0 < u.size := by omega
      have hne := full_of u hp
      have hch := ch_ext s u i s.size 0 HU.out (Nat.le_refl _) hp
      by_cases hb : bl ((u[0]'hp).toNat : Int) = true
      · have HBB : Hid (bl (ch s i) = true) := by rw [hch] at hb; exact hb
        clear hch
        go_wp2_with (go_at_call 7; refine (blank_own _ _).mono ?_; rintro e w5 ⟨rfl, rfl⟩)
        go_roundw
        case rel =>
          refine ⟨i + 1, by omega, _, rfl, Hid.mk' ?_, Hid.mk' ?_, ?_, trivial⟩
          · rw [HU.out, ByteArray.extract_extract]
            congr 1
            omega
          · intro k hk
            rcases Nat.lt_or_ge k i with h | h
            · exact HB.out k h
            · obtain rfl : k = i := by omega
              exact HBB.out
          · rw [ByteArray.size_extract]; omega
        case measure => simp [ByteArray.size_extract]; omega
      · have hb' : bl ((u[0]'hp).toNat : Int) = false := by simpa using hb
        have HBB : Hid (bl (ch s i) = false) := by rw [hch] at hb'; exact hb'
        clear hch hb
        go_wp2_with (go_at_call 7; refine (blank_own _ _).mono ?_; rintro e w5 ⟨rfl, rfl⟩)
        go_meet
        exact ⟨i, u, rfl, HU, Hid.mk' ⟨hi, HB.out, fun _ => HBB.out⟩, hul, hi, rfl⟩
    · have hne := empty_of u (by omega)
      go_wp2_with fail
      go_meet
      exact ⟨i, u, rfl, HU, Hid.mk' ⟨hi, HB.out, fun h => (hlt h).elim⟩, hul, hi, rfl⟩
  case rest =>
    obtain ⟨i, v, rfl, HV, HF, hvl, hi, rfl⟩ := hcut
    go_wp2_with fail
    go_loopw [0] (fun t wr => ∃ j, i ≤ j ∧ j ≤ s.size ∧ ∃ u : ByteArray, t = .string u ∧ Hid (u = s.extract i j) ∧ Hid (∀ k, j ≤ k → k < s.size → bl (ch s k) = true) ∧ u.size = j - i ∧ w = wr) (fun t _ => (match t with | .string u => u.size | _ => 0))
    case atStart => exact ⟨s.size, hi, Nat.le_refl _, _, rfl, HV, Hid.mk' (fun k hk _ => by omega), hvl, rfl⟩
    case round =>
    obtain ⟨j, hij, hj, u, rfl, HU, HB, hul, rfl⟩ := hrel
    clear hvl HV v
    by_cases hlt : i < j
    · have hp : j - i - 1 < u.size := by omega
      have hp' : u.size - 1 < u.size := by omega
      have hne := full_of u (by omega)
      have hch := ch_ext s u i j (j - i - 1) HU.out hj hp
      have hch' : i + (j - i - 1) = j - 1 := by omega
      rw [hch'] at hch
      clear hch'
      by_cases hb : bl (ch s (j - 1)) = true
      · go_wp2_with (go_at_call 7; refine (blank_own _ _).mono ?_; rintro e w5 ⟨rfl, rfl⟩)
        go_roundw
        case rel =>
          refine ⟨j - 1, by omega, by omega, _, rfl, Hid.mk' ?_, Hid.mk' ?_, ?_, trivial⟩
          · rw [HU.out, ByteArray.extract_extract]
            congr 1
            omega
          · intro k hk hk'
            rcases Nat.lt_or_ge k j with h | h
            · obtain rfl : k = j - 1 := by omega
              exact hb
            · exact HB.out k h hk'
          · rw [ByteArray.size_extract]; omega
        case measure => simp [ByteArray.size_extract]; omega
      · have hb' : bl (ch s (j - 1)) = false := by simpa using hb
        clear hb
        go_wp2_with (go_at_call 7; refine (blank_own _ _).mono ?_; rintro e w5 ⟨rfl, rfl⟩)
        go_ret
        exact ⟨⟨i, j, HF.out, ⟨hij, hj, HB.out, fun _ => hb'⟩, by simp [HU.out]⟩, rfl⟩
    · have hne := empty_of u (by omega)
      go_wp2_with fail
      go_ret
      obtain rfl : j = i := by omega
      exact ⟨⟨j, j, HF.out, ⟨hij, hj, HB.out, fun h => (by omega)⟩, by simp [HU.out]⟩, rfl⟩

theorem early (s : ByteArray) (w : World) (h : 4096 < s.size) : Calls Yba.prog 3 #[.string s] w fun e w' => e = .returned (.bool true) ∧ Grown w w' := by
  have h' : (4096 : Int) < s.size := by omega
  go_enter Yba.func3, Yba.ntmps3
  go_wp2
  go_ret
  exact ⟨rfl, Grown.refl _⟩

set_option maxHeartbeats 1000000 in
theorem late (s : ByteArray) (w : World) (hs : s.size ≤ 4096) : Calls Yba.prog 3 #[.string s] w fun e w' => e = .returned (.bool true) ∧ Grown w w' := by
  have hs' : (s.size : Int) ≤ 4096 := by omega
  go_enter Yba.func3, Yba.ntmps3
  go_upto_block 0 with fail
  go_cut [3] from 8 to 19 (fun t wc => ∃ i : Nat, t = .int .i64 i ∧ Hid (Fr s i) ∧ i ≤ s.size ∧ w = wc)
  case first =>
    go_wp2_with fail
    go_loopw [3] (fun t wr => ∃ i : Nat, t = .int .i64 i ∧ i ≤ s.size ∧ Hid (∀ k, k < i → bl (ch s k) = true) ∧ w = wr) (fun t _ => s.size - (intOf t).toNat)
    case atStart => exact ⟨0, rfl, Nat.zero_le _, Hid.mk' (fun k hk => by omega), rfl⟩
    case round =>
    obtain ⟨i, rfl, hi, HB, rfl⟩ := hrel
    by_cases hlt : i < s.size
    · have hch := (ch_at s i hlt).symm
      by_cases hb : bl (ch s i) = true
      · go_wp2_with (go_at_call 5; refine (blank_law _ _).mono ?_; rintro e w5 ⟨rfl, rfl⟩)
        go_roundw
        case rel =>
          refine ⟨i + 1, by go_num, by omega, Hid.mk' ?_, trivial⟩
          intro k hk
          rcases Nat.lt_or_ge k i with h | h
          · exact HB.out k h
          · obtain rfl : k = i := by omega
            exact hb
        case measure => simp [intOf]; omega
      · have hb' : bl (ch s i) = false := by simpa using hb
        clear hb
        go_wp2_with (go_at_call 5; refine (blank_law _ _).mono ?_; rintro e w5 ⟨rfl, rfl⟩)
        go_meet
        exact ⟨i, rfl, Hid.mk' ⟨hi, HB.out, fun _ => hb'⟩, hi, rfl⟩
    · go_wp2_with fail
      go_meet
      exact ⟨i, rfl, Hid.mk' ⟨hi, HB.out, fun h => (hlt h).elim⟩, hi, rfl⟩
  case rest =>
    obtain ⟨i, rfl, HF, hi, rfl⟩ := hcut
    go_upto_block 2 with fail
    go_cut [4] from 22 to 33 (fun t wc => ∃ j : Nat, t = .int .i64 j ∧ Hid (Bk s i j) ∧ i ≤ j ∧ j ≤ s.size ∧ w = wc)
    case first =>
      go_wp2_with fail
      go_loopw [4] (fun t wr => ∃ j : Nat, t = .int .i64 j ∧ i ≤ j ∧ j ≤ s.size ∧ Hid (∀ k, j ≤ k → k < s.size → bl (ch s k) = true) ∧ w = wr) (fun t _ => (intOf t).toNat)
      case atStart => exact ⟨s.size, rfl, hi, Nat.le_refl _, Hid.mk' (fun k hk _ => by omega), rfl⟩
      case round =>
      obtain ⟨j, rfl, hij, hj, HB, rfl⟩ := hrel
      by_cases hlt : i < j
      · have hch := (ch_at s (j - 1) (by omega)).symm
        by_cases hb : bl (ch s (j - 1)) = true
        · go_wp2_with (go_at_call 5; refine (blank_law _ _).mono ?_; rintro e w5 ⟨rfl, rfl⟩)
          go_roundw
          case rel =>
            refine ⟨j - 1, by go_num, by omega, by omega, Hid.mk' ?_, trivial⟩
            intro k hk hk'
            rcases Nat.lt_or_ge k j with h | h
            · obtain rfl : k = j - 1 := by omega
              exact hb
            · exact HB.out k h hk'
          case measure => simp [intOf]; omega
        · have hb' : bl (ch s (j - 1)) = false := by simpa using hb
          clear hb
          go_wp2_with (go_at_call 5; refine (blank_law _ _).mono ?_; rintro e w5 ⟨rfl, rfl⟩)
          go_meet
          exact ⟨j, rfl, Hid.mk' ⟨hij, hj, HB.out, fun _ => hb'⟩, hij, hj, rfl⟩
      · go_wp2_with fail
        go_meet
        exact ⟨j, rfl, Hid.mk' ⟨hij, hj, HB.out, fun h => (hlt h).elim⟩, hij, hj, rfl⟩
    case rest =>
      obtain ⟨j, rfl, HK, hij, hj, rfl⟩ := hcut
      go_wp2_with fail
      go_region_held3 (fun w' => True) (trivial)
        (first | (go_at_call 6; refine (trim_any s hs w.drew).mono ?_; rintro e w5 ⟨⟨i', j', hF', hK', rfl⟩, rfl⟩; obtain rfl := hF'.one HF.out; obtain rfl := hK'.one HK.out))
      go_wp2
      go_ret
      exact ⟨by simp, by repeat (first | exact Grown.refl _ | apply Grown.drew | apply Grown.alloc)⟩
end Go.Proofs.Ybulkbbui.Tb
