/-
  THE WALK of zzs2645blast (function 6): the last place of a key.
-/
import Derived.Test.YbulkbbtgBuild
namespace Go.Proofs.Ybulkbbtg.Mp
open Go.RowKit

theorem beq_of_ne {s t : ByteArray} (h : t ≠ s) : (t.toList == s.toList) = false := by
  rw [ByteArray.toList_eq, ByteArray.toList_eq]
  exact beq_eq_false_iff_ne.2 fun e => h (bs_inj e)

set_option maxHeartbeats 1000000 in
theorem last_any (a : Option Addr) (n c i : Nat) (ks : List ByteArray) (w : World) (h : Strs w a n ks) (hi : i < n) (hn : n ≤ 1024) :
    Calls Yba.prog 6 #[.slice a n c, .int .i64 i] w fun e w' => ∃ l : Nat, e = .returned (.int .i64 l) ∧ i ≤ l ∧ l < n ∧ ks.getD l ByteArray.empty = ks.getD i ByteArray.empty ∧
      (∀ j, l < j → j < n → ks.getD j ByteArray.empty ≠ ks.getD i ByteArray.empty) ∧ Below w.heap.size w w' := by
  obtain ⟨b, o, rfl, hb, hc⟩ := h.cells (by omega)
  go_enter Yba.func6, Yba.ntmps6
  go_wp2
  go_loopw [5, 6] (fun lv jv wr => ∃ l j : Nat, lv = .int .i64 l ∧ jv = .int .i64 j ∧ i ≤ l ∧ l < j ∧ j ≤ n ∧ Hid (ks.getD l ByteArray.empty = ks.getD i ByteArray.empty ∧ ∀ t, l < t → t < j → ks.getD t ByteArray.empty ≠ ks.getD i ByteArray.empty) ∧ Below w.heap.size w wr) (fun _ jv _ => n - (intOf jv).toNat)
  case atStart => exact ⟨i, i + 1, rfl, by go_num, Nat.le_refl _, by omega, by omega, ⟨rfl, fun t h1 h2 => by omega⟩, Below.refl _ _⟩
  case round =>
    obtain ⟨l, j, rfl, rfl, hil, hlj, hjn, HL, hnx⟩ := hrel
    by_cases hlt : j < n
    · have hcj := (hnx.cell (p := ⟨b, o + j, none⟩) hb).trans (hc j hlt)
      have hci := (hnx.cell (p := ⟨b, o + i, none⟩) hb).trans (hc i hi)
      by_cases he : ks.getD j ByteArray.empty = ks.getD i ByteArray.empty
      · rw [he] at hcj
        have HE := Hid.mk' he
        obtain ⟨s, hs⟩ : ∃ s, s = ks.getD i ByteArray.empty := ⟨_, rfl⟩
        rw [← hs] at hcj hci
        clear he hs
        go_wp2
        go_region
        all_goals go_wp2
        go_roundw
        case rel => exact ⟨j, j + 1, rfl, by go_num, by omega, by omega, by omega, ⟨HE.out, fun t h1 h2 => by omega⟩, hnx.drew⟩
        case measure => simp [intOf]; omega
      · obtain ⟨s, hs⟩ : ∃ s, s = ks.getD i ByteArray.empty := ⟨_, rfl⟩
        obtain ⟨t, ht⟩ : ∃ t, t = ks.getD j ByteArray.empty := ⟨_, rfl⟩
        have HE := Hid.mk' he
        rw [← hs, ← ht] at he
        rw [← hs] at hci
        rw [← ht] at hcj
        have eb := beq_of_ne he
        clear hs ht he
        go_wp2
        go_region
        all_goals go_wp2
        go_roundw
        case rel =>
          refine ⟨l, j + 1, rfl, by go_num, by omega, by omega, by omega, ⟨HL.out.1, fun t h1 h2 => ?_⟩, hnx.drew⟩
          by_cases hj' : t = j
          · rw [hj']; exact HE.out
          · exact HL.out.2 t h1 (by omega)
        case measure => simp [intOf]; omega
    · obtain rfl : j = n := by omega
      go_wp2
      go_ret
      exact ⟨l, rfl, hil, by omega, HL.out.1, fun t h1 h2 => HL.out.2 t h1 h2, hnx⟩
end Go.Proofs.Ybulkbbtg.Mp
