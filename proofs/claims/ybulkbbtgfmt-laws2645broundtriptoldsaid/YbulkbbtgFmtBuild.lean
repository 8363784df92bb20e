/-
  THE WALK of zzs2645bbuild (function 4).
-/
import Derived.Test.YbulkbbtgFmtRows
import Derived.Test.YbulkbbtgFmtPlain
import Derived.WalkKit
import Derived.WalkSpells
import Derived.RegionTactic
import Derived.ChangeAlike
import Derived.Maps.RangeWalk
import Derived.Maps.StringElems
import Derived.Deep.DeepCutAuto
namespace Go.Proofs.YbulkbbtgFmt.Mp
open Go.RowKit Go.Maps Go.WideMaps

theorem law9 : Keyed Ybaf.prog 9 := string_keyed Ybaf.underlying9
theorem Hid.mk' {p : Prop} (h : p) : Hid p := h

/-- What a walk is told of a slice of strings that came in. -/
structure Strs (w : World) (a : Option Addr) (n : Nat) (ss : List ByteArray) : Prop where
  len : ss.length = n
  small : ∀ s ∈ ss, s.size ≤ maxLen
  cells : 0 < n → ∃ b o, a = some ⟨b, o, none⟩ ∧ b < w.heap.size ∧ ∀ i, i < n → w.cell? ⟨b, o + i, none⟩ = some (.string (ss.getD i ByteArray.empty))
theorem Strs.size {w : World} {a : Option Addr} {n : Nat} {ss : List ByteArray} (h : Strs w a n ss) (i : Nat) : (ss.getD i ByteArray.empty).size ≤ maxLen := by
  by_cases hi : i < ss.length
  · rw [List.getD_eq_getElem?_getD, List.getElem?_eq_getElem hi]; exact h.small _ (List.getElem_mem hi)
  · rw [List.getD_eq_getElem?_getD, List.getElem?_eq_none (by omega)]; exact Nat.zero_le _
theorem Strs.mono {w w' : World} {a : Option Addr} {n : Nat} {ss : List ByteArray} (h : Strs w a n ss) (hb : Below w.heap.size w w') : Strs w' a n ss :=
  ⟨h.len, h.small, fun hn => by
    obtain ⟨b, o, ha, hlt, hc⟩ := h.cells hn
    exact ⟨b, o, ha, Nat.lt_of_lt_of_le hlt hb.size, fun i hi => (hb.cell (p := ⟨b, o + i, none⟩) hlt).trans (hc i hi)⟩⟩
theorem getD_map (ss : List ByteArray) (i : Nat) : bs (ss.getD i ByteArray.empty) = val (ss.map bs) i := by
  unfold val
  rw [List.getD_eq_getElem?_getD, List.getD_eq_getElem?_getD, List.getElem?_map]
  cases ss[i]? <;> rfl

set_option maxHeartbeats 1000000 in
theorem build_any (a1 : Option Addr) (n1 c1 : Nat) (a2 : Option Addr) (n2 c2 : Nat) (ks vs : List ByteArray) (w : World) (h1 : Strs w a1 n1 ks) (h2 : Strs w a2 n2 vs) (hn1 : n1 ≤ 1024) (hn2 : n2 ≤ 1024) :
    Calls Ybaf.prog 4 #[.slice a1 n1 c1, .slice a2 n2 c2] w fun e w' => ∃ D, e = .returned (.map (some w.heap.size)) ∧ w'.ownsMap Ybaf.prog 9 (plainElem Ybaf.prog 9) w.heap.size n1 D ∧ Built (ks.map bs) (vs.map bs) n1 D ∧ Below w.heap.size w w' := by
  have hmm := @run_makeMap Ybaf.prog
  go_enter Ybaf.func4, Ybaf.ntmps4
  go_wp2
  go_loopw [6] (fun kv wr => ∃ k : Nat, k ≤ n1 ∧ kv = .int .i64 k ∧ ∃ D, wr.ownsMap Ybaf.prog 9 (plainElem Ybaf.prog 9) w.heap.size k D ∧ Built (ks.map bs) (vs.map bs) k D ∧ Below w.heap.size w wr) (fun kv _ => n1 - (intOf kv).toNat)
  case atStart => exact ⟨0, Nat.zero_le _, rfl, _, World.ownsMap_made _ _ _ _, Built.start _ _, (Below.refl _ _).alloc (Nat.le_refl _) _⟩
  case round =>
    obtain ⟨k, hk, rfl, D, hown, hB, hnx⟩ := hrel
    by_cases hlt : k < n1
    · obtain ⟨b1, o1, rfl, hb1, hc1⟩ := h1.cells (by omega)
      have hck := (hnx.cell (p := ⟨b1, o1 + k, none⟩) hb1).trans (hc1 k hlt)
      have hks := h1.size k
      have hvs := h2.size k
      have hkk : k < ks.length := by rw [h1.len]; exact hlt
      have hstep := hB.step (hown.tidy law9) (k := k) (by rw [List.length_map]; exact hkk)
      rw [List.getElem_map, ← getD_map vs k] at hstep
      have e0 : ks[k] = ks.getD k ByteArray.empty := by rw [List.getD_eq_getElem?_getD, List.getElem?_eq_getElem hkk]; rfl
      rw [e0] at hstep
      obtain ⟨s, hs⟩ : ∃ s, s = ks.getD k ByteArray.empty := ⟨_, rfl⟩
      obtain ⟨v, hv⟩ : ∃ v, v = vs.getD k ByteArray.empty := ⟨_, rfl⟩
      rw [← hs] at hck hks hstep
      rw [← hv] at hvs hstep
      have HV := Hid.mk' hv
      have HST := Hid.mk' hstep
      clear hs hv hc1 hstep e0 hB
      go_upto_if 18 with fail
      go_cut [7] (fun x wc => x = .string v ∧ wr = wc)
      case first =>
        by_cases hl : k < n2
        · obtain ⟨b2, o2, rfl, hb2, hc2⟩ := h2.cells (by omega)
          have hcv := (hnx.cell (p := ⟨b2, o2 + k, none⟩) hb2).trans (hc2 k hl)
          rw [← HV.out] at hcv
          clear hc2
          go_wp2
          go_meet
          exact ⟨rfl, rfl⟩
        · have hv0 : v = ByteArray.empty := by
            rw [HV.out, List.getD_eq_getElem?_getD, List.getElem?_eq_none (by rw [h2.len]; omega)]; rfl
          go_wp2
          go_meet
          exact ⟨by rw [hv0]; rfl, rfl⟩
      case rest =>
        obtain ⟨rfl, rfl⟩ := hcut
        go_wp2_with (first | (at_mapUpdate; refine wpList_mapUpdate_own _ rfl _ _ _ 24 rfl 9 9 law9 Ybaf.underlying24 _ w.heap.size k _ rfl hown (by unfold maxLen; omega) _ _ _ rfl rfl (keyOf_string_mk Ybaf.underlying9 hks) _ [] (plainElem_string Ybaf.underlying9 hvs) ?_; intro w1 hown1 hg1; go_frame) | go_in)
        go_roundw
        case rel => exact ⟨k + 1, by omega, by go_num, _, hown1, HST.out, hnx.grown hg1 hnx.size (fun j hj => by cases hj; exact Nat.le_refl _)⟩
        case measure => simp [intOf]; omega
    · obtain rfl : k = n1 := by omega
      go_wp2
      go_ret
      exact ⟨D, rfl, hown, hB, hnx⟩
end Go.Proofs.YbulkbbtgFmt.Mp
