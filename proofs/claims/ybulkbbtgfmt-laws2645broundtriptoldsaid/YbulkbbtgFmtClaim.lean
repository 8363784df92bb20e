/-
  THE WALK of (RCDI).Claim (function 6): the map copied, each element as an interface value.
-/
import Derived.Test.YbulkbbtgFmtBuild
import Derived.Maps.Ext
namespace Go.Proofs.YbulkbbtgFmt.Mp
open Go.RowKit Go.Maps Go.WideMaps

/-- How an element of type 'any' reads here: a string in an interface, or nil. -/
def anyStr : Value → Option (DataW Unit × List MemPlace)
  | .iface t (.string s) => if t = 9 ∧ s.size ≤ maxLen then some (.lit (.string s.data.toList), []) else none
  | .nilIface => some (.nil, [])
  | _ => none
theorem anyStr_mk {s : ByteArray} (h : s.size ≤ maxLen) : anyStr (.iface 9 (.string s)) = some (.lit (.string s.data.toList), []) := by simp [anyStr, h]
theorem anyStr_inv {v : Value} {x : Str} {ps : List MemPlace} (h : anyStr v = some (vd x, ps)) : ∃ s : ByteArray, v = .iface 9 (.string s) ∧ bs s = x := by
  unfold anyStr at h
  split at h
  · split at h
    · rename_i hc
      obtain ⟨rfl, _⟩ := hc
      simp only [Option.some.injEq, Prod.mk.injEq] at h
      exact ⟨_, rfl, by simpa [vd, bs] using h.1⟩
    · cases h
  · simp [vd] at h
  · cases h

theorem makeMap30 (n : Int) (w : World) : (Instr.makeMap 30 (some (.int .i64 n))).run Ybaf.prog w = .ok (.map (some w.heap.size)) (w.alloc (.map #[] 0)) := by kernel_rfl

theorem keyOf_string_inv {key : Value} {kl : Lit} (h : keyOf Ybaf.prog 9 key = some kl) : ∃ s : ByteArray, key = .string s ∧ kl = .string s.data.toList ∧ s.size ≤ maxLen := by
  cases key <;> simp [keyOf, Ybaf.underlying9, mapKey] at h
  obtain ⟨h1, rfl⟩ := h
  exact ⟨_, rfl, rfl, h1⟩

set_option maxRecDepth 100000 in
set_option maxHeartbeats 1000000 in
theorem claim_any (b n : Nat) (D0 : DataW Unit) (w : World) (hown : w.ownsMap Ybaf.prog 9 (plainElem Ybaf.prog 9) b n D0) (hmax : Maps.size D0 ≤ 1024) :
    Calls Ybaf.prog 6 #[.map (some b)] w fun e w' => e = .returned (.map (some w.heap.size)) ∧ w'.ownsMap Ybaf.prog 9 anyStr w.heap.size (Maps.size D0) D0 ∧ Below w.heap.size w w' := by
  have hmm := makeMap30
  have hbl := hown.lt
  have e1 : (w.alloc (.map #[] 0)).heap.size = w.heap.size + 1 := by simp
  go_enter Ybaf.func6, Ybaf.ntmps6
  go_wp2_with (first
    | (at_len; refine wpList_len_own _ rfl _ 24 rfl 9 9 Ybaf.underlying24 _ b n _ rfl hown ?_)
    | (at_range; refine wpList_range_own _ rfl _ 24 rfl 9 9 law9 Ybaf.underlying24 _ b n _ rfl (hown.alloc _) ?_; intro w0 hrg0 hg0 hs0)
    | go_in)
  go_frame
  rw [e1] at hrg0 hs0 ⊢
  go_loopw [4] (fun _ wr => ∃ (left : Lit → Bool) (cnt : Nat) (Dout : DataW Unit), wr.ranges Ybaf.prog 9 (plainElem Ybaf.prog 9) b (w.heap.size + 1) n D0 left cnt ∧ cnt ≤ Maps.size D0 ∧
      wr.ownsMap Ybaf.prog 9 anyStr w.heap.size (Maps.size D0 - cnt) Dout ∧ Agree Dout D0 left ∧ Below w.heap.size w wr)
    (fun _ wr => wr.rangeLeft b (w.heap.size + 1))
  case atStart =>
    exact ⟨_, _, .map [], hrg0, Nat.le_refl _, ((World.ownsMap_made _ _ _ _).kept hg0 (by simp)).mono (Nat.zero_le _), agree_start D0, ((Below.refl _ _).alloc (Nat.le_refl _) _).grown hg0 (by simp) (fun j hj => by cases hj)⟩
  case round =>
    obtain ⟨left, cnt, Dout, hrg, hcs, hout, hA, hnx⟩ := hrel
    go_wp2_with (first
      | (at_next; refine wpList_next_ranges _ rfl _ rfl 9 law9 (plainElem Ybaf.prog 9) Value.string Value.string (fun key kl hkey => by obtain ⟨s, rfl, _⟩ := keyOf_string_inv hkey; exact ⟨s, rfl⟩) (fun v y hv => by obtain ⟨s, rfl, _⟩ := plainElem_string_inv Ybaf.underlying9 hv; exact ⟨s, rfl⟩) b (w.heap.size + 1) n _ _ _ rfl hrg ?_ ?_)
      | go_in)
    · -- nothing is left
      intro hc0 hl0
      go_wp2
      go_ret
      subst hc0
      have e := agree_end hA hl0 (hout.canon law9) (hown.canon law9)
      subst e
      exact ⟨rfl, by simpa using hout, hnx⟩
    · -- an entry has come
      intro x c kl y1 y2 w1 cnt1 hkx hlx hRc hat hrg1 hlt hg1 hs1 hen
      obtain ⟨x', ex, rfl, hwx⟩ := keyOf_string_inv hkx
      cases ex
      obtain ⟨c', ec, ey, hwc⟩ := plainElem_string_inv Ybaf.underlying9 hRc
      cases ec
      cases ey
      have hout1 := hout.kept hg1 (by simp)
      clear hkx hRc
      go_wp2_with (first
        | (at_mapUpdate; refine wpList_mapUpdate_own _ rfl _ _ _ 30 rfl 9 20 law9 Ybaf.underlying30 _ w.heap.size _ _ rfl hout1 (by unfold maxLen; omega) _ _ _ rfl rfl (keyOf_string_mk Ybaf.underlying9 hwx) _ [] (anyStr_mk hwc) ?_; intro w2 hout2 hg2; go_frame)
        | go_in)
      have hrg2 := hrg1.kept hg2 (fun e => by have := Option.some.inj e; omega) (fun e => by have := Option.some.inj e; omega)
      go_roundw
      case rel =>
        exact ⟨_, cnt1, _, hrg2, by omega, hout2.mono (by omega), agree_step hA hout.isMap trivial hat,
          (hnx.grown hg1 hnx.size (fun j hj => by cases hj; exact Nat.le_succ _)).grown hg2 (by have := hnx.size; omega) (fun j hj => by cases hj; exact Nat.le_refl _)⟩
      case measure => rw [hrg2.left_eq, hrg.left_eq]; exact hlt
end Go.Proofs.YbulkbbtgFmt.Mp
