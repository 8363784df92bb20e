/-
  THE WALK of readRCDI (function 5) at what (RCDI).Claim gives: it hands back a map that reads as the first one.
-/
import Derived.Test.YbulkbbtgFmtClaim
import Derived.Test.YbulkbbtgFmtIter
import Derived.WalkLawsBesides
namespace Go.Proofs.YbulkbbtgFmt.Mp
open Go.RowKit Go.Maps Go.WideMaps

theorem assert9 (s : ByteArray) (w : World) : (Instr.typeAssert (.iface 9 (.string s)) 20 9 true).run Ybaf.prog w = .ok (.tuple #[.string s, .bool true]) w := by kernel_rfl
theorem assert30 (b : Nat) (w : World) : (Instr.typeAssert (.iface 30 (.map (some b))) 20 30 true).run Ybaf.prog w = .ok (.tuple #[.map (some b), .bool true]) w := by kernel_rfl
theorem makeMap24 (n : Int) (w : World) : (Instr.makeMap 24 (some (.int .i64 n))).run Ybaf.prog w = .ok (.map (some w.heap.size)) (w.alloc (.map #[] 0)) := by kernel_rfl
theorem zero20 (w : World) : (zeroValue 20).run Ybaf.prog w = .ok .nilIface w := by kernel_rfl
theorem zero9 (w : World) : (zeroValue 9).run Ybaf.prog w = .ok (.string ByteArray.empty) w := by kernel_rfl
theorem kept_map {P : Program} {k : TypeId} {R : Value → Option (DataW Unit × List MemPlace)} {w w' : World} {b n B : Nat} {D : DataW Unit} (h : w.ownsMap P k R b n D) (hlt : b < B) (hb : Below B w w') : w'.ownsMap P k R b n D := by
  obtain ⟨es, clock, hh, rest⟩ := h
  exact ⟨es, clock, (hb.block _ hlt).trans hh, rest⟩

/-- What the map of strings holds at a key that it has. -/
theorem elems {w : World} {b n : Nat} {D : DataW Unit} (hown : w.ownsMap Ybaf.prog 9 (plainElem Ybaf.prog 9) b n D) (x : Str) (hx : Maps.has D (.string x) = true) :
    x.length ≤ maxLen ∧ ∃ s : ByteArray, s.size ≤ maxLen ∧ ∀ zd, D.atKey (.string x) zd = vd (bs s) := by
  obtain ⟨es, hD, hpw, hkl⟩ := hown.entries law9
  have hx' := hx
  rw [hD] at hx
  obtain ⟨p, hp, hs⟩ := List.any_eq_true.1 hx
  have e1 : p.1 = .string x := WideAt.sameKey_eq hs
  have hmem : x ∈ strKeys D := by rw [hD]; exact List.mem_map.2 ⟨p, hp, by rw [e1]; rfl⟩
  have hle := strKeys_le hown Ybaf.underlying9 x hmem
  have hat : ∀ zd, D.atKey (.string x) zd = p.2 := fun zd => by
    rw [hD]
    exact WideAt.atKey_mem zd (by rw [← e1]; exact hkl p hp) hpw (by rw [← e1]; exact hp)
  obtain ⟨v, ps, _, hv⟩ := hown.lookup law9 Ybaf.underlying24 (zero9 w) (plainElem_string Ybaf.underlying9 (Nat.zero_le _)) (keyOf_string_mk Ybaf.underlying9 (s := ⟨x.toArray⟩) (by simpa [ByteArray.size] using hle))
  have e2 : D.atKey (.string (⟨x.toArray⟩ : ByteArray).data.toList) (.lit (.string ByteArray.empty.data.toList)) = p.2 := hat _
  rw [e2] at hv
  obtain ⟨s, rfl, hz, hsz⟩ := plainElem_string_inv Ybaf.underlying9 hv
  simp only [Prod.mk.injEq] at hz
  refine ⟨hle, s, hsz, fun zd => ?_⟩
  rw [hat zd, hz.1]
  rfl

/-- The look-up in the claim's map at a key whose element is known. -/
theorem look_any {w : World} {b n : Nat} {D : DataW Unit} {s v : ByteArray} (hown : w.ownsMap Ybaf.prog 9 anyStr b n D) (hs : s.size ≤ maxLen) (hat : ∀ zd, D.atKey (.string (bs s)) zd = vd (bs v)) :
    (Instr.lookup 30 (.map (some b)) (.string s) false).run Ybaf.prog w = .ok (.iface 9 (.string v)) w := by
  obtain ⟨x, ps, hrun, hx⟩ := hown.lookup law9 Ybaf.underlying30 (zero20 w) (zd := .nil) (zp := []) rfl (keyOf_string_mk Ybaf.underlying9 hs)
  have e2 : D.atKey (.string s.data.toList) .nil = vd (bs v) := hat .nil
  rw [e2] at hx
  obtain ⟨s', rfl, hs'⟩ := anyStr_inv hx
  rw [hrun, bs_inj hs']

/-- A row of strings of the call's own. -/
def SRow (w : World) (g : Nat) (xs : List Str) : Prop := ∃ C ty, w.heap[g]? = some (.cells C ty (0, 0)) ∧ C.toList.take xs.length = xs.map encStr
theorem SRow.kept {w w' : World} {g : Nat} {xs : List Str} {r : Option Nat} (h : SRow w g xs) (hg : w.grownBy w' r) (hne : some g ≠ r) : SRow w' g xs := by
  obtain ⟨C, ty, hh, ht⟩ := h
  exact ⟨C, ty, (hg.block g (Array.getElem?_eq_some_iff.1 hh).1 hne).trans hh, ht⟩
theorem SRow.cell {w : World} {g : Nat} {xs : List Str} (h : SRow w g xs) (j : Nat) (hj : j < xs.length) : w.cell? ⟨g, j, none⟩ = some (.string ⟨(xs.getD j []).toArray⟩) := by
  obtain ⟨C, ty, hh, ht⟩ := h
  rw [cell_of_row w g j C ty (0, 0) hh]
  have : (C.toList.take xs.length)[j]? = (xs.map encStr)[j]? := by rw [ht]
  rw [List.getElem?_take_of_lt hj, List.getElem?_map, List.getElem?_eq_getElem hj] at this
  rw [List.getD_eq_getElem?_getD, List.getElem?_eq_getElem hj]
  simpa [encStr] using this

theorem has_str {w : World} {b n : Nat} {D : DataW Unit} {R : Value → Option (DataW Unit × List MemPlace)} (hown : w.ownsMap Ybaf.prog 9 R b n D) {k : Lit} (h : Maps.has D k = true) : ∃ x, k = .string x ∧ x ∈ strKeys D := by
  obtain ⟨es, rfl, hko⟩ := hown.keysOf
  obtain ⟨p, hp, hs⟩ := List.any_eq_true.1 h
  have e1 : p.1 = k := WideAt.sameKey_eq hs
  obtain ⟨v, hv⟩ := hko p hp
  obtain ⟨y, _, hy, _⟩ := Maps.keyOf_str Ybaf.underlying9 hv
  exact ⟨y, by rw [← e1, hy], List.mem_map.2 ⟨p, hp, by rw [hy]; rfl⟩⟩
theorem key_has {D : DataW Unit} {w : World} {b n : Nat} {R : Value → Option (DataW Unit × List MemPlace)} (hown : w.ownsMap Ybaf.prog 9 R b n D) {x : Str} (h : x ∈ strKeys D) : Maps.has D (.string x) = true := by
  obtain ⟨es, rfl, hko⟩ := hown.keysOf
  obtain ⟨p, hp, hs⟩ := List.mem_map.1 h
  obtain ⟨v, hv⟩ := hko p hp
  obtain ⟨y, _, hy, _⟩ := Maps.keyOf_str Ybaf.underlying9 hv
  refine List.any_eq_true.2 ⟨p, hp, ?_⟩
  rw [hy] at hs ⊢
  subst hs
  simp [Lit.sameKey, strOf]
/-- What slices.Sorted hands back, as the walk wants it. -/
theorem sorted_row {w : World} {base n : Nat} {v : Value} {xs : List Str} (h : w.ownsRow base 9 1 v n (xs.map encStr)) : xs.length = n ∧ ∃ a cap, v = .slice a n cap ∧ (0 < n → ∃ g, a = some ⟨g, 0, none⟩ ∧ base ≤ g ∧ SRow w g xs) := by
  obtain ⟨hl, h⟩ := h
  rw [List.length_map, Nat.mul_one] at hl
  refine ⟨hl, ?_⟩
  rcases h with ⟨rfl, rfl⟩ | ⟨g, cap, cur, rfl, hbg, hg, _, _, _, ht⟩
  · exact ⟨none, 0, rfl, fun h => absurd h (by omega)⟩
  · refine ⟨_, cap, rfl, fun _ => ⟨g, rfl, hbg, cur, 9, hg, ?_⟩⟩
    rw [hl]
    simpa using ht
theorem len_keys {D : DataW Unit} (hm : IsMap D) : (strKeys D).length = Maps.size D := by
  obtain ⟨es, rfl⟩ := hm
  simp [strKeys, Maps.size]

set_option maxRecDepth 100000 in
set_option maxHeartbeats 2000000 in
theorem read_any (c n b m : Nat) (D0 : DataW Unit) (w : World) (hown : w.ownsMap Ybaf.prog 9 anyStr c n D0) (hR : w.ownsMap Ybaf.prog 9 (plainElem Ybaf.prog 9) b m D0) (hmax : Maps.size D0 ≤ 1024) :
    Calls Ybaf.prog 5 #[.iface 30 (.map (some c))] w fun e w' => e = .returned (.tuple #[.map (some w.heap.size), .nilIface]) ∧ w'.ownsMap Ybaf.prog 9 (plainElem Ybaf.prog 9) w.heap.size (Maps.size D0) D0 ∧ Below w.heap.size w w' := by
  have hmm := makeMap24
  have ha := assert30 c
  have hcl := hown.lt
  have hel := Hid.mk' (elems hR)
  have hkl := Hid.mk' (fun x => key_has hR (x := x))
  have hks := Hid.mk' (fun k => has_str hR (k := k))
  have hcan := Hid.mk' (hR.canon law9)
  have hlen := Hid.mk' (len_keys hown.isMap)
  clear hR
  go_enter Ybaf.func5, Ybaf.ntmps5
  go_wp2_with (first
    | (at_len; refine wpList_len_own _ rfl _ 30 rfl 9 20 Ybaf.underlying30 _ c n _ rfl hown ?_)
    | (go_at_call 10; refine (callsIn_wide.1 (Ybaf.maps_Keys_10 _ _)).mono ?_; rintro e w' ⟨rfl, rfl⟩)
    | fail)
  have e1 : (w.alloc (.map #[] 0)).heap.size = w.heap.size + 1 := by simp
  have e2 : ((w.alloc (.map #[] 0)).alloc (Obj.cells #[Value.map (some c)] 30)).heap.size = w.heap.size + 2 := by simp
  have hS := callsIn_wide.1 (Ybaf.slices_Sorted_keys_9_10 c n D0 anyStr (w.alloc (.map #[] 0)) (hown.alloc _) (by unfold maxLen; omega) (by omega))
  rw [e1, e2] at hS
  refine hS.mono ?_
  clear hS
  rintro e w3 ⟨v, ss, rfl, hperm, hrow, _, hb3⟩
  obtain ⟨N, hN⟩ : ∃ N, N = ss.length := ⟨_, rfl⟩
  rw [← hN] at hrow
  have hNs : N = Maps.size D0 := by rw [hN, hperm.length_eq, hlen.out]
  obtain ⟨hxl, a, cap, rfl, hrow2⟩ := sorted_row hrow
  obtain ⟨xs, hxs⟩ : ∃ xs, xs = ss.mergeSort (fun x y => decide (x ≤ y)) := ⟨_, rfl⟩
  rw [← hxs] at hrow2 hxl
  have hmem : ∀ x, x ∈ xs ↔ x ∈ strKeys D0 := fun x => by rw [hxs, List.mem_mergeSort]; exact hperm.mem_iff
  have HMEM := Hid.mk' hmem
  have HXL := Hid.mk' hxl
  have hB3 : Below w.heap.size w w3 := (((Below.refl _ _).alloc (Nat.le_refl _) _).alloc (by simp) _).trans (hb3.mono (by omega))
  have hc3 := kept_map ((hown.alloc (.map #[] 0)).alloc (Obj.cells #[Value.map (some c)] 30)) (by omega) hb3
  have hm3 := kept_map ((World.ownsMap_made w Ybaf.prog 9 (plainElem (H := Unit) Ybaf.prog 9)).alloc (Obj.cells #[Value.map (some c)] 30)) (by omega) hb3
  have HNS := Hid.mk' hNs
  have hNB : N ≤ 1024 := by omega
  have HROW := Hid.mk' hrow2
  clear hb3 hperm hmem hxl hxs hN e1 e2 hNs hown hrow hrow2 hlen
  go_wp2_with fail
  go_loopw [30] (fun iv wr => ∃ i : Nat, i ≤ N ∧ iv = .int .i64 i ∧ ∃ (Dout : DataW Unit) (left : Lit → Bool), wr.ownsMap Ybaf.prog 9 (plainElem Ybaf.prog 9) w.heap.size i Dout ∧ Hid (Agree Dout D0 left) ∧
      Hid (∀ x, left (.string x) = true → x ∈ xs.drop i) ∧ Hid (∀ k, left k = true → Maps.has D0 k = true) ∧ wr.ownsMap Ybaf.prog 9 anyStr c n D0 ∧ (0 < N → ∃ g, a = some ⟨g, 0, none⟩ ∧ w.heap.size < g ∧ SRow wr g xs) ∧ Below w.heap.size w wr) (fun iv _ => N - (intOf iv).toNat)
  case atStart =>
    exact ⟨0, Nat.zero_le _, rfl, _, _, hm3, Hid.mk' (agree_start D0), Hid.mk' (fun x hx => by
      obtain ⟨y, ey, hy⟩ := hks.out _ hx
      cases ey
      exact (HMEM.out _).2 hy), Hid.mk' (fun k hk => hk), hc3, fun h => by obtain ⟨g, hg, hbg, hr⟩ := HROW.out h; exact ⟨g, hg, by omega, hr⟩, hB3⟩
  case round =>
  clear hm3 hc3 hB3 HROW
  obtain ⟨i, hi, rfl, Dout, left, hout, HA, HL, HH, hin, hrow, hnx⟩ := hrel
  by_cases hlt : i < N
  · obtain ⟨g, rfl, hbg, hsr⟩ := hrow (by omega)
    have hck := hsr.cell i (by rw [HXL.out]; exact hlt)
    obtain ⟨x, hx⟩ : ∃ x, x = xs.getD i [] := ⟨_, rfl⟩
    rw [← hx] at hck
    have hxi : xs[i]'(by rw [HXL.out]; exact hlt) = x := by rw [hx, List.getD_eq_getElem?_getD, List.getElem?_eq_getElem (by rw [HXL.out]; exact hlt)]; rfl
    have hxm : x ∈ strKeys D0 := (HMEM.out x).1 (by rw [← hxi]; exact List.getElem_mem _)
    have hxh := hkl.out x hxm
    obtain ⟨hxl, s, hs, hat⟩ := hel.out x hxh
    obtain ⟨k, hk⟩ : ∃ k : ByteArray, k = ⟨x.toArray⟩ := ⟨_, rfl⟩
    have hbk : bs k = x := by rw [hk]; simp [bs]
    have hkz : k.size ≤ maxLen := by rw [hk]; simpa [ByteArray.size] using hxl
    rw [← hk] at hck
    rw [← hbk] at hat
    have hlk := look_any hin hkz hat
    have hta := assert9 s
    have HX := Hid.mk' hxi
    have HBK := Hid.mk' hbk
    have HAT := Hid.mk' hat
    clear hx hxi hxm hxh hxl hk hbk hat hrow
    go_wp2_with (first | (at_mapUpdate; refine wpList_mapUpdate_own _ rfl _ _ _ 24 rfl 9 9 law9 Ybaf.underlying24 _ w.heap.size i _ rfl hout (by unfold maxLen; omega) _ _ _ rfl rfl (keyOf_string_mk Ybaf.underlying9 hkz) _ [] (plainElem_string Ybaf.underlying9 hs) ?_; intro w1 hout1 hg1; go_frame) | go_in)
    go_roundw
    case rel =>
      refine ⟨i + 1, by omega, by go_num, _, _, hout1, Hid.mk' (agree_step HA.out hout.isMap trivial HAT.out), Hid.mk' ?_, Hid.mk' ?_, hin.kept hg1 (by simp; omega), fun _ => ⟨g, rfl, hbg, hsr.kept hg1 (by simp; omega)⟩, hnx.grown hg1 hnx.size (fun j hj => by cases hj; exact Nat.le_refl _)⟩
      · intro y hy
        simp only [Bool.and_eq_true, Bool.not_eq_true'] at hy
        have h1 := HL.out y hy.1
        rw [List.drop_eq_getElem_cons (by rw [HXL.out]; exact hlt), HX.out] at h1
        rcases List.mem_cons.1 h1 with e | h
        · exfalso
          have h2 := hy.2
          have e3 : k.data.toList = x := HBK.out
          rw [e, e3] at h2
          simp [Lit.sameKey] at h2
        · exact h
      · intro y hy
        simp only [Bool.and_eq_true] at hy
        exact HH.out y hy.1
    case measure => simp [intOf]; omega
  · obtain rfl : i = N := by omega
    have hend : ∀ k, left k = false := fun k => by
      cases hk : left k with
      | false => rfl
      | true =>
        obtain ⟨y, rfl, _⟩ := hks.out k (HH.out k hk)
        have := HL.out y hk
        rw [List.drop_of_length_le (by rw [HXL.out]; exact Nat.le_refl _)] at this
        cases this
    have e := agree_end HA.out hend (hout.canon law9) hcan.out
    subst e
    go_wp2
    go_ret2
    exact ⟨rfl, by rw [← HNS.out]; exact hout, hnx⟩
end Go.Proofs.YbulkbbtgFmt.Mp
