/-
  THE WALK of LawS2645BExact (function 3).
-/
import Derived.Test.YbulkbbtgClaim
import Derived.Test.YbulkbbtgLast
import Derived.WalkLawsBesides
namespace Go.Proofs.Ybulkbbtg.Mp
open Go.RowKit Go.Maps Go.WideMaps

theorem assert9 (s : ByteArray) (w : World) : (Instr.typeAssert (.iface 9 (.string s)) 20 9 true).run Yba.prog w = .ok (.tuple #[.string s, .bool true]) w := by kernel_rfl
theorem zero20 (w : World) : (zeroValue 20).run Yba.prog w = .ok .nilIface w := by kernel_rfl
theorem zero9 (w : World) : (zeroValue 9).run Yba.prog w = .ok (.string ByteArray.empty) w := by kernel_rfl
theorem kept_map {P : Program} {k : TypeId} {R : Value → Option (DataW Unit × List MemPlace)} {w w' : World} {b n : Nat} {D : DataW Unit} (h : w.ownsMap P k R b n D) (hb : Below w.heap.size w w') : w'.ownsMap P k R b n D := by
  have hlt := h.lt
  obtain ⟨es, clock, hh, rest⟩ := h
  exact ⟨es, clock, (hb.block _ hlt).trans hh, rest⟩

/-- The two look-ups at a key whose element is known. -/
theorem look_claim {w : World} {b n : Nat} {D : DataW Unit} {s v : ByteArray} (hown : w.ownsMap Yba.prog 9 anyStr b n D) (hs : s.size ≤ maxLen) (hhas : Maps.has D (.string (bs s)) = true) (hat : ∀ zd, D.atKey (.string (bs s)) zd = vd (bs v)) :
    (Instr.lookup 26 (.map (some b)) (.string s) true).run Yba.prog w = .ok (.tuple #[.iface 9 (.string v), .bool true]) w := by
  obtain ⟨x, ps, hrun, hx⟩ := hown.look_ok law9 Yba.underlying26 (zero20 w) (zd := .nil) (zp := []) rfl (keyOf_string_mk Yba.underlying9 hs)
  have e1 : Maps.has D (.string s.data.toList) = true := hhas
  have e2 : D.atKey (.string s.data.toList) .nil = vd (bs v) := hat .nil
  rw [e1] at hrun
  rw [e2] at hx
  obtain ⟨s', rfl, hs'⟩ := anyStr_inv hx
  rw [hrun, bs_inj hs']
theorem look_rcdi {w : World} {b n : Nat} {D : DataW Unit} {s v : ByteArray} (hown : w.ownsMap Yba.prog 9 (plainElem Yba.prog 9) b n D) (hs : s.size ≤ maxLen) (hat : ∀ zd, D.atKey (.string (bs s)) zd = vd (bs v)) :
    (Instr.lookup 24 (.map (some b)) (.string s) false).run Yba.prog w = .ok (.string v) w := by
  obtain ⟨x, ps, hrun, hx⟩ := hown.lookup law9 Yba.underlying24 (zero9 w) (plainElem_string Yba.underlying9 (Nat.zero_le _)) (keyOf_string_mk Yba.underlying9 hs)
  have e2 : D.atKey (.string s.data.toList) (.lit (.string ByteArray.empty.data.toList)) = vd (bs v) := hat _
  rw [e2] at hx
  obtain ⟨s', rfl, hz, _⟩ := plainElem_string_inv Yba.underlying9 hx
  simp only [Prod.mk.injEq] at hz
  have : bs v = bs s' := by simpa [vd, bs] using hz.1
  rw [hrun, bs_inj this]

theorem law_early (a1 : Option Addr) (n1 c1 : Nat) (a2 : Option Addr) (n2 c2 : Nat) (w : World) (h : 1024 < n1 ∨ 1024 < n2) :
    Calls Yba.prog 3 #[.slice a1 n1 c1, .slice a2 n2 c2] w fun e w' => e = .returned (.bool true) ∧ Below w.heap.size w w' := by
  by_cases h1 : 1024 < n1
  · have h' : (1024 : Int) < n1 := by omega
    go_enter Yba.func3, Yba.ntmps3
    go_wp2
    go_ret
    exact ⟨rfl, Below.refl _ _⟩
  · have h0' : (n1 : Int) ≤ 1024 := by omega
    have h' : (1024 : Int) < n2 := by omega
    go_enter Yba.func3, Yba.ntmps3
    go_wp2
    go_ret
    exact ⟨rfl, Below.refl _ _⟩

/-- nd from a place on. -/
theorem nd_drop {ks : List Str} {i : Nat} (hi : i < ks.length) : nd (ks.drop i) = (if ks[i] ∈ ks.drop (i + 1) then 0 else 1) + nd (ks.drop (i + 1)) := by
  rw [List.drop_eq_getElem_cons hi, nd]

theorem getD_get (ks : List ByteArray) {i : Nat} (hi : i < ks.length) : ks.getD i ByteArray.empty = ks[i] := by
  rw [List.getD_eq_getElem?_getD, List.getElem?_eq_getElem hi]; rfl

/-- The last place of a key: what the map holds there. -/
theorem last_facts {ks vs : List ByteArray} {n i l : Nat} {D : DataW Unit} (hn : ks.length = n) (hB : Built (ks.map bs) (vs.map bs) n D) (hi : i < n) (hil : i ≤ l) (hl : l < n)
    (he : ks.getD l ByteArray.empty = ks.getD i ByteArray.empty) (hlast : ∀ j, l < j → j < n → ks.getD j ByteArray.empty ≠ ks.getD i ByteArray.empty) :
    Maps.has D (.string (bs (ks.getD i ByteArray.empty))) = true ∧ (∀ zd, D.atKey (.string (bs (ks.getD i ByteArray.empty))) zd = vd (bs (vs.getD l ByteArray.empty))) ∧
    ((l = i) ↔ ¬ (ks.map bs)[i]'(by rw [List.length_map]; omega) ∈ (ks.map bs).drop (i + 1)) := by
  have hi' : i < ks.length := by omega
  have hl' : l < ks.length := by omega
  refine ⟨?_, fun zd => ?_, ?_⟩
  · rw [hB.has, decide_eq_true_eq, List.take_of_length_le (by rw [List.length_map]; omega), getD_get ks hi']
    exact List.mem_map_of_mem (List.getElem_mem hi')
  · have := hB.last l hl (by rw [List.length_map]; exact hl') (fun j h1 h2 hj => ?_) zd
    · rw [List.getElem_map, ← getD_get ks hl', he, ← getD_map] at this
      exact this
    · rw [List.length_map] at hj
      rw [List.getElem_map, List.getElem_map, ← getD_get ks hj, ← getD_get ks hl', he]
      exact fun e => hlast j h1 h2 (bs_inj e)
  · rw [List.getElem_map, List.mem_iff_getElem]
    constructor
    · rintro rfl ⟨t, ht, e⟩
      rw [List.length_drop, List.length_map] at ht
      rw [List.getElem_drop, List.getElem_map] at e
      have := hlast (l + 1 + t) (by omega) (by omega)
      rw [getD_get ks (by omega), getD_get ks hl'] at this
      exact this (bs_inj e)
    · intro h
      by_cases e : l = i
      · exact e
      · refine absurd ⟨l - (i + 1), by rw [List.length_drop, List.length_map]; omega, ?_⟩ h
        rw [List.getElem_drop, List.getElem_map]
        have e2 : i + 1 + (l - (i + 1)) = l := by omega
        simp only [e2]
        rw [← getD_get ks hl', he, getD_get ks hi']

set_option maxHeartbeats 2000000 in
theorem law_late (a1 : Option Addr) (n1 c1 : Nat) (a2 : Option Addr) (n2 c2 : Nat) (ks vs : List ByteArray) (w : World) (h1 : Strs w a1 n1 ks) (h2 : Strs w a2 n2 vs) (hn1 : n1 ≤ 1024) (hn2 : n2 ≤ 1024) :
    Calls Yba.prog 3 #[.slice a1 n1 c1, .slice a2 n2 c2] w fun e w' => e = .returned (.bool true) ∧ Below w.heap.size w w' := by
  have hn1' : (n1 : Int) ≤ 1024 := by omega
  have hn2' : (n2 : Int) ≤ 1024 := by omega
  have HB := Hid.mk' (build_any a1 n1 c1 a2 n2 c2 ks vs w h1 h2 hn1 hn2)
  go_enter Yba.func3, Yba.ntmps3
  go_wp2_with fail
  refine HB.out.mono ?_
  rintro e w1 ⟨D, rfl, hown, hBt, hb1⟩
  have hsz : Maps.size D ≤ 1024 := Nat.le_trans hown.size_le hn1
  go_wp2_with fail
  refine (claim_any w.heap.size n1 D w1 hown hsz).mono ?_
  rintro e w2 ⟨rfl, hownC, hb2⟩
  have hownR := kept_map hown hb2
  have hb12 : Below w.heap.size w w2 := hb1.trans (hb2.mono hb1.size)
  have g1 := h1.mono hb12
  have g2 := h2.mono hb12
  clear hown hb2 HB h1 h2
  go_wp2_with fail
  obtain ⟨gc, hgc⟩ : ∃ gc, gc = w1.heap.size := ⟨_, rfl⟩
  rw [← hgc] at hownC ⊢
  clear hgc
  have HN := Hid.mk' g1.len
  go_loopw [7, 8] (fun dv iv wr => ∃ d i : Nat, dv = .int .i64 d ∧ iv = .int .i64 i ∧ i ≤ n1 ∧ d ≤ i ∧ Hid (d + nd ((ks.map bs).drop i) = nd (ks.map bs)) ∧ Below w2.heap.size w2 wr) (fun _ iv _ => n1 - (intOf iv).toNat)
  case atStart => exact ⟨0, 0, rfl, rfl, Nat.zero_le _, Nat.le_refl _, (by show 0 + nd ((ks.map bs).drop 0) = nd (ks.map bs); simp), Below.refl _ _⟩
  case round =>
  obtain ⟨d, i, rfl, rfl, hin, hdi, HD, hnx⟩ := hrel
  by_cases hlt : i < n1
  · go_wp2_with fail
    refine (last_any a1 n1 c1 i ks wr (g1.mono hnx) hlt hn1).mono ?_
    rintro e w3 ⟨l, rfl, hil, hln, hel, hlast, hb3⟩
    obtain ⟨hhas, hat, hli⟩ := last_facts HN.out hBt hlt hil hln hel hlast
    have hb23 : Below w2.heap.size w2 w3 := hnx.trans (hb3.mono hnx.size)
    have f1 := g1.mono hb23
    have f2 := g2.mono hb23
    obtain ⟨b1, o1, rfl, hbb1, hcc1⟩ := f1.cells (by omega)
    have hck := hcc1 i hlt
    have hsk := f1.size i
    have hlC := look_claim (kept_map hownC hb23) hsk hhas hat
    have hlR := look_rcdi (kept_map hownR hb23) hsk hat
    have hnd := nd_drop (ks := ks.map bs) (i := i) (by rw [List.length_map, HN.out]; exact hlt)
    have hwl : ¬ l < n2 → vs.getD l ByteArray.empty = ByteArray.empty := fun h => by
      rw [List.getD_eq_getElem?_getD, List.getElem?_eq_none (by rw [f2.len]; omega)]; rfl
    obtain ⟨sk, hsk'⟩ : ∃ sk, sk = ks.getD i ByteArray.empty := ⟨_, rfl⟩
    obtain ⟨v, hv⟩ : ∃ v, v = vs.getD l ByteArray.empty := ⟨_, rfl⟩
    rw [← hsk'] at hck hlC hlR
    rw [← hv] at hlC hlR hwl
    have HV := Hid.mk' hv
    have HND := Hid.mk' hnd
    have HLI := Hid.mk' hli
    have hta := assert9 v
    clear hcc1 hsk hhas hat hnd hli hsk' hv hel hlast
    go_upto_if 38 with fail
    go_cut [7] (fun dv wc => ∃ d' : Nat, dv = .int .i64 d' ∧ d' ≤ i + 1 ∧ Hid (d' + nd ((ks.map bs).drop (i + 1)) = nd (ks.map bs)) ∧ w3 = wc)
    case first =>
      by_cases hli : l = i
      · have hli' : ((l : Int) == (i : Int)) = true := by simp [hli]
        have hD := HD.out
        rw [HND.out, if_neg (HLI.out.1 hli)] at hD
        have HD2 := Hid.mk' hD
        clear hD hli
        go_wp2
        go_meet
        exact ⟨d + 1, by go_num, by omega, (by have := HD2.out; show d + 1 + _ = _; omega), rfl⟩
      · have hli' : ((l : Int) == (i : Int)) = false := by simp; omega
        have hD := HD.out
        rw [HND.out, if_pos (Classical.byContradiction fun h => hli (HLI.out.2 h))] at hD
        have HD2 := Hid.mk' hD
        clear hD hli
        go_wp2
        go_meet
        exact ⟨d, rfl, by omega, (by have := HD2.out; show d + _ = _; omega), rfl⟩
    case rest =>
    obtain ⟨d', rfl, hd', HD', rfl⟩ := hcut
    go_upto_if 44 with fail
    go_cut [10] (fun x wc => x = .string v ∧ w3 = wc)
    case first =>
      by_cases hl2 : l < n2
      · obtain ⟨b2, o2, rfl, hbb2, hcc2⟩ := f2.cells (by omega)
        have hcv := hcc2 l hl2
        rw [← HV.out] at hcv
        clear hcc2
        go_wp2
        go_meet
        exact ⟨rfl, rfl⟩
      · have hv0 := hwl hl2
        go_wp2
        go_meet
        exact ⟨by rw [hv0]; rfl, rfl⟩
    case rest =>
    obtain ⟨rfl, rfl⟩ := hcut
    clear hwl
    go_wp2
    go_roundw
    case rel => exact ⟨d', i + 1, rfl, by go_num, by omega, by omega, HD', hb23⟩
    case measure => simp [intOf]; omega
  · obtain rfl : i = n1 := by omega
    have hD := HD.out
    rw [List.drop_of_length_le (by rw [List.length_map, HN.out]; exact Nat.le_refl _)] at hD
    have hsz2 : Maps.size D = d := by
      rw [hBt.size, List.take_of_length_le (by rw [List.length_map, HN.out]; exact Nat.le_refl _)]
      simpa [nd] using hD.symm
    have l1 := fun ty => (kept_map hownC hnx).len Yba.underlying26 ty
    have l2 := fun ty => (kept_map hownR hnx).len Yba.underlying24 ty
    rw [hsz2] at l1 l2
    have e1 : ((d : Int) == (d : Int)) = true := by simp
    clear hD hsz2 hsz
    go_wp2
    go_ret
    exact ⟨by simp, hb12.trans (hnx.mono hb12.size)⟩
end Go.Proofs.Ybulkbbtg.Mp
