/-
  THE WALK of LawS2645BRoundTrip (function 3).
-/
import Derived.Test.YbulkbbtgFmtRead
namespace Go.Proofs.YbulkbbtgFmt.Mp
open Go.RowKit Go.Maps Go.WideMaps

/-- The look-ups in the read map and in the first one, at a key that it has. -/
theorem look_ok {w : World} {b n : Nat} {D : DataW Unit} {s v : ByteArray} (hown : w.ownsMap Ybaf.prog 9 (plainElem Ybaf.prog 9) b n D) (hs : s.size ≤ maxLen) (hhas : Maps.has D (.string (bs s)) = true) (hat : ∀ zd, D.atKey (.string (bs s)) zd = vd (bs v)) :
    (Instr.lookup 24 (.map (some b)) (.string s) true).run Ybaf.prog w = .ok (.tuple #[.string v, .bool true]) w := by
  obtain ⟨x, ps, hrun, hx⟩ := hown.look_ok law9 Ybaf.underlying24 (zero9 w) (plainElem_string Ybaf.underlying9 (Nat.zero_le _)) (keyOf_string_mk Ybaf.underlying9 hs)
  have e1 : Maps.has D (.string s.data.toList) = true := hhas
  have e2 : D.atKey (.string s.data.toList) (.lit (.string ByteArray.empty.data.toList)) = vd (bs v) := hat _
  rw [e1] at hrun
  rw [e2] at hx
  obtain ⟨s', rfl, hz, _⟩ := plainElem_string_inv Ybaf.underlying9 hx
  simp only [Prod.mk.injEq] at hz
  have : bs v = bs s' := by simpa [vd, bs] using hz.1
  rw [hrun, bs_inj this]
theorem look_rcdi {w : World} {b n : Nat} {D : DataW Unit} {s v : ByteArray} (hown : w.ownsMap Ybaf.prog 9 (plainElem Ybaf.prog 9) b n D) (hs : s.size ≤ maxLen) (hat : ∀ zd, D.atKey (.string (bs s)) zd = vd (bs v)) :
    (Instr.lookup 24 (.map (some b)) (.string s) false).run Ybaf.prog w = .ok (.string v) w := by
  obtain ⟨x, ps, hrun, hx⟩ := hown.lookup law9 Ybaf.underlying24 (zero9 w) (plainElem_string Ybaf.underlying9 (Nat.zero_le _)) (keyOf_string_mk Ybaf.underlying9 hs)
  have e2 : D.atKey (.string s.data.toList) (.lit (.string ByteArray.empty.data.toList)) = vd (bs v) := hat _
  rw [e2] at hx
  obtain ⟨s', rfl, hz, _⟩ := plainElem_string_inv Ybaf.underlying9 hx
  simp only [Prod.mk.injEq] at hz
  have : bs v = bs s' := by simpa [vd, bs] using hz.1
  rw [hrun, bs_inj this]

theorem law_early (a1 : Option Addr) (n1 c1 : Nat) (a2 : Option Addr) (n2 c2 : Nat) (w : World) (h : 1024 < n1 ∨ 1024 < n2) :
    Calls Ybaf.prog 3 #[.slice a1 n1 c1, .slice a2 n2 c2] w fun e w' => e = .returned (.bool true) ∧ Below w.heap.size w w' := by
  by_cases h1 : 1024 < n1
  · have h' : (1024 : Int) < n1 := by omega
    go_enter Ybaf.func3, Ybaf.ntmps3
    go_wp2
    go_ret
    exact ⟨rfl, Below.refl _ _⟩
  · have h0' : (n1 : Int) ≤ 1024 := by omega
    have h' : (1024 : Int) < n2 := by omega
    go_enter Ybaf.func3, Ybaf.ntmps3
    go_wp2
    go_ret
    exact ⟨rfl, Below.refl _ _⟩

theorem getD_get (ks : List ByteArray) {i : Nat} (hi : i < ks.length) : ks.getD i ByteArray.empty = ks[i] := by
  rw [List.getD_eq_getElem?_getD, List.getElem?_eq_getElem hi]; rfl

set_option maxHeartbeats 2000000 in
theorem law_late (a1 : Option Addr) (n1 c1 : Nat) (a2 : Option Addr) (n2 c2 : Nat) (ks vs : List ByteArray) (w : World) (h1 : Strs w a1 n1 ks) (h2 : Strs w a2 n2 vs) (hn1 : n1 ≤ 1024) (hn2 : n2 ≤ 1024) :
    Calls Ybaf.prog 3 #[.slice a1 n1 c1, .slice a2 n2 c2] w fun e w' => e = .returned (.bool true) ∧ Below w.heap.size w w' := by
  have hn1' : (n1 : Int) ≤ 1024 := by omega
  have hn2' : (n2 : Int) ≤ 1024 := by omega
  have HB := Hid.mk' (build_any a1 n1 c1 a2 n2 c2 ks vs w h1 h2 hn1 hn2)
  go_enter Ybaf.func3, Ybaf.ntmps3
  go_wp2_with fail
  refine HB.out.mono ?_
  rintro e w1 ⟨D, rfl, hown, hBt, hb1⟩
  have hsz : Maps.size D ≤ 1024 := Nat.le_trans hown.size_le hn1
  have hel := Hid.mk' (elems hown)
  have hgb := hown.lt
  go_wp2_with fail
  refine (claim_any w.heap.size n1 D w1 hown hsz).mono ?_
  rintro e w2 ⟨rfl, hownC, hb2⟩
  have hown2 := kept_map hown hgb hb2
  have hb12 : Below w.heap.size w w2 := hb1.trans (hb2.mono hb1.size)
  clear hown HB
  go_wp2_with fail
  refine (read_any _ _ _ _ D w2 hownC hown2 hsz).mono ?_
  rintro e w3 ⟨rfl, hownR, hb3⟩
  have hown3 := kept_map hown2 hown2.lt hb3
  have hb13 : Below w.heap.size w w3 := hb12.trans (hb3.mono hb12.size)
  have g1 := h1.mono hb13
  have l1 := fun ty => hownR.len Ybaf.underlying24 ty
  have l2 := fun ty => hown3.len Ybaf.underlying24 ty
  have HN := Hid.mk' g1.len
  generalize w2.heap.size = gr at hownR l1 ⊢
  generalize hgw : w.heap.size = gw at hown3 l2 ⊢
  obtain ⟨sz, hszz⟩ : ∃ sz, sz = Maps.size D := ⟨_, rfl⟩
  rw [← hszz] at l1 l2
  have e1 : ((sz : Int) == (sz : Int)) = true := by simp
  clear hown2 hownC hb2 hb12 hb3 hb1 h1 h2 hszz
  go_wp2_with fail
  go_loopw [8] (fun iv wr => ∃ i : Nat, iv = .int .i64 i ∧ i ≤ n1 ∧ w3 = wr) (fun iv _ => n1 - (intOf iv).toNat)
  case atStart => exact ⟨0, rfl, Nat.zero_le _, rfl⟩
  case round =>
  obtain ⟨i, rfl, hi, rfl⟩ := hrel
  clear l1 l2 e1
  by_cases hlt : i < n1
  · obtain ⟨b1, o1, rfl, hbb1, hcc1⟩ := g1.cells (by omega)
    have hck := hcc1 i hlt
    have hsk := g1.size i
    have hkk : i < ks.length := by rw [HN.out]; exact hlt
    have hhas : Maps.has D (.string (bs (ks.getD i ByteArray.empty))) = true := by
      rw [hBt.has, decide_eq_true_eq, List.take_of_length_le (by rw [List.length_map, HN.out]; exact Nat.le_refl _), getD_get ks hkk]
      exact List.mem_map_of_mem (List.getElem_mem hkk)
    obtain ⟨_, v, hv, hat⟩ := hel.out _ hhas
    have hl1 := look_ok hownR hsk hhas hat
    have hl2 := look_rcdi hown3 hsk hat
    obtain ⟨sk, hsk'⟩ : ∃ sk, sk = ks.getD i ByteArray.empty := ⟨_, rfl⟩
    rw [← hsk'] at hck hl1 hl2
    clear hcc1 hsk hkk hhas hat hsk'
    go_wp2
    go_roundw
    case rel => exact ⟨i + 1, by go_num, by omega, trivial⟩
    case measure => simp [intOf]; omega
  · go_wp2
    go_ret
    exact ⟨rfl, hb13⟩
end Go.Proofs.YbulkbbtgFmt.Mp
