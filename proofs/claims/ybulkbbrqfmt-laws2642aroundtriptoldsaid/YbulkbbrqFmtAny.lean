/-
  THE WALK of LawS2642AAnyInput (function 4).
-/
import Derived.Test.YbulkbbrqFmtDec
import Derived.Deep.RegionHeld3
import Derived.WalkLawsBesides
import Derived.Deep.DeepCutAuto
import Derived.Deep.DeepMust
namespace Go.Proofs.YbulkbbrqFmt.Hd
open Go.RowKit

theorem info5 : (Ybaf.prog.info? 5).map (fun i => (i.zero, i.size, i.bytes)) = some (some (.int .u8 0), 1, 1) := by kernel_rfl

theorem assert36 (p : Option Addr) (w : World) : (Instr.typeAssert (.iface 36 (.pointer p)) 29 36 true).run Ybaf.prog w = .ok (.tuple #[.pointer p, .bool true]) w := by kernel_rfl

/-- The elements that DecodeHeader handed back, read through their slice. -/
theorem got_form {w1 : World} {base b o : Nat} {u : List Int} {es : List Nat} {got : Value} (h : w1.ownsRow base 33 2 got es.length (elCells b o u es)) :
    ∃ aG cG, got = .slice aG es.length cG ∧ (0 < es.length → ∃ gG, aG = some ⟨gG, 0, none⟩ ∧ gG < w1.heap.size ∧
      ∀ k (hk : k < es.length), w1.cell? ⟨gG, k * 2, none⟩ = some (.int .u8 (at_ u es[k])) ∧ w1.cell? ⟨gG, k * 2 + 1, none⟩ = some (dataV b o u es[k])) := by
  have key : ∀ (es : List Nat) (k : Nat) (hk : k < es.length), (elCells b o u es)[k * 2]? = some (.int .u8 (at_ u es[k])) ∧ (elCells b o u es)[k * 2 + 1]? = some (dataV b o u es[k]) := by
    intro es
    induction es with
    | nil => intro k hk; simp at hk
    | cons x xs ih =>
      intro k hk
      have e : elCells b o u (x :: xs) = .int .u8 (at_ u x) :: dataV b o u x :: elCells b o u xs := by simp [elCells]
      rw [e]
      cases k with
      | zero => exact ⟨rfl, rfl⟩
      | succ k =>
        have := ih k (by simpa using hk)
        rw [show (k + 1) * 2 = k * 2 + 1 + 1 from by omega]
        simpa using this
  rcases h.2 with ⟨rfl, h0⟩ | ⟨g, cap, cur, rfl, hb, hg, _⟩
  · exact ⟨none, 0, by rw [h0], fun hp => by omega⟩
  · refine ⟨_, cap, rfl, fun _ => ⟨g, rfl, (Array.getElem?_eq_some_iff.1 hg).1, fun k hk => ?_⟩⟩
    rw [h.cellAt (k * 2) (by omega), h.cellAt (k * 2 + 1) (by omega)]
    exact key es k hk

/-- append ONTO A ROW OF THE CALL's OWN, as one step of a region that draws its order. -/
theorem step_append_own {P : Program} {ops : Array Oper} {o : Oper} {a : Act} {w : World} {K : Act → World → Prop} {Q : Exit → Act → World → Prop} {E : Prop} (hgd : o.guard = none) (s x : Operand) (t : TypeId)
    (ho : o.op = .call { callee := .builtin .append, args := #[s, x], argTypes := #[t, t] })
    (base : Nat) (e : TypeId) (i : TypeInfo) (z : Value) (size bytes : Nat) (ht : P.underlying t = some (.slice e)) (hi : P.info? e = some i) (hz : i.zero = some z)
    (hsize : i.size = size) (hby : i.bytes = bytes) (hzs : z.cells.size = size) (hsz : 0 < size)
    (v : Value) (n : Nat) (xs : List Value) (hs : a.eval s = v) (hown : w.ownsRow base e size v n xs)
    (ad : Addr) (m c : Nat) (news : List Value) (hx : a.eval x = .slice (some ad) m c) (hl : news.length = m * size) (hnews : ∀ j u, news[j]? = some u → w.cell? (ad.add j) = some u) (h1 : ∀ u ∈ news, u.oneCell' = true)
    (h63 : n + m ≤ maxLen) (hbytes : (n + m) * bytes ≤ 140737488355328) (hbase : base ≤ w.heap.size)
    (h : ∀ v' w', w'.ownsRow base e size v' (n + m) (xs ++ news) → w.grownBy w' v.ownBlock → (v' = .slice none 0 0 ↔ v = .slice none 0 0 ∧ m = 0) → K (a.put o.dst v') w') :
    if Region.wanted o (yielded ops a.tmps) = true then Oper.wp P o a w K Q else E := by
  rw [if_pos (by simp [Region.wanted, hgd])]
  exact wp_append_own w s x t ho base e i z size bytes ht hi hz hsize hby hzs hsz v n xs hs hown ad m c news hx hl hnews h1 h63 hbytes hbase h

theorem take_one {u : List Int} (h : 0 < u.length) : u.take 1 = [at_ u 0] := by
  cases u with
  | nil => simp at h
  | cons x xs => simp [at_]
theorem Chain.at_drop {u : List Int} {es : List Nat} {q n k : Nat} (hk : k < es.length) (h : Chain u q (es.drop k) n) : es[k] = q ∧ Ok u q ∧ Chain u (q + 2 + ln u q) (es.drop (k + 1)) n := by
  rw [List.drop_eq_getElem_cons hk] at h
  exact h
theorem Chain.at_take {u : List Int} {es : List Nat} {q k : Nat} (hk : k < es.length) (h : Chain u 1 (es.take k) q) (he : es[k] = q) (ho : Ok u q) : Chain u 1 (es.take (k + 1)) (q + 2 + ln u q) := by
  have := h.snoc ho
  rw [← he, List.take_append_getElem hk] at this
  rw [← he]
  exact this

theorem take_more {u : List Int} {q : Nat} (hB : Bs u) (h : Ok u q) : u.take (q + 2 + ln u q) = u.take q ++ [at_ u q, (ln u q : Int)] ++ (u.drop (q + 2)).take (ln u q) := by
  have h1 : q + 1 < u.length := h.1
  have e : (ln u q : Int) = at_ u (q + 1) := by have := hB.get (q + 1); unfold ln; omega
  rw [e]
  generalize ln u q = L
  have e1 : u.take (q + 1) = u.take q ++ [at_ u q] := by
    rw [List.take_succ_eq_append_getElem (by omega : q < u.length)]
    unfold at_
    rw [List.getD_eq_getElem?_getD, List.getElem?_eq_getElem (by omega : q < u.length)]
    rfl
  have e2 : u.take (q + 2) = u.take (q + 1) ++ [at_ u (q + 1)] := by
    rw [List.take_succ_eq_append_getElem h1]
    unfold at_
    rw [List.getD_eq_getElem?_getD, List.getElem?_eq_getElem h1]
    rfl
  rw [List.take_add, e2, e1]
  simp

/-- 'string(out)' of a row of bytes of the call's own. -/
theorem conv_own {w : World} {base n : Nat} {v : Value} {xs : List Int} (h : w.ownsRow base 5 1 v n (xs.map (Value.int .u8))) : (convert 22 9 v).run Ybaf.prog w = .ok (.string (strOfNums xs)) w := by
  have hl : xs.length = n := by simpa using h.1
  rcases h.2 with ⟨rfl, h0⟩ | ⟨g, cap, cur, rfl, hb, hg, _⟩
  · exact conv_at none 0 0 xs w (by omega) (fun hp => by omega)
  · refine conv_at _ n cap xs w hl (fun _ => ⟨g, 0, rfl, fun i hi => ?_⟩)
    rw [Nat.zero_add, h.cellAt i (by omega)]
    have hi' : i < xs.length := by omega
    simp [List.getD_eq_getElem?_getD, List.getElem?_eq_getElem hi']

theorem any_early (a : Option Addr) (n cap : Nat) (w : World) (h : 1024 < n) : Calls Ybaf.prog 4 #[.slice a n cap] w fun e w' => e = .returned (.bool true) ∧ Below w.heap.size w w' := by
  have h' : (1024 : Int) < n := by omega
  go_enter Ybaf.func4, Ybaf.ntmps4
  go_wp2
  go_ret
  exact ⟨rfl, Below.refl _ _⟩

set_option maxRecDepth 100000 in
set_option maxHeartbeats 2000000 in
theorem any_late (a : Option Addr) (b o n cap bm : Nat) (u : List Int) (w : World) (hu : u.length = n) (hn4 : n ≤ 1024) (hcap : n ≤ cap) (ha : 0 < n → a = some ⟨b, o, none⟩) (hB : Bs u) (hL : Lie w b o u) (hT : Table w bm)
    (h0 : 0 < w.heap.size) (hb : 0 < n → b < w.heap.size) (hm : bm < w.heap.size) :
    Calls Ybaf.prog 4 #[.slice a n cap] w fun e w' => e = .returned (.bool true) ∧ Below w.heap.size w w' := by
  have hdec := dec_any a b o n cap bm u w hu (by omega) hcap ha hB hL hT h0 hb hm
  have HD := Hid.mk' hdec
  have HU := Hid.mk' hu
  have HL := Hid.mk' hL
  have hn4' : (n : Int) ≤ 1024 := by omega
  have ta := assert36
  clear hdec hu hT hL
  go_enter Ybaf.func4, Ybaf.ntmps4
  go_wp2_with fail
  refine HD.out.mono ?_
  rintro e w1 ⟨got, err, rfl, hb1, hcase⟩
  have hc0 : 0 < n → w1.cell? ⟨b, o, none⟩ = some (.int .u8 (at_ u 0)) := fun hn => (hb1.cell (by exact hb hn)).trans (by simpa using HL.out 0 (by rw [HU.out]; exact hn))
  obtain ⟨z0, hz⟩ : ∃ z, z = at_ u 0 := ⟨_, rfl⟩
  have hz1 := hB.get 0
  rw [← hz] at hc0 hz1
  have HZ : Hid (z0 = at_ u 0) := hz
  clear hz
  obtain ⟨hz0, hz256⟩ := hz1
  rcases hcase with ⟨rfl, hn0, hn1, es, hC, hown, hnil⟩ | ⟨rfl, off, ⟨g, s, rfl, hg⟩, hBad⟩
  · have hcz := hc0 (by rw [← HU.out]; exact hn0)
    obtain rfl := ha (by rw [← HU.out]; exact hn0)
    rw [HU.out, ← HZ.out] at hn1
    rw [HU.out] at hn0 hC
    have hbB := hb hn0
    obtain ⟨aG, cG, rfl, hG⟩ := got_form hown
    obtain ⟨ti, hi, hi0, hi1, hi2⟩ := info_parts info5
    have HLie := Hid.mk' (HL.out.mono hb1 hbB)
    have hes := hC.len
    clear hc0 ha hb hown hnil HD HL ta
    have e1 : ((n : Int) == 0) = false := by simp; omega
    have e2 : (1 + z0 != (n : Int)) = false := by simp [hn1]
    have HN1 := Hid.mk' hn1
    clear hn1
    go_wp2
    go_loopw [8, 9] (fun ov kv wr => ∃ k q : Nat, k ≤ es.length ∧ kv = .int .i64 k ∧ 1 ≤ q ∧ q ≤ n ∧ Chain u 1 (es.take k) q ∧ Chain u q (es.drop k) n ∧ wr.ownsRow w1.heap.size 5 1 ov q ((u.take q).map (Value.int .u8)) ∧ Below w1.heap.size w1 wr) (fun _ kv _ => es.length - (intOf kv).toNat)
    case atStart =>
      refine ⟨0, 1, Nat.zero_le _, rfl, Nat.le_refl _, hn0, rfl, hC, ?_, (Below.refl _ _).alloc (Nat.le_refl _) _⟩
      rw [take_one (by rw [HU.out]; exact hn0), ← HZ.out]
      exact World.ownsRow_lit w1 #[.int .u8 z0] 1 (Nat.le_refl _) (by unfold maxLen; omega) rfl
    case round =>
    obtain ⟨k, q, hk, rfl, hq1, hqn, hCt, hCd, hown, hbw⟩ := hrel
    by_cases hlt : k < es.length
    · obtain ⟨gG, rfl, hgG, hcells⟩ := hG (by omega)
      obtain ⟨he, hOk, hCd'⟩ := hCd.at_drop hlt
      have hCt' := hCt.at_take hlt he hOk
      obtain ⟨cA, cB⟩ := hcells k hlt
      rw [he] at cA cB
      have cA' := (hbw.cell (p := ⟨gG, k * 2, none⟩) hgG).trans cA
      have cB' := (hbw.cell (p := ⟨gG, k * 2 + 1, none⟩) hgG).trans cB
      clear hcells cA cB hG hCd hCt he
      obtain ⟨z, hz⟩ : ∃ z, z = at_ u q := ⟨_, rfl⟩
      have hzB := hB.get q
      obtain ⟨L, hLd⟩ : ∃ L, L = ln u q := ⟨_, rfl⟩
      obtain ⟨ad, had⟩ : ∃ ad, ad = (if ln u q = 0 then o else o + (q + 2)) := ⟨_, rfl⟩
      unfold dataV at cB'
      rw [← had, ← hLd] at cB'
      rw [← hz] at cA' hzB
      have hL256 : L < 256 := by have := hB.get (q + 1); rw [hLd]; unfold ln; omega
      have HZ2 := Hid.mk' hz
      have HL2 := Hid.mk' hLd
      have HAD := Hid.mk' had
      have hOk2 := hOk.2.1
      have hOk3 := hOk.2.2
      rw [HU.out, ← hLd] at hOk2
      rw [← hz, ← hLd] at hOk3
      have HCt := Hid.mk' hCt'
      have HCd := Hid.mk' hCd'
      obtain ⟨fz, hfz⟩ : ∃ fz, fz = fixed z := ⟨_, rfl⟩
      rw [← hfz] at hOk3
      have HFZ := Hid.mk' hfz
      have HOK := Hid.mk' hOk
      clear hz hLd had hOk hfz hCt' hCd'
      obtain ⟨hzb0, hzb1⟩ := hzB
      go_upto_region 23 with (go_at_call 5; refine (fixed_any _ _).mono ?_; rintro e w' ⟨rfl, rfl⟩)
      rw [← HFZ.out]
      go_cut [10, 124] (fun fv tv wc => fv = .int .i64 fz ∧ tv = .bool false ∧ wr = wc)
      case first =>
        by_cases hf : 0 ≤ fz
        · obtain rfl : (L : Int) = fz := hOk3 hf
          have e3 : ((L : Int) != (L : Int)) = false := by simp
          go_wp2
          all_goals (go_meet; exact ⟨rfl, rfl, rfl⟩)
        · go_wp2
          all_goals (go_meet; exact ⟨rfl, rfl, rfl⟩)
      case rest =>
      obtain ⟨rfl, rfl, rfl⟩ := hcut
      go_upto_region 25 with fail
      have hgw : gG < wr.heap.size := Nat.lt_of_lt_of_le hgG hbw.size
      have hwz : w1.heap.size ≤ wr.heap.size := hbw.size
      have HA : Hid (w1.cell? ⟨gG, k * 2, none⟩ = some (.int .u8 z)) := (hbw.cell (p := ⟨gG, k * 2, none⟩) hgG).symm.trans cA'
      have HBB : Hid (w1.cell? ⟨gG, k * 2 + 1, none⟩ = some (.slice (some ⟨b, ad, none⟩) L L)) := (hbw.cell (p := ⟨gG, k * 2 + 1, none⟩) hgG).symm.trans cB'
      have hwL : IntKind.u8.wrap (L : Int) = (L : Int) := by rw [IntKind.wrap_u8]; omega
      go_cut [8] (fun ov wc => wc.ownsRow w1.heap.size 5 1 ov (q + 2) (((u.take q).map (Value.int .u8)) ++ [.int .u8 z, .int .u8 L]) ∧ Below w1.heap.size w1 wc)
      case first =>
        go_region_held3 (fun w' => w'.cell? ⟨gG, k * 2, none⟩ = some (.int .u8 z) ∧ w'.cell? ⟨gG, k * 2 + 1, none⟩ = some (.slice (some ⟨b, ad, none⟩) L L))
          (first | (simp [go_sem, World.cell?_alloc_past, cA', cB', hgw]; done) | exact ⟨(hb2.cell (p := ⟨gG, k * 2, none⟩) hgG).trans HA.out, (hb2.cell (p := ⟨gG, k * 2 + 1, none⟩) hgG).trans HBB.out⟩)
          (go_must (refine step_append_own rfl (.tmp 125) (.tmp 138) 22 rfl w1.heap.size 5 ti (.int .u8 0) 1 1 Ybaf.underlying22 hi hi0 hi1 hi2 rfl (by decide) _ q ((u.take q).map (Value.int .u8)) (by simp [Act.eval]) (hown.alloc _) ⟨wr.heap.size, 0, none⟩ 2 2 [.int .u8 z, .int .u8 L] (by simp [Act.eval]) rfl (cell_two_blocks wr _ _ 5) (ints_oneCell .u8 [z, (L : Int)]) (by unfold maxLen; omega) (by omega) (by simp; omega) ?_; intro v2 w2 hown2 hg2 hnil2; have hb2 : Below w1.heap.size w1 w2 := ((hbw.alloc hwz _).drew).grown hg2 (by simp; omega) (fun j hj => (hown.lt j hj).1)))
        go_wp2
        go_meet
        exact ⟨hown2, hb2⟩
      case rest =>
        obtain ⟨hown2, hb2⟩ := hcut
        clear cA' cB' hown hbw hgw hwz
        have cB2 := (hb2.cell (p := ⟨gG, k * 2 + 1, none⟩) hgG).trans HBB.out
        have hsz2 : w1.heap.size ≤ wc.heap.size := hb2.size
        have hnews : ∀ j v, (((u.drop (q + 2)).take L).map (Value.int .u8))[j]? = some v → wc.cell? ((⟨b, ad, none⟩ : Addr).add j) = some v := by
          intro j v hj
          rw [List.getElem?_map] at hj
          obtain ⟨x, hx, rfl⟩ := Option.map_eq_some_iff.1 hj
          rw [List.getElem?_take] at hx
          split at hx
          · have hjL : j < L := by assumption
            rw [List.getElem?_drop] at hx
            have e : (⟨b, ad, none⟩ : Addr).add j = ⟨b, ad + j, none⟩ := by unfold Addr.add; split <;> simp_all
            have ead : ad = o + (q + 2) := by rw [HAD.out, ← HL2.out, if_neg (by omega)]
            have hb3 : b < w1.heap.size := Nat.lt_of_lt_of_le hbB hb1.size
            have hlt3 : q + 2 + j < u.length := (List.getElem?_eq_some_iff.1 hx).1
            rw [e, ead, hb2.cell (p := ⟨b, o + (q + 2) + j, none⟩) hb3, Nat.add_assoc, HLie.out (q + 2 + j) hlt3]
            unfold at_
            rw [List.getD_eq_getElem?_getD, hx]
            rfl
          · cases hx
        have hnl : (((u.drop (q + 2)).take L).map (Value.int .u8)).length = L * 1 := by
          rw [List.length_map, List.length_take, List.length_drop, HU.out]; omega
        have HNL := Hid.mk' hnl
        have HNEWS := Hid.mk' hnews
        obtain ⟨N, hN⟩ : ∃ N, N = ((u.drop (q + 2)).take L).map (Value.int .u8) := ⟨_, rfl⟩
        rw [← hN] at HNL HNEWS
        have h1c : ∀ x ∈ N, x.oneCell' = true := by rw [hN]; exact ints_oneCell .u8 _
        have HN := Hid.mk' hN
        clear hnl hnews hN
        go_wp2_with (at_builtin; refine wpList_append_own _ rfl (.tmp 140) (.tmp 145) 22 rfl w1.heap.size 5 ti (.int .u8 0) 1 1 Ybaf.underlying22 hi hi0 hi1 hi2 rfl (by decide) _ (q + 2) _ rfl hown2 ⟨b, ad, none⟩ L L N rfl HNL.out HNEWS.out h1c (by unfold maxLen; omega) (by omega) hsz2 ?_; intro v3 w3 hown3 hg3 hnil3)
        go_roundw
        case rel =>
          refine ⟨k + 1, q + 2 + L, by omega, by go_num, by omega, by omega, HL2.out ▸ HCt.out, HL2.out ▸ HCd.out, ?_, hb2.grown hg3 hsz2 (fun j hj => (hown2.lt j hj).1)⟩
          have et := take_more hB HOK.out
          rw [← HL2.out, ← HZ2.out] at et
          rw [et, List.map_append, List.map_append, ← HN.out]
          exact hown3
        case measure => simp [intOf]; omega
    · obtain rfl : k = es.length := by omega
      rw [List.drop_length] at hCd
      obtain rfl : q = n := hCd
      have hb3 : b < w1.heap.size := Nat.lt_of_lt_of_le hbB hb1.size
      rw [List.take_of_length_le (Nat.le_of_eq HU.out)] at hown
      have c1 := conv_own hown
      have c2 := conv_at (some ⟨b, o, none⟩) q cap u wr HU.out (fun _ => ⟨b, o, rfl, fun i hi => (hbw.cell (p := ⟨b, o + i, none⟩) hb3).trans (HLie.out i (by rw [HU.out]; exact hi))⟩)
      have HC1 := Hid.mk' c1
      have HC2 := Hid.mk' c2
      clear c1 c2 hG
      go_wp2_with fail
      refine (equal_conv _ _ _ wr HC1.out HC2.out).mono ?_
      rintro e w4 ⟨rfl, rfl⟩
      go_wp2
      go_ret
      exact ⟨rfl, hb1.trans (hbw.mono hb1.size)⟩
  · have hcg : w1.cell? ⟨g, 0, none⟩ = some (.int .i64 off) := cell_of_row w1 _ 0 _ 39 (0, 0) hg
    unfold Bad at hBad
    rw [HU.out, ← HZ.out] at hBad
    rcases hBad with ⟨hn, rfl⟩ | ⟨hn, hlt, rfl⟩ | ⟨hn, hlt, rfl⟩ | ⟨hn, heq, h1, h2, _⟩
    · subst hn
      clear hc0 ha hb
      go_wp2
      go_ret
      exact ⟨rfl, hb1⟩
    · have hcz := hc0 hn
      obtain rfl := ha hn
      clear hc0 ha hb
      go_wp2
      go_ret
      exact ⟨by simp, hb1⟩
    · have hcz := hc0 hn
      obtain rfl := ha hn
      clear hc0 ha hb
      go_wp2
      go_ret
      exact ⟨by simp, hb1⟩
    · have hcz := hc0 hn
      obtain rfl := ha hn
      clear hc0 ha hb
      have e1 : ¬ (n : Int) < 1 + z0 := by omega
      have e2 : ¬ 1 + z0 < (n : Int) := by omega
      clear heq
      go_wp2
      go_ret
      exact ⟨by simp, hb1⟩
end Go.Proofs.YbulkbbrqFmt.Hd
