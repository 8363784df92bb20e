/-
  THE WALK of LawS2642ARoundTrip (function 3).
-/
import Derived.Test.YbulkbbrqFmtSt
import Derived.Test.YbulkbbrqFmtAny
import Derived.Deep.CutBlock
import Derived.BigQuiet
namespace Go.Proofs.YbulkbbrqFmt.Hd
open Go.RowKit

theorem info25 : (Ybaf.prog.info? 25).map (fun i => (i.zero, i.size, i.bytes)) = some (some (.int .u8 0), 1, 1) := by kernel_rfl
theorem info22 : (Ybaf.prog.info? 22).map (fun i => (i.zero, i.size, i.bytes)) = some (some (.slice none 0 0), 1, 24) := by kernel_rfl

theorem Bs.set {zs : List Int} (h : Bs zs) (k : Nat) (v : Int) (h0 : 0 ≤ v) (h1 : v < 256) : Bs (zs.set k v) := by
  intro x hx
  rcases List.mem_or_eq_of_mem_set hx with hm | rfl
  · exact h _ hm
  · exact ⟨h0, h1⟩

theorem fixed_le (z : Int) : fixed z ≤ 4 := by
  unfold fixed
  repeat (split; · decide)
  decide

/-- A slice of bytes that came in, as the walk reads it. -/
def Bytes (w : World) (a : Option Addr) (len : Nat) : Prop :=
  0 < len → ∃ b o, a = some ⟨b, o, none⟩ ∧ b < w.heap.size ∧ ∀ i, i < len → ∃ z, w.cell? ⟨b, o + i, none⟩ = some (.int .u8 z) ∧ 0 ≤ z ∧ z < 256

/-- A slice that owns its row, read through: one cell an element. -/
theorem own_form {w : World} {base e n : Nat} {v : Value} {xs : List Value} (h : w.ownsRow base e 1 v n xs) :
    ∃ a c, v = .slice a n c ∧ (0 < n → ∃ g, a = some ⟨g, 0, none⟩ ∧ g < w.heap.size ∧ ∀ k, k < n → w.cell? ⟨g, k, none⟩ = xs[k]?) := by
  rcases h.2 with ⟨rfl, h0⟩ | ⟨g, cap, cur, rfl, hb, hg, _⟩
  · exact ⟨none, 0, by rw [h0], fun hp => by omega⟩
  · exact ⟨_, cap, rfl, fun _ => ⟨g, rfl, (Array.getElem?_eq_some_iff.1 hg).1, fun k hk => h.cellAt k (by omega)⟩⟩

theorem Chain.mem {u : List Int} : ∀ {xs : List Nat} {s q : Nat}, Chain u s xs q → ∀ p ∈ xs, Ok u p
  | [], _, _, _, _, hp => by cases hp
  | _ :: _, _, _, h, p, hp => by
    rcases List.mem_cons.1 hp with rfl | hp
    · rw [h.1]; exact h.2.1
    · exact Chain.mem h.2.2 p hp

/-- A header that was built so does not fail. -/
theorem not_bad {u : List Int} {es : List Nat} {off : Int} (h0 : 0 < u.length) (h1 : 1 + at_ u 0 = (u.length : Int)) (hc : Chain u 1 es u.length) : ¬ Bad u off := by
  rintro (⟨h, _⟩ | ⟨_, h, _⟩ | ⟨_, h, _⟩ | ⟨_, _, _, _, es', p, hc', hp, hno⟩)
  · omega
  · omega
  · omega
  · exact hno (hc.next hc' hp)

set_option maxRecDepth 100000 in
theorem trip_early (a0 : Option Addr) (n0 c0 : Nat) (a1 : Option Addr) (n1 c1 : Nat) (a2 : Option Addr) (n2 c2 : Nat) (w : World) (h : 1024 < n0 ∨ 1024 < n1 ∨ 1024 < n2) :
    Calls Ybaf.prog 3 #[.slice a0 n0 c0, .slice a1 n1 c1, .slice a2 n2 c2] w fun e w' => e = .returned (.bool true) ∧ Below w.heap.size w w' := by
  by_cases h0 : 1024 < n0
  · have h' : (1024 : Int) < n0 := by omega
    go_enter Ybaf.func3, Ybaf.ntmps3
    go_wp2
    go_ret
    exact ⟨rfl, Below.refl _ _⟩
  · have h0' : (n0 : Int) ≤ 1024 := by omega
    by_cases h1 : 1024 < n1
    · have h' : (1024 : Int) < n1 := by omega
      go_enter Ybaf.func3, Ybaf.ntmps3
      go_wp2
      go_ret
      exact ⟨rfl, Below.refl _ _⟩
    · have h1' : (n1 : Int) ≤ 1024 := by omega
      have h' : (1024 : Int) < n2 := by omega
      go_enter Ybaf.func3, Ybaf.ntmps3
      go_wp2
      go_ret
      exact ⟨rfl, Below.refl _ _⟩

set_option maxRecDepth 100000 in
set_option maxHeartbeats 4000000 in
theorem trip_late (a0 : Option Addr) (n0 c0 : Nat) (a1 : Option Addr) (n1 c1 : Nat) (a2 : Option Addr) (n2 c2 bm : Nat) (w : World) (h0 : n0 ≤ 1024) (h1 : n1 ≤ 1024) (h2 : n2 ≤ 1024)
    (i0 : Bytes w a0 n0) (i1 : Bytes w a1 n1) (i2 : Bytes w a2 n2) (hT : Table w bm) (hw0 : 0 < w.heap.size) (hm : bm < w.heap.size) :
    Calls Ybaf.prog 3 #[.slice a0 n0 c0, .slice a1 n1 c1, .slice a2 n2 c2] w fun e w' => e = .returned (.bool true) ∧ Below w.heap.size w w' := by
  have h0' : (n0 : Int) ≤ 1024 := by omega
  have h1' : (n1 : Int) ≤ 1024 := by omega
  have h2' : (n2 : Int) ≤ 1024 := by omega
  obtain ⟨t5, p0, p1, p2, p3⟩ := info_parts info5
  obtain ⟨t25, q0, q1, q2, q3⟩ := info_parts info25
  obtain ⟨t22, r0, r1, r2, r3⟩ := info_parts info22
  have HT := Hid.mk' hT
  clear hT
  go_enter Ybaf.func3, Ybaf.ntmps3
  go_upto_block 0 with fail
  go_cut [7, 8, 9, 10] (fun v7 v8 v9 _ wc => ∃ els, St w.heap.size w els v7 v8 v9 wc)
  case first =>
    go_wp2_with fail
    go_loopw [7, 8, 9, 10] (fun v7 v8 v9 kv wr => ∃ k : Nat, k ≤ n0 ∧ kv = .int .i64 k ∧ ∃ els, St w.heap.size w els v7 v8 v9 wr) (fun _ _ _ kv _ => n0 - (intOf kv).toNat)
    case atStart =>
      refine ⟨0, Nat.zero_le _, rfl, [], by simp, (Below.refl _ _).alloc (Nat.le_refl _) _, ?_, by simp, World.ownsRow_nil _ _ _ _, World.ownsRow_nil _ _ _ _, fun e he => (by cases he), fun e he => (by cases he), by simp [encs]⟩
      exact World.ownsRow_lit w #[] 0 (Nat.le_refl _) (Nat.zero_le _) rfl
    case round =>
    obtain ⟨k, hk, rfl, els, st⟩ := hrel
    by_cases hlt : k < n0
    · obtain ⟨b0, o0, rfl, hb0, hc0⟩ := i0 (by omega)
      obtain ⟨z, hz, hz0, hz256⟩ := hc0 k hlt
      have hcz := (st.below.cell (p := ⟨b0, o0 + k, none⟩) hb0).trans hz
      obtain ⟨g7, c7, rfl, hg7B, hg7, hc7⟩ := own_shape st.body st.nonil
      clear hz hc0
      go_upto_if 47 with fail
      go_cut [12] (fun v wc => ∃ m : Nat, m ≤ 5 ∧ v = .int .i64 m ∧ wr = wc)
      case first =>
        by_cases hl : k < n1
        · obtain ⟨b1, o1, rfl, hb1, hc1⟩ := i1 (by omega)
          obtain ⟨y, hy, hy0, hy256⟩ := hc1 k hl
          have hcy := (st.below.cell (p := ⟨b1, o1 + k, none⟩) hb1).trans hy
          clear hy hc1
          obtain ⟨y6, hy6⟩ : ∃ y6 : Nat, y % 6 = y6 := ⟨(y % 6).toNat, by omega⟩
          have hy5 : y6 ≤ 5 := by omega
          go_wp2
          go_meet
          exact ⟨y6, hy5, rfl, rfl⟩
        · go_wp2
          go_meet
          exact ⟨0, by omega, rfl, rfl⟩
      case rest =>
      obtain ⟨m0, hm0, rfl, rfl⟩ := hcut
      obtain ⟨fz, hfz⟩ : ∃ fz, fz = fixed z := ⟨_, rfl⟩
      have hf4 : fz ≤ 4 := by rw [hfz]; exact fixed_le z
      have HFZ := Hid.mk' hfz
      clear hfz
      go_upto_if 57 with (go_at_call 5; refine (fixed_any _ _).mono ?_; rintro e w' ⟨rfl, rfl⟩)
      rw [← HFZ.out]
      go_cut [12] (fun v wc => ∃ m : Nat, m ≤ 5 ∧ v = .int .i64 m ∧ Hid (0 ≤ fz → (m : Int) = fz) ∧ wr = wc)
      case first =>
        by_cases hf : 0 ≤ fz
        · obtain ⟨f, rfl⟩ := Int.eq_ofNat_of_zero_le hf
          go_wp2
          go_meet
          exact ⟨f, by omega, rfl, fun _ => rfl, rfl⟩
        · go_wp2
          go_meet
          exact ⟨m0, hm0, rfl, fun h => absurd h (by omega), rfl⟩
      case rest =>
      obtain ⟨m, hm5, rfl, HM, rfl⟩ := hcut
      clear hm0 m0
      have hsm := st.small
      by_cases hfit : (encs els).length + 2 + m ≤ 255
      · have hwm : IntKind.u8.wrap (m : Int) = (m : Int) := by rw [IntKind.wrap_u8]; omega
        have hszr : w.heap.size ≤ wr.heap.size := st.below.size
        have HST := Hid.mk' st
        have mid := st.mid
        clear st
        go_upto_region 18 with (at_builtin; refine wpList_append_own_at _ rfl (.tmp 65) (.tmp 69) 22 rfl w.heap.size 5 t5 (.int .u8 0) 1 1 Ybaf.underlying22 p0 p1 p2 p3 rfl (by decide) _ (encs els).length _ rfl (mid.body.alloc _) ⟨wr.heap.size, 0, none⟩ 2 2 [.int .u8 z, .int .u8 (m : Int)] rfl rfl (cell_two_blocks wr _ _ 5) (ints_oneCell .u8 [z, (m : Int)]) (by unfold maxLen; omega) (by omega) (by simp; omega) ?_; intro v7 w2 hown2 hg2 hnil2 hat2)
        have mid2 := (mid.alloc _).body' (news := [z, (m : Int)]) hown2 hg2 hnil2 hat2
        clear hown2 hg2 hnil2 hat2 mid
        go_upto_block 2 with (at_make; refine wpList_make_full _ rfl (.tmp 71) (.tmp 71) 22 rfl w.heap.size 5 t5 (.int .u8 0) 1 Ybaf.underlying22 p0 p1 p2 .i64 .i64 m m m rfl rfl rfl rfl (by rw [p3]; omega) (by unfold maxLen; omega) mid2.room ?_; intro w3 hown3 hg3)
        have r3 := row_made hown3
        obtain ⟨ap7, ap8, ap9, apr⟩ := mid2.apart
        have mid3 := mid2.made hg3
        have hgB : w.heap.size ≤ w2.heap.size := mid2.room
        generalize w2.heap.size = g at r3 ap7 ap8 ap9 apr hgB
        clear hown3 hg3 mid2
        go_cut [15] (fun _ wc => ∃ ds, Row wc g ds ∧ ds.length = m ∧ Bs ds ∧ w3.grownBy wc (some g))
        case first =>
          go_wp2_with fail
          go_loopw [15] (fun jv wq => ∃ j : Nat, j ≤ m ∧ jv = .int .i64 j ∧ ∃ ds, Row wq g ds ∧ ds.length = m ∧ Bs ds ∧ w3.grownBy wq (some g)) (fun jv _ => m - (intOf jv).toNat)
          case atStart => exact ⟨0, Nat.zero_le _, rfl, _, r3, by simp, fun x hx => (by obtain ⟨_, rfl⟩ := List.mem_replicate.1 hx; decide), World.grownBy.refl _ _⟩
          case round =>
          obtain ⟨j, hj, rfl, ds, hd, hdl, hdB, hgq⟩ := hrel
          have HDL := Hid.mk' hdl
          have hbq := mid3.below.grown hgq mid3.room (fun k hk => by cases hk; exact hgB)
          by_cases hjm : j < m
          · have hxj := hd.cell j (by omega)
            have hfj := hd.frozen j
            obtain ⟨x0, hx0⟩ : ∃ x0, x0 = ds.getD j 0 := ⟨_, rfl⟩
            rw [← hx0] at hxj
            clear hx0 hdl r3
            by_cases hp : 0 < n2
            · obtain ⟨b2, o2, rfl, hb2, hc2⟩ := i2 hp
              obtain ⟨y, hy, hy0, hy256⟩ := hc2 ((k + j) % n2) (Nat.mod_lt _ hp)
              have hcy := (hbq.cell (p := ⟨b2, o2 + (k + j) % n2, none⟩) hb2).trans hy
              have hp' : (0 : Int) < n2 := by omega
              have hm1 : ((k : Int) + (j : Int)) % (n2 : Int) < n2 := Int.emod_lt_of_pos _ hp'
              have hm0 : 0 ≤ ((k : Int) + (j : Int)) % (n2 : Int) := Int.emod_nonneg _ (by omega)
              clear hy hc2 hbq
              go_wp2
              go_roundw
              case rel => exact ⟨j + 1, by omega, by go_num, _, hd.set j y, by rw [List.length_set]; exact HDL.out, hdB.set j y hy0 hy256, hgq.trans (grown_set g j _)⟩
              case measure => simp [intOf]; omega
            · have hp' : ¬ (0 : Int) < n2 := by omega
              clear hbq
              go_wp2
              go_roundw
              case rel => exact ⟨j + 1, by omega, by go_num, _, hd.set j _, by rw [List.length_set]; exact HDL.out, hdB.set j _ (by omega) (by omega), hgq.trans (grown_set g j _)⟩
              case measure => simp [intOf]; omega
          · go_wp2
            go_meet
            exact ⟨ds, hd, HDL.out, hdB, hgq⟩
        case rest =>
        obtain ⟨ds, hd, hdl, hdB, hgq⟩ := hcut
        have mid4 := mid3.kept hgq (.inr ap7) (.inr ap8) (.inr ap9) (fun e he x => apr e he (Option.some.inj x)) (fun k hk => by cases hk; exact hgB)
        clear mid3 hgq ap8 ap9 apr r3
        have HDL := Hid.mk' hdl
        clear hdl
        have hlb : (encs els ++ [z, (m : Int)]).length = (encs els).length + 2 := by simp
        have hnl : (ds.map (Value.int .u8)).length = m * 1 := by rw [List.length_map, HDL.out, Nat.mul_one]
        go_upto_region 26 with (at_builtin; refine wpList_append_own_at _ rfl (.tmp 100) (.tmp 101) 22 rfl w.heap.size 5 t5 (.int .u8 0) 1 1 Ybaf.underlying22 p0 p1 p2 p3 rfl (by decide) _ (encs els ++ [z, (m : Int)]).length _ rfl mid4.body ⟨g, 0, none⟩ m m (ds.map (Value.int .u8)) rfl hnl hd.cells (ints_oneCell .u8 ds) (by rw [hlb]; unfold maxLen; omega) (by rw [hlb]; omega) mid4.room ?_; intro v7' w5 hown5 hg5 hnil5 hat5)
        have hd5 := hd.kept hg5 (fun x => ap7 x.symm)
        have hm' : m = ds.length := HDL.out.symm
        have mid5 := mid4.body' (news := ds) (hm' ▸ hown5) hg5 (hm' ▸ hnil5) hat5
        have ap7' : v7'.ownBlock ≠ some g := by
          rcases hat5 with h | h
          · rw [h]; exact ap7
          · rw [h]; have := hd.lt; simp; omega
        have mid6 := mid5.addRow z hd5 hgB ap7'
        clear hown5 hg5 hnil5 hat5 mid5 mid4 hd5 hd ap7 hm' hnl hlb
        have hel : els.length ≤ 127 := by have := encs_len els; omega
        have hli : (els.map fun e => Value.int .u8 e.id).length ≤ 127 := by rw [List.length_map]; exact hel
        have hld : (els.map dataOf).length ≤ 127 := by rw [List.length_map]; exact hel
        go_upto_region 27 with (at_builtin; go_must (refine wpList_append_own _ rfl (.tmp 103) (.tmp 105) 23 rfl w.heap.size 25 t25 (.int .u8 0) 1 1 Ybaf.underlying23 q0 q1 q2 q3 rfl (by decide) _ _ _ rfl (mid6.ids.alloc _) ⟨w5.heap.size, 0, none⟩ 1 1 [.int .u8 z] rfl rfl (cell_one_new _ _ _) (ints_oneCell .u8 [z]) (by unfold maxLen; omega) (by omega) ((mid6.alloc _).room) ?_); intro v8 w6 hown6 hg6 hnil6)
        have mid7 := (mid6.alloc _).ids' hown6 hg6
        clear hown6 hg6 hnil6 mid6
        go_wp2_with (at_builtin; refine wpList_append_own _ rfl (.tmp 107) (.tmp 109) 24 rfl w.heap.size 22 t22 (.slice none 0 0) 1 24 Ybaf.underlying24 r0 r1 r2 r3 rfl (by decide) _ _ _ rfl (mid7.data.alloc _) ⟨w6.heap.size, 0, none⟩ 1 1 [.slice (some ⟨g, 0, none⟩) m m] rfl rfl (cell_one_new _ _ _) (fun u hu => by simp at hu; subst hu; rfl) (by unfold maxLen; omega) (by omega) ((mid7.alloc _).room) ?_; intro v9 w7 hown7 hg7 hnil7)
        have mid8 := (mid7.alloc _).data' hown7 hg7
        clear hown7 hg7 hnil7 mid7
        go_roundw
        case rel =>
          refine ⟨k + 1, by omega, by go_num, els ++ [⟨z, ds, g⟩], ?_⟩
          have hG : Good ⟨z, ds, g⟩ := ⟨hz0, hz256, hdB, by show ds.length ≤ 5; rw [HDL.out]; exact hm5, fun hf => by
            show (ds.length : Int) = fixed z
            rw [HDL.out, ← HFZ.out]
            rw [show fixed (E.id ⟨z, ds, g⟩) = fz from HFZ.out.symm] at hf
            exact HM.out hf⟩
          have e1 : encs (els ++ [⟨z, ds, g⟩]) = encs els ++ [z, (m : Int)] ++ ds := by rw [encs_snoc, enc1]; simp [HDL.out]
          refine Mid.st ?_ (fun e he => ?_) (by rw [e1]; simp [HDL.out]; omega)
          · rw [e1, List.map_append, List.map_append]
            have e2 : [(⟨z, ds, g⟩ : E)].map dataOf = [.slice (some ⟨g, 0, none⟩) m m] := by simp [dataOf, HDL.out]
            rw [e2]
            exact mid8
          · rcases List.mem_append.1 he with h | h
            · exact HST.out.good e h
            · simp at h; subst h; exact hG
        case measure => simp [intOf]; omega
      · go_wp2
        go_meet
        exact ⟨els, st⟩
    · go_wp2
      go_meet
      exact ⟨els, st⟩
  case rest =>
    obtain ⟨els, st⟩ := hcut
    have mid := st.mid
    have hgood := st.good
    have hsm := st.small
    obtain ⟨gb, cb, rfl, hgbB, hgb, hcb⟩ := own_shape st.body st.nonil
    clear st i0 i1 i2
    obtain ⟨nb, hnb⟩ : ∃ nb, nb = (encs els).length := ⟨_, rfl⟩
    have HNB := Hid.mk' hnb
    have hel : 2 * els.length ≤ nb := by rw [hnb]; exact encs_len els
    rw [← hnb]
    have mbody := mid.body
    rw [← hnb] at mbody hsm hcb
    clear hnb
    have hwn : IntKind.u8.wrap (nb : Int) = (nb : Int) := by rw [IntKind.wrap_u8]; omega
    go_upto_region 29 with (at_make; go_must (refine wpList_make_own _ rfl (.const (.int .i64 0)) (.tmp 113) 22 rfl w.heap.size 5 t5 (.int .u8 0) 1 Ybaf.underlying22 p0 p1 p2 .i64 .i64 _ (nb + 1) rfl rfl (by simp) (by rw [p3]; omega) (by unfold maxLen; omega) mid.room ?_); intro wm hownU hgU)
    obtain ⟨ap7, ap8, ap9, apr⟩ := mid.apart
    have mid1 := mid.made hgU
    have hgUB : w.heap.size ≤ wc.heap.size := mid.room
    generalize wc.heap.size = gU at hownU ap7 ap8 ap9 apr hgUB
    clear mid mbody hgU
    go_upto_region 30 with (at_builtin; go_must (refine wpList_append_fits _ rfl (.tmp 115) (.tmp 119) 22 rfl w.heap.size 5 t5 1 Ybaf.underlying22 p0 p2 gU 0 (nb + 1) [] rfl (hownU.alloc _) ⟨wm.heap.size, 0, none⟩ 1 1 [.int .u8 (nb : Int)] rfl rfl (cell_one_new _ _ _) (ints_oneCell .u8 [(nb : Int)]) (by omega) ?_); intro wn hownV hgV)
    have mid2 := (mid1.alloc _).kept hgV (.inr ap7) (.inr ap8) (.inr ap9) (fun e he x => apr e he (Option.some.inj x)) (fun k hk => by cases hk; exact hgUB)
    clear mid1 hownU hgV
    have hbc := mid2.body.cells (g := gb) rfl
    have hbl : ((encs els).map (Value.int .u8)).length = nb * 1 := by rw [List.length_map, HNB.out, Nat.mul_one]
    go_upto_region 31 with (at_builtin; go_must (refine wpList_append_fits _ rfl (.tmp 121) (.tmp 122) 22 rfl w.heap.size 5 t5 1 Ybaf.underlying22 p0 p2 gU 1 (nb + 1) _ rfl hownV ⟨gb, 0, none⟩ nb cb ((encs els).map (Value.int .u8)) rfl hbl hbc (ints_oneCell .u8 _) (by omega) ?_); intro wo hownW hgW)
    have mid3 := mid2.kept hgW (.inr ap7) (.inr ap8) (.inr ap9) (fun e he x => apr e he (Option.some.inj x)) (fun k hk => by cases hk; exact hgUB)
    clear mid2 hownV hgW hbc hbl
    have hU : wo.ownsRow w.heap.size 5 1 (.slice (some ⟨gU, 0, none⟩) (1 + nb) (nb + 1)) (1 + nb) ((((nb : Int) :: encs els)).map (Value.int .u8)) := by simpa using hownW
    clear hownW
    obtain ⟨u, hu⟩ : ∃ u, u = (nb : Int) :: encs els := ⟨_, rfl⟩
    rw [← hu] at hU
    have hul : u.length = 1 + nb := by rw [hu, List.length_cons, HNB.out]; omega
    have huB : Bs u := by
      rw [hu]
      intro x hx
      rcases List.mem_cons.1 hx with rfl | hx
      · omega
      · exact bs_encs hgood x hx
    have hLie : Lie wo gU 0 u := by
      intro i hi
      rw [Nat.zero_add, hU.cellAt i (by omega)]
      unfold at_
      rw [List.getElem?_map, List.getD_eq_getElem?_getD, List.getElem?_eq_getElem hi]
      rfl
    have hau : at_ u 0 = (nb : Int) := by rw [hu]; rfl
    have hch : Chain u 1 (pos 1 els) u.length := by rw [hu]; exact chain_enc els [(nb : Int)] hgood
    have hrd : ∀ (k : Nat) (hk : k < els.length), ∃ p, (pos 1 els)[k]? = some p ∧ at_ u p = els[k].id ∧ ln u p = els[k].d.length ∧ ∀ j, j < els[k].d.length → at_ u (p + 2 + j) = at_ els[k].d j := by
      rw [hu]; exact fun k hk => read_enc els [(nb : Int)] k hk
    have hnob : ∀ off, ¬ Bad u off := fun off => not_bad (by omega) (by rw [hau, hul]; omega) hch
    have hdec := dec_any (some ⟨gU, 0, none⟩) gU 0 (1 + nb) (nb + 1) bm u wo hul (by omega) (by omega) (fun _ => rfl) huB hLie (HT.out.mono mid3.below hw0 hm) (Nat.lt_of_lt_of_le hw0 mid3.room) (fun _ => (hU.lt gU rfl).2) (Nat.lt_of_lt_of_le hm mid3.room)
    have HD := Hid.mk' hdec
    have HUL := Hid.mk' hul
    have HCH := Hid.mk' hch
    have HRD := Hid.mk' hrd
    have HNO := Hid.mk' hnob
    have HLIE := Hid.mk' hLie
    clear hdec hul hch hrd hnob hLie hau hu huB
    go_wp2_with fail
    refine HD.out.mono ?_
    rintro e wd ⟨got, err, rfl, hbd, hcase⟩
    rcases hcase with ⟨rfl, _, _, es, hC, hown, _⟩ | ⟨_, off, _, hBad⟩
    · obtain rfl : es = pos 1 els := hC.uniq HCH.out
      obtain ⟨aG, cG, rfl, hG⟩ := got_form hown
      obtain ⟨a8, c8, rfl, h8⟩ := own_form mid3.ids
      obtain ⟨a9, c9, rfl, h9⟩ := own_form mid3.data
      have hG2 : 0 < els.length → ∃ gG, aG = some ⟨gG, 0, none⟩ ∧ gG < wd.heap.size ∧ ∀ k p, (pos 1 els)[k]? = some p → wd.cell? ⟨gG, k * 2, none⟩ = some (.int .u8 (at_ u p)) ∧ wd.cell? ⟨gG, k * 2 + 1, none⟩ = some (dataV gU 0 u p) := by
        intro h
        obtain ⟨gG, e1, e2, e3⟩ := hG (by rw [pos_length]; exact h)
        refine ⟨gG, e1, e2, fun k p hp => ?_⟩
        obtain ⟨hk, he⟩ := List.getElem?_eq_some_iff.1 hp
        have := e3 k hk
        rw [he] at this
        exact this
      clear hG
      rw [List.length_map] at h8 h9
      rw [pos_length, List.length_map, List.length_map]
      have hrows := mid3.rows
      have hbl := mid3.below
      have hroom := mid3.room
      clear hown hC mid3 HD ap7 ap8 ap9 apr
      have e0 : ((els.length : Int) != (els.length : Int)) = false := by simp
      go_wp2
      go_loopw [19] (fun kv wq => ∃ k : Nat, k ≤ els.length ∧ kv = .int .i64 k ∧ Below wd.heap.size wd wq) (fun kv _ => els.length - (intOf kv).toNat)
      case atStart => exact ⟨0, Nat.zero_le _, rfl, Below.refl _ _⟩
      case round =>
      obtain ⟨k, hk, rfl, hbq⟩ := hrel
      by_cases hlt : k < els.length
      · obtain ⟨gG, rfl, hgG, hGc⟩ := hG2 (by omega)
        obtain ⟨g8, rfl, hg8, h8c⟩ := h8 (by omega)
        obtain ⟨g9, rfl, hg9, h9c⟩ := h9 (by omega)
        obtain ⟨p, hp, hpi, hpl, hpd⟩ := HRD.out k hlt
        obtain ⟨cA, cB⟩ := hGc k p hp
        obtain ⟨hR, hRB, _⟩ := hrows els[k] (List.getElem_mem hlt)
        have hbo := hbd.trans (hbq.mono hbd.size)
        have cA' := (hbq.cell (p := ⟨gG, k * 2, none⟩) hgG).trans cA
        have cB' := (hbq.cell (p := ⟨gG, k * 2 + 1, none⟩) hgG).trans cB
        have c8' := (hbo.cell (p := ⟨g8, k, none⟩) hg8).trans (h8c k hlt)
        have c9' := (hbo.cell (p := ⟨g9, k, none⟩) hg9).trans (h9c k hlt)
        rw [List.getElem?_map, List.getElem?_eq_getElem hlt, Option.map_some] at c8' c9'
        have hRq : Row wr els[k].g els[k].d := (hbo.block _ hR.lt).trans hR
        have hc1 : ∀ w'' : World, w''.heap = wr.heap → (convert 22 9 (dataV gU 0 u p)).run Ybaf.prog w'' = .ok (.string (strOfNums els[k].d)) w'' := by
          intro w'' hw
          have hok := (HCH.out.mem p (List.mem_of_getElem? hp)).2.1
          unfold dataV
          refine conv_at _ _ _ els[k].d w'' hpl.symm (fun hpos => ⟨gU, 0 + (p + 2), by rw [if_neg (by omega)], fun i hi => ?_⟩)
          have hgU : gU < wo.heap.size := (hU.lt gU rfl).2
          rw [World.cell?_of_block (w := wr) (by rw [hw]), hbo.cell (p := ⟨gU, 0 + (p + 2) + i, none⟩) hgU, Nat.add_assoc, HLIE.out (p + 2 + i) (by omega), hpd i (by omega)]
          rfl
        have hc2 : ∀ w'' : World, w''.heap = wr.heap → (convert 22 9 (dataOf els[k])).run Ybaf.prog w'' = .ok (.string (strOfNums els[k].d)) w'' := by
          intro w'' hw
          refine conv_at _ _ _ els[k].d w'' rfl (fun _ => ⟨els[k].g, 0, rfl, fun i hi => ?_⟩)
          rw [World.cell?_of_block (w := wr) (by rw [hw]), Nat.zero_add]
          exact hRq.cell i hi
        rw [hpi] at cA'
        obtain ⟨z, hz⟩ : ∃ z, z = els[k].id := ⟨_, rfl⟩
        rw [← hz] at cA' c8'
        unfold dataV at cB' hc1
        unfold dataOf at c9' hc2
        rw [hpl] at cB' hc1
        obtain ⟨L, hL⟩ : ∃ L, L = els[k].d.length := ⟨_, rfl⟩
        rw [← hL] at cB' hc1 c9' hc2
        obtain ⟨oG, hoG⟩ : ∃ oG, oG = (if L = 0 then 0 else 0 + (p + 2)) := ⟨_, rfl⟩
        rw [← hoG] at cB' hc1
        generalize els[k].g = gd at c9' hc2
        generalize strOfNums els[k].d = sd at hc1 hc2
        have HC1 := Hid.mk' hc1
        have HC2 := Hid.mk' hc2
        clear hc1 hc2 hGc h8c h9c hp hpi hpl hpd cA cB hR hRB hRq hz hL hoG hG2 h8 h9 hrows
        have e1 : (z != z) = false := by simp
        have e2 : ((L : Int) != (L : Int)) = false := by simp
        go_wp2
        go_region
        all_goals go_wp2
        go_region_held3 (fun w' => w'.cell? ⟨gG, k * 2 + 1, none⟩ = some (.slice (some ⟨gU, oG, none⟩) L L) ∧ w'.cell? ⟨g9, k, none⟩ = some (.slice (some ⟨gd, 0, none⟩) L L))
          (simp [go_sem, cB', c9'])
          (first | (go_at_call 7; refine (equal_conv _ _ sd wr.drew.drew (HC1.out wr.drew.drew rfl) (HC2.out wr.drew.drew rfl)).mono ?_; rintro e w5 ⟨rfl, rfl⟩))
        go_wp2
        go_region
        all_goals go_wp2
        go_roundw
        case rel => exact ⟨k + 1, by omega, by go_num, hbq.drew.drew.drew⟩
        case measure => simp [intOf]; omega
      · go_wp2
        go_ret
        exact ⟨rfl, hbl.trans ((hbd.mono hroom).trans (hbq.mono (Nat.le_trans hroom hbd.size)))⟩
    · exact absurd hBad (HNO.out off)
end Go.Proofs.YbulkbbrqFmt.Hd
