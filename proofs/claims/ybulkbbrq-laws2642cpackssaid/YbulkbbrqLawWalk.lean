/-
  THE WALK of LawS2642CPacks.
-/
import Derived.Test.YbulkbbrqPackWalk
import Derived.Below
import Derived.Deep.DeepCutAuto
import Derived.Laws.CopyOwn
namespace Go.Proofs.Ybulkbbrq.Pk
open Go.RowKit

theorem info5 : (Yba.prog.info? 5).map (fun i => (i.zero, i.size, i.bytes)) = some (some (.int .u8 0), 1, 1) := by kernel_rfl

/-- What the walk is told of a slice of bytes that came in. -/
def In (w : World) (a : Option Addr) (len : Nat) : Prop :=
  0 < len → ∃ b o, a = some ⟨b, o, none⟩ ∧ b < w.heap.size ∧ ∀ i, i < len → ∃ z, w.cell? ⟨b, o + i, none⟩ = some (.int .u8 z) ∧ 0 ≤ z ∧ z < 256

theorem row_made {w : World} {base g n : Nat} (h : w.ownsRow base 5 1 (.slice (some ⟨g, 0, none⟩) n n) n (madeCells (Value.int .u8 0).cells (n * 1)).toList) : Row w g (List.replicate n 0) := by
  rcases h.2 with ⟨h', _⟩ | ⟨g', cap', cur, h', _, hg, _, _, hcs, htake⟩
  · simp at h'
  · simp only [Value.slice.injEq, Option.some.injEq, Addr.mk.injEq, and_true, true_and] at h'
    obtain ⟨rfl, rfl⟩ := h'
    rw [List.take_of_length_le (by simp [hcs])] at htake
    unfold Row
    rw [hg]
    have : (Value.int .u8 0).cells = #[Value.int .u8 0] := rfl
    rw [this, Nat.mul_one, toList_madeCells_one] at htake
    congr 2
    rw [List.map_replicate, ← htake]

theorem bits_range (op : BinOp) (x y : Int) : 0 ≤ bits op .u8 x y ∧ bits op .u8 x y < 256 := by
  unfold bits
  rw [IntKind.wrap_u8']
  omega

theorem splice_all (n : Nat) (L cs : List Value) (hL : L.length = n) (hc : cs.length = n) : splice L 0 cs = cs := by
  unfold splice
  rw [List.drop_of_length_le (by omega)]
  simp

theorem shl_one (c : Nat) : shlB 1 c = 2 ^ c % 256 := by simp [shlB]
theorem size5 : (Yba.prog.info? 5).map (·.size) = some 1 := by kernel_rfl
theorem cells_of {w : World} {g : Nat} {xs : List Int} (h : Row w g xs) : ∀ j v, (xs.map (Value.int .u8))[j]? = some v → w.cell? ((⟨g, 0, none⟩ : Addr).add j) = some v := by
  intro j v hj
  rw [List.getElem?_map] at hj
  obtain ⟨x, hx, rfl⟩ := Option.map_eq_some_iff.1 hj
  have hl : j < xs.length := (List.getElem?_eq_some_iff.1 hx).1
  have e : (⟨g, 0, none⟩ : Addr).add j = ⟨g, j, none⟩ := by unfold Addr.add; split <;> simp_all
  rw [e, h.cell j hl, List.getD_eq_getElem?_getD, hx]
  rfl

/-- 'copy(want, packed)': two rows of one length. -/
theorem copied (w : World) (gw gp n : Nat) (ps : List Int) (h1 : Row w gw (List.replicate n 0)) (h2 : Row w gp ps) (hl : ps.length = n) :
    ∃ w4, (∀ ty, (Builtin.copy_ #[22, 22] ty #[.slice (some ⟨gw, 0, none⟩) n n, .slice (some ⟨gp, 0, none⟩) n n]).run Yba.prog w = .ok (.int .i64 (n : Int)) w4) ∧ Row w4 gw ps ∧ Below gw w w4 := by
  have hn : (ps.map (Value.int .u8)).length = Nat.min n n := by rw [List.length_map, hl]; exact (Nat.min_self n).symm
  refine ⟨w.setRow gw (ps.map (Value.int .u8)).toArray, fun ty => ?_, ?_, below_setRow (Below.refl _ _) (Nat.le_refl _) _⟩
  · have hr := run_copy_row (P := Yba.prog) w 22 22 ty 5 gw 0 n n ⟨gp, 0, none⟩ n n ((List.replicate n (0 : Int)).map (Value.int .u8)).toArray 5 (ps.map (Value.int .u8)) Yba.underlying22 size5 h1 hn (cells_of h2) (by simp [hl]) (ints_oneCell .u8 ps)
    rw [hr]
    simp only [goInt, List.length_map, hl, Nat.zero_add]
    congr 2
    simp
  · exact setRow_heap w gw _ _ 5 _ h1

/-- bytes.Equal of two rows that hold the same bytes. -/
theorem equal_any (g1 g2 n : Nat) (xs : List Int) (w : World) (hx : xs.length = n) (h1 : Row w g1 xs) (h2 : Row w g2 xs) :
    Calls Yba.prog 5 #[.slice (some ⟨g1, 0, none⟩) n n, .slice (some ⟨g2, 0, none⟩) n n] w fun e w' => e = .returned (.bool true) ∧ w' = w := by
  have c1 := run_convert_bytes_arg (P := Yba.prog) w 22 5 Yba.underlying22 Yba.underlying5 g1 0 n n xs hx (fun i hi => by rw [Nat.zero_add]; exact h1.cell i (by omega)) 9 Yba.underlying9
  have c2 := run_convert_bytes_arg (P := Yba.prog) w 22 5 Yba.underlying22 Yba.underlying5 g2 0 n n xs hx (fun i hi => by rw [Nat.zero_add]; exact h2.cell i (by omega)) 9 Yba.underlying9
  clear hx h1 h2
  generalize strOfNums xs = s at c1 c2
  go_enter Yba.func5, Yba.ntmps5
  go_wp2
  go_ret
  exact ⟨by simp, rfl⟩

theorem early (a0 : Option Addr) (len0 cap0 : Nat) (a1 : Int) (a2 : Option Addr) (len2 cap2 : Nat) (w : World) (h : 1024 < len2 ∨ 4096 < len0) :
    Calls Yba.prog 3 #[.slice a0 len0 cap0, .int .u8 a1, .slice a2 len2 cap2] w fun e w' => e = .returned (.bool true) ∧ Below w.heap.size w w' := by
  by_cases h2 : 1024 < len2
  · have h2' : (1024 : Int) < len2 := by omega
    go_enter Yba.func3, Yba.ntmps3
    go_wp2
    go_ret
    exact ⟨rfl, Below.refl _ _⟩
  · have h2' : (len2 : Int) ≤ 1024 := by omega
    have h3 : (4096 : Int) < len0 := by omega
    go_enter Yba.func3, Yba.ntmps3
    go_wp2
    go_ret
    exact ⟨rfl, Below.refl _ _⟩

set_option maxHeartbeats 2000000 in
set_option maxRecDepth 100000 in
theorem late (a0 : Option Addr) (len0 cap0 : Nat) (A : Nat) (a2 : Option Addr) (len2 cap2 : Nat) (w : World) (h2 : len2 ≤ 1024) (h0 : len0 ≤ 4096) (hA : A < 256) (i0 : In w a0 len0) (i2 : In w a2 len2) :
    Calls Yba.prog 3 #[.slice a0 len0 cap0, .int .u8 A, .slice a2 len2 cap2] w fun e w' => e = .returned (.bool true) ∧ Below w.heap.size w w' := by
  have h2' : (len2 : Int) ≤ 1024 := by omega
  have h0' : (len0 : Int) ≤ 4096 := by omega
  obtain ⟨ti, hi, hz0, hz1, hz2⟩ := info_parts info5
  obtain ⟨f, hf⟩ : ∃ f : Nat, (A : Int) % 64 = f := ⟨A % 64, by omega⟩
  have hf63 : f ≤ 63 := by omega
  have HF : Hid ((A : Int) % 64 = f) := hf
  clear hf
  go_enter Yba.func3, Yba.ntmps3
  go_upto_region 4 with fail
  rw [HF.out]
  go_wp2_with (at_make; refine wpList_make_full _ rfl (.tmp 31) (.tmp 31) 22 rfl w.heap.size 5 ti (.int .u8 0) 1 Yba.underlying22 hi hz0 hz1 .i64 .i64 len2 len2 len2 rfl rfl rfl rfl (by rw [hz2]; omega) (by unfold maxLen; omega) (Nat.le_refl _) ?_; intro w1 hown1 hg1)
  have r1 := row_made hown1
  clear hown1
  have hB1 : Below w.heap.size w w1 := (Below.refl _ _).grown hg1 (Nat.le_refl _) (fun k hk => by cases hk)
  generalize hgs : w.heap.size = gs at r1
  have hgsB : w.heap.size ≤ gs := Nat.le_of_eq hgs
  clear hgs hg1
  go_loopw [9] (fun i wr => ∃ k : Nat, k ≤ len2 ∧ i = .int .i64 k ∧ ∃ xs, Row wr gs xs ∧ xs.length = len2 ∧ (∀ x ∈ xs, 0 ≤ x ∧ x < 128) ∧ Below w.heap.size w wr) (fun i _ => len2 - (intOf i).toNat)
  case atStart => exact ⟨0, Nat.zero_le _, rfl, _, r1, by simp, fun x hx => by obtain ⟨_, rfl⟩ := List.mem_replicate.1 hx; decide, hB1⟩
  case round =>
  obtain ⟨k, hk, rfl, xs, hrow, hxl, h128, hb⟩ := hrel
  clear r1 hB1
  by_cases hlt : k < len2
  · obtain ⟨b2, o2, e2, hb2, hc2⟩ := i2 (by omega)
    subst e2
    obtain ⟨z, hz, hz0', hz256⟩ := hc2 k hlt
    have hcz : wr.cell? ⟨b2, o2 + k, none⟩ = some (.int .u8 z) := (hb.cell (by exact hb2)).trans hz
    have hxk := hrow.cell k (by omega)
    have hfk := hrow.frozen k
    obtain ⟨x0, hx0⟩ : ∃ x0, x0 = xs.getD k 0 := ⟨_, rfl⟩
    rw [← hx0] at hxk
    have HXL : Hid (xs.length = len2) := hxl
    clear hx0 hz hc2 hxl
    go_wp2
    go_roundw
    case rel =>
      refine ⟨k + 1, by omega, by go_num, _, hrow.set k _, by rw [List.length_set]; exact HXL.out, ?_, hb.setCell hgsB _⟩
      intro x hx
      rcases List.mem_or_eq_of_mem_set hx with hm | rfl
      · exact h128 _ hm
      · exact and127 z ⟨hz0', hz256⟩
    case measure => simp [intOf]; omega
  · obtain rfl : len2 = k := by omega
    have HXL : Hid (xs.length = len2) := hxl
    clear hxl
    obtain ⟨n, hn⟩ : ∃ n : Nat, (7 * ((f : Int) + (len2 : Int)) + 7) / 8 = n := ⟨(7 * (f + len2) + 7) / 8, by omega⟩
    have hn1 : 7 * (f + len2) ≤ 8 * n := by omega
    have hn2 : 8 * n ≤ 7 * (f + len2) + 7 := by omega
    have HN : Hid ((7 * ((f : Int) + (len2 : Int)) + 7) / 8 = n) := hn
    clear hn
    go_upto_region 11 with fail
    rw [HN.out]
    go_upto_if 59 with (at_make; refine wpList_make_full _ rfl (.tmp 55) (.tmp 55) 22 rfl w.heap.size 5 ti (.int .u8 0) 1 Yba.underlying22 hi hz0 hz1 .i64 .i64 n n n rfl rfl rfl rfl (by rw [hz2]; omega) (by unfold maxLen; omega) hb.size ?_; intro w2 hown2 hg2)
    have r2 := row_made hown2
    have rs := hrow.kept hg2 (by simp)
    have hb2 : Below w.heap.size w w2 := hb.grown hg2 hb.size (fun k hk => by cases hk)
    have hgp : gs ≠ wr.heap.size := Nat.ne_of_lt hrow.lt
    have hgpB : w.heap.size ≤ wr.heap.size := hb.size
    generalize wr.heap.size = gp at r2 hgp hgpB
    clear hown2 hg2 hrow hb
    go_cut [13] (fun _ wc => ∃ ps, Row wc gp ps ∧ ps.length = n ∧ Bs ps ∧ Row wc gs xs ∧ Below w.heap.size w wc)
    case first =>
      by_cases hl0 : 0 < len0
      · obtain ⟨b0, o0, e0, hb0, hc0⟩ := i0 hl0
        subst e0
        have hl0' : (0 : Int) < len0 := by omega
        go_wp2
        go_loopw [13] (fun i wq => ∃ k : Nat, k ≤ n ∧ i = .int .i64 k ∧ ∃ ps, Row wq gp ps ∧ ps.length = n ∧ Bs ps ∧ Row wq gs xs ∧ Below w.heap.size w wq) (fun i _ => n - (intOf i).toNat)
        case atStart => exact ⟨0, Nat.zero_le _, rfl, _, r2, by simp, fun x hx => by obtain ⟨_, rfl⟩ := List.mem_replicate.1 hx; decide, rs, hb2⟩
        case round =>
          obtain ⟨k, hk, rfl, ps, hp, hpl, hpB, hs, hb⟩ := hrel
          have HPL : Hid (ps.length = n) := hpl
          clear r2 rs hb2
          by_cases hlt : k < n
          · have hkm : k % len0 < len0 := Nat.mod_lt _ hl0
            obtain ⟨z, hz, hz0', hz256⟩ := hc0 (k % len0) hkm
            have hcz := (hb.cell (p := ⟨b0, o0 + k % len0, none⟩) hb0).trans hz
            have hxk := hp.cell k (by omega)
            have hfk := hp.frozen k
            obtain ⟨x0, hx0⟩ : ∃ x0, x0 = ps.getD k 0 := ⟨_, rfl⟩
            rw [← hx0] at hxk
            have hm1 : (k : Int) % (len0 : Int) < len0 := Int.emod_lt_of_pos _ hl0'
            have hm0 : 0 ≤ (k : Int) % (len0 : Int) := Int.emod_nonneg _ (by omega)
            clear hx0 hz hc0 hpl
            go_wp2
            go_roundw
            case rel =>
              exact ⟨k + 1, by omega, by go_num, _, hp.set k z, by rw [List.length_set]; exact HPL.out, hpB.set k z hz0' hz256, hs.other gp k _ hgp, hb.setCell hgpB _⟩
            case measure => simp [intOf]; omega
          · go_wp2
            go_meet
            exact ⟨ps, hp, HPL.out, hpB, hs, hb⟩
      · have hl0' : (len0 : Int) ≤ 0 := by omega
        go_wp2
        go_meet
        exact ⟨_, r2, by simp, fun x hx => by obtain ⟨_, rfl⟩ := List.mem_replicate.1 hx; decide, rs, hb2⟩
    case rest =>
      obtain ⟨ps, hp, hpl, hpB, hs, hb⟩ := hcut
      clear r2 rs hb2
      have HPL : Hid (ps.length = n) := hpl
      clear hpl
      go_wp2
      go_loopw [14] (fun i wq => ∃ q : Nat, 7 * f ≤ q ∧ q ≤ 7 * (f + len2) ∧ i = .int .i64 q ∧ ∃ ps, Row wq gp ps ∧ ps.length = n ∧ Bs ps ∧ Row wq gs xs ∧ Below w.heap.size w wq) (fun i _ => 7 * (f + len2) - (intOf i).toNat)
      case atStart => exact ⟨7 * f, Nat.le_refl _, by omega, by go_num, ps, hp, HPL.out, hpB, hs, hb⟩
      case round =>
      clear hp HPL hpB hs hb ps
      obtain ⟨q, hq1, hq2, rfl, ps, hp, hpl, hpB, hs, hb⟩ := hrel
      have HPL : Hid (ps.length = n) := hpl
      by_cases hlt : q < 7 * (f + len2)
      · have hxk := hp.cell (q / 8) (by omega)
        have hfk := hp.frozen (q / 8)
        obtain ⟨x0, hx0⟩ : ∃ x0, x0 = ps.getD (q / 8) 0 := ⟨_, rfl⟩
        rw [← hx0] at hxk
        clear hx0 hpl
        go_wp2
        go_roundw
        case rel =>
          exact ⟨q + 1, by omega, by omega, by go_num, _, hp.set (q / 8) _, by rw [List.length_set]; exact HPL.out, hpB.set (q / 8) _ (bits_range _ _ _).1 (bits_range _ _ _).2, hs.other gp _ _ hgp, hb.setCell hgpB _⟩
        case measure => simp [intOf]; omega
      · clear hpl
        go_upto_region 22 with (at_make; refine wpList_make_full _ rfl (.tmp 93) (.tmp 93) 22 rfl w.heap.size 5 ti (.int .u8 0) 1 Yba.underlying22 hi hz0 hz1 .i64 .i64 n n n rfl rfl rfl rfl (by rw [hz2]; omega) (by unfold maxLen; omega) hb.size ?_; intro w3 hown3 hg3)
        have r3 := row_made hown3
        have hp3 := hp.kept hg3 (by simp)
        have hs3 := hs.kept hg3 (by simp)
        have hb3 : Below w.heap.size w w3 := hb.grown hg3 hb.size (fun k hk => by cases hk)
        have hgw1 : gs < wr.heap.size := hs.lt
        have hgw2 : gp < wr.heap.size := hp.lt
        have hgwB : w.heap.size ≤ wr.heap.size := hb.size
        generalize wr.heap.size = gw at r3 hgw1 hgw2 hgwB
        clear hown3 hg3 hp hs hb
        obtain ⟨w4, hcp, r4, hb4⟩ := copied w3 gw gp n ps r3 hp3 HPL.out
        go_wp2
        clear hcp
        have hp4 : Row w4 gp ps := (hb4.block gp hgw2).trans hp3
        have hs4 : Row w4 gs xs := (hb4.block gs hgw1).trans hs3
        have hb5 : Below w.heap.size w w4 := hb3.trans (hb4.mono hgwB)
        clear hb4 hp3 hs3 hb3 r3
        have hwp : gp ≠ gw := Nat.ne_of_lt hgw2
        have hws : gs ≠ gw := Nat.ne_of_lt hgw1
        clear hgw1 hgw2
        go_loopw [16] (fun i wq => ∃ k : Nat, k ≤ len2 ∧ i = .int .i64 k ∧ ∃ ws, Row wq gw ws ∧ Rel n f xs ps (7 * (f + k)) ws ∧ Row wq gp ps ∧ Row wq gs xs ∧ Below w.heap.size w wq) (fun i _ => len2 - (intOf i).toNat)
        case atStart => exact ⟨0, Nat.zero_le _, rfl, ps, r4, Rel.start HPL.out hpB, hp4, hs4, hb5⟩
        case round =>
        clear r4 hp4 hs4 hb5
        obtain ⟨k, hk, rfl, ws, hw, hR, hp, hs, hb⟩ := hrel
        by_cases hlt2 : k < len2
        · go_wp2
          go_loopw [17] (fun i wq => ∃ j : Nat, j ≤ 7 ∧ i = .int .i64 j ∧ ∃ ws, Row wq gw ws ∧ Rel n f xs ps (7 * (f + k) + j) ws ∧ Row wq gp ps ∧ Row wq gs xs ∧ Below w.heap.size w wq) (fun i _ => 7 - (intOf i).toNat)
          case atStart => exact ⟨0, Nat.zero_le _, rfl, ws, hw, hR, hp, hs, hb⟩
          case round =>
          clear hw hR hp hs hb
          obtain ⟨j, hj, rfl, vs, hw, hR, hp, hs, hb⟩ := hrel
          by_cases hj7 : j < 7
          · obtain ⟨s, hsd⟩ : ∃ s, s = xs.getD k 0 := ⟨_, rfl⟩
            have hcs := hs.cell k (by rw [HXL.out]; exact hlt2)
            rw [← hsd] at hcs
            have hs128 : 0 ≤ s ∧ s < 256 := by
              have : s ∈ xs := by
                rw [hsd, List.getD_eq_getElem?_getD, List.getElem?_eq_getElem (by rw [HXL.out]; exact hlt2)]
                exact List.getElem_mem _
              have := h128 s this
              omega
            obtain ⟨hs0, hs1⟩ := hs128
            have hbit : sb f xs (7 * (f + k) + j) = s.toNat.testBit j := by
              unfold sb
              rw [show (7 * (f + k) + j) / 7 - f = k from by omega, show (7 * (f + k) + j) % 7 = j from by omega, hsd]
            have HB : Hid (sb f xs (7 * (f + k) + j) = s.toNat.testBit j) := hbit
            clear hbit hsd
            by_cases ht : s.toNat.testBit j = true
            · have h1 : (bits .and .u8 (s / 2 ^ j) 1 == 1) = true := (and_one s ⟨hs0, hs1⟩ j).trans ht
              have HB2 : Hid (sb f xs (7 * (f + k) + j) = true) := HB.out.trans ht
              clear ht HB
              have hvl : vs.length ≤ n := Nat.le_of_eq hR.1
              have hvl' : n ≤ vs.length := Nat.le_of_eq hR.1.symm
              have hxk := hw.cell ((7 * (f + k) + j) / 8) (by omega)
              have hfk := hw.frozen ((7 * (f + k) + j) / 8)
              obtain ⟨x0, hx0⟩ : ∃ x0, x0 = vs.getD ((7 * (f + k) + j) / 8) 0 := ⟨_, rfl⟩
              rw [← hx0] at hxk
              have HX : Hid (x0 = vs.getD ((7 * (f + k) + j) / 8) 0) := hx0
              clear hx0
              go_wp2
              go_roundw
              case rel =>
                have hL := hR.lay (q := 7 * (f + k) + j) (by omega) (by omega) HB2.out
                rw [← HX.out, shl_one] at hL
                exact ⟨j + 1, by omega, by go_num, _, hw.set _ _, hL, hp.other gw _ _ hwp, hs.other gw _ _ hws, hb.setCell hgwB _⟩
              case measure => simp [intOf]; omega
            · have h1 : (bits .and .u8 (s / 2 ^ j) 1 == 1) = false := (and_one s ⟨hs0, hs1⟩ j).trans (by simpa using ht)
              have HB2 : Hid (sb f xs (7 * (f + k) + j) = false) := HB.out.trans (by simpa using ht)
              clear ht HB
              go_wp2
              go_roundw
              case rel => exact ⟨j + 1, by omega, by go_num, vs, hw, hR.skip HB2.out, hp, hs, hb⟩
              case measure => simp [intOf]; omega
          · obtain rfl : j = 7 := by omega
            go_wp2
            go_roundw
            case rel => exact ⟨k + 1, by omega, by go_num, vs, hw, hR, hp, hs, hb⟩
            case measure => simp [intOf]; omega
        · obtain rfl : len2 = k := by omega
          go_wp2_with fail
          refine (pack_any gp gs n f len2 ps xs wr hp hs hgp HXL.out HPL.out hpB h128 hn1 hf63 h2 (by omega)).mono ?_
          rintro e w5 ⟨rfl, ys, hy, hR5, hg5⟩
          have hw5 := hw.kept hg5 (by simpa using fun e => hwp e.symm)
          rw [hR.same hR5] at hw5
          have hb5 : Below w.heap.size w w5 := hb.grown hg5 hb.size (fun k hk => by cases hk; exact hgpB)
          go_wp2_with fail
          refine (equal_any gp gw n ys w5 hR5.1 hy hw5).mono ?_
          rintro e w6 ⟨rfl, rfl⟩
          go_wp2
          go_ret
          exact ⟨rfl, hb5⟩
end Go.Proofs.Ybulkbbrq.Pk
