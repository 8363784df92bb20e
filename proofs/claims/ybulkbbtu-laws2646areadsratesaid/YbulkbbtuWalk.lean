/-
  THE WALKS of LawS2646AReadsRate: (*view).rateOf and the law.
-/
import Derived.Test.YbulkbbtuRows
import Derived.WalkKit
import Derived.ProofKit
import Derived.WalkSpells
import Derived.RegionTactic
import Derived.Below
import Derived.BigQuiet
import Derived.ChangeAlike
import Derived.Deep.DeepCutAuto
import Derived.Laws.CopyOwn
import Derived.Laws.Tables
import Derived.Deep.RegionHeld3
namespace Go.Proofs.Ybulkbbtu.Rt
open Go.RowKit

/-- Block g is a row of int64s, the numbers xs, none frozen. -/
def Row (w : World) (g : Nat) (xs : List Int) : Prop := w.heap[g]? = some (.cells (xs.map (Value.int .i64)).toArray 2 (0, 0))

theorem Row.cell {w : World} {g : Nat} {xs : List Int} (h : Row w g xs) (j : Nat) (hj : j < xs.length) : w.cell? ⟨g, j, none⟩ = some (.int .i64 (xs.getD j 0)) := by
  rw [cell_of_row w g j _ 2 (0, 0) h, List.getD_eq_getElem?_getD, List.getElem?_eq_getElem hj]
  simp [hj]
theorem Row.lt {w : World} {g : Nat} {xs : List Int} (h : Row w g xs) : g < w.heap.size := (Array.getElem?_eq_some_iff.1 h).1
theorem Row.other {w : World} {g : Nat} {xs : List Int} (h : Row w g xs) (g' j : Nat) (v : Value) (hne : g ≠ g') : Row (w.setCell ⟨g', j, none⟩ v) g xs :=
  (heap_setCell_other w ⟨g', j, none⟩ g v hne).trans h
theorem Row.kept {w w' : World} {g : Nat} {xs : List Int} {r : Option Nat} (h : Row w g xs) (hg : w.grownBy w' r) (hne : some g ≠ r) : Row w' g xs := (hg.block g h.lt hne).trans h

theorem info2 : (Yba.prog.info? 2).map (fun i => (i.zero, i.size, i.bytes)) = some (some (.int .i64 0), 1, 8) := by kernel_rfl
theorem size2 : (Yba.prog.info? 2).map (·.size) = some 1 := by kernel_rfl

/-- What the walk is told of the slice that came in. -/
def In (w : World) (a : Option Addr) (len : Nat) (zs : List Int) : Prop :=
  zs.length = len ∧ (0 < len → ∃ b o, a = some ⟨b, o, none⟩ ∧ b < w.heap.size ∧ ∀ i, i < len → w.cell? ⟨b, o + i, none⟩ = some (.int .i64 (zs.getD i 0)))

theorem row_made {w : World} {base g n : Nat} (h : w.ownsRow base 2 1 (.slice (some ⟨g, 0, none⟩) n n) n (madeCells (Value.int .i64 0).cells (n * 1)).toList) : Row w g (List.replicate n 0) := by
  rcases h.2 with ⟨h', _⟩ | ⟨g', cap', cur, h', _, hg, _, _, hcs, htake⟩
  · simp at h'
  · simp only [Value.slice.injEq, Option.some.injEq, Addr.mk.injEq, and_true, true_and] at h'
    obtain ⟨rfl, rfl⟩ := h'
    rw [List.take_of_length_le (by simp [hcs])] at htake
    unfold Row
    rw [hg]
    have : (Value.int .i64 0).cells = #[Value.int .i64 0] := rfl
    rw [this, Nat.mul_one, toList_madeCells_one] at htake
    congr 2
    rw [List.map_replicate, ← htake]

set_option maxRecDepth 100000 in
/-- 'copy(mine, rates)': the whole of the slice that came in. -/
theorem copied (w : World) (gw b o n cap : Nat) (ps : List Int) (h1 : Row w gw (List.replicate n 0)) (h2 : ∀ i, i < n → w.cell? ⟨b, o + i, none⟩ = some (.int .i64 (ps.getD i 0))) (hl : ps.length = n) :
    ∃ w4, (∀ ty, (Builtin.copy_ #[39, 39] ty #[.slice (some ⟨gw, 0, none⟩) n n, .slice (some ⟨b, o, none⟩) n cap]).run Yba.prog w = .ok (.int .i64 (n : Int)) w4) ∧ Row w4 gw ps ∧ Below gw w w4 := by
  have hn : (ps.map (Value.int .i64)).length = Nat.min n n := by rw [List.length_map, hl]; exact (Nat.min_self n).symm
  have hc : ∀ j v, (ps.map (Value.int .i64))[j]? = some v → w.cell? ((⟨b, o, none⟩ : Addr).add j) = some v := by
    intro j v hj
    rw [List.getElem?_map] at hj
    obtain ⟨x, hx, rfl⟩ := Option.map_eq_some_iff.1 hj
    have hl' : j < ps.length := (List.getElem?_eq_some_iff.1 hx).1
    rw [Go.WideShapes.add_plain, h2 j (by omega), List.getD_eq_getElem?_getD, hx]
    rfl
  refine ⟨w.setRow gw (ps.map (Value.int .i64)).toArray, fun ty => ?_, ?_, below_setRow (Below.refl _ _) (Nat.le_refl _) _⟩
  · have hr := run_copy_row (P := Yba.prog) w 39 39 ty 2 gw 0 n n ⟨b, o, none⟩ n cap ((List.replicate n (0 : Int)).map (Value.int .i64)).toArray 2 (ps.map (Value.int .i64)) Yba.underlying39 size2 h1 hn hc (by simp [hl]) (ints_oneCell .i64 ps)
    rw [hr]
    simp only [goInt, List.length_map, hl, Nat.zero_add]
    congr 2
    simp
  · exact setRow_heap w gw _ _ 2 _ h1

set_option maxRecDepth 100000 in
theorem rate_any (gv g n i : Nat) (z : Int) (w : World) (hv : w.cell? ⟨gv, 25, none⟩ = some (.slice (some ⟨g, 0, none⟩) n n)) (hi : i < n) (hz : w.cell? ⟨g, i, none⟩ = some (.int .i64 z)) :
    Calls Yba.prog 6 #[.pointer (some ⟨gv, 0, none⟩), .int .i64 i] w fun e w' => e = .returned (.int .i64 z) ∧ w' = w := by
  have he : ∀ w, (binOp .eql 39 (.slice (some ⟨g, 0, none⟩) n n) (.slice none 0 0)).run Yba.prog w = .ok (.bool false) w := fun w => Lib.run_eql_slice_nil w 39 2 _ n n 0 0 Yba.underlying39
  go_enter Yba.func6, Yba.ntmps6
  go_wp2
  go_ret
  exact ⟨by simp, rfl⟩

theorem built101 : ∃ cs, Yba.prog.built 101 [] = some cs ∧ 25 < cs.size := by
  have h : (Yba.prog.built 101 []).map (fun cs => decide (25 < cs.size)) = some true := by kernel_rfl
  obtain ⟨cs, hcs, hs⟩ := Option.map_eq_some_iff.1 h
  exact ⟨cs, hcs, by simpa using hs⟩
theorem wpList_zero {ops : Array Oper} {rest : List Oper} {pos : String} {af : Array Edge} {a : Act} {w : World} {Q : Exit → Act → World → Prop} (cs : Array Value) (hf : Yba.prog.built 101 [] = some cs)
    (h : wpList Yba.prog ops Q rest (a.put (some 21) (.agg cs)) w) : wpList Yba.prog ops Q ({ dst := some 21, op := .build 101 #[], type := 101, pos := pos, after := af, guard := none } :: rest) a w := by
  refine wpList_build rfl 101 #[] rfl (by simp [hf]) ?_
  simpa [hf] using h
theorem early (a0 : Option Addr) (len0 cap0 : Nat) (a1 : Int) (w : World) (h : 1024 < len0 ∨ len0 = 0) :
    Calls Yba.prog 4 #[.slice a0 len0 cap0, .int .u64 a1] w fun e w' => e = .returned (.bool true) ∧ Below w.heap.size w w' := by
  by_cases h2 : 1024 < len0
  · have h2' : (1024 : Int) < len0 := by omega
    go_enter Yba.func4, Yba.ntmps4
    go_wp2
    go_ret
    exact ⟨rfl, Below.refl _ _⟩
  · obtain rfl : len0 = 0 := by omega
    go_enter Yba.func4, Yba.ntmps4
    go_wp2
    go_ret
    exact ⟨rfl, Below.refl _ _⟩

set_option maxHeartbeats 2000000 in
set_option maxRecDepth 100000 in
theorem late (b o len0 cap0 : Nat) (A : Nat) (zs : List Int) (w : World) (h0 : 0 < len0) (h1 : len0 ≤ 1024) (hA : A < 2 ^ 64) (hzl : zs.length = len0) (hb : b < w.heap.size)
    (hc : ∀ i, i < len0 → w.cell? ⟨b, o + i, none⟩ = some (.int .i64 (zs.getD i 0))) :
    Calls Yba.prog 4 #[.slice (some ⟨b, o, none⟩) len0 cap0, .int .u64 A] w fun e w' => e = .returned (.bool true) ∧ Below w.heap.size w w' := by
  have h1' : (len0 : Int) ≤ 1024 := by omega
  have h0' : ((len0 : Int) == 0) = false := by simp; omega
  obtain ⟨ti, hi, hz0, hz1, hz2⟩ := info_parts info2
  obtain ⟨f, hf⟩ : ∃ f : Nat, (A : Int) % (len0 : Int) = f := ⟨A % len0, by omega⟩
  have hfl : f < len0 := by have := Int.emod_lt_of_pos (A : Int) (b := (len0 : Int)) (by omega); omega
  have HF : Hid ((A : Int) % (len0 : Int) = f) := hf
  clear hf
  go_enter Yba.func4, Yba.ntmps4
  go_upto_region 6 with (at_make; refine wpList_make_full _ rfl (.tmp 16) (.tmp 16) 39 rfl w.heap.size 2 ti (.int .i64 0) 1 Yba.underlying39 hi hz0 hz1 .i64 .i64 len0 len0 len0 rfl rfl rfl rfl (by rw [hz2]; omega) (by unfold maxLen; omega) (Nat.le_refl _) ?_; intro w1 hown1 hg1)
  have r1 := row_made hown1
  clear hown1
  have hB1 : Below w.heap.size w w1 := (Below.refl _ _).grown hg1 (Nat.le_refl _) (fun k hk => by cases hk)
  have hc1 : ∀ i, i < len0 → w1.cell? ⟨b, o + i, none⟩ = some (.int .i64 (zs.getD i 0)) := fun i hi => (hB1.cell (by exact hb)).trans (hc i hi)
  obtain ⟨w2, hcp, r2, hB2⟩ := copied w1 w.heap.size b o len0 cap0 zs r1 hc1 hzl
  have hB : Below w.heap.size w w2 := hB1.trans hB2
  generalize hgs : w.heap.size = gs at r1 r2 hcp
  have hgsB : w.heap.size ≤ gs := Nat.le_of_eq hgs
  have hc2 : ∀ i, i < len0 → w2.cell? ⟨b, o + i, none⟩ = some (.int .i64 (zs.getD i 0)) := fun i hi => (hB.cell (by exact hb)).trans (hc i hi)
  clear hgs hg1 hB1 hc1 hB2 r1
  go_upto_region 7 with fail
  clear hcp
  obtain ⟨cs, hcs, hcl⟩ := built101
  have HC : Hid (Yba.prog.built 101 [] = some cs) := hcs
  clear hcs
  go_upto_region 9 with (refine wpList_zero cs HC.out ?_)
  have hv3 : (w2.alloc (Obj.cells (cs.setIfInBounds 25 (Value.slice (some ⟨gs, 0, none⟩) len0 len0)) 101)).cell? ⟨w2.heap.size, 25, none⟩ = some (Value.slice (some ⟨gs, 0, none⟩) len0 len0) := by
    simp [hcl]
  have r3 : Row (w2.alloc (Obj.cells (cs.setIfInBounds 25 (Value.slice (some ⟨gs, 0, none⟩) len0 len0)) 101)) gs zs :=
    (Below.heap_alloc _ _ _ r2.lt).trans r2
  have hB3 : Below w.heap.size w (w2.alloc (Obj.cells (cs.setIfInBounds 25 (Value.slice (some ⟨gs, 0, none⟩) len0 len0)) 101)) := hB.alloc hB.size _
  generalize w2.alloc (Obj.cells (cs.setIfInBounds 25 (Value.slice (some ⟨gs, 0, none⟩) len0 len0)) 101) = w3 at hv3 r3 hB3 ⊢
  generalize w2.heap.size = gv at hv3 ⊢
  clear r2 hB hcl HC hgsB
  have hc3 : ∀ i, i < len0 → w3.cell? ⟨b, o + i, none⟩ = some (.int .i64 (zs.getD i 0)) := fun i hi => (hB3.cell (by exact hb)).trans (hc i hi)
  clear hc2
  go_upto_region 10 with fail
  have hwf : wrap64 ((A : Int) % (len0 : Int)) = (f : Int) := by rw [HF.out]; unfold wrap64; omega
  rw [hwf]
  clear hwf
  obtain ⟨z, hz⟩ : ∃ z, z = zs.getD f 0 := ⟨_, rfl⟩
  have hcg := r3.cell f (by omega)
  have hcb := hc3 f hfl
  rw [← hz] at hcg hcb
  clear hz
  have HZL : Hid (zs.length = len0) := hzl
  have HC3 : Hid (∀ i, i < len0 → w3.cell? ⟨b, o + i, none⟩ = some (.int .i64 (zs.getD i 0))) := hc3
  clear hc3 hc hzl
  go_region_held3 (fun w' => w'.cell? ⟨b, o + f, none⟩ = some (.int .i64 z)) (simp [go_sem, hcb])
    (first | (go_at_call 6; refine (rate_any gv gs len0 f z w3.drew hv3 hfl hcg).mono ?_; rintro e w5 ⟨rfl, rfl⟩))
  clear hcg hcb hv3
  go_wp2
  go_loopw [8] (fun i wr => ∃ k : Nat, k ≤ len0 ∧ i = .int .i64 k ∧ Row wr gs zs ∧ Below w.heap.size w wr ∧ (∀ i, i < len0 → wr.cell? ⟨b, o + i, none⟩ = some (.int .i64 (zs.getD i 0)))) (fun i _ => len0 - (intOf i).toNat)
  case atStart => exact ⟨0, Nat.zero_le _, rfl, r3, hB3.drew, HC3.out⟩
  case round =>
  clear r3 hB3 HC3
  obtain ⟨k, hk, rfl, hrow, hb, hc⟩ := hrel
  by_cases hlt : k < len0
  · obtain ⟨x, hx⟩ : ∃ x, x = zs.getD k 0 := ⟨_, rfl⟩
    have hcg := hrow.cell k (by rw [HZL.out]; exact hlt)
    have hcb := hc k hlt
    rw [← hx] at hcg hcb
    have HH : Hid (∀ i, i < len0 → wr.cell? ⟨b, o + i, none⟩ = some (.int .i64 (zs.getD i 0))) := hc
    clear hx hc
    go_wp2
    go_region
    all_goals go_wp2
    all_goals go_roundw
    case rel => exact ⟨k + 1, by omega, by go_num, hrow, hb.drew, HH.out⟩
    case measure => simp [intOf]; omega
  · clear hc
    go_wp2
    go_ret
    exact ⟨rfl, hb⟩
end Go.Proofs.Ybulkbbtu.Rt
