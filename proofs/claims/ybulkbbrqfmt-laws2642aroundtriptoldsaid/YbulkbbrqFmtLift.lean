/-
  WHAT THE TWO CARDS SHARE: the listed map read off the row's 'laid', a start that meets it, slices of bytes opened for the walks.
-/
import Derived.Test.YbulkbbrqFmtRead
import Derived.ProofKit
import Derived.LaidMore
import Derived.OpenShut
import Derived.OpenVars
import Derived.MakeChecks
import Derived.Maps.OwnSet
import Derived.Stop.Joined
import Derived.Stop.JoinedTold
import Derived.Deep.DeepWitnessRef
namespace Go.Proofs.YbulkbbrqFmt.Hd
open Go.ChangeShapes Go.WideShapes Go.ChangeAt Go.WideMaps Go.WideElems Go.RowKit Go.Maps
open Go.Extern.Stop Go.Stop Go.Extern

theorem own : ownKnob Ybaf.prog.godebug = none := by kernel_rfl
theorem laidOut : laidOutB Ybaf.prog = true := by kernel_rfl
theorem gEL : Ybaf.prog.globalNamed "example.com/nibblewire/nibblewire.elementLengths" = some 0 := by kernel_rfl
theorem tEL : (Ybaf.prog.globals[0]?).map (·.type) = some 45 := by kernel_rfl
theorem key25 : Keyed Ybaf.prog 25 := int_keyed Ybaf.underlying25

def elD : DataW Unit := .map [(.int .u8 0, .lit (.int .i64 3)), (.int .u8 4, .lit (.int .i64 2)), (.int .u8 5, .lit (.int .i64 4)), (.int .u8 8, .lit (.int .i64 4))]

theorem has_el (z : Int) : Maps.has elD (.int .u8 z) = okOf z := by
  unfold okOf fixed
  by_cases h0 : z = 0
  · subst h0; rfl
  · by_cases h4 : z = 4
    · subst h4; rfl
    · by_cases h5 : z = 5
      · subst h5; rfl
      · by_cases h8 : z = 8
        · subst h8; rfl
        · simp [h0, h4, h5, h8, Maps.has, elD, Lit.sameKey]
          omega
theorem at_el (z : Int) : elD.atKey (.int .u8 z) (.lit (.int .i64 0)) = .lit (.int .i64 (wantOf z)) := by
  unfold wantOf fixed
  by_cases h0 : z = 0
  · subst h0; rfl
  · by_cases h4 : z = 4
    · subst h4; rfl
    · by_cases h5 : z = 5
      · subst h5; rfl
      · by_cases h8 : z = 8
        · subst h8; rfl
        · have n0 : ¬ (0 : Int) = z := fun e => h0 e.symm
          have n4 : ¬ (4 : Int) = z := fun e => h4 e.symm
          have n5 : ¬ (5 : Int) = z := fun e => h5 e.symm
          have n8 : ¬ (8 : Int) = z := fun e => h8 e.symm
          rw [if_neg h0, if_neg h4, if_neg h5, if_neg h8, if_neg (by decide)]
          unfold DataW.atKey elD
          have e : List.find? (fun p => Lit.sameKey p.1 (.int .u8 z)) [(Lit.int .u8 0, (DataW.lit (.int .i64 3) : DataW Unit)), (.int .u8 4, .lit (.int .i64 2)), (.int .u8 5, .lit (.int .i64 4)), (.int .u8 8, .lit (.int .i64 4))] = none := by
            simp [List.find?, Lit.sameKey, n0, n4, n5, n8]
          simp only [e]

theorem table_of {W : World} (h : laidMetH Ybaf.prog [("example.com/nibblewire/nibblewire.elementLengths", Rows.laid_example_com_nibblewire_nibblewire_elementLengths)] W) : ∃ bm, Table W bm ∧ bm < W.heap.size ∧ 0 < W.heap.size := by
  rw [MakeChecks.laidMetH_plain _ _ _ (by kernel_rfl)] at h
  obtain ⟨ps, ⟨g0, t0, cs0, f0, p0, q0, hg0, ht0, hv0, hd0, _⟩, _, _⟩ := h
  obtain rfl := Option.some.inj (gEL.symm.trans hg0)
  obtain rfl := Option.some.inj (tEL.symm.trans ht0)
  rcases open_map Ybaf.underlying45 hd0 with ⟨_, hx⟩ | ⟨bm, es, clock, m, rfl, hcs, hb, _, F, hx⟩
  · simp [Rows.laid_example_com_nibblewire_nibblewire_elementLengths] at hx
  simp only [Prod.mk.injEq] at hx
  have hcell : W.cell? ⟨0, 0, none⟩ = some (.map (some bm)) := by
    have := World.var?_cell hg0 hv0 0
    rw [Array.eq_one_of_toList hcs] at this
    simpa using this
  have hown : ∀ w' : World, w'.heap[bm]? = W.heap[bm]? → w'.ownsMap Ybaf.prog 25 (plainElem Ybaf.prog 3) bm es.size elD := by
    intro w' hw
    have := World.ownsMap_of_fit (w := w') (R := plainElem Ybaf.prog 3) (hw.trans hb) F (fun x _ z hz => elemAt_plainElem_int Ybaf.underlying3 hz)
    rw [← hx.1] at this
    exact this
  refine ⟨bm, ⟨hcell, fun w' hw z h0 h1 => ?_⟩, (Array.getElem?_eq_some_iff.1 hb).1, Nat.lt_of_le_of_lt (Nat.zero_le _) (World.block_lt_of_cell? _ _ hcell)⟩
  have wfz : (Lit.int .u8 z).wf = true := by
    have e1 : IntKind.u8.min = 0 := rfl
    have e2 : IntKind.u8.max = 255 := rfl
    simp [Lit.wf, e1, e2]
    omega
  obtain ⟨v, ps', hrun, hv⟩ := (hown w' hw).look_ok key25 Ybaf.underlying45 (show (zeroValue 3).run Ybaf.prog w' = .ok (.int .i64 0) w' by kernel_rfl) (plainElem_int Ybaf.underlying3 (by decide)) (keyOf_int_mk Ybaf.underlying25 wfz)
  obtain ⟨a, rfl, hz, _⟩ := plainElem_int_inv Ybaf.underlying3 hv
  simp only [Prod.mk.injEq] at hz
  rw [at_el] at hz
  have : a = wantOf z := by
    have := hz.1
    simp only [DataW.lit.injEq, Lit.int.injEq, true_and] at this
    exact this.symm
  rw [hrun, has_el, this]

/-- The door's own heap meets the row's 'laid'. -/
theorem door_met (os : Os) (args : Array Value) : laidMetH Ybaf.prog [("example.com/nibblewire/nibblewire.elementLengths", Rows.laid_example_com_nibblewire_nibblewire_elementLengths)] ((World.doorLaid Ybaf.prog 400 os).forCall (fun _ _ => 0) ⟨#[], args, []⟩).memory :=
  laidMetH_of_parts3 (fuel := 8) (laidMet_of_run' 8 (by kernel_rfl) (by kernel_rfl)) (by kernel_rfl) (by kernel_rfl)

/-- What a walk is told of a slice of bytes that came in: the bytes, and where they lie. -/
structure Came (w : World) (a : Option Addr) (len cap : Nat) (b o : Nat) (u : List Int) : Prop where
  hlen : u.length = len
  hcap : len ≤ cap
  haddr : 0 < len → a = some ⟨b, o, none⟩
  hblock : 0 < len → b < w.heap.size
  hbytes : Bs u
  hlie : Lie w b o u

theorem came_of {H : Type} {enc : TypeId × Value → H} {W : World} {fuel : Nat} {a : Option Addr} {len cap : Nat} {x : DataW H × List MemPlace}
    (hf : DataW.trod enc Ybaf.prog W 0 (fun _ => true) true fuel 22 (Value.slice a len cap).cells.toList = some x) : ∃ b o u, Came W a len cap b o u := by
  rcases open_ints Ybaf.underlying22 Ybaf.underlying5 (by kernel_rfl) hf with ⟨hcs, _⟩ | ⟨y, l, c, zs, hcs, _, hl, hm, hz, _, hcell, hwz⟩
  · simp [Value.cells] at hcs
    obtain ⟨rfl, rfl, rfl⟩ := hcs
    exact ⟨0, 0, [], rfl, Nat.le_refl _, fun h => by omega, fun h => by omega, fun x hx => (by cases hx), fun i hi => (by simp at hi)⟩
  · simp [Value.cells] at hcs
    obtain ⟨rfl, rfl, rfl⟩ := hcs
    have hz' : zs.length = cap := by simpa using hz
    by_cases h0 : 0 < len
    · obtain ⟨b, off, spot⟩ := y
      have hspot : spot = none := by simpa [Addr.add] using World.cell?_spot (hcell 0 (by omega))
      subst hspot
      refine ⟨b, off, zs.take len, by rw [List.length_take]; omega, hl, fun _ => rfl, fun _ => ?_, fun x hx => ?_, fun i hi => ?_⟩
      · have h1 := World.block_lt_of_cell? _ _ (hcell 0 (by omega))
        simpa [add_plain] using h1
      · have := bounds_u8 (hwz x (List.mem_of_mem_take hx))
        omega
      · have hi' : i < len := by rw [List.length_take] at hi; omega
        have := hcell i (by omega)
        rw [add_plain] at this
        rw [this]
        unfold at_
        simp [List.getD_eq_getElem?_getD, hi']
    · obtain rfl : len = 0 := by omega
      exact ⟨0, 0, [], rfl, hl, fun h => by omega, fun h => by omega, fun x hx => (by cases hx), fun i hi => (by simp at hi)⟩

end Go.Proofs.YbulkbbrqFmt.Hd
