/-
  THE CARD of LawS2645BRoundTrip: told (fmt's text is told; the road that is walked never asks for it).
-/
import Derived.Test.YbulkbbtgFmtLaw
import Derived.Test.YbulkbbtgFmtCards
import Derived.ProofKit
import Derived.OpenShut
import Derived.ShutString
import Derived.ChangeOld
import Derived.Below
import Derived.SliceStrings
import Derived.Stop.Joined
import Derived.Stop.JoinedTold
import Derived.SevenToldRow
namespace Go.Proofs.YbulkbbtgFmt.Mp
open Go.ChangeShapes Go.WideShapes Go.ChangeAt Go.RowKit
open Go.Extern.Stop Go.Stop Go.Extern

theorem own : ownKnob Ybaf.prog.godebug = none := by kernel_rfl
theorem laidOut : laidOutB Ybaf.prog = true := by kernel_rfl

theorem strs_of {H : Type} {enc : TypeId × Value → H} {W : World} {fuel : Nat} {a : Option Addr} {len cap : Nat} {x : DataW H × List MemPlace}
    (hf : DataW.trod enc Ybaf.prog W 0 (fun _ => true) true fuel 22 (Value.slice a len cap).cells.toList = some x) : ∃ ss, Strs W a len ss := by
  rcases open_strings Ybaf.underlying22 Ybaf.underlying9 (by kernel_rfl) hf with ⟨hcs, _⟩ | ⟨y, l, c, zs, hcs, _, hl, hm, hz, _, hcell, hws⟩
  · simp [Value.cells] at hcs
    obtain ⟨rfl, rfl, rfl⟩ := hcs
    exact ⟨[], rfl, fun x hx => (by cases hx), fun h => by omega⟩
  · simp [Value.cells] at hcs
    obtain ⟨rfl, rfl, rfl⟩ := hcs
    have hz' : zs.length = cap := by simpa using hz
    refine ⟨zs.take len, by rw [List.length_take]; omega, fun s hs => hws s (List.mem_of_mem_take hs), fun h0 => ?_⟩
    obtain ⟨b, off, spot⟩ := y
    have hspot : spot = none := by simpa [Addr.add] using World.cell?_spot (hcell 0 (by omega))
    subst hspot
    refine ⟨b, off, rfl, ?_, fun i hi => ?_⟩
    · have h1 := World.block_lt_of_cell? _ _ (hcell 0 (by omega))
      simpa [add_plain] using h1
    · have := hcell i (by omega)
      rw [add_plain] at this
      rw [this]
      simp [List.getD_eq_getElem?_getD, hi]

set_option maxRecDepth 100000 in
theorem trip_lifted (os : Os) (started : os.Started) (H : Type) (enc : TypeId × Value → H) :
    ReturnsInTold none {} Ybaf.checked os 3 .any Input.okWide ((OpenSpec.ofChange Rows.lawS2645BRoundTripSpec).preRow enc Ybaf.prog Ybaf.f3 [] false [])
      (fun F => ((OpenSpec.ofChange Rows.lawS2645BRoundTripSpec).at F).post enc Ybaf.prog Ybaf.f3 false true false false) (aloneAtReturn Ybaf.prog) nothingAlways := by
  refine returnsInTold_of_row (C := Ybaf.checked) (s := OpenSpec.ofChange Rows.lawS2645BRoundTripSpec) (by kernel_rfl) own started (by kernel_rfl) Ybaf.func3
    (OpenSpec.witness_stopped (enc := enc) (C := Ybaf.checked) false ⟨#[], #[.slice none 0 0, .slice none 0 0], []⟩ 8 (by kernel_rfl) (by kernel_rfl) (by kernel_rfl) (by kernel_rfl)) ?_
  intro F W base args ds gs before _ hF hval0 hW _ _ hsz hL _
  have hval : ∀ (j : Nat) t v, Ybaf.f3.params[j]? = some t → args[j]? = some v → Value.okWide Ybaf.prog W .any base t v := hval0
  have hW' := hW
  obtain ⟨p, q, hA0, hV, rfl, hfz, hnd⟩ := hW
  have hA : DataW.TrodAll enc Ybaf.prog W 0 (fun _ => true) true Ybaf.f3.params.toList args.toList ds p := hA0
  rw [Ybaf.params3] at hA hval
  obtain ⟨v0, v1, d0, d1, p0, p1, rfl, rfl, rfl, h0, h1⟩ := trodAll_two hA
  obtain ⟨rfl, rfl⟩ := trodVars_none hV
  obtain ⟨a0, n0, c0, rfl⟩ := okWide_slice Ybaf.underlying22 (hval 0 22 v0 rfl rfl)
  obtain ⟨a1, n1, c1, rfl⟩ := okWide_slice Ybaf.underlying22 (hval 1 22 v1 rfl rfl)
  have lt0 : ∀ x ∈ p0, x.block < W.heap.size := by obtain ⟨m, hm⟩ := id h0; exact DataW.trod_lt m _ _ _ hm
  have lt1 : ∀ x ∈ p1, x.block < W.heap.size := by obtain ⟨m, hm⟩ := id h1; exact DataW.trod_lt m _ _ _ hm
  obtain ⟨ks, hks⟩ : ∃ ss, Strs W a0 n0 ss := by obtain ⟨fuel, hf⟩ := id h0; exact strs_of hf
  obtain ⟨vs, hvs⟩ : ∃ ss, Strs W a1 n1 ss := by obtain ⟨fuel, hf⟩ := id h1; exact strs_of hf
  clear hA0 hval0 hsz
  have hcall : Calls Ybaf.prog 3 #[.slice a0 n0 c0, .slice a1 n1 c1] W fun e w' => e = .returned (.bool true) ∧ Below W.heap.size W w' := by
    by_cases hbig : 1024 < n0 ∨ 1024 < n1
    · exact law_early a0 n0 c0 a1 n1 c1 W hbig
    · exact law_late a0 n0 c0 a1 n1 c1 ks vs W hks hvs (by omega) (by omega)
  refine hcall.mono fun e W' ⟨he, bel⟩ => ?_
  subst he
  refine ⟨_, rfl, _, _, _, [], p0 ++ p1, [], hW', trodAll_mk1 (shut_bool Ybaf.underlying4 _), ?_, rfl, bel.frame _, fun h => by cases h⟩
  exact trodAll_mk2 (Below.trod laidOut (by kernel_rfl) (of_decide_eq_true (by kernel_rfl)) h0 bel lt0) (Below.trod laidOut (by kernel_rfl) (of_decide_eq_true (by kernel_rfl)) h1 bel lt1)

theorem stops : Ybaf.pinned.checked.prog.stops = ["fmt.errorf", "fmt.Sprintf, its operands' methods called", "fmt.Sprint"] := by kernel_rfl
theorem stopKnobs : Ybaf.pinned.checked.prog.stopKnobs = [] := by kernel_rfl
theorem quiet (os : Os) : Stop.quiet Ybaf.pinned.checked.prog os := by
  intro k hk
  rw [stopKnobs] at hk
  cases hk
theorem laidOut7 : laidOutB Ybaf.pinned.checked.prog = true := by kernel_rfl

/-- ████ THE CARD ████ -/
theorem trip_card : Rows.LawS2645BRoundTripToldSaid :=
  Claim7.holds_of_told_any 3 Ybaf.f3 "fmt.errorf" ["fmt.Sprintf, its operands' methods called", "fmt.Sprint"] [] _ _ _ (by kernel_rfl) rfl rfl rfl laidOut7 (by kernel_rfl) rfl ⟨rfl, rfl, rfl, rfl, rfl, rfl, rfl⟩ rfl rfl (by kernel_rfl) (by kernel_rfl) Ybaf.func3 (by kernel_rfl)
    (of_decide_eq_true (by kernel_rfl)) (of_decide_eq_true (by kernel_rfl)) stops.symm rfl stopKnobs.symm (by kernel_rfl)
    (by kernel_rfl) (by kernel_rfl) (by kernel_rfl) (by kernel_rfl) (by kernel_rfl) (by kernel_rfl) (by kernel_rfl) (by kernel_rfl) (by kernel_rfl) rfl (by kernel_rfl) rfl rfl
    rfl rfl
    rfl (by kernel_rfl) (by kernel_rfl) (by kernel_rfl) (by decide) (by kernel_rfl)
    (OpenClaim.moreEntering_of (by kernel_rfl) (by kernel_rfl) (by kernel_rfl) (by kernel_rfl) (by kernel_rfl) (by kernel_rfl) (by kernel_rfl) (by kernel_rfl) (by kernel_rfl) (by kernel_rfl))
    ⟨_, WideRow.started_initial, quiet _⟩
    (fun os started _ H enc _ => trip_lifted os started H enc)

#print axioms trip_card
end Go.Proofs.YbulkbbtgFmt.Mp
