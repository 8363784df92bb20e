/-
  THE PROOF of 'Rows.LawS2645BExactSaid': the row's step, after the guide's shell.
-/
import Derived.Test.YbulkbbtgLaw
import Derived.ProofKit
import Derived.OpenShut
import Derived.ShutString
import Derived.ChangeOld
import Derived.Below
import Derived.SliceStrings
namespace Go.Proofs.Ybulkbbtg.Mp
open Go.ChangeShapes Go.WideShapes Go.ChangeAt Go.RowKit

theorem own : ownKnob Yba.prog.godebug = none := by kernel_rfl
theorem laidOut : laidOutB Yba.prog = true := by kernel_rfl

theorem strs_of {H : Type} {enc : TypeId × Value → H} {W : World} {fuel : Nat} {a : Option Addr} {len cap : Nat} {x : DataW H × List MemPlace}
    (hf : DataW.trod enc Yba.prog W 0 (fun _ => true) true fuel 22 (Value.slice a len cap).cells.toList = some x) : ∃ ss, Strs W a len ss := by
  rcases open_strings Yba.underlying22 Yba.underlying9 (by kernel_rfl) hf with ⟨hcs, _⟩ | ⟨y, l, c, zs, hcs, _, hl, hm, hz, _, hcell, hws⟩
  · simp [Value.cells] at hcs
    obtain ⟨rfl, rfl, rfl⟩ := hcs
    exact ⟨[], rfl, fun x hx => (by cases hx), fun h => by omega⟩
  · simp [Value.cells] at hcs
    obtain ⟨rfl, rfl, rfl⟩ := hcs
    have hz' : zs.length = cap := by simpa using hz
    refine ⟨zs.take len, by rw [List.length_take]; omega, fun s hs => hws s (List.mem_of_mem_take hs), fun h0 => ?_⟩
    obtain ⟨b, off, spot⟩ := y
    have hspot : spot = none := by simpa [Addr.add] using World.cell?_spot (hcell 0 (by omega))
    subst hspot
    refine ⟨b, off, rfl, ?_, fun i hi => ?_⟩
    · have h1 := World.block_lt_of_cell? _ _ (hcell 0 (by omega))
      simpa [add_plain] using h1
    · have := hcell i (by omega)
      rw [add_plain] at this
      rw [this]
      simp [List.getD_eq_getElem?_getD, hi]

set_option maxRecDepth 100000 in
theorem lifted (os : Os) (started : os.Started) (H : Type) (enc : TypeId × Value → H) :
    ReturnsInHanded {} Yba.checked os 3 .any (Rows.lawS2645BExactSpec.pre6 enc Yba.prog Yba.f3 Rows.lawS2645BExactRow.domain false) (Rows.lawS2645BExactSpec.post enc Yba.prog Yba.f3 false true false false) := by
  refine returnsInHanded_of_change (C := Yba.checked) own started (by kernel_rfl) Yba.func3
    (ChangeSpec.witness6 (enc := enc) (C := Yba.checked) false ⟨#[], #[.slice none 0 0, .slice none 0 0], []⟩ 8 (by kernel_rfl) (by kernel_rfl) (by kernel_rfl) (by kernel_rfl)) ?_
  intro W base args ds gs before hval0 hW hcnd _
  have hval : ∀ (j : Nat) t v, Yba.f3.params[j]? = some t → args[j]? = some v → Value.okWide Yba.prog W .any base t v := hval0
  have hW' := hW
  obtain ⟨p, q, hA0, hV, rfl, hfz, hnd⟩ := hW
  have hA : DataW.TrodAll enc Yba.prog W 0 (fun _ => true) true Yba.f3.params.toList args.toList ds p := hA0
  rw [Yba.params3] at hA hval
  obtain ⟨v0, v1, d0, d1, p0, p1, rfl, rfl, rfl, h0, h1⟩ := trodAll_two hA
  obtain ⟨rfl, rfl⟩ := trodVars_none hV
  obtain ⟨a0, n0, c0, rfl⟩ := okWide_slice Yba.underlying22 (hval 0 22 v0 rfl rfl)
  obtain ⟨a1, n1, c1, rfl⟩ := okWide_slice Yba.underlying22 (hval 1 22 v1 rfl rfl)
  have lt0 : ∀ x ∈ p0, x.block < W.heap.size := by obtain ⟨m, hm⟩ := id h0; exact DataW.trod_lt m _ _ _ hm
  have lt1 : ∀ x ∈ p1, x.block < W.heap.size := by obtain ⟨m, hm⟩ := id h1; exact DataW.trod_lt m _ _ _ hm
  obtain ⟨ks, hks⟩ : ∃ ss, Strs W a0 n0 ss := by obtain ⟨fuel, hf⟩ := id h0; exact strs_of hf
  obtain ⟨vs, hvs⟩ : ∃ ss, Strs W a1 n1 ss := by obtain ⟨fuel, hf⟩ := id h1; exact strs_of hf
  clear hA0 hval0
  have hcall : Calls Yba.prog 3 #[.slice a0 n0 c0, .slice a1 n1 c1] W fun e w' => e = .returned (.bool true) ∧ Below W.heap.size W w' := by
    by_cases hbig : 1024 < n0 ∨ 1024 < n1
    · exact law_early a0 n0 c0 a1 n1 c1 W hbig
    · exact law_late a0 n0 c0 a1 n1 c1 ks vs W hks hvs (by omega) (by omega)
  refine hcall.mono fun e W' ⟨he, bel⟩ => ?_
  subst he
  refine ⟨_, rfl, _, _, _, [], p0 ++ p1, [], hW', trodAll_mk1 (shut_bool Yba.underlying4 _), ?_, rfl, bel.frame _, fun h => by cases h⟩
  exact trodAll_mk2 (Below.trod laidOut (by kernel_rfl) (of_decide_eq_true (by kernel_rfl)) h0 bel lt0) (Below.trod laidOut (by kernel_rfl) (of_decide_eq_true (by kernel_rfl)) h1 bel lt1)

theorem over : Rows.lawS2645BExactRow.holds Yba.pinned (OpenSpec.ofChange Rows.lawS2645BExactSpec) :=
  OpenClaim.holds_of_wide 3 Yba.f3 rfl rfl rfl rfl rfl rfl rfl ⟨rfl, rfl, rfl, rfl, rfl⟩ rfl rfl rfl rfl rfl (by kernel_rfl) Yba.func3 (by kernel_rfl)
    (of_decide_eq_true (by kernel_rfl)) (by unfold Func.isWrapper; first | (rw [if_pos (by decide +kernel)]; kernel_rfl) | (rw [if_neg (by decide +kernel)]; exact ⟨rfl, rfl⟩))
    (fun os started H enc _ => lifted os started H enc)

/-- ████ THE STATEMENT ████ -/
theorem exact_proved : Rows.LawS2645BExactSaid := over
#print axioms exact_proved
end Go.Proofs.Ybulkbbtg.Mp
