/-
  THE CARD of LawS2642ARoundTrip: told and tied.
-/
import Derived.Test.YbulkbbrqFmtTrip
import Derived.Test.YbulkbbrqFmtLift
import Derived.Test.YbulkbbrqFmtTie
import Derived.Test.YbulkbbrqFmtCards
import Derived.SevenTiedAt
namespace Go.Proofs.YbulkbbrqFmt.Hd
open Go.ChangeShapes Go.WideShapes Go.ChangeAt Go.WideMaps Go.WideElems Go.RowKit
open Go.Extern.Stop Go.Stop Go.Extern

theorem bytes_of {w : World} {a : Option Addr} {len cap b o : Nat} {u : List Int} (h : Came w a len cap b o u) : Bytes w a len := by
  intro hl
  refine ⟨b, o, h.haddr hl, h.hblock hl, fun i hi => ⟨at_ u i, h.hlie i (by rw [h.hlen]; exact hi), h.hbytes.get i⟩⟩

theorem witness_trip (os : Os) {H : Type} (enc : TypeId × Value → H) :
    (OpenSpec.ofChange Rows.lawS2642ARoundTripSpec).preRow enc Ybaf.prog Ybaf.f3 [] false Rows.lawS2642ARoundTripRow.laid ((World.doorLaid Ybaf.prog 400 os).forCall (fun _ _ => 0) ⟨#[], #[.slice none 0 0, .slice none 0 0, .slice none 0 0], []⟩).memory #[.slice none 0 0, .slice none 0 0, .slice none 0 0] :=
  OpenSpec.preRow_of_B rfl 8 (by kernel_rfl) (by kernel_rfl) (door_met os _)

set_option maxRecDepth 100000 in
theorem trip_lifted (os : Os) (started : os.Started) (H : Type) (enc : TypeId × Value → H) :
    ReturnsInTold none {} Ybaf.checked os 3 .any Input.okWide ((OpenSpec.ofChange Rows.lawS2642ARoundTripSpec).preRow enc Ybaf.prog Ybaf.f3 [] false Rows.lawS2642ARoundTripRow.laid)
      (fun F => ((OpenSpec.ofChange Rows.lawS2642ARoundTripSpec).at F).post enc Ybaf.prog Ybaf.f3 false true false false) (aloneAtReturn Ybaf.prog) nothingAlways := by
  refine returnsInTold_of_row (C := Ybaf.checked) (s := OpenSpec.ofChange Rows.lawS2642ARoundTripSpec) (by kernel_rfl) own started (by kernel_rfl) Ybaf.func3
    (OpenSpec.witness_stopped_atRef (enc := enc) (C := Ybaf.checked) false (World.doorLaid Ybaf.prog 400 os) #[.slice none 0 0, .slice none 0 0, .slice none 0 0] rfl (by kernel_rfl) (by kernel_rfl) (by kernel_rfl) (witness_trip os enc)) ?_
  intro F W base args ds gs before _ hF hval0 hW _ _ hsz hL _
  have hval : ∀ (j : Nat) t v, Ybaf.f3.params[j]? = some t → args[j]? = some v → Value.okWide Ybaf.prog W .any base t v := hval0
  have hW' := hW
  obtain ⟨p, q, hA0, hV, rfl, hfz, hnd⟩ := hW
  have hA : DataW.TrodAll enc Ybaf.prog W 0 (fun _ => true) true Ybaf.f3.params.toList args.toList ds p := hA0
  rw [Ybaf.params3] at hA hval
  obtain ⟨v0, v1, v2, d0, d1, d2, p0, p1, p2, rfl, rfl, rfl, h0, h1, h2⟩ := trodAll_three hA
  obtain ⟨a0, n0, c0, rfl⟩ := okWide_slice Ybaf.underlying22 (hval 0 22 v0 rfl rfl)
  obtain ⟨a1, n1, c1, rfl⟩ := okWide_slice Ybaf.underlying22 (hval 1 22 v1 rfl rfl)
  obtain ⟨a2, n2, c2, rfl⟩ := okWide_slice Ybaf.underlying22 (hval 2 22 v2 rfl rfl)
  have lt0 : ∀ x ∈ p0, x.block < W.heap.size := by obtain ⟨m, hm⟩ := id h0; exact DataW.trod_lt m _ _ _ hm
  have lt1 : ∀ x ∈ p1, x.block < W.heap.size := by obtain ⟨m, hm⟩ := id h1; exact DataW.trod_lt m _ _ _ hm
  have lt2 : ∀ x ∈ p2, x.block < W.heap.size := by obtain ⟨m, hm⟩ := id h2; exact DataW.trod_lt m _ _ _ hm
  obtain ⟨b0, o0, u0, hc0⟩ : ∃ b o u, Came W a0 n0 c0 b o u := by obtain ⟨fuel, hf⟩ := id h0; exact came_of hf
  obtain ⟨b1, o1, u1, hc1⟩ : ∃ b o u, Came W a1 n1 c1 b o u := by obtain ⟨fuel, hf⟩ := id h1; exact came_of hf
  obtain ⟨b2, o2, u2, hc2⟩ : ∃ b o u, Came W a2 n2 c2 b o u := by obtain ⟨fuel, hf⟩ := id h2; exact came_of hf
  obtain ⟨bm, hT, hbm, h0W⟩ := table_of (W := W) hL
  obtain ⟨_, _, _, _, gd, _, rfl, _⟩ := trodVars_one hV
  clear hA0 hval0 hsz
  have hcall : Calls Ybaf.prog 3 #[.slice a0 n0 c0, .slice a1 n1 c1, .slice a2 n2 c2] W fun e w' => e = .returned (.bool true) ∧ Below W.heap.size W w' := by
    by_cases hbig : 1024 < n0 ∨ 1024 < n1 ∨ 1024 < n2
    · exact trip_early a0 n0 c0 a1 n1 c1 a2 n2 c2 W hbig
    · exact trip_late a0 n0 c0 a1 n1 c1 a2 n2 c2 bm W (by omega) (by omega) (by omega) (bytes_of hc0) (bytes_of hc1) (bytes_of hc2) hT h0W hbm
  refine hcall.mono fun e W' ⟨he, bel⟩ => ?_
  subst he
  refine ⟨_, rfl, _, _, _, [], p0 ++ (p1 ++ p2), q, hW', trodAll_mk1 (shut_bool Ybaf.underlying4 _), ?_, ?_, bel.frame _, fun h => by cases h⟩
  · exact trodAll_mk3 (Below.trod laidOut (by kernel_rfl) (of_decide_eq_true (by kernel_rfl)) h0 bel lt0) (Below.trod laidOut (by kernel_rfl) (of_decide_eq_true (by kernel_rfl)) h1 bel lt1) (Below.trod laidOut (by kernel_rfl) (of_decide_eq_true (by kernel_rfl)) h2 bel lt2)
  · exact Below.trodVars laidOut bel (by kernel_rfl) hV

theorem stops : Ybaf.pinned.checked.prog.stops = ["fmt.Sprintf, its operands' methods called"] := by kernel_rfl
theorem stopKnobs : Ybaf.pinned.checked.prog.stopKnobs = [] := by kernel_rfl
theorem quiet (os : Os) : Stop.quiet Ybaf.pinned.checked.prog os := by
  intro k hk
  rw [stopKnobs] at hk
  cases hk
theorem laidOut7 : laidOutB Ybaf.pinned.checked.prog = true := by kernel_rfl

/-- ████ THE CARD ████ -/
theorem trip_card : Rows.LawS2642ARoundTripToldSaid :=
  Claim7.holds_of_told_tied_any_at .later 3 Ybaf.f3 "fmt.Sprintf, its operands' methods called" [] [] _ _ _ _ _ (by kernel_rfl) rfl rfl rfl laidOut7 (by kernel_rfl) rfl ⟨rfl, rfl, rfl, rfl, rfl, rfl, rfl⟩ rfl rfl (by kernel_rfl) (by kernel_rfl) Ybaf.func3 (by kernel_rfl)
    (of_decide_eq_true (by kernel_rfl)) (of_decide_eq_true (by kernel_rfl)) stops.symm rfl stopKnobs.symm (by kernel_rfl)
    (by kernel_rfl) (by kernel_rfl) (by kernel_rfl) (by kernel_rfl) (by kernel_rfl) (by kernel_rfl) (by kernel_rfl) (by kernel_rfl) (by kernel_rfl) rfl (by kernel_rfl) rfl rfl
    rfl rfl
    rfl (by kernel_rfl) (by kernel_rfl) (by kernel_rfl) (by decide) (by kernel_rfl) lawS2642ARoundTrip_row_tie
    (OpenClaim.moreEntering_of (by kernel_rfl) (by kernel_rfl) (by kernel_rfl) (by kernel_rfl) (by kernel_rfl) (by kernel_rfl) (by kernel_rfl) (by kernel_rfl) (by kernel_rfl) (by kernel_rfl))
    ⟨_, WideRow.started_initial, quiet _⟩
    (fun os started _ H enc _ => trip_lifted os started H enc)

#print axioms trip_card
end Go.Proofs.YbulkbbrqFmt.Hd
