/-
  THE WALK of DecodeHeader (function 6); bytes.Equal (function 7).
-/
import Derived.Test.YbulkbbrqFmtRead
import Derived.Laws.BytesArg
namespace Go.Proofs.YbulkbbrqFmt.Hd
open Go.RowKit

theorem Table.mono {w w' : World} {bm B : Nat} (h : Table w bm) (hb : Below B w w') (h0 : 0 < B) (hm : bm < B) : Table w' bm :=
  ⟨(hb.cell (by exact h0)).trans h.cell, fun w'' hw => h.look w'' (hw.trans (hb.block bm hm))⟩
theorem Lie.mono {w w' : World} {b o B : Nat} {u : List Int} (h : Lie w b o u) (hb : Below B w w') (hB : b < B) : Lie w' b o u :=
  fun i hi => (hb.cell (by exact hB)).trans (h i hi)

/-- What DecodeHeader leaves. -/
def DecPost (b o : Nat) (u : List Int) (w : World) (e : Ending) (w' : World) : Prop :=
  ∃ got err, e = .returned (.tuple #[got, err]) ∧ Below w.heap.size w w' ∧
    ((err = .nilIface ∧ 0 < u.length ∧ 1 + at_ u 0 = (u.length : Int) ∧ ∃ es, Chain u 1 es u.length ∧ w'.ownsRow (w.heap.size + 1) 33 2 got es.length (elCells b o u es) ∧ (es = [] → got = .slice none 0 0)) ∨
     (got = .slice none 0 0 ∧ ∃ off, IsErr err off w' ∧ Bad u off))

set_option maxHeartbeats 1000000 in
theorem dec_any (a : Option Addr) (b o n cap bm : Nat) (u : List Int) (w : World) (hu : u.length = n) (hn4 : n ≤ 100000) (hcap : n ≤ cap) (ha : 0 < n → a = some ⟨b, o, none⟩) (hB : Bs u) (hL : Lie w b o u) (hT : Table w bm)
    (h0 : 0 < w.heap.size) (hb : 0 < n → b < w.heap.size) (hm : bm < w.heap.size) :
    Calls Ybaf.prog 6 #[.slice a n cap] w (DecPost b o u w) := by
  have hbA : Below w.heap.size w (w.alloc (.cells #[.slice none 0 0] 27)) := (Below.refl _ _).alloc (Nat.le_refl _) _
  have hcall : Calls Ybaf.prog 8 #[.slice a n cap, .int .i64 0, .func (.func 9) #[] #[.pointer (some ⟨w.heap.size, 0, none⟩)]] (w.alloc (.cells #[.slice none 0 0] 27)) (ReadPost b o w.heap.size u (w.alloc (.cells #[.slice none 0 0] 27))) := by
    by_cases hn : 0 < n
    · obtain rfl := ha hn
      exact read_some b o n cap w.heap.size bm u _ hu hn hn4 hcap hB (hL.mono hbA (hb hn)) (hT.mono hbA h0 hm) h0 (hb hn) hm ⟨_, heap_alloc_new w _, World.ownsRow_nil _ _ _ _, fun _ => rfl⟩
    · obtain rfl : n = 0 := by omega
      exact read_none a cap b o w.heap.size u _ hu (by simp)
  have HC := Hid.mk' hcall
  clear hcall hL hT hB
  go_enter Ybaf.func6, Ybaf.ntmps6
  go_wp2_with fail
  refine HC.out.mono ?_
  rintro e w1 ⟨v, rfl, hb1, hcase⟩
  rcases hcase with ⟨rfl, hn0, hn1, es, hC, hEl⟩ | ⟨off, hE, hBad⟩
  · obtain ⟨g, hg, hown, hnil⟩ := hEl
    have hcg : w1.cell? ⟨w.heap.size, 0, none⟩ = some g := cell_of_row w1 _ 0 _ 27 (0, 0) hg
    have HN1 := Hid.mk' hn1
    have hsh : ∃ a' l' c', g = .slice a' l' c' := by
      rcases hown.2 with ⟨h1, _⟩ | ⟨g, cap, cur, h1, _⟩
      · exact ⟨_, _, _, h1⟩
      · exact ⟨_, _, _, h1⟩
    obtain ⟨a', l', c', rfl⟩ := hsh
    clear hn1 hu
    go_wp2
    go_ret2
    exact ⟨_, _, rfl, hbA.trans hb1, .inl ⟨rfl, hn0, HN1.out, es, hC, hown, fun h => hnil (by rw [h]; rfl)⟩⟩
  · obtain ⟨g, s, rfl, hg⟩ := hE
    clear hu
    go_wp2
    go_ret2
    exact ⟨_, _, rfl, hbA.trans hb1, .inr ⟨rfl, off, ⟨g, s, rfl, hg⟩, hBad⟩⟩

/-- bytes.Equal of two slices that hold the same bytes: both converted to one string. -/
theorem equal_conv (v1 v2 : Value) (s : ByteArray) (w : World) (c1 : (convert 22 9 v1).run Ybaf.prog w = .ok (.string s) w) (c2 : (convert 22 9 v2).run Ybaf.prog w = .ok (.string s) w) :
    Calls Ybaf.prog 7 #[v1, v2] w fun e w' => e = .returned (.bool true) ∧ w = w' := by
  go_enter Ybaf.func7, Ybaf.ntmps7
  go_wp2
  go_ret
  exact ⟨by simp, rfl⟩

/-- 'string(b)' of the bytes xs, wherever they lie. -/
theorem conv_at (p : Option Addr) (n c : Nat) (xs : List Int) (w : World) (hx : xs.length = n) (h : 0 < n → ∃ b o, p = some ⟨b, o, none⟩ ∧ ∀ i, i < n → w.cell? ⟨b, o + i, none⟩ = some (.int .u8 (xs.getD i 0))) :
    (convert 22 9 (.slice p n c)).run Ybaf.prog w = .ok (.string (strOfNums xs)) w := by
  by_cases hn : 0 < n
  · obtain ⟨b, o, rfl, hc⟩ := h hn
    exact run_convert_bytes_arg (P := Ybaf.prog) w 22 5 Ybaf.underlying22 Ybaf.underlying5 b o n c xs hx hc 9 Ybaf.underlying9
  · obtain rfl : n = 0 := by omega
    obtain rfl : xs = [] := List.eq_nil_of_length_eq_zero hx
    rw [run_convert_bytes_string w 22 9 5 _ 0 c Ybaf.underlying22 Ybaf.underlying5 Ybaf.underlying9]
    cases p <;> simp [Conv.bytesToString, loadCells]
    all_goals rfl
end Go.Proofs.YbulkbbrqFmt.Hd
