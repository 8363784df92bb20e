/-
  THE WALK of readHeader (function 8), visiting with DecodeHeader's closure.
-/
import Derived.Test.YbulkbbrqFmtAdd
namespace Go.Proofs.YbulkbbrqFmt.Hd
open Go.RowKit

/-- What the table of fixed lengths answers: the element, and whether it is there. -/
def wantOf (z : Int) : Int := if 0 ≤ fixed z then fixed z else 0
def okOf (z : Int) : Bool := decide (0 ≤ fixed z)

/-- The package's table lies in block bm and answers so, in every world in which that block has not turned. -/
structure Table (w : World) (bm : Nat) : Prop where
  cell : w.cell? ⟨0, 0, none⟩ = some (.map (some bm))
  look : ∀ w' : World, w'.heap[bm]? = w.heap[bm]? → ∀ z : Int, 0 ≤ z → z < 256 → (Instr.lookup 45 (.map (some bm)) (.int .u8 z) true).run Ybaf.prog w' = .ok (.tuple #[.int .i64 (wantOf z), .bool (okOf z)]) w'

/-- The bytes u lie from ⟨b, o⟩ on. -/
def Lie (w : World) (b o : Nat) (u : List Int) : Prop := ∀ i, i < u.length → w.cell? ⟨b, o + i, none⟩ = some (.int .u8 (at_ u i))

/-- The data of the element at p, as a slice. -/
def dataV (b o : Nat) (u : List Int) (p : Nat) : Value := .slice (some ⟨b, if ln u p = 0 then o else o + (p + 2), none⟩) (ln u p) (ln u p)
/-- The cells of a row of elements. -/
def elCells (b o : Nat) (u : List Int) (es : List Nat) : List Value := es.flatMap fun p => [.int .u8 (at_ u p), dataV b o u p]
theorem elCells_snoc (b o : Nat) (u : List Int) (es : List Nat) (p : Nat) : elCells b o u (es ++ [p]) = elCells b o u es ++ [.int .u8 (at_ u p), dataV b o u p] := by simp [elCells]

/-- Why a header does not decode, and the offset that is told. -/
def Bad (u : List Int) (off : Int) : Prop :=
  (u.length = 0 ∧ off = 0) ∨ (0 < u.length ∧ (u.length : Int) < 1 + at_ u 0 ∧ off = u.length) ∨ (0 < u.length ∧ 1 + at_ u 0 < (u.length : Int) ∧ off = 1 + at_ u 0) ∨
  (0 < u.length ∧ 1 + at_ u 0 = (u.length : Int) ∧ 1 ≤ off ∧ off ≤ (u.length : Int) ∧ ∃ es p, Chain u 1 es p ∧ p < u.length ∧ ¬ Ok u p)

/-- An error value: a DecodeError at that offset. -/
def IsErr (v : Value) (off : Int) (w : World) : Prop := ∃ g s, v = .iface 36 (.pointer (some ⟨g, 0, none⟩)) ∧ w.heap[g]? = some (.cells #[.int .i64 off, .string s] 39 (0, 0))

theorem isErr_made (w : World) (off : Int) (s : ByteArray) : IsErr (.iface 36 (.pointer (some ⟨w.heap.size, 0, none⟩))) off (w.alloc (.cells #[.int .i64 off, .string s] 39)).drew :=
  ⟨_, s, rfl, heap_alloc_new w _⟩

theorem isErr_at (w1 : World) (g : Nat) (hg : g = w1.heap.size) (off : Int) (s : ByteArray) : IsErr (.iface 36 (.pointer (some ⟨g, 0, none⟩))) off (w1.alloc (.cells #[.int .i64 off, .string s] 39)).drew := by
  subst hg; exact isErr_made w1 off s

/-- What readHeader leaves. -/
def ReadPost (b o gE : Nat) (u : List Int) (w : World) (e : Ending) (w' : World) : Prop :=
  ∃ v, e = .returned v ∧ Below gE w w' ∧
    ((v = .nilIface ∧ 0 < u.length ∧ 1 + at_ u 0 = (u.length : Int) ∧ ∃ es, Chain u 1 es u.length ∧ El gE es.length (elCells b o u es) w') ∨ ∃ off, IsErr v off w' ∧ Bad u off)

theorem Hid.mk' {p : Prop} (h : p) : Hid p := h

theorem read_none (a : Option Addr) (cap b o gE : Nat) (u : List Int) (w : World) (hu : u.length = 0) (hg : gE < w.heap.size) :
    Calls Ybaf.prog 8 #[.slice a 0 cap, .int .i64 0, .func (.func 9) #[] #[.pointer (some ⟨gE, 0, none⟩)]] w (ReadPost b o gE u w) := by
  go_enter Ybaf.func8, Ybaf.ntmps8
  go_wp2_with fail
  refine (errorf0 _ _ _ (by kernel_rfl)).mono ?_
  rintro e w1 ⟨s, rfl, rfl⟩
  go_wp2
  go_ret
  exact ⟨_, rfl, ((Below.refl _ _).alloc (by omega) _).drew, .inr ⟨0, isErr_made w 0 s, .inl ⟨hu, rfl⟩⟩⟩

set_option maxRecDepth 100000 in
set_option maxHeartbeats 2000000 in
theorem read_some (b o n cap gE bm : Nat) (u : List Int) (w : World) (hu : u.length = n) (hn : 0 < n) (hn4 : n ≤ 100000) (hcap : n ≤ cap) (hB : Bs u) (hL : Lie w b o u) (hT : Table w bm)
    (h0 : 0 < gE) (hb : b < gE) (hm : bm < gE) (hE : El gE 0 [] w) :
    Calls Ybaf.prog 8 #[.slice (some ⟨b, o, none⟩) n cap, .int .i64 0, .func (.func 9) #[] #[.pointer (some ⟨gE, 0, none⟩)]] w (ReadPost b o gE u w) := by
  have hgw : gE < w.heap.size := by
    obtain ⟨v, hv, _⟩ := hE
    exact (Array.getElem?_eq_some_iff.1 hv).1
  have hc0 : w.cell? ⟨b, o, none⟩ = some (.int .u8 (at_ u 0)) := by simpa using hL 0 (by omega)
  obtain ⟨z0, hz⟩ : ∃ z, z = at_ u 0 := ⟨_, rfl⟩
  have hz1 := hB.get 0
  rw [← hz] at hc0 hz1
  have HZ : Hid (z0 = at_ u 0) := hz
  have HU : Hid (u.length = n) := hu
  clear hz hu
  obtain ⟨hz0, hz256⟩ := hz1
  by_cases hgt : (n : Int) < 1 + z0
  · go_enter Ybaf.func8, Ybaf.ntmps8
    go_wp2_with fail
    refine (errorf2a _ _ _ w.heap.size (1 + z0) 0 (by go_simp) (by go_simp) (by kernel_rfl)).mono ?_
    rintro e w1 ⟨s, rfl, rfl⟩
    go_wp2
    go_ret
    refine ⟨.iface 36 (.pointer (some ⟨w.heap.size + 1, 0, none⟩)), rfl, (((Below.refl _ _).alloc (by omega) _).alloc (by simp; omega) _).drew, .inr ⟨_, isErr_at _ _ (by simp) _ s, .inr (.inl ?_)⟩⟩
    rw [← HZ.out, HU.out]
    exact ⟨hn, hgt, rfl⟩
  by_cases hlt : 1 + z0 < (n : Int)
  · go_enter Ybaf.func8, Ybaf.ntmps8
    go_wp2_with fail
    refine (errorf2b _ _ _ w.heap.size ((n : Int) - (1 + z0)) z0 (by go_simp) (by go_simp) (by kernel_rfl)).mono ?_
    rintro e w1 ⟨s, rfl, rfl⟩
    go_wp2
    go_ret
    refine ⟨.iface 36 (.pointer (some ⟨w.heap.size + 1, 0, none⟩)), rfl, (((Below.refl _ _).alloc (by omega) _).alloc (by simp; omega) _).drew, .inr ⟨_, isErr_at _ _ (by simp) _ s, .inr (.inr (.inl ?_))⟩⟩
    rw [← HZ.out, HU.out]
    exact ⟨hn, hlt, rfl⟩
  have heq : 1 + z0 = (n : Int) := by omega
  have HEQ : Hid (1 + z0 = (n : Int)) := heq
  clear heq
  go_enter Ybaf.func8, Ybaf.ntmps8
  go_wp2_with fail
  go_loopw [8] (fun i wr => ∃ p : Nat, 1 ≤ p ∧ p ≤ n ∧ i = .int .i64 p ∧ ∃ es, Chain u 1 es p ∧ El gE es.length (elCells b o u es) wr ∧ Below gE w wr) (fun i _ => n - (intOf i).toNat)
  case atStart => exact ⟨1, by omega, by omega, rfl, [], rfl, hE, Below.refl _ _⟩
  case round =>
  obtain ⟨p, hp1, hpn, rfl, es, hC, hEl, hbw⟩ := hrel
  have hgr : gE < wr.heap.size := by
    obtain ⟨v, hv, _⟩ := hEl
    exact (Array.getElem?_eq_some_iff.1 hv).1
  by_cases hend : p < n
  · have hcp : wr.cell? ⟨b, o + p, none⟩ = some (.int .u8 (at_ u p)) := (hbw.cell (by exact hb)).trans (hL p (by rw [HU.out]; exact hend))
    obtain ⟨z, hz⟩ : ∃ z, z = at_ u p := ⟨_, rfl⟩
    have hzB := hB.get p
    rw [← hz] at hcp hzB
    have HZP : Hid (z = at_ u p) := hz
    clear hz
    obtain ⟨hzp0, hzp1⟩ := hzB
    by_cases hlast : p + 1 = n
    · have hl' : (p : Int) + 1 = n := by omega
      go_wp2_with fail
      refine (errorf1 _ _ _ wr.heap.size z (by go_simp) (by kernel_rfl)).mono ?_
      rintro e w1 ⟨s, rfl, rfl⟩
      go_wp2
      go_ret
      refine ⟨.iface 36 (.pointer (some ⟨wr.heap.size + 1, 0, none⟩)), rfl, hbw.trans (((Below.refl _ _).alloc (by omega) _).alloc (by simp; omega) _).drew, .inr ⟨_, isErr_at _ _ (by simp) _ s, .inr (.inr (.inr ?_))⟩⟩
      rw [← HZ.out, HU.out]
      refine ⟨hn, HEQ.out, by omega, by omega, es, p, hC, hend, fun k => ?_⟩
      have := k.1
      rw [HU.out] at this
      omega
    · have hcq : wr.cell? ⟨b, o + (p + 1), none⟩ = some (.int .u8 (at_ u (p + 1))) := (hbw.cell (by exact hb)).trans (hL (p + 1) (by rw [HU.out]; omega))
      obtain ⟨L, hLd⟩ : ∃ L, L = ln u p := ⟨_, rfl⟩
      have hLB := hB.get (p + 1)
      have hLe : at_ u (p + 1) = (L : Int) := by rw [hLd]; unfold ln; omega
      rw [hLe] at hcq hLB
      have HLP : Hid (L = ln u p) := hLd
      clear hLd hLe
      have hL256 : (L : Int) < 256 := hLB.2
      clear hLB
      by_cases hpast : n < p + 2 + L
      · go_wp2_with fail
        refine (errorf3 _ _ _ wr.heap.size z (L : Int) ((p : Int) + 1 + 1 + (L : Int) - n) (by go_simp) (by go_simp) (by go_simp) (by kernel_rfl)).mono ?_
        rintro e w1 ⟨s, rfl, rfl⟩
        go_wp2
        go_ret
        refine ⟨.iface 36 (.pointer (some ⟨wr.heap.size + 1, 0, none⟩)), rfl, hbw.trans (((Below.refl _ _).alloc (by omega) _).alloc (by simp; omega) _).drew, .inr ⟨_, isErr_at _ _ (by simp) _ s, .inr (.inr (.inr ?_))⟩⟩
        rw [← HZ.out, HU.out]
        refine ⟨hn, HEQ.out, by omega, by omega, es, p, hC, hend, fun k => ?_⟩
        have := k.2.1
        rw [HU.out, ← HLP.out] at this
        omega
      · have hmc : wr.cell? ⟨0, 0, none⟩ = some (.map (some bm)) := (hbw.cell (by exact h0)).trans hT.cell
        have hlk := hT.look wr (hbw.block bm hm) z hzp0 hzp1
        obtain ⟨wv, hwv⟩ : ∃ wv, wv = wantOf z := ⟨_, rfl⟩
        rw [← hwv] at hlk
        have HWV : Hid (wv = wantOf z) := hwv
        clear hwv
        by_cases hok : okOf z = true ∧ (L : Int) ≠ wv
        · obtain ⟨hok1, hok2⟩ := hok
          rw [hok1] at hlk
          have HOK : Hid (okOf z = true) := hok1
          clear hok1
          have hok3 : ((L : Int) != wv) = true := by simpa using hok2
          go_wp2_with fail
          refine (errorf3 _ _ _ wr.heap.size z (L : Int) wv (by go_simp) (by go_simp) (by go_simp) (by kernel_rfl)).mono ?_
          rintro e w1 ⟨s, rfl, rfl⟩
          go_wp2
          go_ret
          refine ⟨.iface 36 (.pointer (some ⟨wr.heap.size + 1, 0, none⟩)), rfl, hbw.trans (((Below.refl _ _).alloc (by omega) _).alloc (by simp; omega) _).drew, .inr ⟨_, isErr_at _ _ (by simp) _ s, .inr (.inr (.inr ?_))⟩⟩
          rw [← HZ.out, HU.out]
          refine ⟨hn, HEQ.out, by omega, by omega, es, p, hC, hend, fun k => ?_⟩
          have hf : 0 ≤ fixed z := of_decide_eq_true HOK.out
          have := k.2.2
          rw [← HZP.out, ← HLP.out] at this
          have hx := this hf
          rw [HWV.out] at hok2
          unfold wantOf at hok2
          rw [if_pos hf] at hok2
          exact hok2 hx
        · have hOk : Ok u p := by
            refine ⟨by rw [HU.out]; omega, by rw [HU.out, ← HLP.out]; omega, fun hf => ?_⟩
            rw [← HZP.out] at hf ⊢
            rw [← HLP.out]
            have h1 : okOf z = true := decide_eq_true hf
            have h2 : (L : Int) = wv := Classical.byContradiction fun h => hok ⟨h1, h⟩
            rw [h2, HWV.out]
            unfold wantOf
            rw [if_pos hf]
          have hfin : ∀ (a' : Nat) (w1 : World), a' = (if ln u p = 0 then o else o + (p + 2)) → El gE (es.length + 1) (elCells b o u es ++ [.int .u8 z, .slice (some ⟨b, a', none⟩) L L]) w1 → El gE (es ++ [p]).length (elCells b o u (es ++ [p])) w1 := by
            intro a' w1 ha h
            rw [elCells_snoc, List.length_append]
            unfold dataV
            rw [← ha, ← HLP.out, ← HZP.out]
            exact h
          have HFIN := Hid.mk' hfin
          have HOKP : Hid (Ok u p) := hOk
          have hlen := hC.len
          clear hfin hOk
          cases hok' : okOf z with
          | false =>
            rw [hok'] at hlk
            clear hok hok'
            by_cases hL0 : L = 0
            · subst hL0
              go_wp2_with fail
              refine (add_any gE es.length (elCells b o u es) z (some ⟨b, o, none⟩) 0 0 wr (by omega) hEl).mono ?_
              rintro e w1 ⟨rfl, hEl1, hb1⟩
              go_wp2
              go_roundw
              case rel => exact ⟨p + 2 + 0, by omega, by omega, by go_num, es ++ [p], HLP.out ▸ hC.snoc HOKP.out, HFIN.out _ w1 (by rw [← HLP.out]; simp) hEl1, hbw.trans hb1⟩
              case measure => simp [intOf]; omega
            · have hL1 : 0 < L := by omega
              go_wp2_with fail
              refine (add_any gE es.length (elCells b o u es) z (some ⟨b, o + (p + 1 + 1), none⟩) L L wr (by omega) hEl).mono ?_
              rintro e w1 ⟨rfl, hEl1, hb1⟩
              go_wp2
              go_roundw
              case rel => exact ⟨p + 2 + L, by omega, by omega, by go_num, es ++ [p], HLP.out ▸ hC.snoc HOKP.out, HFIN.out _ w1 (by rw [← HLP.out, if_neg hL0]) hEl1, hbw.trans hb1⟩
              case measure => simp [intOf]; omega
          | true =>
            have hLw : (L : Int) = wv := Classical.byContradiction fun h => hok ⟨hok', h⟩
            rw [hok'] at hlk
            clear hok hok'
            rw [← hLw] at hlk
            clear HWV hLw wv
            by_cases hL0 : L = 0
            · subst hL0
              go_wp2_with fail
              refine (add_any gE es.length (elCells b o u es) z (some ⟨b, o, none⟩) 0 0 wr (by omega) hEl).mono ?_
              rintro e w1 ⟨rfl, hEl1, hb1⟩
              go_wp2
              go_roundw
              case rel => exact ⟨p + 2 + 0, by omega, by omega, by go_num, es ++ [p], HLP.out ▸ hC.snoc HOKP.out, HFIN.out _ w1 (by rw [← HLP.out]; simp) hEl1, hbw.trans hb1⟩
              case measure => simp [intOf]; omega
            · have hL1 : 0 < L := by omega
              go_wp2_with fail
              refine (add_any gE es.length (elCells b o u es) z (some ⟨b, o + (p + 1 + 1), none⟩) L L wr (by omega) hEl).mono ?_
              rintro e w1 ⟨rfl, hEl1, hb1⟩
              go_wp2
              go_roundw
              case rel => exact ⟨p + 2 + L, by omega, by omega, by go_num, es ++ [p], HLP.out ▸ hC.snoc HOKP.out, HFIN.out _ w1 (by rw [← HLP.out, if_neg hL0]) hEl1, hbw.trans hb1⟩
              case measure => simp [intOf]; omega
  · obtain rfl : p = n := by omega
    go_wp2
    go_ret
    refine ⟨.nilIface, rfl, hbw, .inl ⟨rfl, ?_⟩⟩
    rw [HU.out, ← HZ.out]
    exact ⟨hn, HEQ.out, es, hC, hEl⟩
end Go.Proofs.YbulkbbrqFmt.Hd
