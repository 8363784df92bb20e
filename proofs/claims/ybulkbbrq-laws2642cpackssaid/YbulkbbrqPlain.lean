/-
  THE PLAIN LAW of LawS2642CPacks: rows of bytes as lists of numbers, bit by bit. No Go function in sight.
-/
import Derived.Laws.BitsAllLaws
namespace Go.Proofs.Ybulkbbrq.Pk

/-- Every number is a byte. -/
def Bs (zs : List Int) : Prop := ∀ x ∈ zs, 0 ≤ x ∧ x < 256
/-- Bit p of a row of bytes, the least significant bits first. -/
def bit (zs : List Int) (p : Nat) : Bool := (zs.getD (p / 8) 0).toNat.testBit (p % 8)
/-- What the septets lay at bit p, from septet f on. -/
def sb (f : Nat) (ss : List Int) (p : Nat) : Bool := (ss.getD (p / 7 - f) 0).toNat.testBit (p % 7)
/-- The row zs is the row z0 with the bits of the septets laid below bit q. -/
def Rel (n f : Nat) (ss z0 : List Int) (q : Nat) (zs : List Int) : Prop :=
  zs.length = n ∧ Bs zs ∧ ∀ p, p < 8 * n → bit zs p = (bit z0 p || (decide (7 * f ≤ p ∧ p < q) && sb f ss p))

theorem Bs.get {zs : List Int} (h : Bs zs) (k : Nat) : 0 ≤ zs.getD k 0 ∧ zs.getD k 0 < 256 := by
  by_cases hk : k < zs.length
  · rw [List.getD_eq_getElem?_getD, List.getElem?_eq_getElem hk]; exact h _ (List.getElem_mem hk)
  · rw [List.getD_eq_getElem?_getD, List.getElem?_eq_none (by omega)]; decide
theorem Bs.set {zs : List Int} (h : Bs zs) (k : Nat) (v : Int) (h0 : 0 ≤ v) (h1 : v < 256) : Bs (zs.set k v) := by
  intro x hx
  rcases List.mem_or_eq_of_mem_set hx with hm | rfl
  · exact h _ hm
  · exact ⟨h0, h1⟩

theorem bit_set (zs : List Int) (k : Nat) (v : Int) (hk : k < zs.length) (p : Nat) : bit (zs.set k v) p = if p / 8 = k then v.toNat.testBit (p % 8) else bit zs p := by
  unfold bit
  rw [List.getD_eq_getElem?_getD, List.getElem?_set]
  by_cases h : k = p / 8
  · subst h; simp [hk]
  · rw [if_neg h, if_neg (fun e => h e.symm), List.getD_eq_getElem?_getD]

theorem or_byte (a b : Int) (ha : 0 ≤ a ∧ a < 256) (hb : 0 ≤ b ∧ b < 256) : 0 ≤ bits .or .u8 a b ∧ bits .or .u8 a b < 256 ∧ ∀ r, (bits .or .u8 a b).toNat.testBit r = (a.toNat.testBit r || b.toNat.testBit r) := by
  have h := u8_or a b ha.1 ha.2 hb.1 hb.2
  have hl : a.toNat ||| b.toNat < 2 ^ 8 := Nat.or_lt_two_pow (by omega) (by omega)
  rw [h]
  refine ⟨by omega, by omega, fun r => ?_⟩
  rw [Int.toNat_natCast, Nat.testBit_or]
theorem and_byte (a b : Int) (ha : 0 ≤ a ∧ a < 256) (hb : 0 ≤ b ∧ b < 256) : 0 ≤ bits .and .u8 a b ∧ bits .and .u8 a b < 256 := by
  have h := u8_and a b ha.1 ha.2 hb.1 hb.2
  have hl : a.toNat &&& b.toNat < 2 ^ 8 := Nat.and_lt_two_pow _ (by omega)
  rw [h]; omega
theorem andNot_byte (a b : Int) (ha : 0 ≤ a ∧ a < 256) (hb : 0 ≤ b ∧ b < 256) : 0 ≤ bits .andNot .u8 a b ∧ bits .andNot .u8 a b < 256 := by
  have h := u8_andNot a b ha.1 ha.2 hb.1 hb.2
  have hl : a.toNat &&& (255 - b.toNat) < 2 ^ 8 := Nat.and_lt_two_pow _ (by omega)
  rw [h]; omega
theorem and127 (a : Int) (ha : 0 ≤ a ∧ a < 256) : 0 ≤ bits .and .u8 a 127 ∧ bits .and .u8 a 127 < 128 := by
  have h := u8_and a 127 ha.1 ha.2 (by decide) (by decide)
  have hl : a.toNat &&& (127 : Int).toNat < 2 ^ 7 := Nat.and_lt_two_pow _ (by decide)
  rw [h]; omega

/-- 's << c' on a byte, c at most 7, bit by bit. -/
def shlB (s : Int) (c : Nat) : Int := s * 2 ^ c % 256
def shrB (s : Int) (c : Nat) : Int := s / 2 ^ c
theorem shl_byte (s : Int) (hs : 0 ≤ s ∧ s < 256) (c : Nat) : 0 ≤ shlB s c ∧ shlB s c < 256 ∧ ∀ r, r < 8 → (shlB s c).toNat.testBit r = (decide (c ≤ r) && s.toNat.testBit (r - c)) := by
  unfold shlB
  refine ⟨by omega, by omega, fun r hr => ?_⟩
  obtain ⟨m, rfl⟩ := Int.eq_ofNat_of_zero_le hs.1
  have e : ((m : Int) * 2 ^ c % 256).toNat = m * 2 ^ c % 2 ^ 8 := by
    have : ((m : Int) * 2 ^ c % 256) = ((m * 2 ^ c % 2 ^ 8 : Nat) : Int) := by simp
    rw [this, Int.toNat_natCast]
  rw [e, Int.toNat_natCast, Nat.testBit_mod_two_pow, Nat.testBit_mul_two_pow]
  simp [hr]
theorem shr_byte (s : Int) (hs : 0 ≤ s ∧ s < 256) (c : Nat) : 0 ≤ shrB s c ∧ shrB s c < 256 ∧ ∀ r, (shrB s c).toNat.testBit r = s.toNat.testBit (r + c) := by
  unfold shrB
  obtain ⟨m, rfl⟩ := Int.eq_ofNat_of_zero_le hs.1
  have e : ((m : Int) / 2 ^ c) = ((m / 2 ^ c : Nat) : Int) := by simp
  rw [e]
  have hle : m / 2 ^ c ≤ m := Nat.div_le_self _ _
  have h2 : ((m / 2 ^ c : Nat) : Int) ≤ (m : Int) := Int.ofNat_le.2 hle
  refine ⟨Int.natCast_nonneg _, by omega, fun r => ?_⟩
  rw [Int.toNat_natCast, Int.toNat_natCast, Nat.testBit_div_two_pow, Nat.add_comm]

/-- The test '(s >> j) & 1 == 1'. -/
theorem and_one (s : Int) (hs : 0 ≤ s ∧ s < 256) (j : Nat) : (bits .and .u8 (shrB s j) 1 == 1) = s.toNat.testBit j := by
  obtain ⟨h0, h1, hb⟩ := shr_byte s hs j
  rw [u8_and _ 1 h0 h1 (by decide) (by decide)]
  have := hb 0
  rw [Nat.zero_add] at this
  rw [← this]
  have e : (shrB s j).toNat &&& (1 : Int).toNat = (shrB s j).toNat % 2 := Nat.and_one_is_mod _
  rw [e, Nat.testBit_zero]
  by_cases h : (shrB s j).toNat % 2 = 1
  · simp [h]
  · have : (shrB s j).toNat % 2 = 0 := by omega
    simp [this]

/-- Nothing is laid yet. -/
theorem Rel.start {n f : Nat} {ss z0 : List Int} (h0 : z0.length = n) (hb : Bs z0) : Rel n f ss z0 (7 * f) z0 := by
  refine ⟨h0, hb, fun p _ => ?_⟩
  have : ¬ (7 * f ≤ p ∧ p < 7 * f) := by omega
  simp [this]

/-- The bit at hand is 0: nothing is to be laid. -/
theorem Rel.skip {n f q : Nat} {ss z0 zs : List Int} (h : Rel n f ss z0 q zs) (hq : sb f ss q = false) : Rel n f ss z0 (q + 1) zs := by
  refine ⟨h.1, h.2.1, fun p hp => ?_⟩
  rw [h.2.2 p hp]
  by_cases hpq : p = q
  · subst hpq; simp [hq]
  · have : (7 * f ≤ p ∧ p < q) ↔ (7 * f ≤ p ∧ p < q + 1) := by omega
    simp [this]

/-- The bit at hand is 1: it is laid. -/
theorem Rel.lay {n f q : Nat} {ss z0 zs : List Int} (h : Rel n f ss z0 q zs) (hf : 7 * f ≤ q) (hn : q / 8 < n) (hq : sb f ss q = true) :
    Rel n f ss z0 (q + 1) (zs.set (q / 8) (bits .or .u8 (zs.getD (q / 8) 0) (shlB 1 (q % 8)))) := by
  obtain ⟨s0, s1, sB⟩ := shl_byte 1 (by decide) (q % 8)
  obtain ⟨o0, o1, oB⟩ := or_byte (zs.getD (q / 8) 0) (shlB 1 (q % 8)) (h.2.1.get _) ⟨s0, s1⟩
  refine ⟨by simpa using h.1, h.2.1.set _ _ o0 o1, fun p hp => ?_⟩
  rw [bit_set _ _ _ (by rw [h.1]; exact hn)]
  have hR := h.2.2 p hp
  by_cases hpk : p / 8 = q / 8
  · rw [if_pos hpk, oB, sB _ (by omega)]
    have e1 : (zs.getD (q / 8) 0).toNat.testBit (p % 8) = bit zs p := by unfold bit; rw [hpk]
    rw [e1, hR]
    have e2 : (1 : Int).toNat.testBit (p % 8 - q % 8) = decide (p % 8 - q % 8 = 0) := by
      show Nat.testBit 1 _ = _
      cases (p % 8 - q % 8) <;> simp [Nat.testBit_succ]
    rw [e2]
    by_cases hpq : p = q
    · subst hpq
      simp [hq, hf]
    · have a1 : (decide (q % 8 ≤ p % 8) && decide (p % 8 - q % 8 = 0)) = false := by
        by_cases c : q % 8 ≤ p % 8
        · have : ¬ (p % 8 - q % 8 = 0) := by omega
          simp [this]
        · simp [c]
      have a2 : (7 * f ≤ p ∧ p < q) ↔ (7 * f ≤ p ∧ p < q + 1) := by omega
      rw [a1]
      simp [a2]
  · rw [if_neg hpk, hR]
    have a2 : (7 * f ≤ p ∧ p < q) ↔ (7 * f ≤ p ∧ p < q + 1) := by
      have : p ≠ q := fun e => hpk (by rw [e])
      omega
    simp [a2]

/-- One septet is laid whole: the writes of packSeptets' round (the second one where the septet reaches into the next octet). -/
theorem Rel.septet {n f i : Nat} {ss z0 zs : List Int} (h : Rel n f ss z0 (7 * (f + i)) zs) (hss : ∀ x ∈ ss, 0 ≤ x ∧ x < 128) (hi : i < ss.length) (hn : 7 * (f + i) + 7 ≤ 8 * n) :
    (7 * (f + i) % 8 ≤ 1 → Rel n f ss z0 (7 * (f + (i + 1))) (zs.set (7 * (f + i) / 8) (bits .or .u8 (zs.getD (7 * (f + i) / 8) 0) (shlB (ss.getD i 0) (7 * (f + i) % 8))))) ∧
    (1 < 7 * (f + i) % 8 → ∀ z1, z1 = zs.set (7 * (f + i) / 8) (bits .or .u8 (zs.getD (7 * (f + i) / 8) 0) (shlB (ss.getD i 0) (7 * (f + i) % 8))) →
      Rel n f ss z0 (7 * (f + (i + 1))) (z1.set (7 * (f + i) / 8 + 1) (bits .or .u8 (z1.getD (7 * (f + i) / 8 + 1) 0) (shrB (ss.getD i 0) (8 - 7 * (f + i) % 8))))) := by
  have hs128 : 0 ≤ ss.getD i 0 ∧ ss.getD i 0 < 128 := by
    rw [List.getD_eq_getElem?_getD, List.getElem?_eq_getElem hi]; exact hss _ (List.getElem_mem hi)
  generalize hs : ss.getD i 0 = s at *
  have hs7 : ∀ r, 7 ≤ r → s.toNat.testBit r = false := fun r hr =>
    Nat.testBit_lt_two_pow (Nat.lt_of_lt_of_le (show s.toNat < 2 ^ 7 by omega) (Nat.pow_le_pow_right (by decide) hr))
  have hsb : ∀ p, 7 * (f + i) ≤ p → p < 7 * (f + i) + 7 → sb f ss p = s.toNat.testBit (p - 7 * (f + i)) := by
    intro p h1 h2
    unfold sb
    have e1 : p / 7 - f = i := by omega
    have e2 : p % 7 = p - 7 * (f + i) := by omega
    rw [e1, e2, hs]
  generalize hb : 7 * (f + i) = b at *
  have hb' : 7 * (f + (i + 1)) = b + 7 := by omega
  have hbf : 7 * f ≤ b := by omega
  rw [hb']
  obtain ⟨s0, s1, sB⟩ := shl_byte s ⟨hs128.1, by omega⟩ (b % 8)
  obtain ⟨o0, o1, oB⟩ := or_byte (zs.getD (b / 8) 0) (shlB s (b % 8)) (h.2.1.get _) ⟨s0, s1⟩
  have hlen1 : b / 8 < zs.length := by rw [h.1]; omega
  have first : ∀ p, p < 8 * n → bit (zs.set (b / 8) (bits .or .u8 (zs.getD (b / 8) 0) (shlB s (b % 8)))) p = (bit z0 p || (decide (7 * f ≤ p ∧ p < if p / 8 = b / 8 then b + 7 else b) && sb f ss p)) := by
    intro p hp
    rw [bit_set _ _ _ hlen1]
    have hR := h.2.2 p hp
    by_cases hpk : p / 8 = b / 8
    · rw [if_pos hpk, if_pos hpk, oB, sB _ (by omega)]
      have e1 : (zs.getD (b / 8) 0).toNat.testBit (p % 8) = bit zs p := by unfold bit; rw [hpk]
      rw [e1, hR]
      by_cases hpb : b ≤ p
      · have c1 : b % 8 ≤ p % 8 := by omega
        have c2 : p % 8 - b % 8 = p - b := by omega
        have c3 : ¬ (7 * f ≤ p ∧ p < b) := by omega
        by_cases hp7 : p < b + 7
        · have c4 : 7 * f ≤ p ∧ p < b + 7 := by omega
          have c5 : ¬ p < b := by omega
          rw [hsb p hpb hp7]
          simp [c1, c2, c5, c4]
        · have c4 : ¬ (7 * f ≤ p ∧ p < b + 7) := by omega
          simp [c2, c3, c4, hs7 (p - b) (by omega)]
      · have c1 : ¬ b % 8 ≤ p % 8 := by omega
        have a2 : (7 * f ≤ p ∧ p < b) ↔ (7 * f ≤ p ∧ p < b + 7) := by omega
        simp [c1, a2]
    · rw [if_neg hpk, if_neg hpk, hR]
  have hl1 : (zs.set (b / 8) (bits .or .u8 (zs.getD (b / 8) 0) (shlB s (b % 8)))).length = n := by simpa using h.1
  have hB1 := h.2.1.set (b / 8) _ o0 o1
  constructor
  · intro hsh
    refine ⟨hl1, hB1, fun p hp => ?_⟩
    rw [first p hp]
    have : (7 * f ≤ p ∧ p < if p / 8 = b / 8 then b + 7 else b) ↔ (7 * f ≤ p ∧ p < b + 7) := by split <;> omega
    simp [this]
  · intro hsh z1 hz1
    rw [← hz1] at first hl1 hB1
    obtain ⟨t0, t1, tB⟩ := shr_byte s ⟨hs128.1, by omega⟩ (8 - b % 8)
    obtain ⟨u0, u1, uB⟩ := or_byte (z1.getD (b / 8 + 1) 0) (shrB s (8 - b % 8)) (hB1.get _) ⟨t0, t1⟩
    refine ⟨by simpa using hl1, hB1.set _ _ u0 u1, fun p hp => ?_⟩
    rw [bit_set _ _ _ (by rw [hl1]; omega)]
    have hR := first p hp
    by_cases hpk : p / 8 = b / 8 + 1
    · rw [if_pos hpk, uB, tB]
      have e1 : (z1.getD (b / 8 + 1) 0).toNat.testBit (p % 8) = bit z1 p := by unfold bit; rw [hpk]
      rw [e1, hR]
      have c0 : ¬ p / 8 = b / 8 := by omega
      have c2 : p % 8 + (8 - b % 8) = p - b := by omega
      have c3 : ¬ (7 * f ≤ p ∧ p < b) := by omega
      rw [if_neg c0, c2]
      by_cases hp7 : p < b + 7
      · have c4 : 7 * f ≤ p ∧ p < b + 7 := by omega
        have c5 : ¬ p < b := by omega
        rw [hsb p (by omega) hp7]
        simp [c5, c4]
      · have c4 : ¬ (7 * f ≤ p ∧ p < b + 7) := by omega
        simp [c3, c4, hs7 (p - b) (by omega)]
    · rw [if_neg hpk, hR]
      have : (7 * f ≤ p ∧ p < if p / 8 = b / 8 then b + 7 else b) ↔ (7 * f ≤ p ∧ p < b + 7) := by split <;> omega
      simp [this]

/-- Two rows with the same bits laid are one row. -/
theorem Rel.same {n f q : Nat} {ss z0 zs ys : List Int} (h : Rel n f ss z0 q zs) (k : Rel n f ss z0 q ys) : zs = ys := by
  refine List.ext_getElem (by rw [h.1, k.1]) fun j h1 h2 => ?_
  have g1 := h.2.1 _ (List.getElem_mem h1)
  have g2 := k.2.1 _ (List.getElem_mem h2)
  have : zs[j].toNat = ys[j].toNat := by
    refine Nat.eq_of_testBit_eq fun r => ?_
    by_cases hr : r < 8
    · have e := (h.2.2 (8 * j + r) (by have := h.1; omega)).trans (k.2.2 (8 * j + r) (by have := h.1; omega)).symm
      unfold bit at e
      have d1 : (8 * j + r) / 8 = j := by omega
      have d2 : (8 * j + r) % 8 = r := by omega
      rw [d1, d2, List.getD_eq_getElem?_getD, List.getD_eq_getElem?_getD, List.getElem?_eq_getElem h1, List.getElem?_eq_getElem h2] at e
      exact e
    · have p8 : 2 ^ 8 ≤ 2 ^ r := Nat.pow_le_pow_right (by decide) (by omega)
      rw [Nat.testBit_lt_two_pow (Nat.lt_of_lt_of_le (show zs[j].toNat < 2 ^ 8 by omega) p8), Nat.testBit_lt_two_pow (Nat.lt_of_lt_of_le (show ys[j].toNat < 2 ^ 8 by omega) p8)]
  omega

end Go.Proofs.Ybulkbbrq.Pk
