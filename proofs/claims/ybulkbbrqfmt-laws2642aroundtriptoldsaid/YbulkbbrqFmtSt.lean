/-
  THE STATE of LawS2642ARoundTrip's building loop, and what each step does to it. No walk.
-/
import Derived.Test.YbulkbbrqFmtEnc
import Derived.Test.YbulkbbrqFmtDec
import Derived.Maps.AppendAt
namespace Go.Proofs.YbulkbbrqFmt.Hd
open Go.RowKit

/-- Block g is a row of bytes, the numbers xs, none frozen. -/
def Row (w : World) (g : Nat) (xs : List Int) : Prop := w.heap[g]? = some (.cells (xs.map (Value.int .u8)).toArray 5 (0, 0))
theorem Row.cell {w : World} {g : Nat} {xs : List Int} (h : Row w g xs) (j : Nat) (hj : j < xs.length) : w.cell? ⟨g, j, none⟩ = some (.int .u8 (xs.getD j 0)) := by
  rw [cell_of_row w g j _ 5 (0, 0) h, List.getD_eq_getElem?_getD, List.getElem?_eq_getElem hj]
  simp [hj]
theorem Row.frozen {w : World} {g : Nat} {xs : List Int} (h : Row w g xs) (j : Nat) : w.frozen? ⟨g, j, none⟩ = false := frozen_of_row w g j _ 5 h
theorem Row.lt {w : World} {g : Nat} {xs : List Int} (h : Row w g xs) : g < w.heap.size := (Array.getElem?_eq_some_iff.1 h).1
theorem Row.set {w : World} {g : Nat} {xs : List Int} (h : Row w g xs) (j : Nat) (z : Int) : Row (w.setCell ⟨g, j, none⟩ (.int .u8 z)) g (xs.set j z) := by
  unfold Row
  rw [heap_setCell_same w g j _ 5 _ h]
  simp [List.map_set]
theorem Row.kept {w w' : World} {g : Nat} {xs : List Int} {r : Option Nat} (h : Row w g xs) (hg : w.grownBy w' r) (hne : some g ≠ r) : Row w' g xs := (hg.block g h.lt hne).trans h
theorem grown_set {w : World} (g j : Nat) (v : Value) : w.grownBy (w.setCell ⟨g, j, none⟩ v) (some g) :=
  ⟨rfl, rfl, rfl, by simp, fun k _ hk => heap_setCell_other w ⟨g, j, none⟩ k v (fun e => hk (by simp [e]))⟩
theorem Row.cells {w : World} {g : Nat} {xs : List Int} (h : Row w g xs) : ∀ (j : Nat) (v : Value), (xs.map (Value.int .u8))[j]? = some v → w.cell? ((⟨g, 0, none⟩ : Addr).add j) = some v := by
  intro j v hj
  rw [List.getElem?_map] at hj
  obtain ⟨x, hx, rfl⟩ := Option.map_eq_some_iff.1 hj
  have hl : j < xs.length := (List.getElem?_eq_some_iff.1 hx).1
  have e : (⟨g, 0, none⟩ : Addr).add j = ⟨g, j, none⟩ := by unfold Addr.add; split <;> simp_all
  rw [e, h.cell j hl, List.getD_eq_getElem?_getD, hx]
  rfl
theorem row_made {w : World} {base g n : Nat} (h : w.ownsRow base 5 1 (.slice (some ⟨g, 0, none⟩) n n) n (madeCells (Value.int .u8 0).cells (n * 1)).toList) : Row w g (List.replicate n 0) := by
  rcases h.2 with ⟨h', _⟩ | ⟨g', cap', cur, h', _, hg, _, _, hcs, htake⟩
  · simp at h'
  · simp only [Value.slice.injEq, Option.some.injEq, Addr.mk.injEq, and_true, true_and] at h'
    obtain ⟨rfl, rfl⟩ := h'
    rw [List.take_of_length_le (by simp [hcs])] at htake
    unfold Row
    rw [hg]
    have : (Value.int .u8 0).cells = #[Value.int .u8 0] := rfl
    rw [this, Nat.mul_one, toList_madeCells_one] at htake
    congr 2
    rw [List.map_replicate, ← htake]

/-- A row of another element type lies in another block. -/
theorem ne_of_type {w : World} {base e size n g : Nat} {v : Value} {xs : List Value} {ys : Array Value} {t : TypeId} {fr : Nat × Nat} (h : w.ownsRow base e size v n xs) (hg : w.heap[g]? = some (.cells ys t fr)) (ht : t ≠ e) : some g ≠ v.ownBlock := by
  intro hb
  rcases h.2 with ⟨rfl, _⟩ | ⟨g', cap, cur, rfl, _, hg', _⟩
  · simp [Value.ownBlock] at hb
  · simp [Value.ownBlock] at hb
    subst hb
    rw [hg] at hg'
    cases hg'
    exact ht rfl
theorem own_ne_type {w : World} {b1 b2 e1 e2 s1 s2 n1 n2 : Nat} {v1 v2 : Value} {x1 x2 : List Value} (h1 : w.ownsRow b1 e1 s1 v1 n1 x1) (h2 : w.ownsRow b2 e2 s2 v2 n2 x2) (ht : e1 ≠ e2) : v1.ownBlock = none ∨ v1.ownBlock ≠ v2.ownBlock := by
  rcases h1.2 with ⟨rfl, _⟩ | ⟨g, cap, cur, rfl, _, hg, _⟩
  · left; rfl
  · right
    exact ne_of_type h2 hg ht

def dataOf (e : E) : Value := .slice (some ⟨e.g, 0, none⟩) e.d.length e.d.length

/-- What holds when the elements 'els' have been built. -/
structure St (B : Nat) (w : World) (els : List E) (v7 v8 v9 : Value) (wr : World) : Prop where
  room : B ≤ wr.heap.size
  below : Below B w wr
  body : wr.ownsRow B 5 1 v7 (encs els).length ((encs els).map (Value.int .u8))
  nonil : v7 ≠ .slice none 0 0
  ids : wr.ownsRow B 25 1 v8 els.length (els.map fun e => Value.int .u8 e.id)
  data : wr.ownsRow B 22 1 v9 els.length (els.map dataOf)
  rows : ∀ e ∈ els, Row wr e.g e.d ∧ B ≤ e.g ∧ v7.ownBlock ≠ some e.g
  good : ∀ e ∈ els, Good e
  small : (encs els).length ≤ 255

/-- The shape of a slice that owns its row and is not nil. -/
theorem own_shape {w : World} {base e size n : Nat} {v : Value} {xs : List Value} (h : w.ownsRow base e size v n xs) (hn : v ≠ .slice none 0 0) : ∃ g c, v = .slice (some ⟨g, 0, none⟩) n c ∧ base ≤ g ∧ g < w.heap.size ∧ n ≤ c := by
  rcases h.2 with ⟨rfl, _⟩ | ⟨g, cap, cur, rfl, hb, hg, hc, _⟩
  · exact absurd rfl hn
  · exact ⟨g, cap, rfl, hb, (Array.getElem?_eq_some_iff.1 hg).1, hc⟩

/-- The state in the midst of a round: the three slices by what they hold, the data blocks apart from the body's. -/
structure Mid (B : Nat) (w : World) (bd : List Int) (is ds : List Value) (els : List E) (v7 v8 v9 : Value) (wr : World) : Prop where
  room : B ≤ wr.heap.size
  below : Below B w wr
  body : wr.ownsRow B 5 1 v7 bd.length (bd.map (Value.int .u8))
  nonil : v7 ≠ .slice none 0 0
  ids : wr.ownsRow B 25 1 v8 is.length is
  data : wr.ownsRow B 22 1 v9 ds.length ds
  rows : ∀ e ∈ els, Row wr e.g e.d ∧ B ≤ e.g ∧ v7.ownBlock ≠ some e.g

theorem St.mid {B : Nat} {w wr : World} {els : List E} {v7 v8 v9 : Value} (h : St B w els v7 v8 v9 wr) : Mid B w (encs els) (els.map fun e => Value.int .u8 e.id) (els.map dataOf) els v7 v8 v9 wr :=
  ⟨h.room, h.below, h.body, h.nonil, by simpa using h.ids, by simpa using h.data, h.rows⟩
theorem Mid.st {B : Nat} {w wr : World} {els : List E} {v7 v8 v9 : Value} (h : Mid B w (encs els) (els.map fun e => Value.int .u8 e.id) (els.map dataOf) els v7 v8 v9 wr) (hg : ∀ e ∈ els, Good e) (hs : (encs els).length ≤ 255) : St B w els v7 v8 v9 wr :=
  ⟨h.room, h.below, h.body, h.nonil, by simpa using h.ids, by simpa using h.data, h.rows, hg, hs⟩

section
variable {B : Nat} {w wr w' : World} {bd : List Int} {is ds : List Value} {els : List E} {v7 v8 v9 : Value}

theorem Mid.kept {r : Option Nat} (h : Mid B w bd is ds els v7 v8 v9 wr) (hg : wr.grownBy w' r) (h7 : v7.ownBlock = none ∨ v7.ownBlock ≠ r) (h8 : v8.ownBlock = none ∨ v8.ownBlock ≠ r) (h9 : v9.ownBlock = none ∨ v9.ownBlock ≠ r)
    (hr : ∀ e ∈ els, some e.g ≠ r) (hB : ∀ k, r = some k → B ≤ k) : Mid B w bd is ds els v7 v8 v9 w' :=
  ⟨Nat.le_trans h.room hg.size, h.below.grown hg h.room hB, h.body.kept hg h7, h.nonil, h.ids.kept hg h8, h.data.kept hg h9, fun e he => ⟨(h.rows e he).1.kept hg (hr e he), (h.rows e he).2⟩⟩

theorem none_or {v : Value} : v.ownBlock = none ∨ v.ownBlock ≠ none := by cases v.ownBlock <;> simp

theorem Mid.made (h : Mid B w bd is ds els v7 v8 v9 wr) (hg : wr.grownBy w' none) : Mid B w bd is ds els v7 v8 v9 w' :=
  h.kept hg none_or none_or none_or (fun _ _ => by simp) (fun k hk => by cases hk)
theorem Mid.alloc (h : Mid B w bd is ds els v7 v8 v9 wr) (o : Obj) : Mid B w bd is ds els v7 v8 v9 (wr.alloc o) := h.made (World.grownBy_alloc wr o none)

/-- The body has been appended to. -/
theorem Mid.body' {v7' : Value} {news : List Int} (h : Mid B w bd is ds els v7 v8 v9 wr) (hown : w'.ownsRow B 5 1 v7' (bd.length + news.length) (bd.map (Value.int .u8) ++ news.map (Value.int .u8))) (hg : wr.grownBy w' v7.ownBlock)
    (hnil : v7' = .slice none 0 0 ↔ v7 = .slice none 0 0 ∧ news.length = 0) (hat : v7'.ownBlock = v7.ownBlock ∨ v7'.ownBlock = some wr.heap.size) : Mid B w (bd ++ news) is ds els v7' v8 v9 w' := by
  refine ⟨Nat.le_trans h.room hg.size, h.below.grown hg h.room (fun k hk => (h.body.lt k hk).1), by simpa using hown, fun e => h.nonil (hnil.1 e).1, h.ids.kept hg (own_ne_type h.ids h.body (by decide)), h.data.kept hg (own_ne_type h.data h.body (by decide)), fun e he => ?_⟩
  obtain ⟨h1, h2, h3⟩ := h.rows e he
  refine ⟨h1.kept hg (fun x => h3 x.symm), h2, ?_⟩
  rcases hat with ha | ha
  · rw [ha]; exact h3
  · rw [ha]
    have := h1.lt
    simp
    omega
theorem Mid.ids' {v8' : Value} {x : Value} (h : Mid B w bd is ds els v7 v8 v9 wr) (hown : w'.ownsRow B 25 1 v8' (is.length + 1) (is ++ [x])) (hg : wr.grownBy w' v8.ownBlock) : Mid B w bd (is ++ [x]) ds els v7 v8' v9 w' :=
  ⟨Nat.le_trans h.room hg.size, h.below.grown hg h.room (fun k hk => (h.ids.lt k hk).1), h.body.kept hg (own_ne_type h.body h.ids (by decide)), h.nonil, by simpa using hown, h.data.kept hg (own_ne_type h.data h.ids (by decide)),
    fun e he => ⟨(h.rows e he).1.kept hg (ne_of_type h.ids (h.rows e he).1 (by decide)), (h.rows e he).2⟩⟩
theorem Mid.data' {v9' : Value} {x : Value} (h : Mid B w bd is ds els v7 v8 v9 wr) (hown : w'.ownsRow B 22 1 v9' (ds.length + 1) (ds ++ [x])) (hg : wr.grownBy w' v9.ownBlock) : Mid B w bd is (ds ++ [x]) els v7 v8 v9' w' :=
  ⟨Nat.le_trans h.room hg.size, h.below.grown hg h.room (fun k hk => (h.data.lt k hk).1), h.body.kept hg (own_ne_type h.body h.data (by decide)), h.nonil, h.ids.kept hg (own_ne_type h.ids h.data (by decide)), by simpa using hown,
    fun e he => ⟨(h.rows e he).1.kept hg (ne_of_type h.data (h.rows e he).1 (by decide)), (h.rows e he).2⟩⟩
theorem Mid.addRow {g : Nat} {d : List Int} (h : Mid B w bd is ds els v7 v8 v9 wr) (z : Int) (hrow : Row wr g d) (hB : B ≤ g) (h7 : v7.ownBlock ≠ some g) : Mid B w bd is ds (els ++ [⟨z, d, g⟩]) v7 v8 v9 wr :=
  ⟨h.room, h.below, h.body, h.nonil, h.ids, h.data, fun e he => by
    rcases List.mem_append.1 he with h' | h'
    · exact h.rows e h'
    · simp at h'; subst h'; exact ⟨hrow, hB, h7⟩⟩
/-- A block that is new at a world is none of the state's. -/
theorem Mid.apart (h : Mid B w bd is ds els v7 v8 v9 wr) : v7.ownBlock ≠ some wr.heap.size ∧ v8.ownBlock ≠ some wr.heap.size ∧ v9.ownBlock ≠ some wr.heap.size ∧ ∀ e ∈ els, e.g ≠ wr.heap.size :=
  ⟨fun e => by have := (h.body.lt _ e).2; omega, fun e => by have := (h.ids.lt _ e).2; omega, fun e => by have := (h.data.lt _ e).2; omega, fun e he => Nat.ne_of_lt (h.rows e he).1.lt⟩
end

end Go.Proofs.YbulkbbrqFmt.Hd
