/-
  'slices.Sorted(maps.Keys(m))' AT THIS DUMP: the shelf's contracts, each one application (written by the kit's lay-iter.mjs for this program; its laying lines stand in plain words in YbulkbbtgFmtLays.lean).
-/
import Derived.Test.YbulkbbtgFmtLays
namespace Go.Proofs
open Go.RowKit Go.Maps Go.Sort Go.Shelf


/-- slices.Sort's two contracts at this dump, at the fence that asks nothing. -/
theorem Ybaf.sorts9 (m : Nat) : AnyZ.SortsIn Ybaf.prog Ybaf.sorted9_ren Fence.wide m :=
  ⟨fun blk off cap ss W hH hblk hsz => callsIn_wide.2 (AnyM.slices_Sort_string Ybaf.sort16 blk off cap ss W hH hblk hsz),
   fun p cap W => callsIn_wide.2 (AnyM.slices_Sort_string_none Ybaf.sort16 p cap W)⟩

/-- **maps.Keys[map[string]any,string,any], at whatever map, the nil one too:** a function value over ONE NEW BLOCK, which holds the map. -/
theorem Ybaf.maps_Keys_10 (mb : Option Nat) (W : World) : CallsIn Fence.wide 5 Ybaf.prog 10 #[.map mb] W fun e w' => e = .returned (.func (.func 17) #[] #[.pointer (some ⟨W.heap.size, 0, none⟩)]) ∧ w' = W.alloc (.cells #[.map mb] 30) :=
  AnyZ.keys_in Ybaf.keys10 Fence.wide 5 trivial rfl mb W

set_option maxHeartbeats 1000000 in
/-- **slices.Sorted[string] AT WHAT maps.Keys[map[string]any,string,any] HANDED BACK FOR A MAP THAT IS NOT nil** ('w': the world AHEAD of maps.Keys' call): A NEW SLICE THAT HOLDS THE MAP's KEYS, SORTED; nil just where it has none; nothing that lay before has turned. -/
theorem Ybaf.slices_Sorted_keys_9_10 {H : Type} (b nn : Nat) (D0 : DataW H) (R : Value → Option (DataW H × List MemPlace)) (w : World) (hown : w.ownsMap Ybaf.prog 9 R b nn D0) (hmax : Maps.size D0 ≤ maxLen) (hbytes : Maps.size D0 * 16 ≤ 140737488355328) :
    CallsIn Fence.wide 5 Ybaf.prog 9 #[.func (.func 17) #[] #[.pointer (some ⟨w.heap.size, 0, none⟩)]] (w.alloc (.cells #[.map (some b)] 30)) fun e w' => ∃ (v : Value) (ss : List (List UInt8)), e = .returned v ∧ ss.Perm (strKeys D0) ∧
      w'.ownsRow (w.alloc (.cells #[.map (some b)] 30)).heap.size 9 1 v ss.length ((ss.mergeSort (fun x y => decide (x ≤ y))).map encStr) ∧ (v = .slice none 0 0 ↔ ss = []) ∧ Below (w.alloc (.cells #[.map (some b)] 30)).heap.size (w.alloc (.cells #[.map (some b)] 30)) w' := by
  have hbl := hown.lt
  have hseq : SeqGives Fence.wide 2 Ybaf.prog 17 #[.pointer (some ⟨w.heap.size, 0, none⟩)] encStr (fun ss => ss.Perm (strKeys D0)) (Maps.size D0) (w.alloc (.cells #[.map (some b)] 30)) :=
    AnyZ.keys_gives (ρ := Ybaf.keys10_ren) { Ybaf.keys10 with } Fence.wide _ trivial rfl (by omega) w.heap.size b nn D0 _ (by simp) (by simp) (by
      obtain ⟨es, clock, hb, Ft, hs, hD⟩ := hown
      exact ⟨es, clock, (Below.heap_alloc _ _ b hbl).trans hb, Ft, hs, hD⟩)
  exact AnyZ.sorted_in Ybaf.sorted9 Fence.wide 5 trivial trivial trivial trivial rfl (by omega) (Ybaf.sorts9 _) (enters_of Ybaf.func16 (by kernel_rfl) rfl) 17 #[.pointer (some ⟨w.heap.size, 0, none⟩)] trivial (enters_of Ybaf.func17 (by kernel_rfl) rfl) _ _ hmax hbytes _ hseq

end Go.Proofs
