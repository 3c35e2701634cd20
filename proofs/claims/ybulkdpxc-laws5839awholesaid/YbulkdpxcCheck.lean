/-
  '(*handshakes).checking' by blocks: the receiver's block reads as it did; h's 'checking' is set; nothing else turns.
-/
import Derived.Test.YbulkdpxcLocks
import Derived.Test.YbulkdpxcHeld
import Derived.Laws.Rows
namespace Go.Proofs.Ybulkdpxc
open Go.RowKit

theorem frozen_of (w : World) (b j : Nat) (cs : Array Value) (t : TypeId) (h : w.heap[b]? = some (.cells cs t (0, 0))) : w.frozen? ⟨b, j, none⟩ = false := by
  simp [World.frozen?, h]

theorem checking_heap (s hb : Nat) (c ev : Bool) (x1 x2 x3 x4 : Value) (W : World) (h1 : W.heap[s]? = some (.cells #[.int .i32 0, x1, x2, x3, x4] 46 (0, 0))) (h2 : W.heap[hb]? = some (.cells (hand c ev) 31 (0, 0))) (hne : ¬ s = hb) :
    Calls Yba.prog 5 #[.pointer (some ⟨s, 0, none⟩), .pointer (some ⟨hb, 0, none⟩)] W fun e w' => e = .returned (.bool (!ev)) ∧ w'.heap[s]? = some (.cells #[.int .i32 0, x1, x2, x3, x4] 46 (0, 0)) ∧ w'.heap[hb]? = some (.cells (hand true ev) 31 (0, 0)) ∧
      (∀ k, k ≠ hb → k ≠ s → w'.heap[k]? = W.heap[k]?) ∧ (∀ B0, B0 ≤ s → B0 ≤ hb → Below B0 W w') := by
  refine (checking_any s hb c ev W (cell_of _ _ _ _ h1 0) (frozen_of _ _ _ _ _ h1) (cell_of _ _ _ _ h2 4) (frozen_of _ _ _ _ _ h2) (cell_of _ _ _ _ h2 5) hne).mono ?_
  rintro e w' ⟨rfl, rfl⟩
  have e1 := heap_setCell_same W s 0 _ _ (.int .i32 1) h1
  have e2 : (W.setCell ⟨s, 0, none⟩ (.int .i32 1)).heap[hb]? = some (.cells (hand c ev) 31 (0, 0)) := (heap_setCell_other W ⟨s, 0, none⟩ hb _ (fun e => hne e.symm)).trans h2
  have e3 := heap_setCell_same _ hb 4 _ _ (.bool true) e2
  have e4 := (heap_setCell_other (W.setCell ⟨s, 0, none⟩ (.int .i32 1)) ⟨hb, 4, none⟩ s (.bool true) hne).trans e1
  have e5 := heap_setCell_same _ s 0 _ _ (.int .i32 0) e4
  refine ⟨rfl, e5, (heap_setCell_other _ ⟨s, 0, none⟩ hb _ (fun e => hne e.symm)).trans e3, fun k k1 k2 => ?_, fun B0 b1 b2 => ?_⟩
  · rw [heap_setCell_other _ ⟨s, 0, none⟩ k _ k2, heap_setCell_other _ ⟨hb, 4, none⟩ k _ k1, heap_setCell_other _ ⟨s, 0, none⟩ k _ k2]
  · exact (((Below.refl B0 W).setCell (p := ⟨s, 0, none⟩) b1 _).setCell (p := ⟨hb, 4, none⟩) b2 _).setCell (p := ⟨s, 0, none⟩) b1 _
end Go.Proofs.Ybulkdpxc
