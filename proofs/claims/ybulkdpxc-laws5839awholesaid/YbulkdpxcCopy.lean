/-
  'copy(dst, src)' into a row that the call itself made, whole: as an equation on the run that leaves A WORLD THAT IS A VARIABLE: laid ahead of the walk as a hypothesis. Whatever the program.
-/
import Derived.Laws.CopyOwn
import Derived.Below
namespace Go.Proofs.Ybulkdpxc
open Go.RowKit

theorem copy_whole {P : Program} (W : World) (T E ty : TypeId) (hu : P.underlying T = some (.slice E)) (hs : (P.info? E).map (·.size) = some 1) (g n c : Nat) (a0 : Option Addr) (sCap : Nat) (cur : Array Value) (hcur : cur.size = n)
    (hg : W.heap[g]? = some (.cells cur E (0, 0))) (X : List Value) (hX : X.length = n) (h1 : ∀ v ∈ X, v.oneCell' = true) (hsrc : 0 < n → ∃ a, a0 = some a ∧ ∀ j v, X[j]? = some v → W.cell? (a.add j) = some v) :
    ∃ w2, (Builtin.copy_ #[T, T] ty #[.slice (some ⟨g, 0, none⟩) n c, .slice a0 n sCap]).run P W = .ok (.int .i64 (n : Int)) w2 ∧ w2.heap[g]? = some (.cells X.toArray E (0, 0)) ∧ Below g W w2 ∧ w2.heap.size = W.heap.size ∧ ∀ k, k ≠ g → w2.heap[k]? = W.heap[k]? := by
  by_cases h0 : n = 0
  · subst h0
    obtain rfl : X = [] := List.eq_nil_of_length_eq_zero hX
    obtain rfl : cur = #[] := Array.eq_empty_of_size_eq_zero hcur
    exact ⟨W, run_copy_none W T T ty E _ _ _ _ _ _ hu hs rfl, hg, Below.refl _ _, rfl, fun _ _ => rfl⟩
  · obtain ⟨a, rfl, hc⟩ := hsrc (by omega)
    have hr := run_copy_row P W T T ty E g 0 n c a n sCap cur E X hu hs hg (by rw [hX]; simp) hc (by omega) h1
    have e : (cur.toList.take 0 ++ X ++ cur.toList.drop (0 + X.length)) = X := by
      rw [List.drop_eq_nil_of_le (by simp; omega)]; simp
    rw [e, hX] at hr
    refine ⟨_, hr, setRow_heap W g _ _ E _ hg, below_setRow (Below.refl _ _) (Nat.le_refl _) _, by simp [World.setRow], fun k hk => setRow_other W g k _ hk⟩
theorem heap_new (w : World) (o : Obj) : (w.alloc o).heap[w.heap.size]? = some o := by
  show (w.heap.push o)[w.heap.size]? = _
  simp

theorem cell_of (w : World) (b : Nat) (cs : Array Value) (t : TypeId) (h : w.heap[b]? = some (.cells cs t (0, 0))) (j : Nat) : w.cell? ⟨b, j, none⟩ = cs[j]? := by
  simp [World.cell?, h]

/-- Behind two boxes: a row is made and a slice that came in is copied into it, whole. -/
theorem copied {P : Program} (T E ty : TypeId) (k : IntKind) (hu : P.underlying T = some (.slice E)) (hs : (P.info? E).map (·.size) = some 1) (w : World) (A B : Obj) (n cap : Nat) (a0 : Option Addr) (zs : List Int) (hz : n ≤ zs.length)
    (hrow : 0 < n → ∃ b off, a0 = some ⟨b, off, none⟩ ∧ b < w.heap.size ∧ ∀ i, i < n → w.cell? ⟨b, off + i, none⟩ = some (.int k (zs.getD i 0))) (cur : Array Value) (hcur : cur.size = n) :
    ∃ w2, (Builtin.copy_ #[T, T] ty #[.slice (some ⟨w.heap.size + 1 + 1, 0, none⟩) n n, .slice a0 n cap]).run P (((w.alloc A).alloc B).alloc (.cells cur E)) = .ok (.int .i64 (n : Int)) w2 ∧
      w2.heap[w.heap.size]? = some A ∧ w2.heap[w.heap.size + 1]? = some B ∧ (∀ i, i < n → w2.cell? ⟨w.heap.size + 1 + 1, i, none⟩ = some (.int k (zs.getD i 0))) ∧ Below w.heap.size w w2 ∧ w2.heap.size = w.heap.size + 3 := by
  have s1 : (w.alloc A).heap.size = w.heap.size + 1 := by simp
  have s2 : ((w.alloc A).alloc B).heap.size = w.heap.size + 1 + 1 := by simp
  have hb : Below w.heap.size w (((w.alloc A).alloc B).alloc (.cells cur E)) := (((Below.refl _ _).alloc (Nat.le_refl _) _).alloc (by simp) _).alloc (by simp; omega) _
  have hX : ((zs.take n).map (Value.int k)).length = n := by simp; omega
  have hg : (((w.alloc A).alloc B).alloc (.cells cur E)).heap[w.heap.size + 1 + 1]? = some (.cells cur E) := by rw [← s2]; exact heap_new _ _
  obtain ⟨w2, hr, hG, hB, hS, hO⟩ := copy_whole (P := P) (((w.alloc A).alloc B).alloc (.cells cur E)) T E ty hu hs (w.heap.size + 1 + 1) n n a0 cap cur hcur hg ((zs.take n).map (Value.int k)) hX
    (by intro v hv; obtain ⟨z, _, rfl⟩ := List.mem_map.1 hv; rfl)
    (fun h0 => by
      obtain ⟨b, off, rfl, hbl, hc⟩ := hrow h0
      refine ⟨_, rfl, fun j v hv => ?_⟩
      have hj : j < n := by rw [← hX]; exact (List.getElem?_eq_some_iff.1 hv).1
      have e : (⟨b, off, none⟩ : Addr).add j = ⟨b, off + j, none⟩ := by unfold Addr.add; split <;> simp_all
      rw [e, hb.cell (p := ⟨b, off + j, none⟩) hbl, hc j hj]
      rw [List.getElem?_map, List.getElem?_take, if_pos hj, List.getElem?_eq_getElem (by omega)] at hv
      rw [List.getD_eq_getElem?_getD, List.getElem?_eq_getElem (by omega)]
      simpa using hv)
  refine ⟨w2, hr, ?_, ?_, fun i hi => ?_, hb.trans (hB.mono (by omega)), by rw [hS]; simp⟩
  · rw [hO _ (by omega), Below.heap_alloc _ _ _ (by simp; omega), Below.heap_alloc _ _ _ (by simp)]
    exact heap_new _ _
  · rw [hO _ (by omega), Below.heap_alloc _ _ _ (by simp), ← s1]
    exact heap_new _ _
  · rw [cell_of _ _ _ _ hG]
    rw [List.getElem?_toArray, List.getElem?_map, List.getElem?_take, if_pos hi, List.getElem?_eq_getElem (by omega), List.getD_eq_getElem?_getD, List.getElem?_eq_getElem (by omega)]
    rfl
end Go.Proofs.Ybulkdpxc
