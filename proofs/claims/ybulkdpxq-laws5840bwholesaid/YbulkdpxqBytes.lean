/-
  Slices of integers that came in or that the call made; 'copy' into a made row; 'append' onto nil; string(b) and []byte(s): as equations on the run that leave a world that is a variable. Whatever the program.
-/
import Derived.Laws.CopyOwn
import Derived.Laws.AppendOwn
import Derived.Laws.BytesArg
import Derived.Lib.ConvBytes
import Derived.Below
import Derived.OpenShut
import Derived.Deep.RegionLaw
namespace Go.Proofs.Ybulkdpxq
open Go.RowKit
set_option linter.unusedVariables false

theorem heap_new (w : World) (o : Obj) : (w.alloc o).heap[w.heap.size]? = some o := by
  show (w.heap.push o)[w.heap.size]? = _
  simp
theorem lt_of_heap {w : World} {b : Nat} {o : Obj} (h : w.heap[b]? = some o) : b < w.heap.size := (Array.getElem?_eq_some_iff.1 h).1
theorem cell_of (w : World) (b : Nat) (cs : Array Value) (t : TypeId) (h : w.heap[b]? = some (.cells cs t (0, 0))) (j : Nat) : w.cell? ⟨b, j, none⟩ = cs[j]? := by
  simp [World.cell?, h]
theorem frozen_of (w : World) (b j : Nat) (cs : Array Value) (t : TypeId) (h : w.heap[b]? = some (.cells cs t (0, 0))) : w.frozen? ⟨b, j, none⟩ = false := by
  simp [World.frozen?, h]
theorem cell_alloc_old {wr : World} {a : Addr} {v : Value} (h : wr.cell? a = some v) (o : Obj) : (wr.alloc o).cell? a = some v :=
  (World.cell?_of_block (Below.heap_alloc _ _ _ (World.block_lt_of_cell? wr a h))).trans h
theorem add_at (b off j : Nat) : (⟨b, off, none⟩ : Addr).add j = ⟨b, off + j, none⟩ := by unfold Addr.add; split <;> simp_all

/-- A slice whose n elements are the first numbers of zs. -/
def IsRow (k : IntKind) (w : World) (a : Option Addr) (n : Nat) (zs : List Int) : Prop :=
  n ≤ zs.length ∧ (0 < n → ∃ b off, a = some ⟨b, off, none⟩ ∧ b < w.heap.size ∧ ∀ i, i < n → w.cell? ⟨b, off + i, none⟩ = some (.int k (zs.getD i 0)))

theorem row_of {w : World} {x : Addr} {len cap : Nat} {zs : List Int} {k : IntKind} (hl : len ≤ cap) (hz : zs.length = cap) (hc : ∀ i, i < zs.length → w.cell? (x.add i) = some (.int k (zs.getD i 0))) : IsRow k w (some x) len zs := by
  refine ⟨by omega, fun h => ?_⟩
  obtain ⟨b, off, rfl, hc'⟩ := ints_at hc (by omega)
  exact ⟨b, off, rfl, World.block_lt_of_cell? w _ (hc' 0 (by omega)), fun i hi => hc' i (by omega)⟩

theorem IsRow.old {k : IntKind} {w w' : World} {a : Option Addr} {n : Nat} {zs : List Int} (h : IsRow k w a n zs) (hb : Below w.heap.size w w') : IsRow k w' a n zs :=
  ⟨h.1, fun h0 => by
    obtain ⟨b, off, e, hlt, hc⟩ := h.2 h0
    exact ⟨b, off, e, Nat.lt_of_lt_of_le hlt hb.size, fun i hi => (hb.cell (p := ⟨b, off + i, none⟩) hlt).trans (hc i hi)⟩⟩
theorem IsRow.kept {k : IntKind} {w w' : World} {a : Option Addr} {n : Nat} {zs : List Int} (h : IsRow k w a n zs) (hc : ∀ x v, w.cell? x = some v → v ≠ .nilIface → w'.cell? x = some v) : IsRow k w' a n zs :=
  ⟨h.1, fun h0 => by
    obtain ⟨b, off, e, hlt, hcc⟩ := h.2 h0
    have e0 := hc _ _ (hcc 0 h0) (by simp)
    exact ⟨b, off, e, World.block_lt_of_cell? w' _ e0, fun i hi => hc _ _ (hcc i hi) (by simp)⟩⟩
theorem IsRow.alloc {k : IntKind} {w : World} {a : Option Addr} {n : Nat} {zs : List Int} (h : IsRow k w a n zs) (o : Obj) : IsRow k (w.alloc o) a n zs :=
  h.kept fun _ _ hx _ => cell_alloc_old hx o
theorem IsRow.drew {k : IntKind} {w : World} {a : Option Addr} {n : Nat} {zs : List Int} (h : IsRow k w a n zs) : IsRow k w.drew a n zs := h

/-- 'copy(dst, src)' into a made row, whole. -/
theorem copy_whole {P : Program} (W : World) (T E ty : TypeId) (hu : P.underlying T = some (.slice E)) (hs : (P.info? E).map (·.size) = some 1) (g n c : Nat) (a0 : Option Addr) (sCap : Nat) (cur : Array Value) (hcur : cur.size = n)
    (hg : W.heap[g]? = some (.cells cur E (0, 0))) (X : List Value) (hX : X.length = n) (h1 : ∀ v ∈ X, v.oneCell' = true) (hsrc : 0 < n → ∃ a, a0 = some a ∧ ∀ j v, X[j]? = some v → W.cell? (a.add j) = some v) :
    ∃ w2, (Builtin.copy_ #[T, T] ty #[.slice (some ⟨g, 0, none⟩) n c, .slice a0 n sCap]).run P W = .ok (.int .i64 (n : Int)) w2 ∧ w2.heap[g]? = some (.cells X.toArray E (0, 0)) ∧ Below g W w2 ∧ w2.heap.size = W.heap.size ∧ ∀ k, k ≠ g → w2.heap[k]? = W.heap[k]? := by
  by_cases h0 : n = 0
  · subst h0
    obtain rfl : X = [] := List.eq_nil_of_length_eq_zero hX
    obtain rfl : cur = #[] := Array.eq_empty_of_size_eq_zero hcur
    exact ⟨W, run_copy_none W T T ty E _ _ _ _ _ _ hu hs rfl, hg, Below.refl _ _, rfl, fun _ _ => rfl⟩
  · obtain ⟨a, rfl, hc⟩ := hsrc (by omega)
    have hr := run_copy_row P W T T ty E g 0 n c a n sCap cur E X hu hs hg (by rw [hX]; simp) hc (by omega) h1
    have e : (cur.toList.take 0 ++ X ++ cur.toList.drop (0 + X.length)) = X := by
      rw [List.drop_eq_nil_of_le (by simp; omega)]; simp
    rw [e, hX] at hr
    refine ⟨_, hr, setRow_heap W g _ _ E _ hg, below_setRow (Below.refl _ _) (Nat.le_refl _) _, by simp [World.setRow], fun k hk => setRow_other W g k _ hk⟩

theorem length_ints (k : IntKind) (n : Nat) (zs : List Int) (h : n ≤ zs.length) : ((zs.take n).map (Value.int k)).length = n := by simp; omega
theorem get_ints (k : IntKind) (n : Nat) (zs : List Int) (h : n ≤ zs.length) {j : Nat} {v : Value} (hv : ((zs.take n).map (Value.int k))[j]? = some v) : j < n ∧ v = .int k (zs.getD j 0) := by
  have hj : j < n := by rw [← length_ints k n zs h]; exact (List.getElem?_eq_some_iff.1 hv).1
  rw [List.getElem?_map, List.getElem?_take, if_pos hj, List.getElem?_eq_getElem (by omega)] at hv
  rw [List.getD_eq_getElem?_getD, List.getElem?_eq_getElem (by omega)]
  exact ⟨hj, by simpa using hv.symm⟩
theorem at_ints (k : IntKind) (n : Nat) (zs : List Int) (h : n ≤ zs.length) {j : Nat} (hj : j < n) : ((zs.take n).map (Value.int k))[j]? = some (.int k (zs.getD j 0)) := by
  rw [List.getElem?_map, List.getElem?_take, if_pos hj, List.getElem?_eq_getElem (by omega), List.getD_eq_getElem?_getD, List.getElem?_eq_getElem (by omega)]
  rfl

/-- The whole of a slice of integers copied into the row that was made last. -/
theorem copied {P : Program} (T E ty : TypeId) (k : IntKind) (hu : P.underlying T = some (.slice E)) (hs : (P.info? E).map (·.size) = some 1) (w : World) (n cap : Nat) (a0 : Option Addr) (zs : List Int) (hrow : IsRow k w a0 n zs) (cur : Array Value) (hcur : cur.size = n) :
    ∃ w2, (Builtin.copy_ #[T, T] ty #[.slice (some ⟨w.heap.size, 0, none⟩) n n, .slice a0 n cap]).run P (w.alloc (.cells cur E)) = .ok (.int .i64 (n : Int)) w2 ∧
      w2.heap[w.heap.size]? = some (.cells ((zs.take n).map (Value.int k)).toArray E (0, 0)) ∧ Below w.heap.size w w2 ∧ w2.heap.size = w.heap.size + 1 := by
  obtain ⟨w2, hr, hG, hB, hS, hO⟩ := copy_whole (P := P) (w.alloc (.cells cur E)) T E ty hu hs w.heap.size n n a0 cap cur hcur (heap_new _ _) ((zs.take n).map (Value.int k)) (length_ints k n zs hrow.1)
    (by intro v hv; obtain ⟨z, _, rfl⟩ := List.mem_map.1 hv; rfl)
    (fun h0 => by
      obtain ⟨b, off, rfl, hbl, hc⟩ := hrow.2 h0
      refine ⟨_, rfl, fun j v hv => ?_⟩
      obtain ⟨hj, rfl⟩ := get_ints k n zs hrow.1 hv
      rw [add_at]
      exact cell_alloc_old (hc j hj) _)
  exact ⟨w2, hr, hG, ((Below.refl _ _).alloc (Nat.le_refl _) _).trans hB, by rw [hS]; simp⟩

/-- A made row, read. -/
theorem row_made {k : IntKind} {w : World} {g n : Nat} {zs : List Int} {E : TypeId} (h : w.heap[g]? = some (.cells ((zs.take n).map (Value.int k)).toArray E (0, 0))) (hz : n ≤ zs.length) : IsRow k w (some ⟨g, 0, none⟩) n zs :=
  ⟨hz, fun _ => ⟨g, 0, rfl, lt_of_heap h, fun i hi => by rw [cell_of _ _ _ _ h, Nat.zero_add]; simpa using at_ints k n zs hz hi⟩⟩

/-- 'append(nil, src...)': a row of the call's own, or nil where there is nothing. -/
theorem app_fresh {P : Program} (T E ty : TypeId) (k : IntKind) (hu : P.underlying T = some (.slice E)) (hi : (P.info? E).map (fun i => (i.zero, i.size, i.bytes)) = some (some (.int k 0), 1, 1)) (W : World) (n cap : Nat) (a0 : Option Addr) (zs : List Int) (hrow : IsRow k W a0 n zs) (hn : n ≤ 2147483648) :
    ∃ ga c w', (Builtin.append_ #[T, T] ty #[.slice none 0 0, .slice a0 n cap]).run P W = .ok (.slice ga n c) w' ∧ Below W.heap.size W w' ∧ ((ga = none ∧ n = 0 ∧ c = 0) ∨ ∃ g cur, ga = some ⟨g, 0, none⟩ ∧ W.heap.size ≤ g ∧ w'.heap[g]? = some (.cells cur E (0, 0)) ∧ n ≤ c ∧ cur.size = c ∧ cur.toList.take n = (zs.take n).map (Value.int k)) := by
  obtain ⟨i, h2, h3, h4, h5⟩ := info_parts hi
  by_cases h0 : n = 0
  · subst h0
    refine ⟨none, 0, W, ?_, Below.refl _ _, .inl ⟨rfl, rfl, rfl⟩⟩
    cases a0 <;> simp [Builtin.append_, run_underlying hu, sizeOf, typeInfo, h2, Builtin.lenOf, Builtin.firstCells, loadCells, loadCellsFrom]
  · obtain ⟨b, off, rfl, hb, hc⟩ := hrow.2 (by omega)
    obtain ⟨v', w', hr, ho, hg, hv⟩ := run_append_own (P := P) W W.heap.size T ty E i (.int k 0) 1 1 hu h2 h3 h4 h5 rfl (by decide) (.slice none 0 0) 0 [] (World.ownsRow_nil W _ E 1) ⟨b, off, none⟩ n cap ((zs.take n).map (Value.int k)) (by rw [length_ints k n zs hrow.1]; omega)
      (fun j v hj => by obtain ⟨hjn, rfl⟩ := get_ints k n zs hrow.1 hj; rw [add_at]; exact hc j hjn) (by intro v hv; obtain ⟨z, _, rfl⟩ := List.mem_map.1 hv; rfl) (by simp only [maxLen]; omega) (by omega) (Nat.le_refl _)
    rcases ho.2 with ⟨_, h00⟩ | ⟨g, c, cur, rfl, hgb, hgg, hnc, _, hcs, ht⟩
    · omega
    · simp only [Nat.zero_add, List.nil_append, Nat.mul_one] at hr hnc hcs ht
      exact ⟨_, c, w', hr, (Below.refl _ _).grown hg (Nat.le_refl _) (fun k hk => by simp [Value.ownBlock] at hk), .inr ⟨g, cur, rfl, hgb, hgg, hnc, hcs, ht⟩⟩

/-- Whatever append's run is known to be, as one step of a region that draws. -/
theorem step_append_run {P : Program} {ops : Array Oper} {o : Oper} {a : Act} {w : World} {K : Act → World → Prop} {Q : Exit → Act → World → Prop} {E : Prop} (hg : o.guard = none) (s x : Operand) (t : TypeId)
    (hop : o.op = Op.call { callee := Callee.builtin Builtin.append, args := #[s, x], argTypes := #[t, t] }) {v1 v2 v' : Value} {w' : World} (hs : a.eval s = v1) (hx : a.eval x = v2) (hrun : (Builtin.append_ #[t, t] o.type #[v1, v2]).run P w = .ok v' w')
    (hK : K (a.put o.dst v') w') : if Region.wanted o (yielded ops a.tmps) = true then Oper.wp P o a w K Q else E := by
  have hw : Region.wanted o (yielded ops a.tmps) = true := by simp [Region.wanted, hg]
  rw [if_pos hw]
  unfold Oper.wp
  simp [execOp, hop, resolve, invoke, builtin, hs, hx, hrun, Result.andThen]
  exact hK

/-- string(b), b of the call's own or with its elements known. -/
theorem conv_string {P : Program} (T E S : TypeId) (hu : P.underlying T = some (.slice E)) (he : P.underlying E = some (.int .u8)) (hs : P.underlying S = some .string) (w : World) (ga : Option Addr) (n c : Nat) (zs : List Int) (hz : n ≤ zs.length)
    (h : (ga = none ∧ n = 0) ∨ ∃ b off, ga = some ⟨b, off, none⟩ ∧ ∀ i, i < n → w.cell? ⟨b, off + i, none⟩ = some (.int .u8 (zs.getD i 0))) :
    (convert T S (.slice ga n c)).run P w = .ok (.string (strOfNums (zs.take n))) w := by
  rcases h with ⟨rfl, rfl⟩ | ⟨b, off, rfl, hc⟩
  · exact run_convert_bytes_nil w T E hu he 0 c S hs
  · exact run_convert_bytes_arg w T E hu he b off n c (zs.take n) (by simp; omega) (fun i hi => by rw [hc i hi, List.getD_eq_getElem?_getD, List.getD_eq_getElem?_getD, List.getElem?_take, if_pos hi]) S hs

theorem below_bytesWorld (w : World) (e : TypeId) (s : ByteArray) : Below w.heap.size w (Lib.bytesWorld w e s) :=
  ⟨rfl, rfl, rfl, by rw [Lib.bytesWorld_size]; omega, fun k hk => Lib.bytesWorld_at_old w e s k hk⟩

/-- []byte(s) of a string that was made so. -/
theorem row_bytesWorld (w : World) (e : TypeId) (n : Nat) (zs : List Int) (hz : n ≤ zs.length) (hb : ∀ i, i < n → 0 ≤ zs.getD i 0 ∧ zs.getD i 0 ≤ 255) : IsRow .u8 (Lib.bytesWorld w e (strOfNums (zs.take n))) (some ⟨w.heap.size, 0, none⟩) n zs := by
  refine ⟨hz, fun h0 => ⟨_, _, rfl, by rw [Lib.bytesWorld_size]; omega, fun i hi => ?_⟩⟩
  rw [Nat.zero_add, Lib.bytesWorld_cell w e _ i (by rw [strOfNums_size]; simp; omega), strOfNums_data, List.getD_eq_getElem?_getD, List.getElem?_map, List.getElem?_take, if_pos hi, List.getElem?_eq_getElem (by omega)]
  have hbi := hb i hi
  rw [List.getD_eq_getElem?_getD, List.getElem?_eq_getElem (by omega)] at hbi
  rw [List.getD_eq_getElem?_getD, List.getElem?_eq_getElem (by omega)]
  simp at hbi ⊢
  omega
end Go.Proofs.Ybulkdpxq
