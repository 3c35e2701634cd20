/-
  The list 'held' of LawS5839AWhole: handshakes of the call's own, a block each; the slice of pointers to them, appended to; what the loop keeps.
-/
import Derived.Test.YbulkdpxcCopy
import Derived.Test.YbulkdpxcRows
import Derived.WalkKit
import Derived.WalkSpells
import Derived.OwnWalk
import Derived.Deep.RegionLaw
import Derived.WalkSmall
import Derived.KernelRfl
namespace Go.Proofs.Ybulkdpxc
open Go.RowKit
set_option linter.unusedVariables false

/-- A handshake's cells. -/
def hand (c e : Bool) : Array Value := #[.nilIface, .int .u64 0, .int .i64 0, .pointer none, .bool c, .bool e]
def ptr (b : Nat) : Value := .pointer (some ⟨b, 0, none⟩)

/-- h at place q, once it has been put there (k rounds are done). -/
def lst (q hb k : Nat) (B : List Nat) : List Nat := if q < k then B.take q ++ hb :: B.drop q else B

theorem lst_zero (q hb : Nat) : lst q hb 0 [] = [] := by simp [lst]
/-- a round that puts h, then the k-th other. -/
theorem lst_both (hb k b : Nat) (B : List Nat) (h : B.length = k) : lst k hb (k + 1) (B ++ [b]) = lst k hb k B ++ [hb] ++ [b] := by
  subst h; simp [lst]
/-- the last round, where h comes last. -/
theorem lst_only (hb k : Nat) (B : List Nat) (h : B.length = k) : lst k hb (k + 1) B = lst k hb k B ++ [hb] := by
  subst h; simp [lst]
/-- a round that puts the k-th other alone. -/
theorem lst_other (q hb k b : Nat) (B : List Nat) (h : B.length = k) (hq : k ≠ q) : lst q hb (k + 1) (B ++ [b]) = lst q hb k B ++ [b] := by
  subst h
  unfold lst
  by_cases h1 : q < B.length
  · rw [if_pos h1, if_pos (by omega), List.take_append_of_le_length (by omega), List.drop_append_of_le_length (by omega)]; simp
  · rw [if_neg h1, if_neg (by omega)]
/-- the last round, nothing put. -/
theorem lst_none (q hb k : Nat) (B : List Nat) (hq : k ≠ q) : lst q hb (k + 1) B = lst q hb k B := by
  unfold lst
  by_cases h1 : q < k
  · rw [if_pos h1, if_pos (by omega)]
  · rw [if_neg h1, if_neg (by omega)]
theorem lst_both' (q hb k b : Nat) (B : List Nat) (h : B.length = k) (e : k = q) : lst q hb (k + 1) (B ++ [b]) = lst q hb k B ++ [hb] ++ [b] := by
  subst e; exact lst_both hb k b B h
theorem lst_only' (q hb k : Nat) (B : List Nat) (h : B.length = k) (e : k = q) : lst q hb (k + 1) B = lst q hb k B ++ [hb] := by
  subst e; exact lst_only hb k B h
theorem length_lst_put (q hb k : Nat) (B : List Nat) (h : q < k) (hq : q ≤ B.length) : (lst q hb k B).length = B.length + 1 := by
  unfold lst; rw [if_pos h]; simp; omega
theorem length_lst_not (q hb k : Nat) (B : List Nat) (h : ¬ q < k) : (lst q hb k B).length = B.length := by
  unfold lst; rw [if_neg h]
/-- which of the others is at place i. -/
def jj (q i : Nat) : Nat := if q < i then i - 1 else i
theorem jj_zero (q : Nat) : jj q 0 = 0 := by unfold jj; split <;> omega
theorem jj_succ (q i : Nat) (h : i ≠ q) : jj q (i + 1) = jj q i + 1 := by unfold jj; split <;> split <;> omega
theorem jj_at (q : Nat) : jj q (q + 1) = jj q q := by unfold jj; rw [if_pos (by omega), if_neg (by omega)]; omega
theorem lst_get (q hb k i : Nat) (B : List Nat) (hq : q < k → q ≤ B.length) (hnq : ¬ q < k → B.length ≤ q) (hi : i < (lst q hb k B).length) (hiq : i ≠ q) : (lst q hb k B)[i]? = B[jj q i]? ∧ jj q i < B.length := by
  unfold lst at hi ⊢
  by_cases h : q < k
  · have hq' := hq h
    rw [if_pos h] at hi ⊢
    simp at hi
    unfold jj
    by_cases h1 : q < i
    · rw [if_pos h1, List.getElem?_append_right (by simp; omega)]
      have e : i - (B.take q).length = (i - q - 1) + 1 := by simp; omega
      rw [e, List.getElem?_cons_succ, List.getElem?_drop]
      exact ⟨by congr 1; omega, by omega⟩
    · rw [if_neg h1, List.getElem?_append_left (by simp; omega), List.getElem?_take, if_pos (by omega)]
      exact ⟨rfl, by omega⟩
  · rw [if_neg h] at hi ⊢
    have hl := hnq h
    unfold jj
    rw [if_neg (by omega)]
    exact ⟨rfl, hi⟩
theorem length_lst (q hb k : Nat) (B : List Nat) : (lst q hb k B).length ≤ B.length + 1 := by
  unfold lst; split <;> simp <;> omega

/-- WHAT THE LOOP KEEPS: L: the blocks that 'held' points to; B: the others' blocks; v: the slice. -/
structure Inv1 (w : World) (cs es : Nat → Bool) (c ev : Bool) (L B : List Nat) (v : Value) (wr : World) : Prop where
  own : wr.ownsRow (w.heap.size + 1) 23 1 v L.length (L.map ptr)
  hh : wr.heap[w.heap.size]? = some (.cells (hand c ev) 31)
  bs : ∀ j b, B[j]? = some b → w.heap.size < b ∧ wr.heap[b]? = some (.cells (hand (cs j) (es j)) 31)
  bel : Below w.heap.size w wr

variable {w : World} {cs es : Nat → Bool} {c ev : Bool} {L B : List Nat} {v : Value} {wr : World}

theorem lt_of_heap {w : World} {b : Nat} {o : Obj} (h : w.heap[b]? = some o) : b < w.heap.size := (Array.getElem?_eq_some_iff.1 h).1

theorem Inv1.start (w : World) (cs es : Nat → Bool) (c ev : Bool) : Inv1 w cs es c ev [] [] (.slice none 0 0) (w.alloc (.cells (hand c ev) 31)) :=
  ⟨World.ownsRow_nil _ _ _ _, heap_new w _, fun j b h => by simp at h, (Below.refl _ _).alloc (Nat.le_refl _) _⟩

theorem Inv1.alloc (h : Inv1 w cs es c ev L B v wr) (o : Obj) : Inv1 w cs es c ev L B v (wr.alloc o) :=
  ⟨h.own.alloc o, (Below.heap_alloc _ _ _ (lt_of_heap h.hh)).trans h.hh, fun j b hj => ⟨(h.bs j b hj).1, (Below.heap_alloc _ _ _ (lt_of_heap (h.bs j b hj).2)).trans (h.bs j b hj).2⟩, h.bel.alloc h.bel.size _⟩

theorem Inv1.drew (h : Inv1 w cs es c ev L B v wr) : Inv1 w cs es c ev L B v wr.drew := ⟨h.own, h.hh, h.bs, h.bel.drew⟩

theorem Inv1.other (h : Inv1 w cs es c ev L B v wr) {b : Nat} (hb : w.heap.size < b) (hc : wr.heap[b]? = some (.cells (hand (cs B.length) (es B.length)) 31)) : Inv1 w cs es c ev L (B ++ [b]) v wr := by
  refine ⟨h.own, h.hh, fun j x hj => ?_, h.bel⟩
  by_cases hlt : j < B.length
  · rw [List.getElem?_append_left hlt] at hj
    exact h.bs j x hj
  · rw [List.getElem?_append_right (by omega)] at hj
    obtain ⟨hj1, hj2⟩ := List.getElem?_eq_some_iff.1 hj
    simp at hj1
    obtain rfl : j = B.length := by omega
    simp at hj2
    subst hj2
    exact ⟨hb, hc⟩

/-- a handshake's block is not the slice's row. -/
theorem Inv1.apart (h : Inv1 w cs es c ev L B v wr) {b : Nat} {hs : Array Value} (hb : wr.heap[b]? = some (.cells hs 31)) : some b ≠ v.ownBlock := by
  intro e
  rcases h.own.2 with ⟨rfl, _⟩ | ⟨g, cap, cur, rfl, _, hg, _⟩
  · simp [Value.ownBlock] at e
  · simp [Value.ownBlock] at e
    subst e
    rw [hg] at hb
    simp at hb

theorem Inv1.push (h : Inv1 w cs es c ev L B v wr) {w' : World} {v' : Value} {b : Nat} (ho : w'.ownsRow (w.heap.size + 1) 23 1 v' (L.length + 1) (L.map ptr ++ [ptr b])) (hg : wr.grownBy w' v.ownBlock) : Inv1 w cs es c ev (L ++ [b]) B v' w' := by
  refine ⟨by simpa using ho, (hg.block _ (lt_of_heap h.hh) (h.apart h.hh)).trans h.hh, fun j x hj => ⟨(h.bs j x hj).1, (hg.block _ (lt_of_heap (h.bs j x hj).2) (h.apart (h.bs j x hj).2)).trans (h.bs j x hj).2⟩, h.bel.grown hg h.bel.size fun k hk => ?_⟩
  have := (h.own.lt k hk).1
  omega

/-- A new handshake boxed, its pointer in a row of one, a draw: as the region leaves the world ahead of the append. -/
theorem Inv1.boxed (h : Inv1 w cs es c ev L B v wr) {k : Nat} (hk : B.length = k) : Inv1 w cs es c ev L (B ++ [wr.heap.size]) v ((wr.alloc (.cells (hand (cs k) (es k)) 31)).alloc (.cells #[ptr wr.heap.size] 23)).drew := by
  subst hk
  exact (((h.alloc _).other (lt_of_heap h.hh) (heap_new wr _)).alloc _).drew
theorem boxed_cell (wr : World) (o : Obj) (x : Value) (t : TypeId) : ((wr.alloc o).alloc (.cells #[x] t)).drew.cell? ⟨wr.heap.size + 1, 0, none⟩ = some x := by
  have e : wr.heap.size + 1 = (wr.alloc o).heap.size := by simp
  show ((wr.alloc o).alloc (.cells #[x] t)).cell? ⟨wr.heap.size + 1, 0, none⟩ = some x
  rw [e, cell_of _ _ _ _ (heap_new _ _)]
  rfl

theorem info23 : (Yba.prog.info? 23).map (fun i => (i.zero, i.size, i.bytes)) = some (some (.pointer none), 1, 8) := by kernel_rfl

/-- THE APPEND OF ONE POINTER, in a region that draws. -/
theorem step_push {ops : Array Oper} {o : Oper} {a : Act} {W : World} {K : Act → World → Prop} {Q : Exit → Act → World → Prop} {E : Prop} (hgd : o.guard = none) (s x : Operand)
    (hop : o.op = Op.call { callee := Callee.builtin Builtin.append, args := #[s, x], argTypes := #[32, 32] }) (h : Inv1 w cs es c ev L B v W) (hs : a.eval s = v) (g b : Nat) (hx : a.eval x = .slice (some ⟨g, 0, none⟩) 1 1)
    (hc : W.cell? ⟨g, 0, none⟩ = some (ptr b)) (hl : L.length ≤ 2097152) (hK : ∀ v' w', Inv1 w cs es c ev (L ++ [b]) B v' w' → K (a.put o.dst v') w') :
    if Region.wanted o (yielded ops a.tmps) = true then Oper.wp Yba.prog o a W K Q else E := by
  have hw : Region.wanted o (yielded ops a.tmps) = true := by simp [Region.wanted, hgd]
  rw [if_pos hw]
  obtain ⟨i, hi, hz, h1, h2⟩ := info_parts info23
  refine wp_append_own (P := Yba.prog) W s x 32 hop (w.heap.size + 1) 23 i _ 1 8 Yba.underlying32 hi hz h1 h2 rfl (by decide) v L.length (L.map ptr) hs h.own ⟨g, 0, none⟩ 1 1 [ptr b] hx rfl ?_ ?_ ?_ ?_ ?_ ?_
  · intro j u hu
    obtain ⟨hj1, hj2⟩ := List.getElem?_eq_some_iff.1 hu
    simp at hj1
    subst hj1
    simp at hj2
    subst hj2
    exact hc
  · intro u hu
    simp at hu
    subst hu
    rfl
  · simp only [maxLen]; omega
  · omega
  · exact lt_of_heap h.hh
  · intro v' w' ho hg _
    exact hK v' w' (h.push ho hg)

/-- .. and outside one. -/
theorem wpList_push {ops : Array Oper} {rest : List Oper} {o : Oper} {a : Act} {W : World} {Q : Exit → Act → World → Prop} (hgd : o.guard = none) (s x : Operand)
    (hop : o.op = Op.call { callee := Callee.builtin Builtin.append, args := #[s, x], argTypes := #[32, 32] }) (h : Inv1 w cs es c ev L B v W) (hs : a.eval s = v) (g b : Nat) (hx : a.eval x = .slice (some ⟨g, 0, none⟩) 1 1)
    (hc : W.cell? ⟨g, 0, none⟩ = some (ptr b)) (hl : L.length ≤ 2097152) (hK : ∀ v' w', Inv1 w cs es c ev (L ++ [b]) B v' w' → wpList Yba.prog ops Q rest (a.put o.dst v') w') : wpList Yba.prog ops Q (o :: rest) a W := by
  obtain ⟨i, hi, hz, h1, h2⟩ := info_parts info23
  refine wpList_append_own (P := Yba.prog) W hgd s x 32 hop (w.heap.size + 1) 23 i _ 1 8 Yba.underlying32 hi hz h1 h2 rfl (by decide) v L.length (L.map ptr) hs h.own ⟨g, 0, none⟩ 1 1 [ptr b] hx rfl ?_ ?_ ?_ ?_ ?_ ?_
  · intro j u hu
    obtain ⟨hj1, hj2⟩ := List.getElem?_eq_some_iff.1 hu
    simp at hj1
    subst hj1
    simp at hj2
    subst hj2
    exact hc
  · intro u hu
    simp at hu
    subst hu
    rfl
  · simp only [maxLen]; omega
  · omega
  · exact lt_of_heap h.hh
  · intro v' w' ho hg _
    exact hK v' w' (h.push ho hg)

/-- The slice written out; its cells. -/
theorem Inv1.form (h : Inv1 w cs es c ev L B v wr) : ∃ (ga : Option Addr) (cap : Nat), v = .slice ga L.length cap ∧ (0 < L.length → ∃ g, ga = some ⟨g, 0, none⟩ ∧ g < wr.heap.size ∧ (∀ j b, L[j]? = some b → wr.cell? ⟨g, j, none⟩ = some (ptr b))) := by
  obtain ⟨hlen, hown⟩ := h.own
  rcases hown with ⟨rfl, h0⟩ | ⟨g, cap, cur, rfl, _, hg, hnc, _, hcs, ht⟩
  · exact ⟨none, 0, by rw [h0], fun hp => absurd hp (by omega)⟩
  · refine ⟨some ⟨g, 0, none⟩, cap, rfl, fun _ => ⟨g, rfl, lt_of_heap hg, fun j b hj => ?_⟩⟩
    rw [cell_of _ _ _ _ hg]
    have e : (cur.toList.take (L.length * 1))[j]? = some (ptr b) := by rw [ht, List.getElem?_map, hj]; rfl
    have hjl : j < L.length := (List.getElem?_eq_some_iff.1 hj).1
    rw [List.getElem?_take, if_pos (by omega)] at e
    simpa using e

/-- WHAT HOLDS FROM THE CALL OF 'checking' ON. -/
structure Inv2 (w : World) (cs es : Nat → Bool) (ev : Bool) (L B : List Nat) (ga : Option Addr) (m cap g2 s : Nat) (mw : Int) (wr : World) : Prop where
  bel : Below w.heap.size w wr
  hh : wr.heap[w.heap.size]? = some (Obj.cells (hand true ev) 31)
  bs : ∀ j b, B[j]? = some b → wr.heap[b]? = some (Obj.cells (hand (cs j) (es j)) 31)
  st : wr.heap[s]? = some (Obj.cells #[.int .i32 0, .int .u32 0, .slice ga m cap, .int .i64 mw, .chan none] 46)
  src : 0 < m → ∃ g, ga = some ⟨g, 0, none⟩ ∧ (∀ j b, L[j]? = some b → wr.cell? ⟨g, j, none⟩ = some (ptr b))
  dst : ∀ j b, L[j]? = some b → wr.cell? ⟨g2, j, none⟩ = some (ptr b)

theorem cell_alloc_old {wr : World} {a : Addr} {v : Value} (h : wr.cell? a = some v) (o : Obj) : (wr.alloc o).cell? a = some v :=
  (World.cell?_of_block (Below.heap_alloc _ _ _ (World.block_lt_of_cell? wr a h))).trans h

theorem Inv2.alloc {ga : Option Addr} {m cap g2 s : Nat} {mw : Int} (h : Inv2 w cs es ev L B ga m cap g2 s mw wr) (o : Obj) : Inv2 w cs es ev L B ga m cap g2 s mw (wr.alloc o) :=
  ⟨h.bel.alloc h.bel.size _, (Below.heap_alloc _ _ _ (lt_of_heap h.hh)).trans h.hh, fun j b hj => (Below.heap_alloc _ _ _ (lt_of_heap (h.bs j b hj))).trans (h.bs j b hj), (Below.heap_alloc _ _ _ (lt_of_heap h.st)).trans h.st,
    fun hm => by obtain ⟨g, e, hc⟩ := h.src hm; exact ⟨g, e, fun j b hj => cell_alloc_old (hc j b hj) o⟩, fun j b hj => cell_alloc_old (h.dst j b hj) o⟩
theorem Inv2.drew {ga : Option Addr} {m cap g2 s : Nat} {mw : Int} (h : Inv2 w cs es ev L B ga m cap g2 s mw wr) : Inv2 w cs es ev L B ga m cap g2 s mw wr.drew := ⟨h.bel.drew, h.hh, h.bs, h.st, h.src, h.dst⟩

theorem Inv2.hcells {ga : Option Addr} {m cap g2 s : Nat} {mw : Int} (h : Inv2 w cs es ev L B ga m cap g2 s mw wr) : wr.cell? ⟨w.heap.size, 0, none⟩ = some .nilIface ∧ wr.cell? ⟨w.heap.size, 1, none⟩ = some (.int .u64 0) ∧ wr.cell? ⟨w.heap.size, 2, none⟩ = some (.int .i64 0) ∧
    wr.cell? ⟨w.heap.size, 3, none⟩ = some (.pointer none) ∧ wr.cell? ⟨w.heap.size, 4, none⟩ = some (.bool true) ∧ wr.cell? ⟨w.heap.size, 5, none⟩ = some (.bool ev) :=
  ⟨cell_of _ _ _ _ h.hh 0, cell_of _ _ _ _ h.hh 1, cell_of _ _ _ _ h.hh 2, cell_of _ _ _ _ h.hh 3, cell_of _ _ _ _ h.hh 4, cell_of _ _ _ _ h.hh 5⟩
theorem Inv2.bcells {ga : Option Addr} {m cap g2 s : Nat} {mw : Int} (h : Inv2 w cs es ev L B ga m cap g2 s mw wr) {j b : Nat} (hj : B[j]? = some b) : wr.cell? ⟨b, 0, none⟩ = some .nilIface ∧ wr.cell? ⟨b, 1, none⟩ = some (.int .u64 0) ∧ wr.cell? ⟨b, 2, none⟩ = some (.int .i64 0) ∧
    wr.cell? ⟨b, 3, none⟩ = some (.pointer none) ∧ wr.cell? ⟨b, 4, none⟩ = some (.bool (cs j)) ∧ wr.cell? ⟨b, 5, none⟩ = some (.bool (es j)) :=
  ⟨cell_of _ _ _ _ (h.bs j b hj) 0, cell_of _ _ _ _ (h.bs j b hj) 1, cell_of _ _ _ _ (h.bs j b hj) 2, cell_of _ _ _ _ (h.bs j b hj) 3, cell_of _ _ _ _ (h.bs j b hj) 4, cell_of _ _ _ _ (h.bs j b hj) 5⟩
theorem Inv2.scells {ga : Option Addr} {m cap g2 s : Nat} {mw : Int} (h : Inv2 w cs es ev L B ga m cap g2 s mw wr) : wr.cell? ⟨s, 0, none⟩ = some (.int .i32 0) ∧ wr.cell? ⟨s, 1, none⟩ = some (.int .u32 0) ∧ wr.cell? ⟨s, 2, none⟩ = some (.slice ga m cap) ∧
    wr.cell? ⟨s, 3, none⟩ = some (.int .i64 mw) ∧ wr.cell? ⟨s, 4, none⟩ = some (.chan none) :=
  ⟨cell_of _ _ _ _ h.st 0, cell_of _ _ _ _ h.st 1, cell_of _ _ _ _ h.st 2, cell_of _ _ _ _ h.st 3, cell_of _ _ _ _ h.st 4⟩

theorem Hid.mk' {p : Prop} (h : p) : Hid p := h

/-- The row is copied; the receiver is boxed; 'checking' has been: old blocks but two are as they were. -/
theorem Inv2.start {ga : Option Addr} {m cap : Nat} {mw : Int} {w2 w4 : World} {cur : Array Value} (h : Inv1 w cs es c ev L B (.slice ga m cap) wr) (hm : L.length = m)
    (hG : w2.heap[wr.heap.size]? = some (Obj.cells (L.map ptr).toArray 23 (0, 0))) (hO : ∀ k, k ≠ wr.heap.size → w2.heap[k]? = (wr.alloc (Obj.cells cur 23)).heap[k]?) (hS : w2.heap.size = wr.heap.size + 1) (hB : Below wr.heap.size (wr.alloc (Obj.cells cur 23)) w2)
    (k1 : w4.heap[w.heap.size]? = some (Obj.cells (hand true ev) 31)) (k2 : w4.heap[w2.heap.size]? = some (Obj.cells #[.int .i32 0, .int .u32 0, .slice ga m cap, .int .i64 mw, .chan none] 46))
    (k3 : ∀ k, k ≠ w.heap.size → k ≠ w2.heap.size → w4.heap[k]? = w2.heap[k]?) (k4 : Below w.heap.size w2 w4) :
    Inv2 w cs es ev L B ga m cap wr.heap.size w2.heap.size mw w4 := by
  have old : ∀ k, k < wr.heap.size → k ≠ w.heap.size → w4.heap[k]? = wr.heap[k]? := fun k h1 h2 => by
    rw [k3 k h2 (by omega), hO k (by omega), Below.heap_alloc _ _ _ h1]
  have hlt := lt_of_heap h.hh
  refine ⟨?_, k1, fun j b hj => ?_, k2, fun h0 => ?_, fun j b hj => ?_⟩
  · exact ((h.bel.alloc h.bel.size _).trans (hB.mono (by omega))).trans k4
  · obtain ⟨h1, h2⟩ := h.bs j b hj
    rw [old b (lt_of_heap h2) (by omega)]; exact h2
  · obtain ⟨ga', cap', e, hc⟩ := h.form
    simp only [Value.slice.injEq] at e
    obtain ⟨rfl, _, rfl⟩ := e
    obtain ⟨g, rfl, hg, hcc⟩ := hc (by omega)
    refine ⟨g, rfl, fun j b hj => ?_⟩
    have hne : g ≠ w.heap.size := fun e => by
      have := h.apart h.hh
      simp [Value.ownBlock, e] at this
    rw [World.cell?_of_block (a := ⟨g, j, none⟩) (old g hg hne)]
    exact hcc j b hj
  · rw [World.cell?_of_block (a := ⟨wr.heap.size, j, none⟩) (k3 wr.heap.size (by omega) (by omega)), cell_of _ _ _ _ hG]
    simp [hj]
end Go.Proofs.Ybulkdpxc
