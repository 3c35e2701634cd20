/-
  What the loop of LawS5839BWhole keeps; '(*binaryState).census' at the block where the law calls it.
-/
import Derived.Test.YbulkdpxcCensus
import Derived.Test.YbulkdpxcCopy
import Derived.Laws.MakeOwn
import Derived.OwnWalk
import Derived.Deep.OwnRows
import Derived.BigQuiet
import Derived.Deep.QuietTactic
import Derived.ChangeOld
import Derived.WalkSmall
namespace Go.Proofs.Ybulkdpxc
open Go.ChangeShapes Go.WideShapes Go.ChangeAt Go.RowKit
set_option linter.unusedVariables false

theorem census_at (b bs : Nat) (ha : Option Addr) (n cap : Nat) (ones maj final tn td msgs term last round : Int) (c1 c2 c3 c4 c5 c6 c7 c8 c9 c10 c11 : Value) (W : World)
   (hn : n ≤ 1048576) (hm1 : -2147483648 ≤ maj) (hm2 : maj ≤ 2147483647) (hb : b = W.heap.size) (hbs : bs < W.heap.size) (q0 : W.cell? ⟨bs, 0, none⟩ = some (.slice ha n cap)) (q19 : W.cell? ⟨bs, 19, none⟩ = some (.int .i64 ones)) (q20 : W.cell? ⟨bs, 20, none⟩ = some (.int .i32 maj))
   (q34 : W.cell? ⟨bs, 34, none⟩ = some (.int .i64 final)) (q35 : W.cell? ⟨bs, 35, none⟩ = some (.int .u64 tn)) (q36 : W.cell? ⟨bs, 36, none⟩ = some (.int .u64 td)) (q37 : W.cell? ⟨bs, 37, none⟩ = some (.int .i64 msgs))
   (q38 : W.cell? ⟨bs, 38, none⟩ = some (.int .i64 term)) (q39 : W.cell? ⟨bs, 39, none⟩ = some (.int .i64 last)) :
    Calls Yba.prog 10 #[.pointer (some ⟨bs, 0, none⟩), .pointer (some ⟨b, 0, none⟩)] (W.alloc (.cells #[.int .i64 round, c1, c2, c3, c4, c5, c6, c7, c8, c9, c10, c11] 54)) fun e w' => e = .returned (.tuple #[]) ∧
      w' = (W.alloc (.cells #[.int .i64 round, .int .i64 (lg ones (wrap64 ((n : Int) - ones))), .int .i64 (wrap64 (m1 ones + m1 (wrap64 ((n : Int) - ones)))), c3, .int .i64 ones, .int .i64 maj, .int .i64 final, .int .u64 tn, .int .u64 td, .int .i64 msgs,
        .int .i64 (wrap64 (term + wrap64 (wrap64 ((n : Int) - final) * round))), .int .i64 (tmax final n last round)] 54)).drew.drew.drew.drew.drew := by
  subst hb
  exact census_any bs ha n cap ones maj final tn td msgs term last round c1 c2 c3 c4 c5 c6 c7 c8 c9 c10 c11 W hn hm1 hm2 hbs q0 q19 q20 q34 q35 q36 q37 q38 q39

theorem info21 : (Yba.prog.info? 21).map (fun i => (i.zero, i.size, i.bytes)) = some (some (.int .i32 0), 1, 4) := by kernel_rfl

theorem sum_zero (n term round : Int) : wrap64 (term + wrap64 (wrap64 (n - n) * round)) = wrap64 term := by
  have e : wrap64 (n - n) = 0 := by unfold wrap64; omega
  have e2 : wrap64 0 = 0 := by unfold wrap64; omega
  rw [e, Int.zero_mul, e2, Int.add_zero]

/-- What the loop keeps: old memory, the copied row, the boxed threshold, the state's cells. -/
structure Kept (w : World) (bs : Nat) (zs : List Int) (n : Nat) (ones maj final tn td msgs term last : Int) (wr : World) : Prop where
  bel : Below w.heap.size w wr
  row : ∀ i, i < n → wr.cell? ⟨w.heap.size + 1 + 1, i, none⟩ = some (.int .i32 (zs.getD i 0))
  t0 : wr.cell? ⟨w.heap.size, 0, none⟩ = some (.int .u64 tn)
  t1 : wr.cell? ⟨w.heap.size, 1, none⟩ = some (.int .u64 td)
  q19 : wr.cell? ⟨bs, 19, none⟩ = some (.int .i64 ones)
  q20 : wr.cell? ⟨bs, 20, none⟩ = some (.int .i32 maj)
  q34 : wr.cell? ⟨bs, 34, none⟩ = some (.int .i64 final)
  q35 : wr.cell? ⟨bs, 35, none⟩ = some (.int .u64 tn)
  q36 : wr.cell? ⟨bs, 36, none⟩ = some (.int .u64 td)
  q37 : wr.cell? ⟨bs, 37, none⟩ = some (.int .i64 msgs)
  q38 : wr.cell? ⟨bs, 38, none⟩ = some (.int .i64 term)
  q39 : wr.cell? ⟨bs, 39, none⟩ = some (.int .i64 last)

theorem Kept.drew {w : World} {bs : Nat} {zs : List Int} {n : Nat} {ones maj final tn td msgs term last : Int} {wr : World} (h : Kept w bs zs n ones maj final tn td msgs term last wr) : Kept w bs zs n ones maj final tn td msgs term last wr.drew :=
  ⟨h.bel.drew, h.row, h.t0, h.t1, h.q19, h.q20, h.q34, h.q35, h.q36, h.q37, h.q38, h.q39⟩

theorem kept_start {w w2 : World} {cs : Array Value} {A B : Obj} {zs : List Int} {n : Nat} {ones maj final tn td msgs term last : Int} (hbel : Below w.heap.size w w2) (hsz : w.heap.size + 1 + 1 < w2.heap.size)
    (row : ∀ i, i < n → w2.cell? ⟨w.heap.size + 1 + 1, i, none⟩ = some (.int .i32 (zs.getD i 0))) (t0 : w2.cell? ⟨w.heap.size, 0, none⟩ = some (.int .u64 tn)) (t1 : w2.cell? ⟨w.heap.size, 1, none⟩ = some (.int .u64 td))
    (q19 : cs[19]? = some (.int .i64 ones)) (q20 : cs[20]? = some (.int .i32 maj)) (q34 : cs[34]? = some (.int .i64 final)) (q35 : cs[35]? = some (.int .u64 tn)) (q36 : cs[36]? = some (.int .u64 td))
    (q37 : cs[37]? = some (.int .i64 msgs)) (q38 : cs[38]? = some (.int .i64 term)) (q39 : cs[39]? = some (.int .i64 last)) :
    Kept w w2.heap.size zs n ones maj final tn td msgs term last (((w2.alloc (.cells cs 80)).alloc A).alloc B).drew.drew.drew.drew.drew := by
  have old : ∀ b j, b < w2.heap.size → (((w2.alloc (.cells cs 80)).alloc A).alloc B).cell? ⟨b, j, none⟩ = w2.cell? ⟨b, j, none⟩ := fun b j h => by
    rw [World.cell?_alloc_past _ _ _ (by simp; omega), World.cell?_alloc_past _ _ _ (by simp; omega), World.cell?_alloc_past _ _ _ h]
  have new : ∀ j, (((w2.alloc (.cells cs 80)).alloc A).alloc B).cell? ⟨w2.heap.size, j, none⟩ = cs[j]? := fun j => by
    rw [World.cell?_alloc_past _ _ _ (by simp; omega), World.cell?_alloc_past _ _ _ (by simp), cell_of _ _ _ _ (heap_new w2 _)]
  exact Kept.drew (Kept.drew (Kept.drew (Kept.drew (Kept.drew ⟨((hbel.alloc (by omega) _).alloc (by simp; omega) _).alloc (by simp; omega) _, fun i hi => (old _ _ hsz).trans (row i hi), (old _ _ (by omega)).trans t0, (old _ _ (by omega)).trans t1,
    (new _).trans q19, (new _).trans q20, (new _).trans q34, (new _).trans q35, (new _).trans q36, (new _).trans q37, (new _).trans q38, (new _).trans q39⟩))))

end Go.Proofs.Ybulkdpxc
