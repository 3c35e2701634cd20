/-
  THE CONTRACTS of LawS5840AWhole: 'zzs5840asame', the law's own 'pack', 'CanonicalData'.
-/
import Derived.Test.YbulkdpxqRows
import Derived.Test.YbulkdpxqBytes
import Derived.WalkKit
import Derived.WalkSpells
import Derived.ProofKit
import Derived.OpenShut
import Derived.BigRegion
import Derived.BigQuiet
import Derived.Deep.QuietTactic
import Derived.WalkSmall
import Derived.Laws.MakeOwn
import Derived.Deep.OwnRows
import Derived.Deep.RegionWith
namespace Go.Proofs.Ybulkdpxq
open Go.ChangeShapes Go.WideShapes Go.ChangeAt Go.RowKit
set_option linter.unusedVariables false

set_option maxHeartbeats 800000 in
/-- 'zzs5840asame' of two slices with the same elements. -/
theorem same_any (a1 a2 : Option Addr) (n c1 c2 : Nat) (zs : List Int) (w : World) (hn : n ≤ 1048576) (h1 : IsRow .u8 w a1 n zs) (h2 : IsRow .u8 w a2 n zs) :
    Calls Yba.prog 6 #[.slice a1 n c1, .slice a2 n c2] w fun e w' => e = .returned (.bool true) ∧ ∃ d, w' = w.drewN d := by
  go_enter Yba.func6, Yba.ntmps6
  go_wp2
  go_loopw [5] (fun i wr => ∃ k : Nat, k ≤ n ∧ i = .int .i64 k ∧ ∃ d, wr = w.drewN d) (fun i _ => n - (intOf i).toNat)
  case atStart => exact ⟨0, Nat.zero_le _, rfl, 0, rfl⟩
  case round =>
    obtain ⟨k, hk, rfl, d, rfl⟩ := hrel
    by_cases hlt : k < n
    · obtain ⟨b1, o1, rfl, _, q1⟩ := h1.2 (by omega)
      obtain ⟨b2, o2, rfl, _, q2⟩ := h2.2 (by omega)
      have e1 := q1 k hlt
      have e2 := q2 k hlt
      clear q1 q2 h1 h2
      go_wp2
      go_region
      go_wp2
      go_roundw
      case rel => exact ⟨k + 1, by omega, by go_num, d + 1, rfl⟩
      case measure => simp [intOf]; omega
    · go_wp2
      go_ret
      exact ⟨rfl, d, rfl⟩

theorem info5 : (Yba.prog.info? 5).map (fun i => (i.zero, i.size, i.bytes)) = some (some (.int .u8 0), 1, 1) := by kernel_rfl

theorem map_nil (w : World) : (binOp .eql 46 (.map none) (.map none)).run Yba.prog w = .ok (.bool true) w := by kernel_rfl

/-- The law's own RData, as pack leaves it; the Builder's cells, its buffer v. -/
def stand (a0 : Option Addr) (n cap : Nat) : Array Value := #[.slice a0 n cap, .int .i64 1, .bool true, .bool false, .bool true, .int .i64 0, .bool true, .bool true]
def builder (v : Value) : Array Value := #[v, .int .i64 0, .int .i64 0, .int .i64 0, .int .i64 0, .int .i64 0, .int .i64 0, .pointer none, .map none, .slice none 0 0, .bool true, .bool false]

set_option maxRecDepth 100000 in
set_option maxHeartbeats 800000 in
/-- 'pack' of the law's own RData, on a fresh Builder. -/
theorem pack_any (a0 : Option Addr) (n cap : Nat) (zs : List Int) (w : World) (hn : n ≤ 1048576) (hrow : IsRow .u8 w a0 n zs) :
    Calls Yba.prog 26 #[.pointer (some ⟨w.heap.size, 0, none⟩), .pointer (some ⟨w.heap.size + 1, 0, none⟩)]
      ((w.alloc (.cells #[.slice a0 n cap, .int .i64 0, .bool false, .bool false, .bool false, .int .i64 0, .bool false, .bool false] 28)).alloc
        (.cells #[.slice none 0 0, .int .i64 0, .int .i64 0, .int .i64 0, .int .i64 0, .int .i64 0, .int .i64 0, .pointer none, .map none, .slice none 0 0, .bool true, .bool false] 49)) fun e w' => e = .returned (.tuple #[]) ∧
      ∃ ga c, Below w.heap.size w w' ∧ w'.heap[w.heap.size]? = some (.cells (stand a0 n cap) 28) ∧ w'.heap[w.heap.size + 1]? = some (.cells (builder (.slice ga n c)) 49) ∧
        ((ga = none ∧ n = 0) ∨ ∃ b off, ga = some ⟨b, off, none⟩ ∧ ∀ i, i < n → w'.cell? ⟨b, off + i, none⟩ = some (.int .u8 (zs.getD i 0))) := by
  have hm := map_nil
  obtain ⟨ga, c, w3, hrun, hbel, hown⟩ := app_fresh (P := Yba.prog) 22 5 22 .u8 Yba.underlying22 info5 ((w.alloc (.cells #[.slice a0 n cap, .int .i64 1, .bool true, .bool false, .bool true, .int .i64 0, .bool true, .bool true] 28)).alloc
        (.cells #[.slice none 0 0, .int .i64 0, .int .i64 0, .int .i64 0, .int .i64 0, .int .i64 0, .int .i64 0, .pointer none, .map none, .slice none 0 0, .bool true, .bool false] 49)).drew n cap a0 zs ((hrow.alloc _).alloc _).drew (by omega)
  have hb1 : w3.heap[w.heap.size]? = some (.cells (stand a0 n cap) 28) := by
    rw [hbel.block _ (by simp; omega)]
    show ((w.alloc _).alloc _).heap[w.heap.size]? = _
    rw [Below.heap_alloc _ _ _ (by simp)]
    exact heap_new _ _
  have hb2 : w3.heap[w.heap.size + 1]? = some (.cells (builder (.slice none 0 0)) 49) := by
    rw [hbel.block _ (by simp)]
    have e : w.heap.size + 1 = (w.alloc (.cells (stand a0 n cap) 28)).heap.size := by simp
    show ((w.alloc _).alloc _).heap[w.heap.size + 1]? = _
    rw [e]
    exact heap_new _ _
  have hbw : Below w.heap.size w w3 := (((((Below.refl _ _).alloc (Nat.le_refl _) _).alloc (by simp) _).drew).trans (hbel.mono (by simp; omega)))
  have c2 : w3.cell? ⟨w.heap.size + 1, 0, none⟩ = some (.slice none 0 0) := cell_of _ _ _ _ hb2 0
  have z2 := frozen_of _ _ 0 _ _ hb2
  have hlt : w.heap.size + 1 < w3.heap.size := lt_of_heap hb2
  have H1 : Hid (w3.heap[w.heap.size]? = some (.cells (stand a0 n cap) 28)) := hb1
  have H2 : Hid (w3.heap[w.heap.size + 1]? = some (.cells (builder (.slice none 0 0)) 49)) := hb2
  have HR : Hid ((Builtin.append_ #[22, 22] 22 #[.slice none 0 0, .slice a0 n cap]).run Yba.prog ((w.alloc (.cells #[.slice a0 n cap, .int .i64 1, .bool true, .bool false, .bool true, .int .i64 0, .bool true, .bool true] 28)).alloc
        (.cells #[.slice none 0 0, .int .i64 0, .int .i64 0, .int .i64 0, .int .i64 0, .int .i64 0, .int .i64 0, .pointer none, .map none, .slice none 0 0, .bool true, .bool false] 49)).drew = .ok (.slice ga n c) w3) := hrun
  have HB : Hid (Below w.heap.size w w3) := hbw
  have HBel := hbel.size
  clear hb1 hb2 hrun hbw hbel
  go_enter Yba.func26, Yba.ntmps26
  go_wp2
  go_region_law (refine step_append_run rfl (.tmp 69) (.tmp 73) 22 rfl rfl rfl HR.out ?_)
  all_goals
    go_wp2
    go_end0
    refine ⟨rfl, ga, c, HB.out.setCell (p := ⟨w.heap.size + 1, 0, none⟩) (by simp) _, ?_, ?_, ?_⟩
    · rw [heap_setCell_other _ ⟨w.heap.size + 1, 0, none⟩ _ _ (by simp)]; exact H1.out
    · have e := heap_setCell_same w3 (w.heap.size + 1) 0 _ _ (.slice ga n c) H2.out
      exact e
    · rcases hown with ⟨h1, h2, _⟩ | ⟨g, cur, rfl, hg1, hg2, hg3, hg4, hg5⟩
      · exact .inl ⟨h1, h2⟩
      · refine .inr ⟨g, 0, rfl, fun i hi => ?_⟩
        simp at hg1
        rw [World.cell?_setCell_other _ ⟨w.heap.size + 1, 0, none⟩ _ _ (by simp), Nat.zero_add, cell_of _ _ _ _ hg2]
        have e : (cur.toList.take n)[i]? = some (.int .u8 (zs.getD i 0)) := by rw [hg5]; exact at_ints .u8 n zs hrow.1 hi
        rw [List.getElem?_take, if_pos hi] at e
        simpa using e

/-- The method that the interface RData holds second is function 26, at the law's own type. (The method's name is read off the program's own table of types.) -/
theorem method_pack (a : Addr) (w : World) (nm : String) (h : ∃ ms, Yba.prog.underlying 24 = some (.interface ms) ∧ ms[1]? = some (nm, 50)) : (method 188 26 (.pointer (some a)) nm).run Yba.prog w = .ok (26, .pointer (some a)) w := by
  obtain ⟨ms, h1, h2⟩ := h
  rw [Yba.underlying24] at h1
  cases h1
  cases h2
  kernel_rfl

/-- 'CanonicalData' of nil. -/
theorem canon_nil (w : World) : Calls Yba.prog 5 #[.nilIface] w fun e w' => e = .returned (.string ByteArray.empty) ∧ w' = w := by
  go_enter Yba.func5, Yba.ntmps5
  go_wp2
  go_ret
  exact ⟨rfl, rfl⟩

set_option maxRecDepth 100000 in
set_option maxHeartbeats 800000 in
/-- 'CanonicalData' of the law's own RData. -/
theorem canon_any (a0 : Option Addr) (n cap : Nat) (zs : List Int) (w : World) (hn : n ≤ 1048576) (hrow : IsRow .u8 w a0 n zs) :
    Calls Yba.prog 5 #[.iface 26 (.pointer (some ⟨w.heap.size, 0, none⟩))]
      (w.alloc (.cells #[.slice a0 n cap, .int .i64 0, .bool false, .bool false, .bool false, .int .i64 0, .bool false, .bool false] 28)) fun e w' => e = .returned (.string (strOfNums (zs.take n))) ∧
      Below w.heap.size w w' ∧ w'.heap[w.heap.size]? = some (.cells (stand a0 n cap) 28) := by
  go_enter Yba.func5, Yba.ntmps5
  go_wp2_with fail
  rw [method_pack _ _ _ ⟨_, Yba.underlying24, rfl⟩]
  go_wp2_with fail
  refine (pack_any a0 n cap zs w hn hrow).mono ?_
  rintro e w' ⟨rfl, ga, c, hb, h1, h2, h3⟩
  have q : w'.cell? ⟨w.heap.size + 1, 0, none⟩ = some (.slice ga n c) := cell_of _ _ _ _ h2 0
  have hcv := conv_string (P := Yba.prog) 22 5 9 Yba.underlying22 Yba.underlying5 Yba.underlying9 w' ga n c zs hrow.1 h3
  have H1 : Hid (w'.heap[w.heap.size]? = some (.cells (stand a0 n cap) 28)) := h1
  clear h1 h2 h3
  go_wp2
  go_ret
  exact ⟨rfl, hb, H1.out⟩
end Go.Proofs.Ybulkdpxq
