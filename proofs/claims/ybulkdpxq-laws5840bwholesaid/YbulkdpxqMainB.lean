/-
  THE WALK of LawS5840BWhole, one theorem a way: no quote is laid; the place is the end; a quote is laid.
-/
import Derived.Test.YbulkdpxqQuoted
namespace Go.Proofs.Ybulkdpxq
open Go.ChangeShapes Go.WideShapes Go.ChangeAt Go.RowKit
set_option linter.unusedVariables false

theorem info5 : (Yba.prog.info? 5).map (fun i => (i.zero, i.size, i.bytes)) = some (some (.int .u8 0), 1, 1) := by kernel_rfl

set_option maxRecDepth 100000 in
set_option maxHeartbeats 1600000 in
theorem main_f (a0 : Option Addr) (n cap p : Nat) (zs : List Int) (Pos line el : Int) (w : World) (hn : n ≤ 1048576) (hrow : IsRow .u8 w a0 n zs) (hP0 : 0 ≤ Pos) (hP1 : Pos ≤ 18446744073709551615) (hA : Pos % ((n : Int) + 1) = (p : Int)) (hp : p ≤ n) :
    Calls Yba.prog 4 #[.slice a0 n cap, .int .u64 Pos, .bool false, .int .i64 line, .int .i64 el] w fun e w' => e = .returned (.bool true) ∧ Below w.heap.size w w' := by
  have hmk := run_make_row' (P := Yba.prog) 22 5 (.int .u8 0) 1 Yba.underlying22 info5 rfl .i64 .i64 n (by omega) (by omega)
  obtain ⟨w2, hcopy, hG, hB, hS⟩ := copied (P := Yba.prog) 22 5 3 .u8 Yba.underlying22 (by kernel_rfl) w n cap a0 zs hrow (madeCells #[.int .u8 0] n) (size_madeCells _ _)
  have hZ : (zs.take n).length = n := by rw [List.length_take]; exact Nat.min_eq_left hrow.1
  have hG' : w2.heap[w.heap.size]? = some (.cells (((zs.take n).take n).map (Value.int .u8)).toArray 5 (0, 0)) := by rw [List.take_take, Nat.min_self]; exact hG
  generalize zs.take n = Z at hZ hG' hG
  have hrZ : IsRow .u8 w2 (some ⟨w.heap.size, 0, none⟩) n Z := row_made hG' (by omega)
  obtain ⟨w3, hcopy3, hG3, hB3, hS3⟩ := copied (P := Yba.prog) 22 5 3 .u8 Yba.underlying22 (by kernel_rfl) w2 n n (some ⟨w.heap.size, 0, none⟩) Z hrZ (madeCells #[.int .u8 0] n) (size_madeCells _ _)
  have src3 : ∀ i, i < n → w3.cell? ⟨w.heap.size, i, none⟩ = some (.int .u8 (Z.getD i 0)) := fun i hi => by
    obtain ⟨b, off, e, _, hc⟩ := (hrZ.old hB3).2 (by omega)
    simp at e
    obtain ⟨rfl, rfl⟩ := e
    simpa using hc i hi
  have ref3 : ∀ i, i < n → w3.cell? ⟨w2.heap.size, i, none⟩ = some (.int .u8 (Z.getD i 0)) := fun i hi => by
    obtain ⟨b, off, e, _, hc⟩ := (row_made hG3 (by omega)).2 (by omega)
    simp at e
    obtain ⟨rfl, rfl⟩ := e
    simpa using hc i hi
  have HKA : Hid (∀ pos : Int, Keep w w.heap.size w2.heap.size w3.heap.size n Z pos line el (w3.alloc (.cells #[.slice (some ⟨w.heap.size, 0, none⟩) n n, .int .i64 pos, .int .i64 line, .int .i64 el] 34))) :=
    fun pos => Keep.start (hB.trans (hB3.mono (by omega))) src3 ref3
  have HK : Hid (Keep w w.heap.size w2.heap.size w3.heap.size n Z p line el (w3.alloc (.cells #[.slice (some ⟨w.heap.size, 0, none⟩) n n, .int .i64 p, .int .i64 line, .int .i64 el] 34))) := HKA.out p
  have hne : ¬ w3.heap.size = w.heap.size := by omega
  have hlt3 : w2.heap.size < w3.heap.size := by omega
  have hlt2 : w.heap.size < w3.heap.size := by omega
  have HZ : Hid (Z.length = n) := hZ
  clear hG hG' hB hS hrow hZ hrZ hG3 hB3 hS3 src3 ref3
  go_enter Yba.func4, Yba.ntmps4
  go_wp2_with fail
  refine (quoted_any w3.heap.size w.heap.size n n p line el Z _ hn hp HZ.out HK.out.src HK.out.l0 HK.out.l1 (frozen_of _ _ _ _ _ (heap_new _ _)) hne (Nat.le_refl _)).mono ?_
  rintro e w' (⟨HS0, t, rfl, rfl⟩ | ⟨j, HS0, rfl, rfl⟩)
  · have HS : Hid (scanAt Z false (p + 1) = none) := HS0
    clear HS0 hmk hcopy hcopy3
    go_wp2
    go_loopw [17] (fun i wr => ∃ k : Nat, k ≤ n ∧ i = .int .i64 k ∧ Keep w w.heap.size w2.heap.size w3.heap.size n Z p line el wr) (fun i _ => n - (intOf i).toNat)
    case atStart => exact ⟨0, Nat.zero_le _, rfl, HK.out.alloc _⟩
    case round =>
      obtain ⟨k, hk, rfl, HQ⟩ := hrel
      obtain ⟨hbel, hsrc, href, l0, l1, l2, l3⟩ := id HQ
      by_cases hlt : k < n
      · have e1 := hsrc k hlt
        have e2 := href k hlt
        clear hsrc href hbel
        go_wp2
        go_region
        go_wp2
        go_roundw
        case rel => exact ⟨k + 1, by omega, by go_num, HQ.drew⟩
        case measure => simp [intOf]; omega
      · have Href : Hid (∀ i, i < n → wr.cell? ⟨w2.heap.size, i, none⟩ = some (.int .u8 (Z.getD i 0))) := href
        clear hsrc href
        go_wp2_with fail
        refine (model_any w2.heap.size n n p Z wr hn hp HZ.out Href.out).mono ?_
        rw [HS.out]
        rintro e w' ⟨rfl, hw'⟩
        subst hw'
        unfold answer
        go_wp2
        go_ret
        exact ⟨rfl, hbel⟩
  · obtain ⟨hj1, hj2⟩ := scanAt_lt _ _ _ _ HS0
    rw [HZ.out] at hj2
    have HS : Hid (scanAt Z false (p + 1) = some j) := HS0
    clear HS0 hmk hcopy hcopy3
    go_wp2
    go_loopw [17] (fun i wr => ∃ k : Nat, k ≤ n ∧ i = .int .i64 k ∧ Keep w w.heap.size w2.heap.size w3.heap.size n Z ((j : Int) + 1) line el wr) (fun i _ => n - (intOf i).toNat)
    case atStart => exact ⟨0, Nat.zero_le _, rfl, (HKA.out _).drew⟩
    case round =>
      obtain ⟨k, hk, rfl, HQ⟩ := hrel
      obtain ⟨hbel, hsrc, href, l0, l1, l2, l3⟩ := id HQ
      by_cases hlt : k < n
      · have e1 := hsrc k hlt
        have e2 := href k hlt
        clear hsrc href hbel
        go_wp2
        go_region
        go_wp2
        go_roundw
        case rel => exact ⟨k + 1, by omega, by go_num, HQ.drew⟩
        case measure => simp [intOf]; omega
      · have Href : Hid (∀ i, i < n → wr.cell? ⟨w2.heap.size, i, none⟩ = some (.int .u8 (Z.getD i 0))) := href
        clear hsrc href
        have hcv := conv_string (P := Yba.prog) 22 5 9 Yba.underlying22 Yba.underlying5 Yba.underlying9 wr (some ⟨w2.heap.size, p, none⟩) (j + 1 - p) (n - p) (Z.drop p) (by rw [List.length_drop, HZ.out]; omega)
          (.inr ⟨w2.heap.size, p, rfl, fun i hi => by rw [Href.out (p + i) (by omega)]; simp [List.getD_eq_getElem?_getD]⟩)
        go_wp2_with fail
        refine (model_any w2.heap.size n n p Z wr hn hp HZ.out Href.out).mono ?_
        rw [HS.out]
        rintro e w' ⟨rfl, hw'⟩
        subst hw'
        unfold answer
        go_wp2
        go_ret
        exact ⟨rfl, hbel⟩

set_option maxRecDepth 100000 in
set_option maxHeartbeats 1600000 in
theorem main_t (a0 : Option Addr) (n cap p : Nat) (zs : List Int) (Pos line el : Int) (w : World) (hn : n ≤ 1048576) (hrow : IsRow .u8 w a0 n zs) (hP0 : 0 ≤ Pos) (hP1 : Pos ≤ 18446744073709551615) (hA : Pos % ((n : Int) + 1) = (p : Int)) (hp : p ≤ n) (hpn : ¬ p < n) :
    Calls Yba.prog 4 #[.slice a0 n cap, .int .u64 Pos, .bool true, .int .i64 line, .int .i64 el] w fun e w' => e = .returned (.bool true) ∧ Below w.heap.size w w' := by
  have hmk := run_make_row' (P := Yba.prog) 22 5 (.int .u8 0) 1 Yba.underlying22 info5 rfl .i64 .i64 n (by omega) (by omega)
  obtain ⟨w2, hcopy, hG, hB, hS⟩ := copied (P := Yba.prog) 22 5 3 .u8 Yba.underlying22 (by kernel_rfl) w n cap a0 zs hrow (madeCells #[.int .u8 0] n) (size_madeCells _ _)
  have hZ : (zs.take n).length = n := by rw [List.length_take]; exact Nat.min_eq_left hrow.1
  have hG' : w2.heap[w.heap.size]? = some (.cells (((zs.take n).take n).map (Value.int .u8)).toArray 5 (0, 0)) := by rw [List.take_take, Nat.min_self]; exact hG
  generalize zs.take n = Z at hZ hG' hG
  have hrZ : IsRow .u8 w2 (some ⟨w.heap.size, 0, none⟩) n Z := row_made hG' (by omega)
  obtain ⟨w3, hcopy3, hG3, hB3, hS3⟩ := copied (P := Yba.prog) 22 5 3 .u8 Yba.underlying22 (by kernel_rfl) w2 n n (some ⟨w.heap.size, 0, none⟩) Z hrZ (madeCells #[.int .u8 0] n) (size_madeCells _ _)
  have src3 : ∀ i, i < n → w3.cell? ⟨w.heap.size, i, none⟩ = some (.int .u8 (Z.getD i 0)) := fun i hi => by
    obtain ⟨b, off, e, _, hc⟩ := (hrZ.old hB3).2 (by omega)
    simp at e
    obtain ⟨rfl, rfl⟩ := e
    simpa using hc i hi
  have ref3 : ∀ i, i < n → w3.cell? ⟨w2.heap.size, i, none⟩ = some (.int .u8 (Z.getD i 0)) := fun i hi => by
    obtain ⟨b, off, e, _, hc⟩ := (row_made hG3 (by omega)).2 (by omega)
    simp at e
    obtain ⟨rfl, rfl⟩ := e
    simpa using hc i hi
  have HKA : Hid (∀ pos : Int, Keep w w.heap.size w2.heap.size w3.heap.size n Z pos line el (w3.alloc (.cells #[.slice (some ⟨w.heap.size, 0, none⟩) n n, .int .i64 pos, .int .i64 line, .int .i64 el] 34))) :=
    fun pos => Keep.start (hB.trans (hB3.mono (by omega))) src3 ref3
  have HK : Hid (Keep w w.heap.size w2.heap.size w3.heap.size n Z p line el (w3.alloc (.cells #[.slice (some ⟨w.heap.size, 0, none⟩) n n, .int .i64 p, .int .i64 line, .int .i64 el] 34))) := HKA.out p
  have hne : ¬ w3.heap.size = w.heap.size := by omega
  have hlt3 : w2.heap.size < w3.heap.size := by omega
  have hlt2 : w.heap.size < w3.heap.size := by omega
  have HZ : Hid (Z.length = n) := hZ
  clear hG hG' hB hS hrow hZ hrZ hG3 hB3 hS3 src3 ref3
  go_enter Yba.func4, Yba.ntmps4
  go_wp2_with fail
  refine (quoted_any w3.heap.size w.heap.size n n p line el Z _ hn hp HZ.out HK.out.src HK.out.l0 HK.out.l1 (frozen_of _ _ _ _ _ (heap_new _ _)) hne (Nat.le_refl _)).mono ?_
  rintro e w' (⟨HS0, t, rfl, rfl⟩ | ⟨j, HS0, rfl, rfl⟩)
  · have HS : Hid (scanAt Z false (p + 1) = none) := HS0
    clear HS0 hmk hcopy hcopy3
    go_wp2
    go_loopw [17] (fun i wr => ∃ k : Nat, k ≤ n ∧ i = .int .i64 k ∧ Keep w w.heap.size w2.heap.size w3.heap.size n Z p line el wr) (fun i _ => n - (intOf i).toNat)
    case atStart => exact ⟨0, Nat.zero_le _, rfl, HK.out.alloc _⟩
    case round =>
      obtain ⟨k, hk, rfl, HQ⟩ := hrel
      obtain ⟨hbel, hsrc, href, l0, l1, l2, l3⟩ := id HQ
      by_cases hlt : k < n
      · have e1 := hsrc k hlt
        have e2 := href k hlt
        clear hsrc href hbel
        go_wp2
        go_region
        go_wp2
        go_roundw
        case rel => exact ⟨k + 1, by omega, by go_num, HQ.drew⟩
        case measure => simp [intOf]; omega
      · have Href : Hid (∀ i, i < n → wr.cell? ⟨w2.heap.size, i, none⟩ = some (.int .u8 (Z.getD i 0))) := href
        clear hsrc href
        go_wp2_with fail
        refine (model_any w2.heap.size n n p Z wr hn hp HZ.out Href.out).mono ?_
        rw [HS.out]
        rintro e w' ⟨rfl, hw'⟩
        subst hw'
        unfold answer
        go_wp2
        go_ret
        exact ⟨rfl, hbel⟩
  · obtain ⟨hj1, hj2⟩ := scanAt_lt _ _ _ _ HS0
    rw [HZ.out] at hj2
    exfalso
    omega

set_option maxRecDepth 100000 in
set_option maxHeartbeats 1600000 in
theorem main_s (a0 : Option Addr) (n cap p : Nat) (zs : List Int) (Pos line el : Int) (w : World) (hn : n ≤ 1048576) (hrow : IsRow .u8 w a0 n zs) (hP0 : 0 ≤ Pos) (hP1 : Pos ≤ 18446744073709551615) (hA : Pos % ((n : Int) + 1) = (p : Int)) (hp : p ≤ n) (hpn : p < n) :
    Calls Yba.prog 4 #[.slice a0 n cap, .int .u64 Pos, .bool true, .int .i64 line, .int .i64 el] w fun e w' => e = .returned (.bool true) ∧ Below w.heap.size w w' := by
  have hmk := run_make_row' (P := Yba.prog) 22 5 (.int .u8 0) 1 Yba.underlying22 info5 rfl .i64 .i64 n (by omega) (by omega)
  obtain ⟨w2, hcopy, hG, hB, hS⟩ := copied (P := Yba.prog) 22 5 3 .u8 Yba.underlying22 (by kernel_rfl) w n cap a0 zs hrow (madeCells #[.int .u8 0] n) (size_madeCells _ _)
  have hZ : (zs.take n).length = n := by rw [List.length_take]; exact Nat.min_eq_left hrow.1
  have hG' : w2.heap[w.heap.size]? = some (.cells (((zs.take n).take n).map (Value.int .u8)).toArray 5 (0, 0)) := by rw [List.take_take, Nat.min_self]; exact hG
  generalize zs.take n = Z0 at hZ hG' hG
  have cS : w2.cell? ⟨w.heap.size, p, none⟩ = some (.int .u8 (Z0.getD p 0)) := by
    rw [cell_of _ _ _ _ hG]
    simp [List.getD_eq_getElem?_getD, List.getElem?_eq_getElem (show p < Z0.length by omega)]
  have fS := frozen_of w2 w.heap.size p _ _ hG
  have eS : (w2.setCell ⟨w.heap.size, p, none⟩ (.int .u8 34)).heap.size = w2.heap.size := by simp [World.setCell]
  have hGS : (w2.setCell ⟨w.heap.size, p, none⟩ (.int .u8 34)).heap[w.heap.size]? = some (.cells (((Z0.set p 34).take n).map (Value.int .u8)).toArray 5 (0, 0)) := by
    have e := heap_setCell_same w2 w.heap.size p _ _ (.int .u8 34) hG
    rw [e]
    congr 2
    rw [List.take_of_length_le (by simp; omega)]
    simp [List.map_set]
  have hBS : Below w.heap.size w (w2.setCell ⟨w.heap.size, p, none⟩ (.int .u8 34)) := hB.setCell (p := ⟨w.heap.size, p, none⟩) (Nat.le_refl _) _
  have hZ1 : (Z0.set p 34).length = n := by simpa using hZ
  clear hB hZ
  generalize Z0.set p 34 = Z at hZ1 hGS
  have hB := hBS
  have hZ := hZ1
  clear hBS hZ1
  have hrZ : IsRow .u8 (w2.setCell ⟨w.heap.size, p, none⟩ (.int .u8 34)) (some ⟨w.heap.size, 0, none⟩) n Z := row_made hGS (by omega)
  obtain ⟨w3, hcopy3, hG3, hB3, hS3⟩ := copied (P := Yba.prog) 22 5 3 .u8 Yba.underlying22 (by kernel_rfl) (w2.setCell ⟨w.heap.size, p, none⟩ (.int .u8 34)) n n (some ⟨w.heap.size, 0, none⟩) Z hrZ (madeCells #[.int .u8 0] n) (size_madeCells _ _)
  rw [eS] at hcopy3 hG3 hS3
  have src3 : ∀ i, i < n → w3.cell? ⟨w.heap.size, i, none⟩ = some (.int .u8 (Z.getD i 0)) := fun i hi => by
    obtain ⟨b, off, e, _, hc⟩ := (hrZ.old hB3).2 (by omega)
    simp at e
    obtain ⟨rfl, rfl⟩ := e
    simpa using hc i hi
  have ref3 : ∀ i, i < n → w3.cell? ⟨w2.heap.size, i, none⟩ = some (.int .u8 (Z.getD i 0)) := fun i hi => by
    obtain ⟨b, off, e, _, hc⟩ := (row_made hG3 (by omega)).2 (by omega)
    simp at e
    obtain ⟨rfl, rfl⟩ := e
    simpa using hc i hi
  have HKA : Hid (∀ pos : Int, Keep w w.heap.size w2.heap.size w3.heap.size n Z pos line el (w3.alloc (.cells #[.slice (some ⟨w.heap.size, 0, none⟩) n n, .int .i64 pos, .int .i64 line, .int .i64 el] 34))) :=
    fun pos => Keep.start (hB.trans (hB3.mono (by rw [eS]; omega))) src3 ref3
  have HK : Hid (Keep w w.heap.size w2.heap.size w3.heap.size n Z p line el (w3.alloc (.cells #[.slice (some ⟨w.heap.size, 0, none⟩) n n, .int .i64 p, .int .i64 line, .int .i64 el] 34))) := HKA.out p
  have hne : ¬ w3.heap.size = w.heap.size := by omega
  have hlt3 : w2.heap.size < w3.heap.size := by omega
  have hlt2 : w.heap.size < w3.heap.size := by omega
  have HZ : Hid (Z.length = n) := hZ
  clear hG hG' hB hS hrow hZ hrZ hG3 hB3 hS3 src3 ref3 hGS eS
  go_enter Yba.func4, Yba.ntmps4
  go_wp2_with fail
  refine (quoted_any w3.heap.size w.heap.size n n p line el Z _ hn hp HZ.out HK.out.src HK.out.l0 HK.out.l1 (frozen_of _ _ _ _ _ (heap_new _ _)) hne (Nat.le_refl _)).mono ?_
  rintro e w' (⟨HS0, t, rfl, rfl⟩ | ⟨j, HS0, rfl, rfl⟩)
  · have HS : Hid (scanAt Z false (p + 1) = none) := HS0
    clear HS0 hmk hcopy hcopy3
    go_wp2
    go_loopw [17] (fun i wr => ∃ k : Nat, k ≤ n ∧ i = .int .i64 k ∧ Keep w w.heap.size w2.heap.size w3.heap.size n Z p line el wr) (fun i _ => n - (intOf i).toNat)
    case atStart => exact ⟨0, Nat.zero_le _, rfl, HK.out.alloc _⟩
    case round =>
      obtain ⟨k, hk, rfl, HQ⟩ := hrel
      obtain ⟨hbel, hsrc, href, l0, l1, l2, l3⟩ := id HQ
      by_cases hlt : k < n
      · have e1 := hsrc k hlt
        have e2 := href k hlt
        clear hsrc href hbel
        go_wp2
        go_region
        go_wp2
        go_roundw
        case rel => exact ⟨k + 1, by omega, by go_num, HQ.drew⟩
        case measure => simp [intOf]; omega
      · have Href : Hid (∀ i, i < n → wr.cell? ⟨w2.heap.size, i, none⟩ = some (.int .u8 (Z.getD i 0))) := href
        clear hsrc href
        go_wp2_with fail
        refine (model_any w2.heap.size n n p Z wr hn hp HZ.out Href.out).mono ?_
        rw [HS.out]
        rintro e w' ⟨rfl, hw'⟩
        subst hw'
        unfold answer
        go_wp2
        go_ret
        exact ⟨rfl, hbel⟩
  · obtain ⟨hj1, hj2⟩ := scanAt_lt _ _ _ _ HS0
    rw [HZ.out] at hj2
    have HS : Hid (scanAt Z false (p + 1) = some j) := HS0
    clear HS0 hmk hcopy hcopy3
    go_wp2
    go_loopw [17] (fun i wr => ∃ k : Nat, k ≤ n ∧ i = .int .i64 k ∧ Keep w w.heap.size w2.heap.size w3.heap.size n Z ((j : Int) + 1) line el wr) (fun i _ => n - (intOf i).toNat)
    case atStart => exact ⟨0, Nat.zero_le _, rfl, (HKA.out _).drew⟩
    case round =>
      obtain ⟨k, hk, rfl, HQ⟩ := hrel
      obtain ⟨hbel, hsrc, href, l0, l1, l2, l3⟩ := id HQ
      by_cases hlt : k < n
      · have e1 := hsrc k hlt
        have e2 := href k hlt
        clear hsrc href hbel
        go_wp2
        go_region
        go_wp2
        go_roundw
        case rel => exact ⟨k + 1, by omega, by go_num, HQ.drew⟩
        case measure => simp [intOf]; omega
      · have Href : Hid (∀ i, i < n → wr.cell? ⟨w2.heap.size, i, none⟩ = some (.int .u8 (Z.getD i 0))) := href
        clear hsrc href
        have hcv := conv_string (P := Yba.prog) 22 5 9 Yba.underlying22 Yba.underlying5 Yba.underlying9 wr (some ⟨w2.heap.size, p, none⟩) (j + 1 - p) (n - p) (Z.drop p) (by rw [List.length_drop, HZ.out]; omega)
          (.inr ⟨w2.heap.size, p, rfl, fun i hi => by rw [Href.out (p + i) (by omega)]; simp [List.getD_eq_getElem?_getD]⟩)
        go_wp2_with fail
        refine (model_any w2.heap.size n n p Z wr hn hp HZ.out Href.out).mono ?_
        rw [HS.out]
        rintro e w' ⟨rfl, hw'⟩
        subst hw'
        unfold answer
        go_wp2
        go_ret
        exact ⟨rfl, hbel⟩
end Go.Proofs.Ybulkdpxq
