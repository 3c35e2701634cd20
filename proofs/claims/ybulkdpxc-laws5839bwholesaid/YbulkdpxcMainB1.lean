/-
  THE WALK of LawS5839BWhole, one theorem a way: the node count is not, or is, the final count; not all final by order.
-/
import Derived.Test.YbulkdpxcKept
namespace Go.Proofs.Ybulkdpxc
open Go.ChangeShapes Go.WideShapes Go.ChangeAt Go.RowKit
set_option linter.unusedVariables false

set_option maxRecDepth 100000 in
set_option maxHeartbeats 1600000 in
theorem main_ff1 (a0 : Option Addr) (n cap : Nat) (zs : List Int) (ones maj final : Int) (tn td msgs term last round att y1 y2 y4 y5 y6 y7 y8 y9 y10 y11 : Int) (w : World) (hn : n ≤ 1048576)
   (hm1 : -2147483648 ≤ maj) (hm2 : maj ≤ 2147483647) (hz : n ≤ zs.length)
   (hrow : 0 < n → ∃ b off, a0 = some ⟨b, off, none⟩ ∧ b < w.heap.size ∧ ∀ i, i < n → w.cell? ⟨b, off + i, none⟩ = some (.int .i32 (zs.getD i 0)))
   (h1 : ones < wrap64 ((n : Int) - ones)) (hf : (final == (n : Int)) = false) :
   Calls Yba.prog 4 #[.slice a0 n cap, .int .i64 ones, .int .i32 maj, .int .i64 final, .bool false, .agg #[.int .u64 tn, .int .u64 td], .int .i64 msgs, .int .i64 term, .int .i64 last, .agg #[.int .i64 round, .int .i64 y1, .int .i64 y2, .int .i64 att, .int .i64 y4, .int .i64 y5, .int .i64 y6, .int .u64 y7, .int .u64 y8, .int .i64 y9, .int .i64 y10, .int .i64 y11]] w fun e w' => e = .returned (.bool true) ∧ Below w.heap.size w w' := by
  have hmk := run_make_row' (P := Yba.prog) 50 21 (.int .i32 0) 4 Yba.underlying50 info21 rfl .i64 .i64 n (by omega) (by omega)
  obtain ⟨w2, hcopy, hA, hB, hC, hbel, hS⟩ := copied (P := Yba.prog) 50 21 3 .i32 Yba.underlying50 (by kernel_rfl) w (Obj.cells #[Value.int IntKind.u64 tn, Value.int IntKind.u64 td] 52) (Obj.cells #[.int .i64 round, .int .i64 y1, .int .i64 y2, .int .i64 att, .int .i64 y4, .int .i64 y5, .int .i64 y6, .int .u64 y7, .int .u64 y8, .int .i64 y9, .int .i64 y10, .int .i64 y11] 54) n cap a0 zs hz hrow (madeCells #[.int .i32 0] n) (size_madeCells _ _)
  have r0 := cell_of _ _ _ _ hA 0
  have r1 := cell_of _ _ _ _ hA 1
  have k0 := cell_of _ _ _ _ hB 0
  have k1 := cell_of _ _ _ _ hB 1
  have k2 := cell_of _ _ _ _ hB 2
  have k3 := cell_of _ _ _ _ hB 3
  have k4 := cell_of _ _ _ _ hB 4
  have k5 := cell_of _ _ _ _ hB 5
  have k6 := cell_of _ _ _ _ hB 6
  have k7 := cell_of _ _ _ _ hB 7
  have k8 := cell_of _ _ _ _ hB 8
  have k9 := cell_of _ _ _ _ hB 9
  have k10 := cell_of _ _ _ _ hB 10
  have k11 := cell_of _ _ _ _ hB 11
  simp at r0 r1 k0 k1 k2 k3 k4 k5 k6 k7 k8 k9 k10 k11
  have hlt0 : w.heap.size < w2.heap.size := by omega
  have hlt1 : w.heap.size + 1 < w2.heap.size := by omega
  have hlt2 : w.heap.size + 1 + 1 < w2.heap.size := by omega
  have HC : Hid (∀ i, i < n → w2.cell? ⟨w.heap.size + 1 + 1, i, none⟩ = some (.int .i32 (zs.getD i 0))) := hC
  have HR : Hid (0 < n → ∃ b off, a0 = some ⟨b, off, none⟩ ∧ b < w.heap.size ∧ ∀ i, i < n → w.cell? ⟨b, off + i, none⟩ = some (.int .i32 (zs.getD i 0))) := hrow
  have HBel : Hid (Below w.heap.size w w2) := hbel
  clear hA hB hC hrow hbel hS
  have hl : lg ones (wrap64 ((n : Int) - ones)) = wrap64 ((n : Int) - ones) := if_pos h1
  have ht : tmax final n last round = round := if_neg (by simpa using hf)
  go_enter Yba.func4, Yba.ntmps4
  go_wp2_with (go_at_call 9; refine (min1_any _ _).mono ?_; rintro e w' ⟨rfl, rfl⟩)
  refine (census_at _ _ a0 n cap ones maj final tn td msgs term last round _ _ _ _ _ _ _ _ _ _ _ _ hn hm1 hm2 (by simp) (by simp; omega) (by simp) (by simp) (by simp) (by simp) (by simp) (by simp) (by simp) (by simp) (by simp)).mono ?_
  rw [hl, ht]
  rintro e w' ⟨rfl, rfl⟩
  go_wp2
  go_loopw [29] (fun i wr => ∃ k : Nat, k ≤ n ∧ i = .int .i64 k ∧ Kept w w2.heap.size zs n ones maj final tn td msgs term last wr) (fun i _ => n - (intOf i).toNat)
  case atStart =>
    exact ⟨0, Nat.zero_le _, rfl, kept_start HBel.out hlt2 HC.out r0 r1 rfl rfl rfl rfl rfl rfl rfl rfl⟩
  case round =>
    obtain ⟨k, hk, rfl, HK⟩ := hrel
    by_cases hlt : k < n
    · obtain ⟨b, off, ea, hb, hc⟩ := HR.out (by omega)
      subst ea
      have hc1 := hc k hlt
      have hc2 := HK.row k hlt
      rw [← HK.bel.cell (p := ⟨b, off + k, none⟩) hb] at hc1
      clear hc
      go_wp2
      go_region
      go_wp2
      go_roundw
      case rel => exact ⟨k + 1, by omega, by go_num, HK.drew⟩
      case measure => simp [intOf]; omega
    · obtain ⟨bel, row, t0, t1, q19, q20, q34, q35, q36, q37, q38, q39⟩ := HK
      clear row HC HR hmk hcopy
      go_wp2
      go_quiet (fail)
      go_wp2
      go_ret
      exact ⟨rfl, below_drewN bel _⟩

set_option maxRecDepth 100000 in
set_option maxHeartbeats 1600000 in
theorem main_ff0 (a0 : Option Addr) (n cap : Nat) (zs : List Int) (ones maj final : Int) (tn td msgs term last round att y1 y2 y4 y5 y6 y7 y8 y9 y10 y11 : Int) (w : World) (hn : n ≤ 1048576)
   (hm1 : -2147483648 ≤ maj) (hm2 : maj ≤ 2147483647) (hz : n ≤ zs.length)
   (hrow : 0 < n → ∃ b off, a0 = some ⟨b, off, none⟩ ∧ b < w.heap.size ∧ ∀ i, i < n → w.cell? ⟨b, off + i, none⟩ = some (.int .i32 (zs.getD i 0)))
   (h1 : ¬ ones < wrap64 ((n : Int) - ones)) (hf : (final == (n : Int)) = false) :
   Calls Yba.prog 4 #[.slice a0 n cap, .int .i64 ones, .int .i32 maj, .int .i64 final, .bool false, .agg #[.int .u64 tn, .int .u64 td], .int .i64 msgs, .int .i64 term, .int .i64 last, .agg #[.int .i64 round, .int .i64 y1, .int .i64 y2, .int .i64 att, .int .i64 y4, .int .i64 y5, .int .i64 y6, .int .u64 y7, .int .u64 y8, .int .i64 y9, .int .i64 y10, .int .i64 y11]] w fun e w' => e = .returned (.bool true) ∧ Below w.heap.size w w' := by
  have hmk := run_make_row' (P := Yba.prog) 50 21 (.int .i32 0) 4 Yba.underlying50 info21 rfl .i64 .i64 n (by omega) (by omega)
  obtain ⟨w2, hcopy, hA, hB, hC, hbel, hS⟩ := copied (P := Yba.prog) 50 21 3 .i32 Yba.underlying50 (by kernel_rfl) w (Obj.cells #[Value.int IntKind.u64 tn, Value.int IntKind.u64 td] 52) (Obj.cells #[.int .i64 round, .int .i64 y1, .int .i64 y2, .int .i64 att, .int .i64 y4, .int .i64 y5, .int .i64 y6, .int .u64 y7, .int .u64 y8, .int .i64 y9, .int .i64 y10, .int .i64 y11] 54) n cap a0 zs hz hrow (madeCells #[.int .i32 0] n) (size_madeCells _ _)
  have r0 := cell_of _ _ _ _ hA 0
  have r1 := cell_of _ _ _ _ hA 1
  have k0 := cell_of _ _ _ _ hB 0
  have k1 := cell_of _ _ _ _ hB 1
  have k2 := cell_of _ _ _ _ hB 2
  have k3 := cell_of _ _ _ _ hB 3
  have k4 := cell_of _ _ _ _ hB 4
  have k5 := cell_of _ _ _ _ hB 5
  have k6 := cell_of _ _ _ _ hB 6
  have k7 := cell_of _ _ _ _ hB 7
  have k8 := cell_of _ _ _ _ hB 8
  have k9 := cell_of _ _ _ _ hB 9
  have k10 := cell_of _ _ _ _ hB 10
  have k11 := cell_of _ _ _ _ hB 11
  simp at r0 r1 k0 k1 k2 k3 k4 k5 k6 k7 k8 k9 k10 k11
  have hlt0 : w.heap.size < w2.heap.size := by omega
  have hlt1 : w.heap.size + 1 < w2.heap.size := by omega
  have hlt2 : w.heap.size + 1 + 1 < w2.heap.size := by omega
  have HC : Hid (∀ i, i < n → w2.cell? ⟨w.heap.size + 1 + 1, i, none⟩ = some (.int .i32 (zs.getD i 0))) := hC
  have HR : Hid (0 < n → ∃ b off, a0 = some ⟨b, off, none⟩ ∧ b < w.heap.size ∧ ∀ i, i < n → w.cell? ⟨b, off + i, none⟩ = some (.int .i32 (zs.getD i 0))) := hrow
  have HBel : Hid (Below w.heap.size w w2) := hbel
  clear hA hB hC hrow hbel hS
  have hl : lg ones (wrap64 ((n : Int) - ones)) = ones := if_neg h1
  have ht : tmax final n last round = round := if_neg (by simpa using hf)
  go_enter Yba.func4, Yba.ntmps4
  go_wp2_with (go_at_call 9; refine (min1_any _ _).mono ?_; rintro e w' ⟨rfl, rfl⟩)
  refine (census_at _ _ a0 n cap ones maj final tn td msgs term last round _ _ _ _ _ _ _ _ _ _ _ _ hn hm1 hm2 (by simp) (by simp; omega) (by simp) (by simp) (by simp) (by simp) (by simp) (by simp) (by simp) (by simp) (by simp)).mono ?_
  rw [hl, ht]
  rintro e w' ⟨rfl, rfl⟩
  go_wp2
  go_loopw [29] (fun i wr => ∃ k : Nat, k ≤ n ∧ i = .int .i64 k ∧ Kept w w2.heap.size zs n ones maj final tn td msgs term last wr) (fun i _ => n - (intOf i).toNat)
  case atStart =>
    exact ⟨0, Nat.zero_le _, rfl, kept_start HBel.out hlt2 HC.out r0 r1 rfl rfl rfl rfl rfl rfl rfl rfl⟩
  case round =>
    obtain ⟨k, hk, rfl, HK⟩ := hrel
    by_cases hlt : k < n
    · obtain ⟨b, off, ea, hb, hc⟩ := HR.out (by omega)
      subst ea
      have hc1 := hc k hlt
      have hc2 := HK.row k hlt
      rw [← HK.bel.cell (p := ⟨b, off + k, none⟩) hb] at hc1
      clear hc
      go_wp2
      go_region
      go_wp2
      go_roundw
      case rel => exact ⟨k + 1, by omega, by go_num, HK.drew⟩
      case measure => simp [intOf]; omega
    · obtain ⟨bel, row, t0, t1, q19, q20, q34, q35, q36, q37, q38, q39⟩ := HK
      clear row HC HR hmk hcopy
      go_wp2
      go_quiet (fail)
      go_wp2
      go_ret
      exact ⟨rfl, below_drewN bel _⟩

set_option maxRecDepth 100000 in
set_option maxHeartbeats 1600000 in
theorem main_ft1 (a0 : Option Addr) (n cap : Nat) (zs : List Int) (ones maj final : Int) (tn td msgs term last round att y1 y2 y4 y5 y6 y7 y8 y9 y10 y11 : Int) (w : World) (hn : n ≤ 1048576)
   (hm1 : -2147483648 ≤ maj) (hm2 : maj ≤ 2147483647) (hz : n ≤ zs.length)
   (hrow : 0 < n → ∃ b off, a0 = some ⟨b, off, none⟩ ∧ b < w.heap.size ∧ ∀ i, i < n → w.cell? ⟨b, off + i, none⟩ = some (.int .i32 (zs.getD i 0)))
   (h1 : ones < wrap64 ((n : Int) - ones)) (hf : (final == (n : Int)) = true) :
   Calls Yba.prog 4 #[.slice a0 n cap, .int .i64 ones, .int .i32 maj, .int .i64 final, .bool false, .agg #[.int .u64 tn, .int .u64 td], .int .i64 msgs, .int .i64 term, .int .i64 last, .agg #[.int .i64 round, .int .i64 y1, .int .i64 y2, .int .i64 att, .int .i64 y4, .int .i64 y5, .int .i64 y6, .int .u64 y7, .int .u64 y8, .int .i64 y9, .int .i64 y10, .int .i64 y11]] w fun e w' => e = .returned (.bool true) ∧ Below w.heap.size w w' := by
  have hmk := run_make_row' (P := Yba.prog) 50 21 (.int .i32 0) 4 Yba.underlying50 info21 rfl .i64 .i64 n (by omega) (by omega)
  obtain ⟨w2, hcopy, hA, hB, hC, hbel, hS⟩ := copied (P := Yba.prog) 50 21 3 .i32 Yba.underlying50 (by kernel_rfl) w (Obj.cells #[Value.int IntKind.u64 tn, Value.int IntKind.u64 td] 52) (Obj.cells #[.int .i64 round, .int .i64 y1, .int .i64 y2, .int .i64 att, .int .i64 y4, .int .i64 y5, .int .i64 y6, .int .u64 y7, .int .u64 y8, .int .i64 y9, .int .i64 y10, .int .i64 y11] 54) n cap a0 zs hz hrow (madeCells #[.int .i32 0] n) (size_madeCells _ _)
  have r0 := cell_of _ _ _ _ hA 0
  have r1 := cell_of _ _ _ _ hA 1
  have k0 := cell_of _ _ _ _ hB 0
  have k1 := cell_of _ _ _ _ hB 1
  have k2 := cell_of _ _ _ _ hB 2
  have k3 := cell_of _ _ _ _ hB 3
  have k4 := cell_of _ _ _ _ hB 4
  have k5 := cell_of _ _ _ _ hB 5
  have k6 := cell_of _ _ _ _ hB 6
  have k7 := cell_of _ _ _ _ hB 7
  have k8 := cell_of _ _ _ _ hB 8
  have k9 := cell_of _ _ _ _ hB 9
  have k10 := cell_of _ _ _ _ hB 10
  have k11 := cell_of _ _ _ _ hB 11
  simp at r0 r1 k0 k1 k2 k3 k4 k5 k6 k7 k8 k9 k10 k11
  have hlt0 : w.heap.size < w2.heap.size := by omega
  have hlt1 : w.heap.size + 1 < w2.heap.size := by omega
  have hlt2 : w.heap.size + 1 + 1 < w2.heap.size := by omega
  have HC : Hid (∀ i, i < n → w2.cell? ⟨w.heap.size + 1 + 1, i, none⟩ = some (.int .i32 (zs.getD i 0))) := hC
  have HR : Hid (0 < n → ∃ b off, a0 = some ⟨b, off, none⟩ ∧ b < w.heap.size ∧ ∀ i, i < n → w.cell? ⟨b, off + i, none⟩ = some (.int .i32 (zs.getD i 0))) := hrow
  have HBel : Hid (Below w.heap.size w w2) := hbel
  clear hA hB hC hrow hbel hS
  have hl : lg ones (wrap64 ((n : Int) - ones)) = wrap64 ((n : Int) - ones) := if_pos h1
  have ht : tmax final n last round = last := if_pos (by simpa using hf)
  go_enter Yba.func4, Yba.ntmps4
  go_wp2_with (go_at_call 9; refine (min1_any _ _).mono ?_; rintro e w' ⟨rfl, rfl⟩)
  refine (census_at _ _ a0 n cap ones maj final tn td msgs term last round _ _ _ _ _ _ _ _ _ _ _ _ hn hm1 hm2 (by simp) (by simp; omega) (by simp) (by simp) (by simp) (by simp) (by simp) (by simp) (by simp) (by simp) (by simp)).mono ?_
  rw [hl, ht]
  rintro e w' ⟨rfl, rfl⟩
  go_wp2
  go_loopw [29] (fun i wr => ∃ k : Nat, k ≤ n ∧ i = .int .i64 k ∧ Kept w w2.heap.size zs n ones maj final tn td msgs term last wr) (fun i _ => n - (intOf i).toNat)
  case atStart =>
    exact ⟨0, Nat.zero_le _, rfl, kept_start HBel.out hlt2 HC.out r0 r1 rfl rfl rfl rfl rfl rfl rfl rfl⟩
  case round =>
    obtain ⟨k, hk, rfl, HK⟩ := hrel
    by_cases hlt : k < n
    · obtain ⟨b, off, ea, hb, hc⟩ := HR.out (by omega)
      subst ea
      have hc1 := hc k hlt
      have hc2 := HK.row k hlt
      rw [← HK.bel.cell (p := ⟨b, off + k, none⟩) hb] at hc1
      clear hc
      go_wp2
      go_region
      go_wp2
      go_roundw
      case rel => exact ⟨k + 1, by omega, by go_num, HK.drew⟩
      case measure => simp [intOf]; omega
    · obtain ⟨bel, row, t0, t1, q19, q20, q34, q35, q36, q37, q38, q39⟩ := HK
      clear row HC HR hmk hcopy
      go_wp2
      go_quiet (fail)
      go_wp2
      go_ret
      exact ⟨rfl, below_drewN bel _⟩

end Go.Proofs.Ybulkdpxc
