/-
  THE CONTRACTS of seat b5839a's second law: 'zzs5839bmin1', '(*opinions).census', '(*binaryState).census': the census is the last block of the world; the state lies in an older one.
-/
import Derived.Test.YbulkdpxcRows
import Derived.WalkKit
import Derived.WalkSpells
import Derived.ProofKit
import Derived.OpenShut
import Derived.BigRegion
import Derived.Laws.StructEq
namespace Go.Proofs.Ybulkdpxc
open Go.ChangeShapes Go.WideShapes Go.ChangeAt Go.RowKit
set_option linter.unusedVariables false

/-! ### What is reckoned -/
def lg (a b : Int) : Int := if a < b then b else a
def m1 (x : Int) : Int := if 1 < x then 1 else x
theorem m1_eq (x : Int) : m1 x = if x < 1 then x else 1 := by unfold m1; split <;> split <;> omega
def tmax (final n last round : Int) : Int := if final = n then last else round

theorem wrap_two : wrap64 (1 + 1) = 2 := by unfold wrap64; omega

theorem min1_any (x : Int) (w : World) : Calls Yba.prog 9 #[.int .i64 x] w fun e w' => e = .returned (.int .i64 (m1 x)) ∧ w' = w := by
  rw [m1_eq]
  by_cases h : x < 1
  · rw [if_pos h]
    go_enter Yba.func9, Yba.ntmps9
    go_wp2
    go_ret
    exact ⟨rfl, rfl⟩
  · rw [if_neg h]
    go_enter Yba.func9, Yba.ntmps9
    go_wp2
    go_ret
    exact ⟨rfl, rfl⟩

set_option maxHeartbeats 4000000 in
theorem opc_any (bs : Nat) (ha : Option Addr) (n cap : Nat) (ones maj : Int) (c0 c1 c2 c3 c4 c5 c6 c7 c8 c9 c10 c11 : Value) (W : World)
   (hn : n ≤ 1048576) (hm1 : -2147483648 ≤ maj) (hm2 : maj ≤ 2147483647) (hbs : bs < W.heap.size) (q0 : W.cell? ⟨bs, 0, none⟩ = some (.slice ha n cap)) (q19 : W.cell? ⟨bs, 19, none⟩ = some (.int .i64 ones)) (q20 : W.cell? ⟨bs, 20, none⟩ = some (.int .i32 maj)) :
    Calls Yba.prog 15 #[.pointer (some ⟨bs, 0, none⟩), .pointer (some ⟨W.heap.size, 0, none⟩)] (W.alloc (.cells #[c0, c1, c2, c3, c4, c5, c6, c7, c8, c9, c10, c11] 54)) fun e w' => e = .returned (.tuple #[]) ∧
      w' = (W.alloc (.cells #[c0, .int .i64 (lg ones (wrap64 ((n : Int) - ones))), .int .i64 (wrap64 (m1 ones + m1 (wrap64 ((n : Int) - ones)))), c3, .int .i64 ones, .int .i64 maj, c6, c7, c8, c9, c10, c11] 54)).drew.drew.drew := by
  unfold lg m1
  by_cases h1 : ones < wrap64 ((n : Int) - ones) <;> by_cases h2 : 1 < ones <;> by_cases h3 : 1 < wrap64 ((n : Int) - ones)
  all_goals
    first
    | (exfalso; omega)
    | (first | rw [if_pos h1] | rw [if_neg h1]
       first | rw [if_pos h2] | rw [if_neg h2]
       first | rw [if_pos h3] | rw [if_neg h3]
       try rw [wrap_two]
       go_enter Yba.func15, Yba.ntmps15
       go_wp2
       go_region
       go_wp2
       go_region
       go_wp2
       go_region
       go_wp2
       go_end0
       exact ⟨rfl, rfl⟩)

set_option maxHeartbeats 4000000 in
theorem census_any (bs : Nat) (ha : Option Addr) (n cap : Nat) (ones maj final tn td msgs term last round : Int) (c1 c2 c3 c4 c5 c6 c7 c8 c9 c10 c11 : Value) (W : World)
   (hn : n ≤ 1048576) (hm1 : -2147483648 ≤ maj) (hm2 : maj ≤ 2147483647) (hbs : bs < W.heap.size) (q0 : W.cell? ⟨bs, 0, none⟩ = some (.slice ha n cap)) (q19 : W.cell? ⟨bs, 19, none⟩ = some (.int .i64 ones)) (q20 : W.cell? ⟨bs, 20, none⟩ = some (.int .i32 maj))
   (q34 : W.cell? ⟨bs, 34, none⟩ = some (.int .i64 final)) (q35 : W.cell? ⟨bs, 35, none⟩ = some (.int .u64 tn)) (q36 : W.cell? ⟨bs, 36, none⟩ = some (.int .u64 td)) (q37 : W.cell? ⟨bs, 37, none⟩ = some (.int .i64 msgs))
   (q38 : W.cell? ⟨bs, 38, none⟩ = some (.int .i64 term)) (q39 : W.cell? ⟨bs, 39, none⟩ = some (.int .i64 last)) :
    Calls Yba.prog 10 #[.pointer (some ⟨bs, 0, none⟩), .pointer (some ⟨W.heap.size, 0, none⟩)] (W.alloc (.cells #[.int .i64 round, c1, c2, c3, c4, c5, c6, c7, c8, c9, c10, c11] 54)) fun e w' => e = .returned (.tuple #[]) ∧
      w' = (W.alloc (.cells #[.int .i64 round, .int .i64 (lg ones (wrap64 ((n : Int) - ones))), .int .i64 (wrap64 (m1 ones + m1 (wrap64 ((n : Int) - ones)))), c3, .int .i64 ones, .int .i64 maj, .int .i64 final, .int .u64 tn, .int .u64 td, .int .i64 msgs,
        .int .i64 (wrap64 (term + wrap64 (wrap64 ((n : Int) - final) * round))), .int .i64 (tmax final n last round)] 54)).drew.drew.drew.drew.drew := by
  unfold tmax
  by_cases hf : final = (n : Int)
  · rw [if_pos hf]
    have hf' : (final == (n : Int)) = true := by simpa using hf
    have H : Hid (final = (n : Int)) := hf
    clear hf
    go_enter Yba.func10, Yba.ntmps10
    go_wp2_with (go_at_call 15; refine (opc_any bs ha n cap ones maj _ _ _ _ _ _ _ _ _ _ _ _ W hn hm1 hm2 hbs q0 q19 q20).mono ?_; rintro e w' ⟨rfl, rfl⟩)
    go_region
    go_wp2
    go_region
    go_wp2
    go_end0
    exact ⟨rfl, rfl⟩
  · rw [if_neg hf]
    have hf' : (final == (n : Int)) = false := by simpa using hf
    have H : Hid (¬ final = (n : Int)) := hf
    clear hf
    go_enter Yba.func10, Yba.ntmps10
    go_wp2_with (go_at_call 15; refine (opc_any bs ha n cap ones maj _ _ _ _ _ _ _ _ _ _ _ _ W hn hm1 hm2 hbs q0 q19 q20).mono ?_; rintro e w' ⟨rfl, rfl⟩)
    go_region
    go_wp2
    go_region
    go_wp2
    go_end0
    exact ⟨rfl, rfl⟩
end Go.Proofs.Ybulkdpxc
