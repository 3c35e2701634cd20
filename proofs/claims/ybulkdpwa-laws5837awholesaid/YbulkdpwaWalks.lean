/-
  THE WALKS of seat b5837a: 'unpack' by a contract over any word whose fields are known; the law out of it.
-/
import Derived.Test.YbulkdpwaRows
import Derived.Test.YbulkdpwaPlain
import Derived.WalkKit
import Derived.WalkSpells
import Derived.ProofKit
import Derived.OpenShut
import Derived.Laws.StructEq
namespace Go.Proofs.Ybulkdpwa
open Go.ChangeShapes Go.WideShapes Go.ChangeAt Go.RowKit
set_option maxHeartbeats 400000 in
theorem unpack_3 (v hi k p f : Int) (l c : Bool) (h0 : 0 ≤ v) (h1 : v < 18446744073709551616) (b4 : 0 ≤ k ∧ k ≤ 255) (b5 : 0 ≤ p ∧ p ≤ 255) (b6 : 0 ≤ f ∧ f ≤ 255) (hk : (k == 3) = true)
    (ek : bits .and .u64 (v / 65536) 255 = k) (ep : bits .and .u64 (v / 256) 255 = p) (ef : bits .and .u64 v 255 = f) (eh : v / 4294967296 = hi) (el : (bits .and .u64 v 16777216 != 0) = l) (ec : (bits .and .u64 v 33554432 != 0) = c) (w : World) :
    Calls Yba.prog 4 #[.int .u64 v] w fun e w' => e = .returned (.agg #[.int .i64 k, .int .i64 p, .int .i64 f, .int .u32 0, .int .u32 hi, .bool l, .bool c]) ∧ ∃ c1 c2 : Array Value, w' = (w.alloc (.cells c1 28)).alloc (.cells c2 28) := by
  go_enter Yba.func4, Yba.ntmps4
  go_wp2
  simp [bodyPost, results, Yba.results4, go_sem]
  exact ⟨_, _, rfl⟩
set_option maxHeartbeats 400000 in
theorem unpack_n (v hi k p f : Int) (l c : Bool) (h0 : 0 ≤ v) (h1 : v < 18446744073709551616) (b4 : 0 ≤ k ∧ k ≤ 255) (b5 : 0 ≤ p ∧ p ≤ 255) (b6 : 0 ≤ f ∧ f ≤ 255) (hk : (k == 3) = false)
    (ek : bits .and .u64 (v / 65536) 255 = k) (ep : bits .and .u64 (v / 256) 255 = p) (ef : bits .and .u64 v 255 = f) (eh : v / 4294967296 = hi) (el : (bits .and .u64 v 16777216 != 0) = l) (ec : (bits .and .u64 v 33554432 != 0) = c) (w : World) :
    Calls Yba.prog 4 #[.int .u64 v] w fun e w' => e = .returned (.agg #[.int .i64 k, .int .i64 p, .int .i64 f, .int .u32 hi, .int .u32 0, .bool l, .bool c]) ∧ ∃ c1 c2 : Array Value, w' = (w.alloc (.cells c1 28)).alloc (.cells c2 28) := by
  go_enter Yba.func4, Yba.ntmps4
  go_wp2
  simp [bodyPost, results, Yba.results4, go_sem]
  exact ⟨_, _, rfl⟩

set_option maxHeartbeats 800000 in
theorem walk_3 (a0 a1 : Int) (a2 a3 : Bool) (a4 a5 a6 : Int) (b0 : 0 ≤ a0 ∧ a0 ≤ 4294967295) (b1 : 0 ≤ a1 ∧ a1 ≤ 255) (b4 : 0 ≤ a4 ∧ a4 ≤ 255) (b5 : 0 ≤ a5 ∧ a5 ≤ 255) (b6 : 0 ≤ a6 ∧ a6 ≤ 255) (hk : (a4 == 3) = true) (w : World) :
    Calls Yba.prog 3 #[.int .u32 a0, .int .u8 a1, .bool a2, .bool a3, .int .u8 a4, .int .u8 a5, .int .u8 a6] w fun e w' => e = .returned (.bool true) ∧ Grown w w' := by
  have br : 0 ≤ a1 % 64 ∧ a1 % 64 < 64 := by omega
  have e0 := word_ff a0 (a1 % 64) a4 a5 a6 b0 br b4 b5 b6
  have et := fun c => word_tf a0 (a1 % 64) a4 a5 a6 c b0 br b4 b5 b6
  have ec := fun l => word_ct a0 (a1 % 64) a4 a5 a6 l b0 br b4 b5 b6
  cases a2 <;> cases a3
  all_goals
    go_enter Yba.func3, Yba.ntmps3
    go_wp2_with fail
    refine (unpack_3 _ a0 a4 a5 a6 _ _ (word_bd a0 (a1 % 64) a4 a5 a6 _ _ b0 br b4 b5 b6).1 (word_bd a0 (a1 % 64) a4 a5 a6 _ _ b0 br b4 b5 b6).2 b4 b5 b6 hk (get_k a0 (a1 % 64) a4 a5 a6 _ _ b0 br b4 b5 b6) (get_p a0 (a1 % 64) a4 a5 a6 _ _ b0 br b4 b5 b6) (get_f a0 (a1 % 64) a4 a5 a6 _ _ b0 br b4 b5 b6) (get_hi a0 (a1 % 64) a4 a5 a6 _ _ b0 br b4 b5 b6) (get_l a0 (a1 % 64) a4 a5 a6 _ _ b0 br b4 b5 b6) (get_c a0 (a1 % 64) a4 a5 a6 _ _ b0 br b4 b5 b6) _).mono ?_
    rintro e w' ⟨rfl, c1, c2, rfl⟩
    go_wp2
    go_ret
    exact ⟨rfl, by repeat (first | exact Grown.refl _ | apply Grown.drew | apply Grown.alloc)⟩
set_option maxHeartbeats 800000 in
theorem walk_n (a0 a1 : Int) (a2 a3 : Bool) (a4 a5 a6 : Int) (b0 : 0 ≤ a0 ∧ a0 ≤ 4294967295) (b1 : 0 ≤ a1 ∧ a1 ≤ 255) (b4 : 0 ≤ a4 ∧ a4 ≤ 255) (b5 : 0 ≤ a5 ∧ a5 ≤ 255) (b6 : 0 ≤ a6 ∧ a6 ≤ 255) (hk : (a4 == 3) = false) (w : World) :
    Calls Yba.prog 3 #[.int .u32 a0, .int .u8 a1, .bool a2, .bool a3, .int .u8 a4, .int .u8 a5, .int .u8 a6] w fun e w' => e = .returned (.bool true) ∧ Grown w w' := by
  have br : 0 ≤ a1 % 64 ∧ a1 % 64 < 64 := by omega
  have e0 := word_ff a0 (a1 % 64) a4 a5 a6 b0 br b4 b5 b6
  have et := fun c => word_tf a0 (a1 % 64) a4 a5 a6 c b0 br b4 b5 b6
  have ec := fun l => word_ct a0 (a1 % 64) a4 a5 a6 l b0 br b4 b5 b6
  cases a2 <;> cases a3
  all_goals
    go_enter Yba.func3, Yba.ntmps3
    go_wp2_with fail
    refine (unpack_n _ a0 a4 a5 a6 _ _ (word_bd a0 (a1 % 64) a4 a5 a6 _ _ b0 br b4 b5 b6).1 (word_bd a0 (a1 % 64) a4 a5 a6 _ _ b0 br b4 b5 b6).2 b4 b5 b6 hk (get_k a0 (a1 % 64) a4 a5 a6 _ _ b0 br b4 b5 b6) (get_p a0 (a1 % 64) a4 a5 a6 _ _ b0 br b4 b5 b6) (get_f a0 (a1 % 64) a4 a5 a6 _ _ b0 br b4 b5 b6) (get_hi a0 (a1 % 64) a4 a5 a6 _ _ b0 br b4 b5 b6) (get_l a0 (a1 % 64) a4 a5 a6 _ _ b0 br b4 b5 b6) (get_c a0 (a1 % 64) a4 a5 a6 _ _ b0 br b4 b5 b6) _).mono ?_
    rintro e w' ⟨rfl, c1, c2, rfl⟩
    go_wp2
    go_ret
    exact ⟨rfl, by repeat (first | exact Grown.refl _ | apply Grown.drew | apply Grown.alloc)⟩
theorem walk_of (a0 a1 : Int) (a2 a3 : Bool) (a4 a5 a6 : Int) (b0 : 0 ≤ a0 ∧ a0 ≤ 4294967295) (b1 : 0 ≤ a1 ∧ a1 ≤ 255) (b4 : 0 ≤ a4 ∧ a4 ≤ 255) (b5 : 0 ≤ a5 ∧ a5 ≤ 255) (b6 : 0 ≤ a6 ∧ a6 ≤ 255) (w : World) :
    Calls Yba.prog 3 #[.int .u32 a0, .int .u8 a1, .bool a2, .bool a3, .int .u8 a4, .int .u8 a5, .int .u8 a6] w fun e w' => e = .returned (.bool true) ∧ Grown w w' := by
  by_cases hk3 : a4 = 3
  · exact walk_3 a0 a1 a2 a3 a4 a5 a6 b0 b1 b4 b5 b6 (by simpa using hk3) w
  · exact walk_n a0 a1 a2 a3 a4 a5 a6 b0 b1 b4 b5 b6 (by simpa using hk3) w
end Go.Proofs.Ybulkdpwa
