/-
  'Rows.LawS5839BWholeSaid' PROVED: the walk's ways joined; the row's step after the guide's frame for laws over slices (the arguments read again by 'Below.trod').
-/
import Derived.Test.YbulkdpxcOpen
import Derived.Test.YbulkdpxcMainB1
import Derived.Test.YbulkdpxcMainB2
import Derived.ShutString
import Derived.Carry
namespace Go.Proofs.Ybulkdpxc.lawS5839BWhole
open Go.ChangeShapes Go.WideShapes Go.ChangeAt Go.RowKit
set_option linter.unusedVariables false

set_option maxRecDepth 100000 in
/-- More than 2^20 nodes: true at once. -/
theorem long (a0 : Option Addr) (n cap : Nat) (ones maj final : Int) (af : Bool) (v5 : Array Value) (msgs term last : Int) (v9 : Array Value) (w : World) (hn : ¬ n ≤ 1048576) :
   Calls Yba.prog 4 #[.slice a0 n cap, .int .i64 ones, .int .i32 maj, .int .i64 final, .bool af, .agg v5, .int .i64 msgs, .int .i64 term, .int .i64 last, .agg v9] w fun e w' => e = .returned (.bool true) ∧ Below w.heap.size w w' := by
  have h : (1048576 : Int) < (n : Int) := by omega
  go_enter Yba.func4, Yba.ntmps4
  go_wp2
  go_ret
  exact ⟨rfl, ((Below.refl _ _).alloc (Nat.le_refl _) _).alloc (by simp) _⟩

theorem walk (a0 : Option Addr) (n cap : Nat) (zs : List Int) (ones maj final : Int) (af : Bool) (tn td msgs term last round att y1 y2 y4 y5 y6 y7 y8 y9 y10 y11 : Int) (w : World) (hr : IsRow .i32 w a0 n cap zs) (hm : -2147483648 ≤ maj ∧ maj ≤ 2147483647) :
   Calls Yba.prog 4 #[.slice a0 n cap, .int .i64 ones, .int .i32 maj, .int .i64 final, .bool af, .agg #[.int .u64 tn, .int .u64 td], .int .i64 msgs, .int .i64 term, .int .i64 last, .agg #[.int .i64 round, .int .i64 y1, .int .i64 y2, .int .i64 att, .int .i64 y4, .int .i64 y5, .int .i64 y6, .int .u64 y7, .int .u64 y8, .int .i64 y9, .int .i64 y10, .int .i64 y11]] w fun e w' => e = .returned (.bool true) ∧ Below w.heap.size w w' := by
  by_cases hn : n ≤ 1048576
  · obtain ⟨hz, hrow⟩ := hr
    by_cases h1 : ones < wrap64 ((n : Int) - ones)
    · cases af with
      | true => exact main_t1 a0 n cap zs ones maj final tn td msgs term last round att y1 y2 y4 y5 y6 y7 y8 y9 y10 y11 w hn hm.1 hm.2 hz hrow h1
      | false =>
        cases hf : (final == (n : Int)) with
        | true => exact main_ft1 a0 n cap zs ones maj final tn td msgs term last round att y1 y2 y4 y5 y6 y7 y8 y9 y10 y11 w hn hm.1 hm.2 hz hrow h1 hf
        | false => exact main_ff1 a0 n cap zs ones maj final tn td msgs term last round att y1 y2 y4 y5 y6 y7 y8 y9 y10 y11 w hn hm.1 hm.2 hz hrow h1 hf
    · cases af with
      | true => exact main_t0 a0 n cap zs ones maj final tn td msgs term last round att y1 y2 y4 y5 y6 y7 y8 y9 y10 y11 w hn hm.1 hm.2 hz hrow h1
      | false =>
        cases hf : (final == (n : Int)) with
        | true => exact main_ft0 a0 n cap zs ones maj final tn td msgs term last round att y1 y2 y4 y5 y6 y7 y8 y9 y10 y11 w hn hm.1 hm.2 hz hrow h1 hf
        | false => exact main_ff0 a0 n cap zs ones maj final tn td msgs term last round att y1 y2 y4 y5 y6 y7 y8 y9 y10 y11 w hn hm.1 hm.2 hz hrow h1 hf
  · exact long a0 n cap ones maj final af _ msgs term last _ w hn

/-! ### THE ROW's STEP -/
set_option maxRecDepth 100000 in
theorem lifted (os : Os) (started : os.Started) (H : Type) (enc : TypeId × Value → H) :
    ReturnsInHanded {} Yba.checked os 4 .any (Rows.lawS5839BWholeSpec.pre6 enc Yba.prog Yba.f4 Rows.lawS5839BWholeRow.domain false) (Rows.lawS5839BWholeSpec.post enc Yba.prog Yba.f4 false true false false) := by
  refine returnsInHanded_of_change (C := Yba.checked) own started (by kernel_rfl) Yba.func4
    (ChangeSpec.witness6 (enc := enc) (C := Yba.checked) false ⟨#[], #[.slice none 0 0, .int .i64 0, .int .i32 0, .int .i64 0, .bool false, .agg #[.int .u64 0, .int .u64 0], .int .i64 0, .int .i64 0, .int .i64 0, .agg #[.int .i64 0, .int .i64 0, .int .i64 0, .int .i64 0, .int .i64 0, .int .i64 0, .int .i64 0, .int .u64 0, .int .u64 0, .int .i64 0, .int .i64 0, .int .i64 0]], []⟩ 8 (by kernel_rfl) (by kernel_rfl) (by kernel_rfl) (by kernel_rfl)) ?_
  intro W base args ds gs before hval0 hW hcnd _
  have hval : ∀ (j : Nat) t v, Yba.f4.params[j]? = some t → args[j]? = some v → Value.okWide Yba.prog W .any base t v := hval0
  have hW' := hW
  obtain ⟨p, q, hA0, hV, rfl, hfz, hnd⟩ := hW
  have hA : DataW.TrodAll enc Yba.prog W 0 (fun _ => true) true Yba.f4.params.toList args.toList ds p := hA0
  rw [Yba.params4] at hA hval
  obtain ⟨v0, vs0, d0, ds0, p0, q0, hargs, rfl, rfl, h0, r0⟩ := trodAll_cons hA
  obtain ⟨v1, vs1, d1, ds1, p1, q1, rfl, rfl, rfl, h1, r1⟩ := trodAll_cons r0
  obtain ⟨v2, vs2, d2, ds2, p2, q2, rfl, rfl, rfl, h2, r2⟩ := trodAll_cons r1
  obtain ⟨v3, vs3, d3, ds3, p3, q3, rfl, rfl, rfl, h3, r3⟩ := trodAll_cons r2
  obtain ⟨v4, vs4, d4, ds4, p4, q4, rfl, rfl, rfl, h4, r4⟩ := trodAll_cons r3
  obtain ⟨v5, vs5, d5, ds5, p5, q5, rfl, rfl, rfl, h5, r5⟩ := trodAll_cons r4
  obtain ⟨v6, vs6, d6, ds6, p6, q6, rfl, rfl, rfl, h6, r6⟩ := trodAll_cons r5
  obtain ⟨v7, vs7, d7, ds7, p7, q7, rfl, rfl, rfl, h7, r7⟩ := trodAll_cons r6
  obtain ⟨v8, vs8, d8, ds8, p8, q8, rfl, rfl, rfl, h8, r8⟩ := trodAll_cons r7
  obtain ⟨v9, vs9, d9, ds9, p9, q9, rfl, rfl, rfl, h9, r9⟩ := trodAll_cons r8
  obtain ⟨rfl, rfl, rfl⟩ := trodAll_nil r9
  obtain rfl : args = #[v0, v1, v2, v3, v4, v5, v6, v7, v8, v9] := by cases args; simp_all
  obtain ⟨rfl, rfl⟩ := trodVars_none hV
  obtain ⟨a0, len0, cap0, rfl⟩ := okWide_slice Yba.underlying50 (hval 0 50 v0 rfl rfl)
  have k0 := h0
  have lt0 : ∀ x ∈ p0, x.block < W.heap.size := by obtain ⟨m, hm⟩ := k0; exact DataW.trod_lt m _ _ _ hm
  obtain ⟨z0, w0⟩ : ∃ zs, IsRow .i32 W a0 len0 cap0 zs := by
    obtain ⟨fuel, hf⟩ := h0
    rcases open_ints Yba.underlying50 Yba.underlying21 (by kernel_rfl) hf with ⟨hcs, _⟩ | ⟨x, l, c, zs, hcs, _, hl, hm, hz, _, hcell, hwz⟩
    · simp [Value.cells] at hcs
      obtain ⟨rfl, rfl, rfl⟩ := hcs
      exact ⟨[], by simp, fun h => absurd h (by omega)⟩
    · simp [Value.cells] at hcs
      obtain ⟨rfl, rfl, rfl⟩ := hcs
      exact ⟨zs, row_of hl (by simpa using hz) hcell⟩
  obtain ⟨a1, rfl, rfl, rfl, w1⟩ := open_int Yba.underlying3 (hval 1 3 v1 rfl rfl) h1
  obtain ⟨a2, rfl, rfl, rfl, w2⟩ := open_int Yba.underlying21 (hval 2 21 v2 rfl rfl) h2
  obtain ⟨a3, rfl, rfl, rfl, w3⟩ := open_int Yba.underlying3 (hval 3 3 v3 rfl rfl) h3
  obtain ⟨a4, rfl, rfl, rfl⟩ := open_bool Yba.underlying4 (hval 4 4 v4 rfl rfl) h4
  have k5 := h5
  have lt5 : ∀ x ∈ p5, x.block < W.heap.size := by obtain ⟨m, hm⟩ := k5; exact DataW.trod_lt m _ _ _ hm
  obtain ⟨tn, td, rfl⟩ := open_ratio (hval 5 52 v5 rfl rfl) h5
  obtain ⟨a6, rfl, rfl, rfl, w6⟩ := open_int Yba.underlying2 (hval 6 2 v6 rfl rfl) h6
  obtain ⟨a7, rfl, rfl, rfl, w7⟩ := open_int Yba.underlying2 (hval 7 2 v7 rfl rfl) h7
  obtain ⟨a8, rfl, rfl, rfl, w8⟩ := open_int Yba.underlying3 (hval 8 3 v8 rfl rfl) h8
  have k9 := h9
  have lt9 : ∀ x ∈ p9, x.block < W.heap.size := by obtain ⟨m, hm⟩ := k9; exact DataW.trod_lt m _ _ _ hm
  obtain ⟨c0, c1, c2, c3, c4, c5, c6, c7, c8, c9, c10, c11, rfl⟩ := open_census (hval 9 54 v9 rfl rfl) h9
  clear hA0 hval0
  refine (walk a0 len0 cap0 z0 a1 a2 a3 a4 tn td a6 a7 a8 c0 c3 c1 c2 c4 c5 c6 c7 c8 c9 c10 c11 W w0 (bounds_i32 w2)).mono fun e W' ⟨he, bel⟩ => ?_
  subst he
  exact ⟨_, rfl, _, _, _, [], _, [], hW', trodAll_mk1 (shut_bool Yba.underlying4 _), (trodAll_cons_mk (Below.trod laidOut (by kernel_rfl) (of_decide_eq_true (by kernel_rfl)) k0 bel lt0) (trodAll_cons_mk (shut_int Yba.underlying3 w1) (trodAll_cons_mk (shut_int Yba.underlying21 w2) (trodAll_cons_mk (shut_int Yba.underlying3 w3) (trodAll_cons_mk (shut_bool Yba.underlying4 _) (trodAll_cons_mk (Below.trod laidOut (by kernel_rfl) (of_decide_eq_true (by kernel_rfl)) k5 bel lt5) (trodAll_cons_mk (shut_int Yba.underlying2 w6) (trodAll_cons_mk (shut_int Yba.underlying2 w7) (trodAll_cons_mk (shut_int Yba.underlying3 w8) (trodAll_cons_mk (Below.trod laidOut (by kernel_rfl) (of_decide_eq_true (by kernel_rfl)) k9 bel lt9) trodAll_mk0)))))))))), rfl, bel.frame _, fun h => by cases h⟩

theorem over : Rows.lawS5839BWholeRow.holds Yba.pinned (OpenSpec.ofChange Rows.lawS5839BWholeSpec) :=
  OpenClaim.holds_of_wide 4 Yba.f4 rfl rfl rfl rfl rfl rfl rfl ⟨rfl, rfl, rfl, rfl, rfl⟩ rfl rfl rfl rfl rfl (by kernel_rfl) Yba.func4 (by kernel_rfl)
    (of_decide_eq_true (by kernel_rfl)) (by unfold Func.isWrapper; first | (rw [if_pos (by decide +kernel)]; kernel_rfl) | (rw [if_neg (by decide +kernel)]; exact ⟨rfl, rfl⟩))
    (fun os started H enc _ => lifted os started H enc)

/-- THE STATEMENT -/
theorem proved : Rows.LawS5839BWholeSaid := over
end Go.Proofs.Ybulkdpxc.lawS5839BWhole
