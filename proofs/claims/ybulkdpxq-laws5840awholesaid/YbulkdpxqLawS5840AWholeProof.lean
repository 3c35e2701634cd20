/-
  THE SHELL OF A PROOF OF 'Rows.LawS5840AWholeSaid', WRITTEN BY PROGRAM (proof-skeleton.mjs, third state) off the guide's own print for that function.
  Its one hole, the walk, is filled below.
-/
import Derived.Test.YbulkdpxqRows
import Derived.Test.YbulkdpxqCanon
import Derived.WalkKit
import Derived.ProofKit
import Derived.OpenShut
import Derived.ShutString
import Derived.ChangeOld
import Derived.Below
namespace Go.Proofs.Ybulkdpxq.lawS5840AWhole
open Go.ChangeShapes Go.WideShapes Go.ChangeAt Go.RowKit
open Go.ChangeMaps (open_string shut_string)
set_option linter.unusedVariables false

theorem own : ownKnob Yba.prog.godebug = none := by kernel_rfl
theorem laidOut : laidOutB Yba.prog = true := by kernel_rfl

/-- WHAT THE WALK IS TOLD OF A SLICE OF INTEGERS THAT CAME IN: it is nil; or it leads to a row of 'cap' cells, the numbers 'zs' (the first 'len' are its elements, the rest its spare room), each fitting its kind. -/
def IsRow (k : IntKind) (w : World) (a : Option Addr) (len cap : Nat) (zs : List Int) : Prop :=
  (a = none ∧ len = 0 ∧ cap = 0 ∧ zs = []) ∨
  ∃ x, a = some x ∧ len ≤ cap ∧ cap ≤ maxLen ∧ zs.length = cap ∧ (∀ i, i < zs.length → w.cell? (x.add i) = some (.int k (zs.getD i 0))) ∧ ∀ n ∈ zs, (Lit.int k n).wf = true

/-! ### STEP 1: THE WALK -/
set_option maxRecDepth 100000 in
set_option maxHeartbeats 1600000 in
theorem walk_data (a0 : Option Addr) (n cap : Nat) (zs : List Int) (w : World) (hn : n ≤ 1048576) (hrow : Ybulkdpxq.IsRow .u8 w a0 n zs) (hby : ∀ i, i < n → 0 ≤ zs.getD i 0 ∧ zs.getD i 0 ≤ 255) :
    Calls Yba.prog 3 #[.slice a0 n cap, .bool false] w fun e w' => e = .returned (.bool true) ∧ Below w.heap.size w w' := by
  have hmk := run_make_row' (P := Yba.prog) 22 5 (.int .u8 0) 1 Yba.underlying22 info5 rfl .i64 .i64 n (by omega) (by omega)
  obtain ⟨w2, hcopy, hG, hB, hS⟩ := copied (P := Yba.prog) 22 5 3 .u8 Yba.underlying22 (by kernel_rfl) w n cap a0 zs hrow (madeCells #[.int .u8 0] n) (size_madeCells _ _)
  have HO2 : Hid (Ybulkdpxq.IsRow .u8 w2 (some ⟨w.heap.size, 0, none⟩) n zs) := row_made hG hrow.1
  have HD2 : Hid (Ybulkdpxq.IsRow .u8 w2 a0 n zs) := hrow.old hB
  have HB2 : Hid (Below w.heap.size w w2) := hB
  have hlt : w.heap.size < w2.heap.size := by omega
  have HRow : Hid (Ybulkdpxq.IsRow .u8 w a0 n zs) := hrow
  clear hG hB hS hrow
  go_enter Yba.func3, Yba.ntmps3
  go_wp2_with fail
  refine (canon_any a0 n cap zs w2 hn HD2.out).mono ?_
  rintro e w4 ⟨rfl, hB4, h4⟩
  have q1 : w4.cell? ⟨w2.heap.size, 1, none⟩ = some (.int .i64 1) := cell_of _ _ _ _ h4 1
  have q2 : w4.cell? ⟨w2.heap.size, 2, none⟩ = some (.bool true) := cell_of _ _ _ _ h4 2
  have q3 : w4.cell? ⟨w2.heap.size, 3, none⟩ = some (.bool false) := cell_of _ _ _ _ h4 3
  have q4 : w4.cell? ⟨w2.heap.size, 4, none⟩ = some (.bool true) := cell_of _ _ _ _ h4 4
  have q5 : w4.cell? ⟨w2.heap.size, 5, none⟩ = some (.int .i64 0) := cell_of _ _ _ _ h4 5
  have q6 : w4.cell? ⟨w2.heap.size, 6, none⟩ = some (.bool true) := cell_of _ _ _ _ h4 6
  have q7 : w4.cell? ⟨w2.heap.size, 7, none⟩ = some (.bool true) := cell_of _ _ _ _ h4 7
  obtain ⟨c5, w5, hcv, hB5, hR5⟩ : ∃ c5 w5, (convert 9 22 (.string (strOfNums (zs.take n)))).run Yba.prog w4 = .ok (.slice (some ⟨w4.heap.size, 0, none⟩) n c5) w5 ∧ Below w4.heap.size w4 w5 ∧ Ybulkdpxq.IsRow .u8 w5 (some ⟨w4.heap.size, 0, none⟩) n zs := by
    have h := Lib.run_convert_string_bytes (P := Yba.prog) w4 9 22 5 (strOfNums (zs.take n)) Yba.underlying9 Yba.underlying22 Yba.underlying5
    have e : (strOfNums (zs.take n)).size = n := by rw [strOfNums_size, List.length_take]; exact Nat.min_eq_left HRow.out.1
    rw [e] at h
    exact ⟨_, _, h, below_bytesWorld _ _ _, row_bytesWorld w4 5 n zs HRow.out.1 hby⟩
  have hsz4 := hB4.size
  have HO5 : Hid (Ybulkdpxq.IsRow .u8 w5 (some ⟨w.heap.size, 0, none⟩) n zs) := (HO2.out.old hB4).old hB5
  have HD5 : Hid (Ybulkdpxq.IsRow .u8 w5 a0 n zs) := (HD2.out.old hB4).old hB5
  have HR5 : Hid (Ybulkdpxq.IsRow .u8 w5 (some ⟨w4.heap.size, 0, none⟩) n zs) := hR5
  have HB5 : Hid (Below w.heap.size w w5) := (HB2.out.trans (hB4.mono (by omega))).trans (hB5.mono (by omega))
  clear h4 hB4 hB5 hR5 hmk hcopy
  go_wp2_with fail
  refine (same_any _ _ n c5 n zs w5 hn HR5.out HO5.out).mono ?_
  rintro e w' ⟨rfl, d, rfl⟩
  go_wp2_with fail
  refine (same_any _ _ n cap n zs (w5.drewN d) hn (by exact HD5.out) (by exact HO5.out)).mono ?_
  rintro e w' ⟨rfl, d2, rfl⟩
  go_wp2
  go_ret
  exact ⟨rfl, below_drewN HB5.out _⟩

set_option maxRecDepth 100000 in
theorem walk_nil (a0 : Option Addr) (n cap : Nat) (w : World) (hn : n ≤ 1048576) : Calls Yba.prog 3 #[.slice a0 n cap, .bool true] w fun e w' => e = .returned (.bool true) ∧ Below w.heap.size w w' := by
  have h : ¬ (1048576 : Int) < (n : Int) := by omega
  go_enter Yba.func3, Yba.ntmps3
  go_wp2_with (go_at_call 5; refine (canon_nil _).mono ?_; rintro e w' ⟨rfl, rfl⟩)
  go_ret
  exact ⟨rfl, Below.refl _ _⟩

set_option maxRecDepth 100000 in
theorem walk_long (a0 : Option Addr) (n cap : Nat) (b : Bool) (w : World) (hn : ¬ n ≤ 1048576) : Calls Yba.prog 3 #[.slice a0 n cap, .bool b] w fun e w' => e = .returned (.bool true) ∧ Below w.heap.size w w' := by
  have h : (1048576 : Int) < (n : Int) := by omega
  go_enter Yba.func3, Yba.ntmps3
  go_wp2
  go_ret
  exact ⟨rfl, Below.refl _ _⟩

theorem row_told {w : World} {a : Option Addr} {len cap : Nat} {zs : List Int} (h : IsRow .u8 w a len cap zs) : Ybulkdpxq.IsRow .u8 w a len zs ∧ ∀ i, i < len → 0 ≤ zs.getD i 0 ∧ zs.getD i 0 ≤ 255 := by
  rcases h with ⟨rfl, rfl, rfl, rfl⟩ | ⟨x, rfl, hl, _, hz, hc, hw⟩
  · exact ⟨⟨by simp, fun h => absurd h (by omega)⟩, fun i hi => absurd hi (by omega)⟩
  · refine ⟨row_of hl hz hc, fun i hi => ?_⟩
    rw [List.getD_eq_getElem?_getD, List.getElem?_eq_getElem (by omega)]
    exact bounds_u8 (hw _ (List.getElem_mem (by omega)))

theorem walk (a0 : Option Addr) (len0 cap0 : Nat) (z0 : List Int) (a1 : Bool) (w : World) (w0 : IsRow .u8 w a0 len0 cap0 z0) :
    Calls Yba.prog 3 #[.slice a0 len0 cap0, .bool a1] w fun e w' => e = .returned (.bool true) ∧ Below w.heap.size w w' := by
  by_cases hn : len0 ≤ 1048576
  · cases a1 with
    | true => exact walk_nil a0 len0 cap0 w hn
    | false => exact walk_data a0 len0 cap0 z0 w hn (row_told w0).1 (row_told w0).2
  · exact walk_long a0 len0 cap0 a1 w hn

/-! ### THE ROW's STEP: WRITTEN OUT: LEAVE IT -/
set_option maxRecDepth 100000 in
theorem lifted (os : Os) (started : os.Started) (H : Type) (enc : TypeId × Value → H) :
    ReturnsInHanded {} Yba.checked os 3 .any (Rows.lawS5840AWholeSpec.pre6 enc Yba.prog Yba.f3 Rows.lawS5840AWholeRow.domain false) (Rows.lawS5840AWholeSpec.post enc Yba.prog Yba.f3 false true false false) := by
  refine returnsInHanded_of_change (C := Yba.checked) own started (by kernel_rfl) Yba.func3
    (ChangeSpec.witness6 (enc := enc) (C := Yba.checked) false ⟨#[], #[.slice none 0 0, .bool false], []⟩ 8 (by kernel_rfl) (by kernel_rfl) (by kernel_rfl) (by kernel_rfl)) ?_
  intro W base args ds gs before hval0 hW hcnd _
  have hval : ∀ (j : Nat) t v, Yba.f3.params[j]? = some t → args[j]? = some v → Value.okWide Yba.prog W .any base t v := hval0
  have hW' := hW
  obtain ⟨p, q, hA0, hV, rfl, hfz, hnd⟩ := hW
  have hA : DataW.TrodAll enc Yba.prog W 0 (fun _ => true) true Yba.f3.params.toList args.toList ds p := hA0
  rw [Yba.params3] at hA hval
  obtain ⟨v0, vs0, d0, ds0, p0, q0, hargs, rfl, rfl, h0, r0⟩ := trodAll_cons hA
  obtain ⟨v1, vs1, d1, ds1, p1, q1, rfl, rfl, rfl, h1, r1⟩ := trodAll_cons r0
  obtain ⟨rfl, rfl, rfl⟩ := trodAll_nil r1
  obtain rfl : args = #[v0, v1] := by cases args; simp_all
  obtain ⟨rfl, rfl⟩ := trodVars_none hV
  obtain ⟨a0, len0, cap0, rfl⟩ := okWide_slice Yba.underlying22 (hval 0 22 v0 rfl rfl)
  have k0 := h0
  have lt0 : ∀ x ∈ p0, x.block < W.heap.size := by obtain ⟨m, hm⟩ := k0; exact DataW.trod_lt m _ _ _ hm
  obtain ⟨z0, w0⟩ : ∃ zs, IsRow .u8 W a0 len0 cap0 zs := by
    obtain ⟨fuel, hf⟩ := h0
    rcases open_ints Yba.underlying22 Yba.underlying5 (by kernel_rfl) hf with ⟨hcs, _⟩ | ⟨x, l, c, zs, hcs, _, hl, hm, hz, _, hcell, hwz⟩
    · simp [Value.cells] at hcs
      obtain ⟨rfl, rfl, rfl⟩ := hcs
      exact ⟨[], .inl ⟨rfl, rfl, rfl, rfl⟩⟩
    · simp [Value.cells] at hcs
      obtain ⟨rfl, rfl, rfl⟩ := hcs
      exact ⟨zs, .inr ⟨_, rfl, hl, hm, by simpa using hz, hcell, hwz⟩⟩
  obtain ⟨a1, rfl, rfl, rfl⟩ := open_bool Yba.underlying4 (hval 1 4 v1 rfl rfl) h1
  clear hA0 hval0
  refine (walk a0 len0 cap0 z0 a1 W w0).mono fun e W' ⟨he, bel⟩ => ?_
  subst he
  exact ⟨_, rfl, _, _, _, [], _, [], hW', trodAll_mk1 (shut_bool Yba.underlying4 _), (trodAll_cons_mk (Below.trod laidOut (by kernel_rfl) (of_decide_eq_true (by kernel_rfl)) k0 bel lt0) (trodAll_cons_mk (shut_bool Yba.underlying4 _) trodAll_mk0)), rfl, bel.frame _, fun h => by cases h⟩

theorem over : Rows.lawS5840AWholeRow.holds Yba.pinned (OpenSpec.ofChange Rows.lawS5840AWholeSpec) :=
  OpenClaim.holds_of_wide 3 Yba.f3 rfl rfl rfl rfl rfl rfl rfl ⟨rfl, rfl, rfl, rfl, rfl⟩ rfl rfl rfl rfl rfl (by kernel_rfl) Yba.func3 (by kernel_rfl)
    (of_decide_eq_true (by kernel_rfl)) (by unfold Func.isWrapper; first | (rw [if_pos (by decide +kernel)]; kernel_rfl) | (rw [if_neg (by decide +kernel)]; exact ⟨rfl, rfl⟩))
    (fun os started H enc _ => lifted os started H enc)

/-- ████ THE STATEMENT ████ -/
theorem proved : Rows.LawS5840AWholeSaid := over
end Go.Proofs.Ybulkdpxq.lawS5840AWhole
