/-
  'Rows.LawS5839AWholeSaid' PROVED: the walk's ways joined; the row's step after the guide's frame for laws over slices (the arguments read again by 'Below.trod').
-/
import Derived.Test.YbulkdpxcOpen
import Derived.Test.YbulkdpxcMainAt
import Derived.Test.YbulkdpxcMainAf
import Derived.Deep.SlicePairs
import Derived.ShutString
import Derived.Carry
namespace Go.Proofs.Ybulkdpxc.lawS5839AWhole
open Go.ChangeShapes Go.WideShapes Go.ChangeAt Go.RowKit
set_option linter.unusedVariables false

/-- What the walk is told of a slice of two bools each. -/
def IsPairs (w : World) (a : Option Addr) (n : Nat) (cs es : Nat → Bool) : Prop :=
  0 < n → ∃ b off, a = some ⟨b, off, none⟩ ∧ b < w.heap.size ∧ ∀ i, i < n → w.cell? ⟨b, off + i * 2, none⟩ = some (.bool (cs i)) ∧ w.cell? ⟨b, off + i * 2 + 1, none⟩ = some (.bool (es i))

set_option maxRecDepth 100000 in
/-- More than 2^20 others: true at once. -/
theorem long (c ev : Bool) (mw : Int) (a3 : Option Addr) (n cap : Nat) (ih : Bool) (pos : Int) (w : World) (hn : ¬ n ≤ 1048576) :
   Calls Yba.prog 3 #[.bool c, .bool ev, .int .i64 mw, .slice a3 n cap, .bool ih, .int .u8 pos] w fun e w' => e = .returned (.bool true) ∧ Below w.heap.size w w' := by
  have h : (1048576 : Int) < (n : Int) := by omega
  go_enter Yba.func3, Yba.ntmps3
  go_wp2
  go_ret
  exact ⟨rfl, Below.refl _ _⟩

theorem walk (c ev : Bool) (mw : Int) (a3 : Option Addr) (n cap : Nat) (cs es : Nat → Bool) (ih : Bool) (pos : Int) (w : World) (hr : IsPairs w a3 n cs es) (hp : 0 ≤ pos ∧ pos ≤ 255) :
   Calls Yba.prog 3 #[.bool c, .bool ev, .int .i64 mw, .slice a3 n cap, .bool ih, .int .u8 pos] w fun e w' => e = .returned (.bool true) ∧ Below w.heap.size w w' := by
  by_cases hn : n ≤ 1048576
  · cases ih with
    | true =>
      obtain ⟨p, hA⟩ := Int.eq_ofNat_of_zero_le (show 0 ≤ pos % ((n : Int) + 1) from Int.emod_nonneg _ (by omega))
      have hlt : pos % ((n : Int) + 1) < (n : Int) + 1 := Int.emod_lt_of_pos _ (by omega)
      exact main_t c ev mw a3 n cap cs es pos p w hn hp.1 hp.2 hA (by omega) hr
    | false => exact main_f c ev mw a3 n cap cs es pos (n + 2) w hn (by omega) hr
  · exact long c ev mw a3 n cap ih pos w hn

theorem block_lt {w : World} {a : Addr} {v : Value} (h : w.cell? a = some v) : a.block < w.heap.size := World.block_lt_of_cell? w a h

/-! ### THE ROW's STEP -/
set_option maxRecDepth 100000 in
theorem lifted (os : Os) (started : os.Started) (H : Type) (enc : TypeId × Value → H) :
    ReturnsInHanded {} Yba.checked os 3 .any (Rows.lawS5839AWholeSpec.pre6 enc Yba.prog Yba.f3 Rows.lawS5839AWholeRow.domain false) (Rows.lawS5839AWholeSpec.post enc Yba.prog Yba.f3 false true false false) := by
  refine returnsInHanded_of_change (C := Yba.checked) own started (by kernel_rfl) Yba.func3
    (ChangeSpec.witness6 (enc := enc) (C := Yba.checked) false ⟨#[], #[.bool false, .bool false, .int .i64 0, .slice none 0 0, .bool false, .int .u8 0], []⟩ 8 (by kernel_rfl) (by kernel_rfl) (by kernel_rfl) (by kernel_rfl)) ?_
  intro W base args ds gs before hval0 hW hcnd _
  have hval : ∀ (j : Nat) t v, Yba.f3.params[j]? = some t → args[j]? = some v → Value.okWide Yba.prog W .any base t v := hval0
  have hW' := hW
  obtain ⟨p, q, hA0, hV, rfl, hfz, hnd⟩ := hW
  have hA : DataW.TrodAll enc Yba.prog W 0 (fun _ => true) true Yba.f3.params.toList args.toList ds p := hA0
  rw [Yba.params3] at hA hval
  obtain ⟨v0, vs0, d0, ds0, p0, q0, hargs, rfl, rfl, h0, r0⟩ := trodAll_cons hA
  obtain ⟨v1, vs1, d1, ds1, p1, q1, rfl, rfl, rfl, h1, r1⟩ := trodAll_cons r0
  obtain ⟨v2, vs2, d2, ds2, p2, q2, rfl, rfl, rfl, h2, r2⟩ := trodAll_cons r1
  obtain ⟨v3, vs3, d3, ds3, p3, q3, rfl, rfl, rfl, h3, r3⟩ := trodAll_cons r2
  obtain ⟨v4, vs4, d4, ds4, p4, q4, rfl, rfl, rfl, h4, r4⟩ := trodAll_cons r3
  obtain ⟨v5, vs5, d5, ds5, p5, q5, rfl, rfl, rfl, h5, r5⟩ := trodAll_cons r4
  obtain ⟨rfl, rfl, rfl⟩ := trodAll_nil r5
  obtain rfl : args = #[v0, v1, v2, v3, v4, v5] := by cases args; simp_all
  obtain ⟨rfl, rfl⟩ := trodVars_none hV
  obtain ⟨a0, rfl, rfl, rfl⟩ := open_bool Yba.underlying4 (hval 0 4 v0 rfl rfl) h0
  obtain ⟨a1, rfl, rfl, rfl⟩ := open_bool Yba.underlying4 (hval 1 4 v1 rfl rfl) h1
  obtain ⟨a2, rfl, rfl, rfl, w2⟩ := open_int Yba.underlying2 (hval 2 2 v2 rfl rfl) h2
  obtain ⟨a3, len3, cap3, rfl⟩ := okWide_slice Yba.underlying22 (hval 3 22 v3 rfl rfl)
  have k3 := h3
  have lt3 : ∀ x ∈ p3, x.block < W.heap.size := by obtain ⟨m, hm⟩ := k3; exact DataW.trod_lt m _ _ _ hm
  obtain ⟨cs, es, w3⟩ : ∃ cs es, IsPairs W a3 len3 cs es := by
    obtain ⟨fuel, hf⟩ := h3
    rcases Go.Deep.open_slice_pairs Yba.underlying22 Yba.underlying34 (by kernel_rfl) rfl rfl (by kernel_rfl) (by kernel_rfl) hf with ⟨hcs, _⟩ | ⟨x, l, c, m, k, V0, V1, D0, D1, P0, P1, hcs, _, hl, _, hm, _, hc⟩
    · simp [Value.cells] at hcs
      obtain ⟨rfl, rfl, rfl⟩ := hcs
      exact ⟨fun _ => false, fun _ => false, fun h => absurd h (by omega)⟩
    · simp [Value.cells] at hcs
      obtain ⟨rfl, rfl, rfl⟩ := hcs
      have hlm : len3 ≤ m := by rw [hm]; simp; exact hl
      obtain ⟨f, hff⟩ := Go.Deep.choose_lt (n := len3) (p := fun i (y : Bool × Bool) => W.cell? (x.add (i * 2)) = some (.bool y.1) ∧ W.cell? (x.add (i * 2 + 1)) = some (.bool y.2)) (fun i hi => by
        obtain ⟨e0, e1, t0, t1⟩ := hc i (by omega)
        obtain ⟨y0, z0, _⟩ := DataW.trod_bool Yba.underlying4 t0
        obtain ⟨y1, z1, _⟩ := DataW.trod_bool Yba.underlying4 t1
        simp at z0 z1
        exact ⟨(y0, y1), by rw [e0, z0], by rw [e1, z1]⟩)
      refine ⟨fun i => (f i).1, fun i => (f i).2, fun h => ?_⟩
      obtain ⟨b, off, spot⟩ := x
      have hspot : spot = none := by simpa [Addr.add] using World.cell?_spot (hff 0 h).1
      subst hspot
      have hb : b < W.heap.size := by have := block_lt (hff 0 h).1; rw [Go.WideShapes.add_plain] at this; exact this
      refine ⟨b, off, rfl, hb, fun i hi => ?_⟩
      have e := hff i hi
      rw [Go.WideShapes.add_plain, Go.WideShapes.add_plain] at e
      exact e
  obtain ⟨a4, rfl, rfl, rfl⟩ := open_bool Yba.underlying4 (hval 4 4 v4 rfl rfl) h4
  obtain ⟨a5, rfl, rfl, rfl, w5⟩ := open_int Yba.underlying5 (hval 5 5 v5 rfl rfl) h5
  clear hA0 hval0
  refine (walk a0 a1 a2 a3 len3 cap3 cs es a4 a5 W w3 (bounds_u8 w5)).mono fun e W' ⟨he, bel⟩ => ?_
  subst he
  exact ⟨_, rfl, _, _, _, [], _, [], hW', trodAll_mk1 (shut_bool Yba.underlying4 _), (trodAll_cons_mk (shut_bool Yba.underlying4 _) (trodAll_cons_mk (shut_bool Yba.underlying4 _) (trodAll_cons_mk (shut_int Yba.underlying2 w2) (trodAll_cons_mk (Below.trod laidOut (by kernel_rfl) (of_decide_eq_true (by kernel_rfl)) k3 bel lt3) (trodAll_cons_mk (shut_bool Yba.underlying4 _) (trodAll_cons_mk (shut_int Yba.underlying5 w5) trodAll_mk0)))))), rfl, bel.frame _, fun h => by cases h⟩

theorem over : Rows.lawS5839AWholeRow.holds Yba.pinned (OpenSpec.ofChange Rows.lawS5839AWholeSpec) :=
  OpenClaim.holds_of_wide 3 Yba.f3 rfl rfl rfl rfl rfl rfl rfl ⟨rfl, rfl, rfl, rfl, rfl⟩ rfl rfl rfl rfl rfl (by kernel_rfl) Yba.func3 (by kernel_rfl)
    (of_decide_eq_true (by kernel_rfl)) (by unfold Func.isWrapper; first | (rw [if_pos (by decide +kernel)]; kernel_rfl) | (rw [if_neg (by decide +kernel)]; exact ⟨rfl, rfl⟩))
    (fun os started H enc _ => lifted os started H enc)

/-- THE STATEMENT -/
theorem proved : Rows.LawS5839AWholeSaid := over
end Go.Proofs.Ybulkdpxc.lawS5839AWhole
