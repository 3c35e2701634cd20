/-
  Opening the arguments of the two laws of seat b5839a: slices of integers; structs of integers by value.
-/
import Derived.Test.YbulkdpxcRows
import Derived.WalkKit
import Derived.ProofKit
import Derived.OpenShut
namespace Go.Proofs.Ybulkdpxc
open Go.ChangeShapes Go.WideShapes Go.ChangeAt Go.RowKit
set_option maxRecDepth 100000
set_option linter.unusedVariables false

theorem own : ownKnob Yba.prog.godebug = none := by kernel_rfl
theorem laidOut : laidOutB Yba.prog = true := by kernel_rfl

/-- What the walk is told of a slice of integers that came in. -/
def IsRow (k : IntKind) (w : World) (a : Option Addr) (len cap : Nat) (zs : List Int) : Prop :=
  len ≤ zs.length ∧ (0 < len → ∃ b off, a = some ⟨b, off, none⟩ ∧ b < w.heap.size ∧ ∀ i, i < len → w.cell? ⟨b, off + i, none⟩ = some (.int k (zs.getD i 0)))

theorem block_lt {w : World} {a : Addr} {v : Value} (h : w.cell? a = some v) : a.block < w.heap.size := by
  unfold World.cell? at h
  cases hb : w.heap[a.block]? with
  | none => simp [hb] at h
  | some o => exact (Array.getElem?_eq_some_iff.1 hb).1

theorem row_of {w : World} {x : Addr} {len cap : Nat} {zs : List Int} {k : IntKind} (hl : len ≤ cap) (hz : zs.length = cap) (hc : ∀ i, i < zs.length → w.cell? (x.add i) = some (.int k (zs.getD i 0))) : IsRow k w (some x) len cap zs := by
  refine ⟨by omega, fun h => ?_⟩
  obtain ⟨b, off, rfl, hc'⟩ := ints_at hc (by omega)
  exact ⟨b, off, rfl, block_lt (hc' 0 (by omega)), fun i hi => hc' i (by omega)⟩

section
variable {H : Type} {enc : TypeId × Value → H} {P : Program} {w : World} {base : Nat} {spare : Nat → Bool} {held : Bool}

theorem int_at {m : Nat} {t : TypeId} {k : IntKind} {cs : List Value} {o : Nat} {xs : List (DataW H × List MemPlace)} {i : Nat} (ht : P.underlying t = some (.int k)) (hc : P.cellsOf t = 1) (hi : i < xs.length)
    (h : DataW.trod enc P w base spare held m t ((cs.drop o).take (P.cellsOf t)) = xs[i]?) : ∃ n, cs[o]? = some (.int k n) ∧ (Lit.int k n).wf = true := by
  rw [List.getElem?_eq_getElem hi] at h
  obtain ⟨n, e, _, wn⟩ := DataW.trod_int ht h
  refine ⟨n, ?_, wn⟩
  rw [hc] at e
  have e0 : ((cs.drop o).take 1)[0]? = some (.int k n) := by rw [e]; rfl
  rw [List.getElem?_take, if_pos (by decide), List.getElem?_drop] at e0
  simpa using e0
end

section
variable {H : Type} {enc : TypeId × Value → H} {w : World} {base : Nat} {spare : Nat → Bool} {held : Bool}

theorem cells2 : Yba.prog.cellsOf 2 = 1 := by kernel_rfl
theorem cells3 : Yba.prog.cellsOf 3 = 1 := by kernel_rfl
theorem cells26 : Yba.prog.cellsOf 26 = 1 := by kernel_rfl
theorem cells52 : Yba.prog.cellsOf 52 = 2 := by kernel_rfl
theorem cells54 : Yba.prog.cellsOf 54 = 12 := by kernel_rfl

/-- A Ratio, its cells. -/
theorem ratio_cells {fuel : Nat} {cs : List Value} {x : DataW H × List MemPlace} (h : DataW.trod enc Yba.prog w base spare held fuel 52 cs = some x) : ∃ a b : Int, cs = [.int .u64 a, .int .u64 b] := by
  obtain ⟨xs, m, _, _, hl, hn, hf⟩ := DataW.trod_struct Yba.underlying52 h
  rw [cells52] at hl
  obtain ⟨a, ha, _⟩ := int_at Yba.underlying26 cells26 (by rw [hn]; decide) (hf 0 _ rfl)
  obtain ⟨b, hb, _⟩ := int_at Yba.underlying26 cells26 (by rw [hn]; decide) (hf 1 _ rfl)
  match cs, hl with
  | [c0, c1], _ => exact ⟨a, b, by simp at ha hb; rw [ha, hb]⟩

theorem open_ratio {r : Reach} {b0 : Nat} {v : Value} {d : DataW H} {p : List MemPlace} (hv : Value.okWide Yba.prog w r b0 52 v) (h : DataW.Trod enc Yba.prog w base spare held 52 v d p) : ∃ a b : Int, v = .agg #[.int .u64 a, .int .u64 b] := by
  obtain ⟨cs, rfl, _⟩ := okWide_struct Yba.underlying52 hv
  obtain ⟨fuel, hf⟩ := h
  obtain ⟨a, b, e⟩ := ratio_cells hf
  exact ⟨a, b, by simp only [Value.cells] at e; rw [← e]⟩

theorem open_census {r : Reach} {b0 : Nat} {v : Value} {d : DataW H} {p : List MemPlace} (hv : Value.okWide Yba.prog w r b0 54 v) (h : DataW.Trod enc Yba.prog w base spare held 54 v d p) :
    ∃ a0 a1 a2 a3 a4 a5 a6 a7 a8 a9 a10 a11 : Int, v = .agg #[.int .i64 a0, .int .i64 a1, .int .i64 a2, .int .i64 a3, .int .i64 a4, .int .i64 a5, .int .i64 a6, .int .u64 a7, .int .u64 a8, .int .i64 a9, .int .i64 a10, .int .i64 a11] := by
  obtain ⟨cs, rfl, _⟩ := okWide_struct Yba.underlying54 hv
  obtain ⟨fuel, hf⟩ := h
  simp only [Value.cells] at hf
  obtain ⟨xs, m, _, _, hl, hn, hf⟩ := DataW.trod_struct Yba.underlying54 hf
  rw [cells54] at hl
  obtain ⟨a0, h0, _⟩ := int_at Yba.underlying3 cells3 (by rw [hn]; decide) (hf 0 _ rfl)
  obtain ⟨a1, h1, _⟩ := int_at Yba.underlying3 cells3 (by rw [hn]; decide) (hf 1 _ rfl)
  obtain ⟨a2, h2, _⟩ := int_at Yba.underlying3 cells3 (by rw [hn]; decide) (hf 2 _ rfl)
  obtain ⟨a3, h3, _⟩ := int_at Yba.underlying3 cells3 (by rw [hn]; decide) (hf 3 _ rfl)
  obtain ⟨a4, h4, _⟩ := int_at Yba.underlying3 cells3 (by rw [hn]; decide) (hf 4 _ rfl)
  obtain ⟨a5, h5, _⟩ := int_at Yba.underlying3 cells3 (by rw [hn]; decide) (hf 5 _ rfl)
  obtain ⟨a6, h6, _⟩ := int_at Yba.underlying3 cells3 (by rw [hn]; decide) (hf 6 _ rfl)
  have hr := hf 7 _ rfl
  rw [List.getElem?_eq_getElem (by rw [hn]; decide)] at hr
  obtain ⟨a7, a8, h780⟩ := ratio_cells hr
  have h78 : (cs.toList.drop 7).take (Yba.prog.cellsOf 52) = [.int .u64 a7, .int .u64 a8] := h780
  rw [cells52] at h78
  obtain ⟨a9, h9, _⟩ := int_at Yba.underlying2 cells2 (by rw [hn]; decide) (hf 8 _ rfl)
  obtain ⟨a10, h10, _⟩ := int_at Yba.underlying2 cells2 (by rw [hn]; decide) (hf 9 _ rfl)
  obtain ⟨a11, h11, _⟩ := int_at Yba.underlying3 cells3 (by rw [hn]; decide) (hf 10 _ rfl)
  obtain ⟨l⟩ := cs
  match l, hl with
  | [c0, c1, c2, c3, c4, c5, c6, c7, c8, c9, c10, c11], _ =>
    simp at h0 h1 h2 h3 h4 h5 h6 h78 h9 h10 h11
    exact ⟨a0, a1, a2, a3, a4, a5, a6, a7, a8, a9, a10, a11, by rw [h0, h1, h2, h3, h4, h5, h6, h78.1, h78.2, h9, h10, h11]⟩
end
end Go.Proofs.Ybulkdpxc
