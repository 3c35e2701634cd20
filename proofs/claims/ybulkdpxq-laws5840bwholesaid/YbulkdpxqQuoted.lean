/-
  THE CONTRACTS of LawS5840BWhole: 'errors.New', the model, '(*lexer).quoted'.
-/
import Derived.Test.YbulkdpxqRows
import Derived.Test.YbulkdpxqBytes
import Derived.Test.YbulkdpxqScan
import Derived.WalkKit
import Derived.WalkSpells
import Derived.ProofKit
import Derived.OpenShut
import Derived.BigRegion
import Derived.BigQuiet
import Derived.Deep.QuietTactic
import Derived.WalkSmall
import Derived.Laws.MakeOwn
import Derived.Deep.OwnRows
import Derived.Deep.LoopGhost
namespace Go.Proofs.Ybulkdpxq
open Go.ChangeShapes Go.WideShapes Go.ChangeAt Go.RowKit
set_option linter.unusedVariables false

/-- 'errors.New': a new block, a pointer to it in an interface. -/
theorem new_any (s : ByteArray) (w : World) : Calls Yba.prog 9 #[.string s] w fun e w' => e = .returned (.iface 52 (.pointer (some ⟨w.heap.size, 0, none⟩))) ∧ w' = w.alloc (.cells #[.string s] 54) := by
  go_enter Yba.func9, Yba.ntmps9
  go_wp2
  go_ret
  exact ⟨rfl, rfl⟩

/-- what the model answers. -/
def answer (r : Option Nat) : Value := .tuple #[.int .i64 (match r with | some j => (j : Int) | none => -1), .bool r.isSome]

set_option maxHeartbeats 1600000 in
/-- 'zzs5840bmodel'. -/
theorem model_any (g c n p : Nat) (Z : List Int) (w : World) (hn : n ≤ 1048576) (hp : p ≤ n) (hZ : Z.length = n) (hc : ∀ i, i < n → w.cell? ⟨g, i, none⟩ = some (.int .u8 (Z.getD i 0))) :
    Calls Yba.prog 8 #[.slice (some ⟨g, 0, none⟩) n c, .int .i64 p] w fun e w' => e = .returned (answer (scanAt Z false (p + 1))) ∧ w' = w := by
  have HC : Hid (∀ i, i < n → w.cell? ⟨g, i, none⟩ = some (.int .u8 (Z.getD i 0))) := hc
  have HZ : Hid (Z.length = n) := hZ
  clear hc hZ
  go_enter Yba.func8, Yba.ntmps8
  go_wp2
  go_loop [6, 7] (fun e i => ∃ (esc : Bool) (k : Nat), k ≤ n + 1 ∧ e = .bool esc ∧ i = .int .i64 k ∧ scanAt Z false (p + 1) = scanAt Z esc k) (fun _ i => n + 1 - (intOf i).toNat)
  case atStart => exact ⟨false, p + 1, by omega, rfl, by go_num, rfl⟩
  case round =>
    obtain ⟨esc, k, hk, rfl, rfl, HS0⟩ := hrel
    have HS : Hid (scanAt Z false (p + 1) = scanAt Z esc k) := HS0
    clear HS0
    by_cases hlt : k < n
    · have hck := HC.out k hlt
      generalize hz : Z.getD k 0 = z at hck
      have Hz : Hid (Z.getD k 0 = z) := hz
      clear hz
      have hlz : k < Z.length := by rw [HZ.out]; exact hlt
      cases esc
      · go_wp2
        · rename_i h1
          exact ⟨⟨true, k + 1, by omega, rfl, by go_num, by rw [HS.out, scan_back Z k hlz (by rw [Hz.out]; simpa using h1)]⟩, by simp [intOf]; omega⟩
        · rename_i h1 h2 _
          go_ret2
          exact ⟨by rw [HS.out, scan_nl Z _ k hlz (by rw [Hz.out]; simpa using h2)]; rfl, rfl⟩
        · rename_i h1 h2 h3 _
          go_ret2
          exact ⟨by rw [HS.out, scan_quote Z k hlz (by rw [Hz.out]; simpa using h3)]; rfl, rfl⟩
        · rename_i h1 h2 h3
          exact ⟨⟨false, k + 1, by omega, rfl, by go_num, by rw [HS.out, scan_other Z k hlz (by rw [Hz.out]; simpa using h1) (by rw [Hz.out]; simpa using h2) (by rw [Hz.out]; simpa using h3)]⟩, by simp [intOf]; omega⟩
      · go_wp2
        · rename_i h1
          exact ⟨⟨false, k + 1, by omega, rfl, by go_num, by rw [HS.out, scan_skip Z k hlz (by rw [Hz.out]; simpa using h1)]⟩, by simp [intOf]; omega⟩
        · rename_i h1 h2 h3 _
          go_ret2
          exact ⟨by rw [HS.out, scan_nl Z _ k hlz (by rw [Hz.out]; simpa using h3)]; rfl, rfl⟩
    · go_wp2
      go_ret2
      exact ⟨by rw [HS.out, scanAt_end Z _ k (by rw [HZ.out]; omega)]; rfl, rfl⟩

set_option maxHeartbeats 1600000 in
/-- '(*lexer).quoted' where there is no closing quote. -/
theorem quoted_any (s g n c p : Nat) (line el : Int) (Z : List Int) (w : World) (hn : n ≤ 1048576) (hp : p ≤ n) (hZ : Z.length = n) (hc : ∀ i, i < n → w.cell? ⟨g, i, none⟩ = some (.int .u8 (Z.getD i 0)))
    (h0 : w.cell? ⟨s, 0, none⟩ = some (.slice (some ⟨g, 0, none⟩) n c)) (h1 : w.cell? ⟨s, 1, none⟩ = some (.int .i64 p)) (f1 : w.frozen? ⟨s, 1, none⟩ = false) (hsg : ¬ s = g) (hnc : n ≤ c) :
    Calls Yba.prog 7 #[.pointer (some ⟨s, 0, none⟩)] w fun e w' => (scanAt Z false (p + 1) = none ∧ ∃ t, e = .returned (.tuple #[.string ByteArray.empty, .iface 52 (.pointer (some ⟨w.heap.size, 0, none⟩))]) ∧ w' = w.alloc (.cells #[.string t] 54)) ∨
      ∃ j, scanAt Z false (p + 1) = some j ∧ e = .returned (.tuple #[.string (strOfNums ((Z.drop p).take (j + 1 - p))), .nilIface]) ∧ w' = (w.setCell ⟨s, 1, none⟩ (.int .i64 ((j : Int) + 1))).drew := by
  have HC : Hid (∀ i, i < n → w.cell? ⟨g, i, none⟩ = some (.int .u8 (Z.getD i 0))) := hc
  have HZ : Hid (Z.length = n) := hZ
  clear hc hZ
  go_enter Yba.func7, Yba.ntmps7
  go_wp2
  go_loop [5] (fun i => ∃ k : Nat, p + 1 ≤ k ∧ k ≤ n + 1 ∧ i = .int .i64 k ∧ scanAt Z false (p + 1) = scanAt Z false k) (fun i => n + 1 - (intOf i).toNat)
  case atStart => exact ⟨p + 1, Nat.le_refl _, by omega, by go_num, rfl⟩
  case round =>
    obtain ⟨k, hpk, hk, rfl, HS0⟩ := hrel
    have HS : Hid (scanAt Z false (p + 1) = scanAt Z false k) := HS0
    clear HS0
    by_cases hlt : k < n
    · have hck := HC.out k hlt
      generalize hz : Z.getD k 0 = z at hck
      have Hz : Hid (Z.getD k 0 = z) := hz
      have hlz : k < Z.length := by rw [HZ.out]; exact hlt
      clear hz
      by_cases h92 : z = 92
      · have h92' : (z == 92) = true := by simpa using h92
        have H92 : Hid (z = 92) := h92
        clear h92
        by_cases hk1 : k + 1 < n
        · have hck1 := HC.out (k + 1) hk1
          generalize hz1 : Z.getD (k + 1) 0 = z1 at hck1
          have Hz1 : Hid (Z.getD (k + 1) 0 = z1) := hz1
          clear hz1
          go_wp2_with (go_at_call 9; refine (new_any _ _).mono ?_; rintro e w' ⟨rfl, rfl⟩)
          · rename_i _ h1
            exact ⟨⟨k + 1 + 1, by omega, by omega, by go_num, by rw [HS.out, scan_pair Z k (by rw [HZ.out]; exact hk1) (Hz.out.trans H92.out) (by rw [Hz1.out]; simpa using h1)]⟩, by simp [intOf]; omega⟩
          · rename_i _ h1
            exact ⟨⟨k + 1, by omega, by omega, by go_num, by rw [HS.out, scan_lone Z k hlz (Hz.out.trans H92.out) (fun e => e.2 (by rw [Hz1.out]; simpa using h1))]⟩, by simp [intOf]; omega⟩
        · go_wp2_with (go_at_call 9; refine (new_any _ _).mono ?_; rintro e w' ⟨rfl, rfl⟩)
          exact ⟨⟨k + 1, by omega, by omega, by go_num, by rw [HS.out, scan_lone Z k hlz (Hz.out.trans H92.out) (fun e => hk1 (by rw [← HZ.out]; exact e.1))]⟩, by simp [intOf]; omega⟩
      · have h92' : (z == 92) = false := by simpa using h92
        go_wp2_with (go_at_call 9; refine (new_any _ _).mono ?_; rintro e w' ⟨rfl, rfl⟩)
        · rename_i h1 _
          go_ret2
          exact .inl ⟨by rw [HS.out, scan_nl Z _ k hlz (by rw [Hz.out]; simpa using h1)], _, rfl, rfl⟩
        · have h34 : (z == 34) = true := by assumption
          have HS2 : Hid (scanAt Z false (p + 1) = some k) := by rw [HS.out, scan_quote Z k hlz (by rw [Hz.out]; simpa using h34)]; rfl
          have hcv := conv_string (P := Yba.prog) 22 5 9 Yba.underlying22 Yba.underlying5 Yba.underlying9 (w.setCell ⟨s, 1, none⟩ (.int .i64 ((k : Int) + 1))).drew (some ⟨g, p, none⟩) (k + 1 - p) (c - p) (Z.drop p) (by rw [List.length_drop, HZ.out]; omega)
            (.inr ⟨g, p, rfl, fun i hi => by
              show (w.setCell ⟨s, 1, none⟩ (.int .i64 ((k : Int) + 1))).cell? ⟨g, p + i, none⟩ = _
              rw [World.cell?_setCell_other _ ⟨s, 1, none⟩ ⟨g, p + i, none⟩ _ (by simp), HC.out (p + i) (by omega)]
              simp [List.getD_eq_getElem?_getD]⟩)
          go_region
          all_goals
            go_wp2
            go_ret2
            exact .inr ⟨k, HS2.out, rfl, rfl⟩
        · rename_i h1 h2
          exact ⟨⟨k + 1, by omega, by omega, by go_num, by rw [HS.out, scan_other Z k hlz (by rw [Hz.out]; exact h92) (by rw [Hz.out]; simpa using h1) (by rw [Hz.out]; simpa using h2)]⟩, by simp [intOf]; omega⟩
    · go_wp2_with (go_at_call 9; refine (new_any _ _).mono ?_; rintro e w' ⟨rfl, rfl⟩)
      go_ret2
      exact .inl ⟨by rw [HS.out, scanAt_end Z _ k (by rw [HZ.out]; omega)], _, rfl, rfl⟩

/-- WHAT THE LAW KEEPS from the call of 'quoted' on: the source row at g, its copy at r, the lexer at s. -/
structure Keep (w : World) (g r s n : Nat) (Z : List Int) (pos line el : Int) (wr : World) : Prop where
  bel : Below w.heap.size w wr
  src : ∀ i, i < n → wr.cell? ⟨g, i, none⟩ = some (.int .u8 (Z.getD i 0))
  ref : ∀ i, i < n → wr.cell? ⟨r, i, none⟩ = some (.int .u8 (Z.getD i 0))
  l0 : wr.cell? ⟨s, 0, none⟩ = some (.slice (some ⟨g, 0, none⟩) n n)
  l1 : wr.cell? ⟨s, 1, none⟩ = some (.int .i64 pos)
  l2 : wr.cell? ⟨s, 2, none⟩ = some (.int .i64 line)
  l3 : wr.cell? ⟨s, 3, none⟩ = some (.int .i64 el)

section
variable {w wr : World} {g r s n : Nat} {Z : List Int} {pos line el : Int}
theorem Keep.drew (h : Keep w g r s n Z pos line el wr) : Keep w g r s n Z pos line el wr.drew := ⟨h.bel.drew, h.src, h.ref, h.l0, h.l1, h.l2, h.l3⟩
theorem Keep.drewN (h : Keep w g r s n Z pos line el wr) (k : Nat) : Keep w g r s n Z pos line el (wr.drewN k) := ⟨below_drewN h.bel k, h.src, h.ref, h.l0, h.l1, h.l2, h.l3⟩
theorem Keep.alloc (h : Keep w g r s n Z pos line el wr) (o : Obj) : Keep w g r s n Z pos line el (wr.alloc o) :=
  ⟨h.bel.alloc h.bel.size _, fun i hi => cell_alloc_old (h.src i hi) o, fun i hi => cell_alloc_old (h.ref i hi) o, cell_alloc_old h.l0 o, cell_alloc_old h.l1 o, cell_alloc_old h.l2 o, cell_alloc_old h.l3 o⟩
/-- The lexer boxed. -/
theorem Keep.start {w3 : World} (hb : Below w.heap.size w w3) (hs : ∀ i, i < n → w3.cell? ⟨g, i, none⟩ = some (.int .u8 (Z.getD i 0))) (hr : ∀ i, i < n → w3.cell? ⟨r, i, none⟩ = some (.int .u8 (Z.getD i 0))) :
    Keep w g r w3.heap.size n Z pos line el (w3.alloc (.cells #[.slice (some ⟨g, 0, none⟩) n n, .int .i64 pos, .int .i64 line, .int .i64 el] 34)) :=
  ⟨hb.alloc hb.size _, fun i hi => cell_alloc_old (hs i hi) _, fun i hi => cell_alloc_old (hr i hi) _, cell_of _ _ _ _ (heap_new _ _) 0, cell_of _ _ _ _ (heap_new _ _) 1, cell_of _ _ _ _ (heap_new _ _) 2, cell_of _ _ _ _ (heap_new _ _) 3⟩
end
end Go.Proofs.Ybulkdpxq
