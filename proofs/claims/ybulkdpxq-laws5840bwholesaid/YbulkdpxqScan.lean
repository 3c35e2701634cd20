/-
  THE PLAIN SCAN of LawS5840BWhole: the index of the quote that ends a quoted string, by an escape flag. No Go in sight.
-/
import Derived.Laws.BytesArg
namespace Go.Proofs.Ybulkdpxq

def scan : Bool → Nat → List Int → Option Nat
  | _, _, [] => none
  | esc, i, c :: r => if esc = true ∧ c ≠ 10 then scan false (i + 1) r else if c = 92 then scan true (i + 1) r else if c = 10 then none else if c = 34 then some i else scan false (i + 1) r

/-- The scan of Z from place i on. -/
def scanAt (Z : List Int) (esc : Bool) (i : Nat) : Option Nat := scan esc i (Z.drop i)

theorem scanAt_end (Z : List Int) (esc : Bool) (i : Nat) (h : Z.length ≤ i) : scanAt Z esc i = none := by
  unfold scanAt; rw [List.drop_eq_nil_of_le h]; cases esc <;> rfl

theorem scanAt_step (Z : List Int) (esc : Bool) (i : Nat) (h : i < Z.length) :
    scanAt Z esc i = if esc = true ∧ Z.getD i 0 ≠ 10 then scanAt Z false (i + 1) else if Z.getD i 0 = 92 then scanAt Z true (i + 1) else if Z.getD i 0 = 10 then none else if Z.getD i 0 = 34 then some i else scanAt Z false (i + 1) := by
  unfold scanAt
  rw [List.drop_eq_getElem_cons h, List.getD_eq_getElem?_getD, List.getElem?_eq_getElem h]
  rfl

theorem scan_skip (Z : List Int) (i : Nat) (h : i < Z.length) (hc : Z.getD i 0 ≠ 10) : scanAt Z true i = scanAt Z false (i + 1) := by
  rw [scanAt_step Z true i h, if_pos ⟨rfl, hc⟩]
theorem scan_nl (Z : List Int) (esc : Bool) (i : Nat) (h : i < Z.length) (hc : Z.getD i 0 = 10) : scanAt Z esc i = none := by
  rw [scanAt_step Z esc i h, if_neg (fun e => e.2 hc), if_neg (by rw [hc]; decide), if_pos hc]
theorem scan_back (Z : List Int) (i : Nat) (h : i < Z.length) (hc : Z.getD i 0 = 92) : scanAt Z false i = scanAt Z true (i + 1) := by
  rw [scanAt_step Z false i h, if_neg (by simp), if_pos hc]
theorem scan_quote (Z : List Int) (i : Nat) (h : i < Z.length) (hc : Z.getD i 0 = 34) : scanAt Z false i = some i := by
  rw [scanAt_step Z false i h, if_neg (by simp), if_neg (by rw [hc]; decide), if_neg (by rw [hc]; decide), if_pos hc]
theorem scan_other (Z : List Int) (i : Nat) (h : i < Z.length) (h1 : Z.getD i 0 ≠ 92) (h2 : Z.getD i 0 ≠ 10) (h3 : Z.getD i 0 ≠ 34) : scanAt Z false i = scanAt Z false (i + 1) := by
  rw [scanAt_step Z false i h, if_neg (by simp), if_neg h1, if_neg h2, if_neg h3]
/-- A backslash ahead of a character that ends no line: both go by. -/
theorem scan_pair (Z : List Int) (i : Nat) (h : i + 1 < Z.length) (hc : Z.getD i 0 = 92) (hn : Z.getD (i + 1) 0 ≠ 10) : scanAt Z false i = scanAt Z false (i + 1 + 1) := by
  rw [scan_back Z i (by omega) hc, scan_skip Z (i + 1) h hn]
/-- .. else only the backslash. -/
theorem scan_lone (Z : List Int) (i : Nat) (h : i < Z.length) (hc : Z.getD i 0 = 92) (hn : ¬ (i + 1 < Z.length ∧ Z.getD (i + 1) 0 ≠ 10)) : scanAt Z false i = scanAt Z false (i + 1) := by
  rw [scan_back Z i h hc]
  by_cases h1 : i + 1 < Z.length
  · have h2 : Z.getD (i + 1) 0 = 10 := Classical.byContradiction fun e => hn ⟨h1, e⟩
    rw [scan_nl Z true _ h1 h2, scan_nl Z false _ h1 h2]
  · rw [scanAt_end Z _ _ (by omega), scanAt_end Z _ _ (by omega)]

theorem scan_lt : ∀ (r : List Int) (esc : Bool) (i j : Nat), scan esc i r = some j → i ≤ j ∧ j < i + r.length
  | [], esc, i, j, h => by cases esc <;> simp [scan] at h
  | c :: r, esc, i, j, h => by
    have ih := scan_lt r
    unfold scan at h
    simp only [List.length_cons]
    split at h
    · have := ih _ _ _ h; omega
    · split at h
      · have := ih _ _ _ h; omega
      · split at h
        · cases h
        · split at h
          · simp at h; omega
          · have := ih _ _ _ h; omega
theorem scanAt_lt (Z : List Int) (esc : Bool) (i j : Nat) (h : scanAt Z esc i = some j) : i ≤ j ∧ j < Z.length := by
  have h1 := scan_lt _ _ _ _ h
  simp at h1
  omega
end Go.Proofs.Ybulkdpxq
