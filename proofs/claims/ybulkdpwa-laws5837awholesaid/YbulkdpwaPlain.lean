/-
  THE PLAIN LAWS of seat b5837a: a packed word of 64 bits is a sum of its fields; each field comes back by division and remainder. No Go in sight.
-/
import Derived.Laws.BitsAllLaws
namespace Go.Proofs.Ybulkdpwa

/-- A bit that is not set yet, joined in. -/
theorem nat_orbit (i H lo : Nat) (hH : H % 2 ^ (i + 1) = 0) (hlo : lo < 2 ^ i) : (H + lo) ||| 2 ^ i = H + lo + 2 ^ i := by
  have p : 2 ^ (i + 1) = 2 * 2 ^ i := by rw [Nat.pow_succ, Nat.mul_comm]
  have e1 : H + lo = H ||| lo := (nat_join (i + 1) H lo hH (by omega)).symm
  have e2 : lo ||| 2 ^ i = 2 ^ i + lo := by
    rw [Nat.or_comm]
    exact nat_join i (2 ^ i) lo (Nat.mod_self _) hlo
  rw [e1, Nat.or_assoc, e2, nat_join (i + 1) H (2 ^ i + lo) hH (by omega), ← e1]
  omega

theorem u64_join (i : Nat) (x y : Int) (h0 : 0 ≤ x) (h1 : x < 18446744073709551616) (h2 : 0 ≤ y) (h3 : y < 18446744073709551616) (hx : x.toNat % 2 ^ i = 0) (hy : y.toNat < 2 ^ i) :
    bits .or .u64 x y = x + y := by
  rw [u64_or x y h0 h1 h2 h3, nat_join i _ _ hx hy]
  omega

theorem u64_orbit (i : Nat) (H lo b : Int) (h0 : 0 ≤ H) (h1 : H + lo < 18446744073709551616) (h2 : 0 ≤ lo) (hH : H.toNat % 2 ^ (i + 1) = 0) (hlo : lo.toNat < 2 ^ i) (hb : b.toNat = 2 ^ i) (hb0 : 0 ≤ b) (hb1 : b < 18446744073709551616) :
    bits .or .u64 (H + lo) b = H + lo + b := by
  have e : (H + lo).toNat = H.toNat + lo.toNat := by omega
  rw [u64_or (H + lo) b (by omega) h1 hb0 hb1, e, hb, nat_orbit i _ _ hH hlo, ← hb]
  omega

/-- The word as the law packs it, neither mark set. -/
theorem packed (hi r k p f : Int) (b0 : 0 ≤ hi ∧ hi ≤ 4294967295) (b1 : 0 ≤ r ∧ r < 64) (b4 : 0 ≤ k ∧ k ≤ 255) (b5 : 0 ≤ p ∧ p ≤ 255) (b6 : 0 ≤ f ∧ f ≤ 255) :
    bits .or .u64 (bits .or .u64 (bits .or .u64 (bits .or .u64 (hi * 4294967296) (r * 67108864)) (k * 65536)) (p * 256)) f = (hi * 4294967296 + r * 67108864) + (k * 65536 + p * 256 + f) := by
  obtain ⟨x0, y0⟩ := b0; obtain ⟨x1, y1⟩ := b1; obtain ⟨x4, y4⟩ := b4; obtain ⟨x5, y5⟩ := b5; obtain ⟨x6, y6⟩ := b6
  rw [u64_join 32 (hi * 4294967296) (r * 67108864) (by omega) (by omega) (by omega) (by omega) (by omega) (by omega),
    u64_join 24 (hi * 4294967296 + r * 67108864) (k * 65536) (by omega) (by omega) (by omega) (by omega) (by omega) (by omega),
    u64_join 16 (hi * 4294967296 + r * 67108864 + k * 65536) (p * 256) (by omega) (by omega) (by omega) (by omega) (by omega) (by omega),
    u64_join 8 (hi * 4294967296 + r * 67108864 + k * 65536 + p * 256) f (by omega) (by omega) (by omega) (by omega) (by omega) (by omega)]
  omega

/-- A mark as a number. -/
def one (b : Bool) : Int := if b then 1 else 0
theorem one_01 (b : Bool) : 0 ≤ one b ∧ one b ≤ 1 := by cases b <;> decide

/-- The word, its marks and all. -/
def word (hi r k p f : Int) (l c : Bool) : Int := hi * 4294967296 + r * 67108864 + one c * 33554432 + one l * 16777216 + k * 65536 + p * 256 + f

theorem word_ff (hi r k p f : Int) (b0 : 0 ≤ hi ∧ hi ≤ 4294967295) (b1 : 0 ≤ r ∧ r < 64) (b4 : 0 ≤ k ∧ k ≤ 255) (b5 : 0 ≤ p ∧ p ≤ 255) (b6 : 0 ≤ f ∧ f ≤ 255) :
    bits .or .u64 (bits .or .u64 (bits .or .u64 (bits .or .u64 (hi * 4294967296) (r * 67108864)) (k * 65536)) (p * 256)) f = word hi r k p f false false := by
  rw [packed hi r k p f b0 b1 b4 b5 b6]; simp [word, one]; omega
theorem word_tf (hi r k p f : Int) (c : Bool) (b0 : 0 ≤ hi ∧ hi ≤ 4294967295) (b1 : 0 ≤ r ∧ r < 64) (b4 : 0 ≤ k ∧ k ≤ 255) (b5 : 0 ≤ p ∧ p ≤ 255) (b6 : 0 ≤ f ∧ f ≤ 255) :
    bits .or .u64 (word hi r k p f false c) 16777216 = word hi r k p f true c := by
  have hc := one_01 c
  have e : word hi r k p f false c = (hi * 4294967296 + r * 67108864 + one c * 33554432) + (k * 65536 + p * 256 + f) := by simp [word, one]; omega
  rw [e, u64_orbit 24 _ _ _ (by omega) (by omega) (by omega) (by omega) (by omega) (by decide) (by omega) (by omega)]
  simp [word, one]; omega
theorem word_ct (hi r k p f : Int) (l : Bool) (b0 : 0 ≤ hi ∧ hi ≤ 4294967295) (b1 : 0 ≤ r ∧ r < 64) (b4 : 0 ≤ k ∧ k ≤ 255) (b5 : 0 ≤ p ∧ p ≤ 255) (b6 : 0 ≤ f ∧ f ≤ 255) :
    bits .or .u64 (word hi r k p f l false) 33554432 = word hi r k p f l true := by
  have hc := one_01 l
  have e : word hi r k p f l false = (hi * 4294967296 + r * 67108864) + (one l * 16777216 + k * 65536 + p * 256 + f) := by simp [word, one]; omega
  rw [e, u64_orbit 25 _ _ _ (by omega) (by omega) (by omega) (by omega) (by omega) (by decide) (by omega) (by omega)]
  simp [word, one]; omega

theorem word_bd (hi r k p f : Int) (l c : Bool) (b0 : 0 ≤ hi ∧ hi ≤ 4294967295) (b1 : 0 ≤ r ∧ r < 64) (b4 : 0 ≤ k ∧ k ≤ 255) (b5 : 0 ≤ p ∧ p ≤ 255) (b6 : 0 ≤ f ∧ f ≤ 255) :
    0 ≤ word hi r k p f l c ∧ word hi r k p f l c < 18446744073709551616 := by
  have hc := one_01 c; have hl := one_01 l
  unfold word; omega

/-! ### The fields, read back -/
theorem u64_mask8 (x : Int) (h0 : 0 ≤ x) (h1 : x < 18446744073709551616) : bits .and .u64 x 255 = x % 256 := by
  rw [u64_and x 255 h0 h1 (by decide) (by decide)]
  show ((x.toNat &&& 255 : Nat) : Int) = _
  rw [nat_mask8]; omega
theorem get_k (hi r k p f : Int) (l c : Bool) (b0 : 0 ≤ hi ∧ hi ≤ 4294967295) (b1 : 0 ≤ r ∧ r < 64) (b4 : 0 ≤ k ∧ k ≤ 255) (b5 : 0 ≤ p ∧ p ≤ 255) (b6 : 0 ≤ f ∧ f ≤ 255) :
    bits .and .u64 (word hi r k p f l c / 65536) 255 = k := by
  have hb := word_bd hi r k p f l c b0 b1 b4 b5 b6
  have hc := one_01 c; have hl := one_01 l
  rw [u64_mask8 _ (by omega) (by omega)]
  unfold word; omega
theorem get_p (hi r k p f : Int) (l c : Bool) (b0 : 0 ≤ hi ∧ hi ≤ 4294967295) (b1 : 0 ≤ r ∧ r < 64) (b4 : 0 ≤ k ∧ k ≤ 255) (b5 : 0 ≤ p ∧ p ≤ 255) (b6 : 0 ≤ f ∧ f ≤ 255) :
    bits .and .u64 (word hi r k p f l c / 256) 255 = p := by
  have hb := word_bd hi r k p f l c b0 b1 b4 b5 b6
  have hc := one_01 c; have hl := one_01 l
  rw [u64_mask8 _ (by omega) (by omega)]
  unfold word; omega
theorem get_f (hi r k p f : Int) (l c : Bool) (b0 : 0 ≤ hi ∧ hi ≤ 4294967295) (b1 : 0 ≤ r ∧ r < 64) (b4 : 0 ≤ k ∧ k ≤ 255) (b5 : 0 ≤ p ∧ p ≤ 255) (b6 : 0 ≤ f ∧ f ≤ 255) :
    bits .and .u64 (word hi r k p f l c) 255 = f := by
  have hb := word_bd hi r k p f l c b0 b1 b4 b5 b6
  have hc := one_01 c; have hl := one_01 l
  rw [u64_mask8 _ (by omega) (by omega)]
  unfold word; omega
theorem get_hi (hi r k p f : Int) (l c : Bool) (_b0 : 0 ≤ hi ∧ hi ≤ 4294967295) (b1 : 0 ≤ r ∧ r < 64) (b4 : 0 ≤ k ∧ k ≤ 255) (b5 : 0 ≤ p ∧ p ≤ 255) (b6 : 0 ≤ f ∧ f ≤ 255) :
    word hi r k p f l c / 4294967296 = hi := by
  have hc := one_01 c; have hl := one_01 l
  unfold word; omega
theorem get_l (hi r k p f : Int) (l c : Bool) (b0 : 0 ≤ hi ∧ hi ≤ 4294967295) (b1 : 0 ≤ r ∧ r < 64) (b4 : 0 ≤ k ∧ k ≤ 255) (b5 : 0 ≤ p ∧ p ≤ 255) (b6 : 0 ≤ f ∧ f ≤ 255) :
    (bits .and .u64 (word hi r k p f l c) 16777216 != 0) = l := by
  have hb := word_bd hi r k p f l c b0 b1 b4 b5 b6
  have hc := one_01 c; have hl := one_01 l
  rw [u64_and _ 16777216 hb.1 hb.2 (by decide) (by decide)]
  have e : (word hi r k p f l c).toNat &&& (16777216 : Int).toNat = (word hi r k p f l c).toNat / 16777216 % 2 * 16777216 := nat_bit 24 _
  rw [e]
  have e2 : (word hi r k p f l c).toNat / 16777216 % 2 = (one l).toNat := by unfold word; omega
  rw [e2]
  cases l <;> decide
theorem get_c (hi r k p f : Int) (l c : Bool) (b0 : 0 ≤ hi ∧ hi ≤ 4294967295) (b1 : 0 ≤ r ∧ r < 64) (b4 : 0 ≤ k ∧ k ≤ 255) (b5 : 0 ≤ p ∧ p ≤ 255) (b6 : 0 ≤ f ∧ f ≤ 255) :
    (bits .and .u64 (word hi r k p f l c) 33554432 != 0) = c := by
  have hb := word_bd hi r k p f l c b0 b1 b4 b5 b6
  have hc := one_01 c; have hl := one_01 l
  rw [u64_and _ 33554432 hb.1 hb.2 (by decide) (by decide)]
  have e : (word hi r k p f l c).toNat &&& (33554432 : Int).toNat = (word hi r k p f l c).toNat / 33554432 % 2 * 33554432 := nat_bit 25 _
  rw [e]
  have e2 : (word hi r k p f l c).toNat / 33554432 % 2 = (one c).toNat := by unfold word; omega
  rw [e2]
  cases c <;> decide
end Go.Proofs.Ybulkdpwa
