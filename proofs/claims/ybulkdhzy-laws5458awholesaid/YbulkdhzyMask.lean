import Derived.Test.YbulkdhzyRows
import Derived.WalkKit
namespace Go.Proofs.Ybulkdhzy
open Go.RowKit
set_option linter.unusedVariables false

def acc (T : Nat → Int) (i : Int) (k p : Nat) : Int := if i < k then T (i.toNat * 9 + p) else 0
def mid (T : Nat → Int) (i : Int) (k l p : Nat) : Int := if p % 3 < l then acc T i (k + 1) p else acc T i k p

theorem xor_zero_iff (a b : Nat) : a ^^^ b = 0 ↔ a = b := by
  constructor
  · intro h
    have : a ^^^ b ^^^ b = 0 ^^^ b := by rw [h]
    simpa [Nat.xor_assoc] using this
  · rintro rfl; simp

/-- The mask of 'lookup': all ones where the place is the one that is wanted, else nought. -/
theorem mask_eq (k : Nat) (i : Int) (hk : k < 16) (h0 : 0 ≤ i) (h1 : i < 18446744073709551616) :
    IntKind.u64.wrap (bits .or .u64 (bits .xor .u64 (k : Int) i) (IntKind.u64.wrap (-bits .xor .u64 (k : Int) i)) / 9223372036854775808 - 1) = if (k : Int) = i then 18446744073709551615 else 0 := by
  obtain ⟨j, rfl⟩ := Int.eq_ofNat_of_zero_le h0
  have hj : j < 18446744073709551616 := by omega
  rw [u64_xor_nat k j (by omega) hj]
  have hx : k ^^^ j < 2 ^ 64 := Nat.xor_lt_two_pow (by omega) (by omega)
  have hz := xor_zero_iff k j
  generalize k ^^^ j = x at *
  rw [IntKind.wrap_u64 (-(x : Int))]
  by_cases h : k = j
  · subst h
    obtain rfl := hz.2 rfl
    rw [if_pos rfl]
    have e : ((-((0 : Nat) : Int)) % 18446744073709551616) = ((0 : Nat) : Int) := by omega
    rw [e, u64_or_nat 0 0 (by omega) (by omega), IntKind.wrap_u64]
    decide
  · have hx0 : x ≠ 0 := fun e => h (hz.1 e)
    rw [if_neg (by omega)]
    have e : ((-(x : Int)) % 18446744073709551616) = ((18446744073709551616 - x : Nat) : Int) := by omega
    rw [e, u64_or_nat x _ (by omega) (by omega)]
    have l1 : x ≤ x ||| (18446744073709551616 - x) := Nat.left_le_or
    have l2 : 18446744073709551616 - x ≤ x ||| (18446744073709551616 - x) := Nat.right_le_or
    have l3 : x ||| (18446744073709551616 - x) < 2 ^ 64 := Nat.or_lt_two_pow (by omega) (by omega)
    generalize x ||| (18446744073709551616 - x) = y at *
    rw [IntKind.wrap_u64]
    omega

theorem and_ones (t : Int) (h0 : 0 ≤ t) (h1 : t < 18446744073709551616) : bits .and .u64 t 18446744073709551615 = t := by
  rw [u64_and t _ h0 h1 (by omega) (by omega)]
  have e : (18446744073709551615 : Int).toNat = 2 ^ 64 - 1 := by decide
  rw [e, Nat.and_two_pow_sub_one_eq_mod]
  omega

theorem and_none (t : Int) (h0 : 0 ≤ t) (h1 : t < 18446744073709551616) : bits .and .u64 t 0 = 0 := by
  rw [u64_and t _ h0 h1 (by omega) (by omega)]; simp

theorem or_left (t : Int) (h0 : 0 ≤ t) (h1 : t < 18446744073709551616) : bits .or .u64 0 t = t := by
  rw [u64_or 0 t (by omega) (by omega) h0 h1]; simp; omega

theorem or_right (t : Int) (h0 : 0 ≤ t) (h1 : t < 18446744073709551616) : bits .or .u64 t 0 = t := by
  rw [u64_or t 0 h0 h1 (by omega) (by omega)]; simp; omega

theorem acc_bd (T : Nat → Int) (hT : ∀ p, p < 144 → 0 ≤ T p ∧ T p < 18446744073709551616) (i : Int) (k p : Nat) (h0 : 0 ≤ i) (hk : k ≤ 16) (hp : p < 9) : 0 ≤ acc T i k p ∧ acc T i k p < 18446744073709551616 := by
  unfold acc
  split
  · exact hT _ (by omega)
  · omega

theorem acc_step (T : Nat → Int) (hT : ∀ p, p < 144 → 0 ≤ T p ∧ T p < 18446744073709551616) (i : Int) (k p : Nat) (h0 : 0 ≤ i) (hk : k < 16) (hp : p < 9) (mk : Int) (hm : mk = if (k : Int) = i then 18446744073709551615 else 0) :
    bits .or .u64 (acc T i k p) (bits .and .u64 (T (k * 9 + p)) mk) = acc T i (k + 1) p := by
  have ht := hT (k * 9 + p) (by omega)
  have ha := acc_bd T hT i k p h0 (by omega) hp
  by_cases h : (k : Int) = i
  · rw [if_pos h] at hm
    subst hm
    rw [and_ones _ ht.1 ht.2]
    have e1 : acc T i k p = 0 := by unfold acc; rw [if_neg (by omega)]
    have e2 : acc T i (k + 1) p = T (k * 9 + p) := by unfold acc; rw [if_pos (by omega)]; congr 2; omega
    rw [e1, e2, or_left _ ht.1 ht.2]
  · rw [if_neg h] at hm
    subst hm
    rw [and_none _ ht.1 ht.2, or_right _ ha.1 ha.2]
    unfold acc
    by_cases h2 : i < (k : Int)
    · rw [if_pos h2, if_pos (by omega)]
    · rw [if_neg h2, if_neg (by omega)]

/-- Three cells of the row are set: one round of the inner loop. -/
theorem mid_step (T : Nat → Int) (hT : ∀ p, p < 144 → 0 ≤ T p ∧ T p < 18446744073709551616) (i : Int) (k l : Nat) (h0 : 0 ≤ i) (hk : k < 16) (hl : l < 3) (mk : Int) (hm : mk = if (k : Int) = i then 18446744073709551615 else 0)
    (F : Array Value) (hF : F.size = 9) (hFa : ∀ p, p < 9 → F[p]? = some (.int .u64 (mid T i k l p))) :
    ∀ p, p < 9 → (((F.setIfInBounds l (.int .u64 (bits .or .u64 (mid T i k l l) (bits .and .u64 (T (k * 9 + l)) mk)))).setIfInBounds (3 + l) (.int .u64 (bits .or .u64 (mid T i k l (3 + l)) (bits .and .u64 (T (k * 9 + 3 + l)) mk)))).setIfInBounds (6 + l)
      (.int .u64 (bits .or .u64 (mid T i k l (6 + l)) (bits .and .u64 (T (k * 9 + 6 + l)) mk))))[p]? = some (.int .u64 (mid T i k (l + 1) p)) := by
  have e0 : mid T i k l l = acc T i k l := by unfold mid; rw [if_neg (by omega)]
  have e1 : mid T i k l (3 + l) = acc T i k (3 + l) := by unfold mid; rw [if_neg (by omega)]
  have e2 : mid T i k l (6 + l) = acc T i k (6 + l) := by unfold mid; rw [if_neg (by omega)]
  rw [e0, e1, e2, acc_step T hT i k l h0 hk (by omega) mk hm, show k * 9 + 3 + l = k * 9 + (3 + l) by omega, acc_step T hT i k (3 + l) h0 hk (by omega) mk hm, show k * 9 + 6 + l = k * 9 + (6 + l) by omega, acc_step T hT i k (6 + l) h0 hk (by omega) mk hm]
  intro p hp
  simp only [Array.getElem?_setIfInBounds, Array.size_setIfInBounds, hF]
  by_cases h6 : 6 + l = p
  · subst h6; rw [if_pos rfl, if_pos (by omega)]; unfold mid; rw [if_pos (by omega)]
  rw [if_neg h6]
  by_cases h3 : 3 + l = p
  · subst h3; rw [if_pos rfl, if_pos (by omega)]; unfold mid; rw [if_pos (by omega)]
  rw [if_neg h3]
  by_cases h00 : l = p
  · subst h00; rw [if_pos rfl, if_pos (by omega)]; unfold mid; rw [if_pos (by omega)]
  rw [if_neg h00, hFa p hp]
  unfold mid
  by_cases h : p % 3 < l
  · rw [if_pos h, if_pos (by omega)]
  · rw [if_neg h, if_neg (by omega)]

end Go.Proofs.Ybulkdhzy
