/-
  PLAIN ARITHMETIC FOR THIS SEAT'S LAWS (no Go in sight): the wrap of int, and the ceiling of a quotient. By an AI agent, Nov 2026.
-/
import Derived.WalkKit
namespace Go.Proofs.Qxb6615719a.Plain
open Go.RowKit

theorem ret_int {k : IntKind} {a b : Int} (h : a = b) : Ending.returned (.int k a) = .returned (.int k b) := by rw [h]

theorem telescope (a b c : Int) : wrap64 (wrap64 (a - b) + wrap64 (b - c)) = wrap64 (a - c) := by
  unfold wrap64
  omega
theorem wrap_id (a : Int) (h1 : -9223372036854775808 ≤ a) (h2 : a ≤ 9223372036854775807) : wrap64 a = a := by
  unfold wrap64
  omega
theorem wrap_mid (t p : Int) (h1 : 1 ≤ p) (h0 : 0 ≤ t) (hs : t + p - 1 ≤ 9223372036854775807) : wrap64 (wrap64 (t + p) - 1) = t + p - 1 := by
  unfold wrap64
  omega

/-- What 'ceiling' means: f is the least f with n ≤ f * p. -/
theorem ceil_facts (n p : Int) (h1 : 1 ≤ p) (h0 : 0 ≤ n) :
    0 ≤ (n + p - 1) / p ∧ (n + p - 1) / p ≤ n ∧ n ≤ (n + p - 1) / p * p ∧ (n + p - 1) / p * p ≤ n + p - 1 ∧ ((n + p - 1) / p - 1) * p = (n + p - 1) / p * p - p ∧ (n + p - 1) / p * p - p < n := by
  have e := Int.mul_ediv_add_emod (n + p - 1) p
  have m0 := Int.emod_nonneg (n + p - 1) (b := p) (by omega)
  have m1 := Int.emod_lt_of_pos (n + p - 1) (b := p) (by omega)
  have c : (n + p - 1) / p * p = p * ((n + p - 1) / p) := Int.mul_comm _ _
  have s : ((n + p - 1) / p - 1) * p = (n + p - 1) / p * p - p := by rw [Int.sub_mul]; omega
  have f0 : 0 ≤ (n + p - 1) / p := Int.ediv_nonneg (by omega) (by omega)
  have fn : (n + p - 1) / p ≤ n := by
    have : (n + p - 1) / p < n + 1 := by
      apply Int.ediv_lt_of_lt_mul (by omega)
      have k : n * 1 ≤ n * p := Int.mul_le_mul_of_nonneg_left h1 h0
      rw [Int.add_mul]
      omega
    omega
  refine ⟨f0, fn, ?_, ?_, s, ?_⟩ <;> omega

theorem ceil_step (t p : Int) (h1 : 1 ≤ p) : (t + p + p - 1) / p = (t + p - 1) / p + 1 := by
  have e : t + p + p - 1 = (t + p - 1) + 1 * p := by omega
  rw [e, Int.add_mul_ediv_right _ _ (by omega)]

/-- int's own arithmetic in FirstShare comes to the ceiling where the sum less one fits. -/
theorem share_plain (t p : Int) (h1 : 1 ≤ p) (h0 : 0 ≤ t) (hs : t + p - 1 ≤ 9223372036854775807) : wrap64 ((wrap64 (wrap64 (t + p) - 1)).tdiv p) = (t + p - 1) / p := by
  rw [wrap_mid t p h1 h0 hs, Int.tdiv_eq_ediv_of_nonneg (by omega)]
  have ⟨a, b, _⟩ := ceil_facts t p h1 h0
  exact wrap_id _ (by omega) (by omega)
end Go.Proofs.Qxb6615719a.Plain
