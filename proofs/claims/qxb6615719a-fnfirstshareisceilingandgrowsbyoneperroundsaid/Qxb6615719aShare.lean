/-
  THE WALKS OF THIS SEAT'S THREE LAWS, over one contract of FirstShare (function 7); Shared (function 6) is walked in place. By an AI agent, Nov 2026.
-/
import Derived.Test.Qxb6615719aRows
import Derived.Test.Qxb6615719aPlain
import Derived.WalkKit
import Derived.ProofKit
namespace Go.Proofs.Qxb6615719a.Share
open Go.ChangeShapes Go.WideShapes Go.ChangeAt Go.RowKit
open Go.Proofs.Qxb6615719a.Plain
set_option linter.unusedVariables false

set_option maxHeartbeats 400000 in
/-- FirstShare gives the ceiling f, where its sum less one fits an int. -/
theorem first_any (t p f : Int) (w : World) (h1 : 1 ≤ p) (h0 : 0 ≤ t) (hp : p ≤ 9223372036854775807) (hs : t + p - 1 ≤ 9223372036854775807) (HF : Hid (f = (t + p - 1) / p)) :
    Calls Try.prog 7 #[.int .i64 t, .int .i64 p] w fun e w' => e = .returned (.int .i64 f) ∧ w' = w := by
  have ht : t ≤ 9223372036854775807 := by omega
  go_enter Try.func7, Try.ntmps7
  go_wp2
  go_ret
  exact ⟨ret_int (by rw [HF.out]; exact share_plain t p h1 h0 hs), rfl⟩

set_option maxHeartbeats 400000 in
theorem telescope_walk (a0 a1 a2 a3 a4 a5 : Int) (l0 : -9223372036854775808 ≤ a0) (u0 : a0 ≤ 9223372036854775807) (w : World) :
    Calls Try.prog 3 #[.int .i64 a0, .int .i64 a1, .int .i64 a2, .int .u64 a3, .int .u64 a4, .int .u64 a5] w fun e w' => e = .returned (.bool true) ∧ Grown w w' := by
  have e1 : (wrap64 (wrap64 (a0 - a1) + wrap64 (a1 - a2)) == wrap64 (a0 - a2)) = true := by rw [telescope]; simp
  have e2 : (wrap64 a0 == a0) = true := by rw [wrap_id a0 l0 u0]; simp
  clear l0 u0
  go_enter Try.func3, Try.ntmps3
  go_wp2
  go_ret
  exact ⟨rfl, by repeat (first | exact Grown.refl _ | apply Grown.drew | apply Grown.alloc)⟩

set_option maxHeartbeats 1000000 in
theorem ceiling_walk (t p : Int) (lt : -9223372036854775808 ≤ t) (ut : t ≤ 9223372036854775807) (lp : -9223372036854775808 ≤ p) (up : p ≤ 9223372036854775807) (w : World) :
    Calls Try.prog 4 #[.int .i64 t, .int .i64 p] w fun e w' => e = .returned (.bool true) ∧ Grown w w' := by
  by_cases c1 : p < 1
  · go_enter Try.func4, Try.ntmps4
    go_wp2
    go_ret
    exact ⟨rfl, Grown.refl _⟩
  by_cases c2 : t < 0
  · go_enter Try.func4, Try.ntmps4
    go_wp2
    go_ret
    exact ⟨rfl, Grown.refl _⟩
  by_cases c3 : 9223372036854775807 - t < 1
  · go_enter Try.func4, Try.ntmps4
    go_wp2
    go_ret
    exact ⟨rfl, Grown.refl _⟩
  by_cases c4 : (9223372036854775807 - t - 1) / 2 < p - 1
  · go_enter Try.func4, Try.ntmps4
    go_wp2
    go_ret
    exact ⟨rfl, Grown.refl _⟩
  have hp1 : 1 ≤ p := by omega
  have ht0 : 0 ≤ t := by omega
  have hsum : t + p + p - 1 ≤ 9223372036854775807 := by omega
  obtain ⟨f0, fn, fge, fle, fs, flt⟩ := ceil_facts t p hp1 ht0
  have fst := ceil_step t p hp1
  obtain ⟨f, hf⟩ : ∃ f, f = (t + p - 1) / p := ⟨_, rfl⟩
  rw [← hf] at f0 fn fge fle fs flt fst
  obtain ⟨q, hq⟩ : ∃ q, f * p = q := ⟨_, rfl⟩
  rw [hq] at fge fle fs flt
  have HF : Hid (f = (t + p - 1) / p) := hf
  have HG : Hid (f + 1 = (t + p + p - 1) / p) := fst.symm
  have m1 : wrap64 (f * p) = q := by rw [hq]; exact wrap_id _ (by omega) (by omega)
  have m2 : wrap64 ((f - 1) * p) = q - p := by rw [fs]; exact wrap_id _ (by omega) (by omega)
  clear hf hq fs fst
  go_enter Try.func4, Try.ntmps4
  go_wp2_with fail
  refine (first_any t p f _ (by omega) (by omega) (by omega) (by omega) HF).mono ?_
  rintro e w' ⟨rfl, rfl⟩
  go_wp2_with fail
  refine (first_any (t + p) p (f + 1) _ (by omega) (by omega) (by omega) (by omega) HG).mono ?_
  rintro e w' ⟨rfl, rfl⟩
  go_wp2
  go_ret
  exact ⟨rfl, Grown.refl _⟩
set_option maxHeartbeats 1000000 in
theorem covers_walk (t s d p : Int) (lt : -9223372036854775808 ≤ t) (ut : t ≤ 9223372036854775807) (ls : -9223372036854775808 ≤ s) (us : s ≤ 9223372036854775807) (lp : -9223372036854775808 ≤ p) (up : p ≤ 9223372036854775807) (w : World) :
    Calls Try.prog 5 #[.int .i64 t, .int .i64 s, .int .u64 d, .int .i64 p] w fun e w' => e = .returned (.bool true) ∧ Grown w w' := by
  by_cases c1 : p < 1
  · go_enter Try.func5, Try.ntmps5
    go_wp2
    go_ret
    exact ⟨rfl, Grown.refl _⟩
  by_cases c2 : s < 0
  · go_enter Try.func5, Try.ntmps5
    go_wp2
    go_ret
    exact ⟨rfl, Grown.refl _⟩
  by_cases c3 : t < s
  · go_enter Try.func5, Try.ntmps5
    go_wp2
    go_ret
    exact ⟨rfl, Grown.refl _⟩
  by_cases c4 : 9223372036854775807 - (p - 1) < t - s
  · go_enter Try.func5, Try.ntmps5
    go_wp2
    go_ret
    exact ⟨rfl, Grown.refl _⟩
  have hp1 : 1 ≤ p := by omega
  have ht0 : 0 ≤ t - s := by omega
  have hsum : t - s + p - 1 ≤ 9223372036854775807 := by omega
  obtain ⟨f0, fn, fge, fle, fs, flt⟩ := ceil_facts (t - s) p hp1 ht0
  obtain ⟨f, hf⟩ : ∃ f, f = (t - s + p - 1) / p := ⟨_, rfl⟩
  rw [← hf] at f0 fn fge fle fs flt
  obtain ⟨q, hq⟩ : ∃ q, f * p = q := ⟨_, rfl⟩
  rw [hq] at fge fle fs flt
  have HF : Hid (f = (t - s + p - 1) / p) := hf
  have m1 : wrap64 (f * p) = q := by rw [hq]; exact wrap_id _ (by omega) (by omega)
  have m2 : wrap64 ((f - 1) * p) = q - p := by rw [fs]; exact wrap_id _ (by omega) (by omega)
  clear hf hq fs
  go_enter Try.func5, Try.ntmps5
  go_wp2_with (first | (go_at_call 7; refine (first_any (t - s) p f _ (by omega) (by omega) (by omega) (by omega) HF).mono ?_; rintro e w' ⟨rfl, rfl⟩) | (go_at_call 6; go_in))
  go_ret
  exact ⟨rfl, by repeat (first | exact Grown.refl _ | apply Grown.drew | apply Grown.alloc)⟩
end Go.Proofs.Qxb6615719a.Share
