/-
  THE WALK OF THE LAW FnEnvelopeSiteNilIsNoSite (3), over contracts of the functions that it calls. By an AI agent, Nov 2026.
-/
import Derived.Test.Qxb6609138aRows
import Derived.WalkKit
import Derived.ProofKit
namespace Go.Proofs.Qxb6609138a.Env
open Go.ChangeShapes Go.WideShapes Go.ChangeAt Go.RowKit
set_option linter.unusedVariables false

set_option maxHeartbeats 400000 in
theorem bytes_any (a0 : ByteArray) (a1 a2 a3 : Int) (a4 a5 : ByteArray) (a6 a7 a8 : Int) (w : World) (h0 : a0.size ≤ maxLen) (h4 : a4.size ≤ maxLen) (h5 : a5.size ≤ maxLen) :
    Calls Try.prog 6 #[.string a0, .int .u64 a1, .int .u64 a2, .int .u32 a3, .string a4, .string a5, .int .i64 a6, .int .i64 a7, .int .u64 a8] w fun e w' => ∃ b, e = .returned (.bool b) ∧ w' = w := by
  unfold maxLen at h0 h4 h5
  go_enter Try.func6, Try.ntmps6
  go_wp2
  all_goals
    go_ret
    exact ⟨_, rfl, rfl⟩

set_option maxHeartbeats 400000 in
theorem addBytes_any (t n : Int) (w : World) : Calls Try.prog 20 #[.int .i64 t, .int .i64 n] w fun e w' => ∃ q, e = .returned (.int .i64 q) ∧ w' = w := by
  go_enter Try.func20, Try.ntmps20
  go_wp2
  all_goals go_ret
  all_goals first | exact ⟨_, rfl, rfl⟩ | exact ⟨_, rfl⟩ | exact ⟨⟨_, rfl⟩, rfl⟩

set_option maxHeartbeats 400000 in
theorem texts_any (a b c d : ByteArray) (w : World) : Calls Try.prog 7 #[.string a, .string b, .string c, .string d] w fun e w' => ∃ q, e = .returned (.int .i64 q) ∧ w' = w := by
  go_enter Try.func7, Try.ntmps7
  go_wp2_with (go_at_call 20; refine (addBytes_any _ _ _).mono ?_; rintro e w' ⟨q, rfl, rfl⟩)
  go_ret
  exact ⟨_, rfl, rfl⟩

set_option maxHeartbeats 400000 in
theorem message_any (a1 a2 a3 : Int) (a4 a5 : ByteArray) (a6 a7 a8 : Int) (w : World) :
    Calls Try.prog 8 #[.int .u64 a1, .int .u64 a2, .int .u32 a3, .string a4, .string a5, .int .i64 a6, .int .i64 a7, .int .u64 a8] w fun e w' =>
      e = .returned (.agg #[.int .u64 a1, .int .u64 a2, .int .u32 a3, .string a4, .string a5, .int .i64 a6, .int .i64 a7, .int .u64 a8]) ∧ w' = w.alloc (.cells #[.int .u64 a1, .int .u64 a2, .int .u32 a3, .string a4, .string a5, .int .i64 a6, .int .i64 a7, .int .u64 a8] 29) := by
  go_enter Try.func8, Try.ntmps8
  go_wp2
  exact bodyPost_ret (v := .agg #[.int .u64 a1, .int .u64 a2, .int .u32 a3, .string a4, .string a5, .int .i64 a6, .int .i64 a7, .int .u64 a8]) (by simp [results, Try.results8, go_sem]) rfl ⟨rfl, rfl⟩

set_option maxHeartbeats 400000 in
theorem site_nil (w : World) : Calls Try.prog 9 #[.pointer none] w fun e w' => e = .returned (.string ⟨#[]⟩) ∧ w' = w := by
  go_enter Try.func9, Try.ntmps9
  go_wp2
  go_ret
  exact ⟨rfl, rfl⟩

set_option maxHeartbeats 400000 in
theorem site_at (a : Addr) (s : ByteArray) (w : World) (hc : w.cell? a = some (.string s)) : Calls Try.prog 9 #[.pointer (some a)] w fun e w' => e = .returned (.string s) ∧ w' = w := by
  go_enter Try.func9, Try.ntmps9
  go_wp2
  go_ret
  exact ⟨rfl, rfl⟩

set_option maxHeartbeats 400000 in
theorem new_any (s : ByteArray) (a1 a2 a3 : Int) (a4 a5 : ByteArray) (a6 a7 a8 : Int) (w : World) :
    Calls Try.prog 10 #[.string s, .agg #[.int .u64 a1, .int .u64 a2, .int .u32 a3, .string a4, .string a5, .int .i64 a6, .int .i64 a7, .int .u64 a8]] w fun e w' =>
      e = .returned (.pointer (some ⟨w.heap.size + 1, 0, none⟩)) ∧ w' = (w.alloc (.cells #[.int .u64 a1, .int .u64 a2, .int .u32 a3, .string a4, .string a5, .int .i64 a6, .int .i64 a7, .int .u64 a8] 29)).alloc (.cells #[.string s, .int .u64 a1, .int .u64 a2, .int .u32 a3, .string a4, .string a5, .int .i64 a6, .int .i64 a7, .int .u64 a8] 50) := by
  go_enter Try.func10, Try.ntmps10
  go_wp2
  go_ret
  exact ⟨rfl, rfl⟩

set_option maxRecDepth 100000 in
set_option maxHeartbeats 1000000 in
theorem env_walk (a0 : ByteArray) (a1 a2 a3 : Int) (a4 a5 : ByteArray) (a6 a7 a8 : Int) (w : World) (w0 : a0.size ≤ maxLen) (w4 : a4.size ≤ maxLen) (w5 : a5.size ≤ maxLen) :
    Calls Try.prog 3 #[.string a0, .int .u64 a1, .int .u64 a2, .int .u32 a3, .string a4, .string a5, .int .i64 a6, .int .i64 a7, .int .u64 a8] w fun e w' => e = .returned (.bool true) ∧ Grown w w' := by
  go_enter Try.func3, Try.ntmps3
  go_wp2_with fail
  refine (bytes_any _ _ _ _ _ _ _ _ _ _ w0 w4 w5).mono ?_
  rintro e w' ⟨b, rfl, rfl⟩
  cases b
  · go_wp2
    go_ret
    exact ⟨rfl, Grown.refl _⟩
  go_wp2_with fail
  refine (texts_any _ _ _ _ _).mono ?_
  rintro e w1 ⟨q, rfl, rfl⟩
  by_cases hq : 1048576 < q
  · go_wp2
    go_ret
    exact ⟨rfl, Grown.refl _⟩
  go_wp2_with fail
  refine (message_any _ _ _ _ _ _ _ _ _).mono ?_
  rintro e w2 ⟨rfl, rfl⟩
  go_wp2_with fail
  refine (site_nil _).mono ?_
  rintro e w3 ⟨rfl, hw3⟩
  subst hw3
  go_wp2_with fail
  refine (new_any _ _ _ _ _ _ _ _ _ _).mono ?_
  rintro e w4 ⟨rfl, hw4⟩
  subst hw4
  go_wp2_with fail
  refine (site_at _ ⟨#[]⟩ _ (by simp [go_sem])).mono ?_
  rintro e w5 ⟨rfl, hw5⟩
  subst hw5
  go_wp2_with fail
  refine (new_any _ _ _ _ _ _ _ _ _ _).mono ?_
  rintro e w6 ⟨rfl, hw6⟩
  subst hw6
  go_wp2_with fail
  refine (site_at _ a0 _ (by simp [go_sem])).mono ?_
  rintro e w7 ⟨rfl, hw7⟩
  subst hw7
  go_wp2
  all_goals go_ret
  all_goals exact ⟨rfl, by repeat (first | exact Grown.refl _ | apply Grown.drew | apply Grown.alloc)⟩
end Go.Proofs.Qxb6609138a.Env
