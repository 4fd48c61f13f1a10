/-
  THE WALKS OF THE FUNCTIONS THAT ONLY READ: zzBytes.. (12), ZZspanAt (22), zzSpansAre (10), ZZopenNil (11). By an AI agent, Nov 2026.
-/
import Derived.Test.Qxb6615596aRows
import Derived.Test.Qxb6615596aSpanPlain
import Derived.WalkKit
import Derived.Deep.QuietTactic
import Derived.BigQuiet
namespace Go.Proofs.Qxb6615596a.Spans
open Go.RowKit
set_option linter.unusedVariables false

set_option maxHeartbeats 400000 in
theorem spanAt_any (g m cap k : Nat) (lo hi p : Int) (w : World) (hk : k < m) (hm : m ≤ 4097)
    (c0 : w.cell? ⟨g, k * 5, none⟩ = some (.int .i64 lo)) (c1 : w.cell? ⟨g, k * 5 + 1, none⟩ = some (.int .i64 hi)) (c2 : w.cell? ⟨g, k * 5 + 2, none⟩ = some (.map none)) (c3 : w.cell? ⟨g, k * 5 + 3, none⟩ = some (.int .i64 p)) (c4 : w.cell? ⟨g, k * 5 + 4, none⟩ = some (.slice none 0 0)) :
    Calls Try.prog 22 #[.slice (some ⟨g, 0, none⟩) m cap, .int .i64 k] w fun e w' => e = .returned (.tuple #[.int .i64 lo, .int .i64 hi, .int .i64 p, .int .i64 0, .int .i64 0]) ∧ ∃ nq, w' = w.drewN nq := by
  have hk' : (k : Int) < (m : Int) := by omega
  go_enter Try.func22, Try.ntmps22
  go_wp2
  go_quiet (fail)
  go_wp2
  exact bodyPost_ret (v := .tuple #[.int .i64 lo, .int .i64 hi, .int .i64 p, .int .i64 0, .int .i64 0]) (by simp [results, Try.results22, go_sem]) rfl ⟨rfl, nq, rfl⟩

set_option maxHeartbeats 400000 in
theorem bytes_any (a0 a1 a2 : Option Addr) (l0 c0 l1 c1 l2 c2 : Nat) (ho : Bool) (x y z : Int) (w : World) (h0 : l0 ≤ maxLen) (h1 : l1 ≤ maxLen) (h2 : l2 ≤ maxLen) :
    Calls Try.prog 12 #[.slice a0 l0 c0, .slice a1 l1 c1, .slice a2 l2 c2, .bool ho, .int .i64 x, .int .i64 y, .int .i64 z] w fun e w' => ∃ b, e = .returned (.bool b) ∧ w' = w := by
  unfold maxLen at h0 h1 h2
  go_enter Try.func12, Try.ntmps12
  go_wp2
  all_goals
    go_ret
    exact ⟨_, rfl, rfl⟩
set_option maxHeartbeats 1000000 in
theorem spansAre_any (go : Option Addr) (cap : Nat) (a0 a1 a2 : Option Addr) (n c0 c1 c2 : Nat) (z0 z1 z2 : List Int) (ho : Bool) (oLo oHi oP : Int) (w : World) (hn : n ≤ 4096)
    (r0 : RowIn w (.slice a0 n c0) n z0) (r1 : RowIn w (.slice a1 n c1) n z1) (r2 : RowIn w (.slice a2 n c2) n z2) (hg : SpanRow w (.slice go (spansOf z0 z1 z2 n ho oLo oHi oP).length cap) (spansOf z0 z1 z2 n ho oLo oHi oP)) :
    Calls Try.prog 10 #[.slice go (spansOf z0 z1 z2 n ho oLo oHi oP).length cap, .slice a0 n c0, .slice a1 n c1, .slice a2 n c2, .bool ho, .int .i64 oLo, .int .i64 oHi, .int .i64 oP] w fun e w' => e = .returned (.bool true) ∧ ∃ nq, w' = w.drewN nq := by
  by_cases hop : ho = true ∧ 0 < oP
  · obtain ⟨rfl, hp⟩ := hop
    have hlen : (spansOf z0 z1 z2 n true oLo oHi oP).length = n + 1 := by rw [spansOf_open _ _ _ _ _ _ _ hp]; simp [made_length]
    have hcell : ∃ g, go = some ⟨g, 0, none⟩ ∧ (∀ k, k < n → w.cell? ⟨g, k * 5, none⟩ = some (.int .i64 (z0.getD k 0)) ∧ w.cell? ⟨g, k * 5 + 1, none⟩ = some (.int .i64 (z1.getD k 0)) ∧ w.cell? ⟨g, k * 5 + 2, none⟩ = some (.map none) ∧
        w.cell? ⟨g, k * 5 + 3, none⟩ = some (.int .i64 (z2.getD k 0)) ∧ w.cell? ⟨g, k * 5 + 4, none⟩ = some (.slice none 0 0)) ∧
        (w.cell? ⟨g, n * 5, none⟩ = some (.int .i64 oLo) ∧ w.cell? ⟨g, n * 5 + 1, none⟩ = some (.int .i64 oHi) ∧ w.cell? ⟨g, n * 5 + 2, none⟩ = some (.map none) ∧
        w.cell? ⟨g, n * 5 + 3, none⟩ = some (.int .i64 oP) ∧ w.cell? ⟨g, n * 5 + 4, none⟩ = some (.slice none 0 0)) := by
      obtain ⟨go', cap', hv, hr⟩ := hg
      obtain ⟨g, hg', _, hc⟩ := hr (by omega)
      injection hv with e1 _ _
      refine ⟨g, e1.trans hg', fun k hk => ?_, ?_⟩
      · exact hc k _ (by rw [spansOf_open _ _ _ _ _ _ _ hp, List.getElem?_append_left (by simpa [made_length] using hk)]; exact made_at z0 z1 z2 n k hk)
      · exact hc n (oLo, oHi, oP) (by rw [spansOf_open _ _ _ _ _ _ _ hp, List.getElem?_append_right (by simp [made_length])]; simp [made_length])
    obtain ⟨g, rfl, hck, hcn⟩ := hcell
    clear hg
    rw [hlen]
    clear hlen
    go_enter Try.func10, Try.ntmps10
    go_wp2
    go_loopw [18] (fun i wr => ∃ k nq : Nat, k ≤ n ∧ i = .int .i64 k ∧ wr = w.drewN nq) (fun i _ => n - (intOf i).toNat)
    case atStart => exact ⟨0, 0, Nat.zero_le _, rfl, rfl⟩
    case round =>
      obtain ⟨k, nq, hk, rfl, rfl⟩ := hrel
      by_cases hlt : k < n
      · obtain ⟨b0, o0, rfl, _, h0⟩ := r0.cells (by omega)
        obtain ⟨b1, o1, rfl, _, h1⟩ := r1.cells (by omega)
        obtain ⟨b2, o2, rfl, _, h2⟩ := r2.cells (by omega)
        have g0 := h0 k hlt
        have g1 := h1 k hlt
        have g2 := h2 k hlt
        obtain ⟨k0, k1, k2, k3, k4⟩ := hck k hlt
        clear h0 h1 h2 hck hcn r0 r1 r2
        generalize z0.getD k 0 = x0 at *
        generalize z1.getD k 0 = x1 at *
        generalize z2.getD k 0 = x2 at *
        go_wp2_with (go_at_call 22; refine (spanAt_any g (n + 1) cap k x0 x1 x2 _ (by omega) (by omega) (by exact k0) (by exact k1) (by exact k2) (by exact k3) (by exact k4)).mono ?_; rintro e w' ⟨rfl, nq', rfl⟩)
        go_roundw
        case rel => exact ⟨k + 1, _, by omega, by go_num, rfl⟩
        case measure => simp [intOf]; omega
      · have hkn : k = n := by omega
        subst hkn
        obtain ⟨k0, k1, k2, k3, k4⟩ := hcn
        clear hck r0 r1 r2
        go_wp2_with (go_at_call 22; refine (spanAt_any g (k + 1) cap k oLo oHi oP _ (by omega) (by omega) (by exact k0) (by exact k1) (by exact k2) (by exact k3) (by exact k4)).mono ?_; rintro e w' ⟨rfl, nq', rfl⟩)
        go_ret
        exact ⟨rfl, _, rfl⟩
  · have hlen : (spansOf z0 z1 z2 n ho oLo oHi oP).length = n := by rw [spansOf_shut _ _ _ _ _ _ _ _ hop]; simp [made_length]
    have hcell : 0 < n → ∃ g, go = some ⟨g, 0, none⟩ ∧ (∀ k, k < n → w.cell? ⟨g, k * 5, none⟩ = some (.int .i64 (z0.getD k 0)) ∧ w.cell? ⟨g, k * 5 + 1, none⟩ = some (.int .i64 (z1.getD k 0)) ∧ w.cell? ⟨g, k * 5 + 2, none⟩ = some (.map none) ∧
        w.cell? ⟨g, k * 5 + 3, none⟩ = some (.int .i64 (z2.getD k 0)) ∧ w.cell? ⟨g, k * 5 + 4, none⟩ = some (.slice none 0 0)) := by
      intro hpos
      obtain ⟨go', cap', hv, hr⟩ := hg
      obtain ⟨g, hg', _, hc⟩ := hr (by omega)
      injection hv with e1 _ _
      refine ⟨g, e1.trans hg', fun k hk => ?_⟩
      exact hc k _ (by rw [spansOf_shut _ _ _ _ _ _ _ _ hop]; exact made_at z0 z1 z2 n k hk)
    clear hg
    rw [hlen]
    clear hlen
    have hop' : ho = false ∨ (ho = true ∧ ¬ 0 < oP) := by cases ho <;> simp_all
    clear hop
    rcases hop' with rfl | ⟨rfl, hp⟩
    all_goals
      go_enter Try.func10, Try.ntmps10
      go_wp2
      go_loopw [18] (fun i wr => ∃ k nq : Nat, k ≤ n ∧ i = .int .i64 k ∧ wr = w.drewN nq) (fun i _ => n - (intOf i).toNat)
      case atStart => exact ⟨0, 0, Nat.zero_le _, rfl, rfl⟩
      case round =>
        obtain ⟨k, nq, hk, rfl, rfl⟩ := hrel
        by_cases hlt : k < n
        · obtain ⟨b0, o0, rfl, _, h0⟩ := r0.cells (by omega)
          obtain ⟨b1, o1, rfl, _, h1⟩ := r1.cells (by omega)
          obtain ⟨b2, o2, rfl, _, h2⟩ := r2.cells (by omega)
          have g0 := h0 k hlt
          have g1 := h1 k hlt
          have g2 := h2 k hlt
          obtain ⟨g, rfl, hck⟩ := hcell (by omega)
          obtain ⟨k0, k1, k2, k3, k4⟩ := hck k hlt
          clear h0 h1 h2 hck r0 r1 r2
          generalize z0.getD k 0 = x0 at *
          generalize z1.getD k 0 = x1 at *
          generalize z2.getD k 0 = x2 at *
          go_wp2_with (go_at_call 22; refine (spanAt_any g n cap k x0 x1 x2 _ (by omega) (by omega) (by exact k0) (by exact k1) (by exact k2) (by exact k3) (by exact k4)).mono ?_; rintro e w' ⟨rfl, nq', rfl⟩)
          go_roundw
          case rel => exact ⟨k + 1, _, by omega, by go_num, rfl⟩
          case measure => simp [intOf]; omega
        · have hkn : k = n := by omega
          subst hkn
          clear hcell r0 r1 r2
          go_wp2
          go_ret
          exact ⟨rfl, _, rfl⟩

set_option maxHeartbeats 400000 in
theorem openNil_nil (B : Nat) (x0 x1 x2 x3 : Value) (w : World) (hb : w.heap[B]? = some (.cells #[x0, x1, x2, x3, .pointer none] 44 (0, 0))) :
    Calls Try.prog 11 #[.pointer (some ⟨B, 0, none⟩)] w fun e w' => e = .returned (.bool true) ∧ w' = w := by
  have c4 : w.cell? ⟨B, 4, none⟩ = some (.pointer none) := by rw [cell_of_row w B 4 _ _ _ hb]; rfl
  clear hb
  go_enter Try.func11, Try.ntmps11
  go_wp2
  go_ret
  exact ⟨rfl, rfl⟩
end Go.Proofs.Qxb6615596a.Spans
