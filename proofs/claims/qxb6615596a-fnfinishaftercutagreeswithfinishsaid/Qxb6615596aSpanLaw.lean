/-
  THE WALK OF THE LAW FnFinishAfterCutAgreesWithFinish (4). By an AI agent, Nov 2026.
-/
import Derived.Test.Qxb6615596aRows
import Derived.Test.Qxb6615596aSpanPlain
import Derived.Test.Qxb6615596aSpanRead
import Derived.Test.Qxb6615596aSpanCut
import Derived.Test.Qxb6615596aSpanMake
import Derived.WalkKit
import Derived.WalkSpells
import Derived.WalkSmall
import Derived.Laws.CopyOwn
import Derived.Deep.DeepCutAuto
namespace Go.Proofs.Qxb6615596a.Spans
open Go.RowKit
set_option linter.unusedVariables false

theorem Try.info2 : (Try.prog.info? 2).map (fun i => (i.zero, i.size, i.bytes)) = some (some (.int .i64 0), 1, 8) := by kernel_rfl
theorem Try.info3 : (Try.prog.info? 3).map (fun i => (i.zero, i.size, i.bytes)) = some (some (.int .i64 0), 1, 8) := by kernel_rfl
theorem Try.size2 : (Try.prog.info? 2).map (·.size) = some 1 := by kernel_rfl
theorem Try.size3 : (Try.prog.info? 3).map (·.size) = some 1 := by kernel_rfl

/-- A slice of integers that came in: what the walks ask of it. -/
def Came (w : World) (a : Option Addr) (n cap : Nat) (zs : List Int) : Prop :=
  (a = none ∧ n = 0 ∧ cap = 0 ∧ zs = []) ∨
  ∃ x, a = some x ∧ n ≤ cap ∧ cap ≤ maxLen ∧ zs.length = cap ∧ (∀ i, i < zs.length → w.cell? (x.add i) = some (.int .i64 (zs.getD i 0))) ∧ ∀ z ∈ zs, (Lit.int .i64 z).wf = true
theorem Came.le {w : World} {a : Option Addr} {n cap : Nat} {zs : List Int} (h : Came w a n cap zs) : n ≤ maxLen := by
  rcases h with ⟨_, rfl, _, _⟩ | ⟨x, _, h1, h2, _⟩
  · exact Nat.zero_le _
  · omega
/-- What a row that 'make' has just made holds, whole. -/
theorem made_block {w : World} {base e g n : Nat} {xs : List Value} (h : w.ownsRow base e 1 (.slice (some ⟨g, 0, none⟩) n n) n xs) : w.heap[g]? = some (.cells xs.toArray e (0, 0)) ∧ xs.length = n := by
  obtain ⟨hl, h⟩ := h
  rcases h with ⟨hv, _⟩ | ⟨g', cap, cur, hv, _, hg, _, _, hs, ht⟩
  · cases hv
  · injection hv with e1 _ e3
    injection e1 with e1
    injection e1 with e1 _ _
    subst e1; subst e3
    refine ⟨?_, by simpa using hl⟩
    have : cur.toList = xs := by rw [← ht, List.take_of_length_le (by simp [hs])]
    rw [hg, ← this]
/-- The numbers as cells. -/
def cellsOf (zs : List Int) (n : Nat) : List Value := (zs.take n).map (Value.int .i64)
theorem cellsOf_length {zs : List Int} {n : Nat} (h : n ≤ zs.length) : (cellsOf zs n).length = n := by simp [cellsOf]; omega
theorem cellsOf_one (zs : List Int) (n : Nat) : ∀ v ∈ cellsOf zs n, v.oneCell' = true := by
  intro v hv
  obtain ⟨z, _, rfl⟩ := List.mem_map.1 hv
  rfl
theorem cellsOf_at {zs : List Int} {n j : Nat} {v : Value} (h : (cellsOf zs n)[j]? = some v) : j < n ∧ j < zs.length ∧ v = .int .i64 (zs.getD j 0) := by
  simp [cellsOf, List.getElem?_take] at h
  obtain ⟨hj, z, hz, rfl⟩ := h
  have := (List.getElem?_eq_some_iff.1 hz).1
  refine ⟨hj, this, ?_⟩
  simp [hz]
/-- The source's cells, in a later world. -/
theorem came_cells {w w1 : World} {x : Addr} {n : Nat} {zs : List Int} (hc : ∀ i, i < zs.length → w.cell? (x.add i) = some (.int .i64 (zs.getD i 0))) (hb : Below w.heap.size w w1) :
    ∀ j v, (cellsOf zs n)[j]? = some v → w1.cell? (x.add j) = some v := by
  intro j v hv
  obtain ⟨_, hj, rfl⟩ := cellsOf_at hv
  have h := hc j hj
  rw [hb.cell (p := x.add j) (World.block_lt_of_cell? w _ h)]
  exact h
/-- The copy, read. -/
theorem row_of_copy {w : World} {g n t : Nat} {X : List Value} {zs : List Int} (hX : X.length = n) (hn : n ≤ zs.length) (h : w.heap[g]? = some (.cells (splice X 0 (cellsOf zs n)).toArray t (0, 0))) :
    RowIn w (.slice (some ⟨g, 0, none⟩) n n) n zs := by
  have e : splice X 0 (cellsOf zs n) = cellsOf zs n := by
    have := cellsOf_length hn
    simp [splice, this, hX]
  rw [e] at h
  refine ⟨_, n, rfl, fun _ => ⟨g, 0, rfl, lt_size h, fun k hk => ?_⟩⟩
  rw [Nat.zero_add, cell_of_row w g k _ _ _ h]
  simp [cellsOf, hk, List.getElem?_eq_getElem (show k < zs.length by omega)]

theorem spansAre_at (m : Nat) (go : Option Addr) (cap : Nat) (a0 a1 a2 : Option Addr) (n c0 c1 c2 : Nat) (z0 z1 z2 : List Int) (ho : Bool) (oLo oHi oP : Int) (w : World) (hn : n ≤ 4096) (hm : Hid ((spansOf z0 z1 z2 n ho oLo oHi oP).length = m))
    (r0 : RowIn w (.slice a0 n c0) n z0) (r1 : RowIn w (.slice a1 n c1) n z1) (r2 : RowIn w (.slice a2 n c2) n z2) (hg : SpanRow w (.slice go m cap) (spansOf z0 z1 z2 n ho oLo oHi oP)) :
    Calls Try.prog 10 #[.slice go m cap, .slice a0 n c0, .slice a1 n c1, .slice a2 n c2, .bool ho, .int .i64 oLo, .int .i64 oHi, .int .i64 oP] w fun e w' => e = .returned (.bool true) ∧ ∃ nq, w' = w.drewN nq := by
  have hm' := hm.out
  subst hm'
  exact spansAre_any go cap a0 a1 a2 n c0 c1 c2 z0 z1 z2 ho oLo oHi oP w hn r0 r1 r2 hg

set_option maxRecDepth 100000 in
set_option maxHeartbeats 2000000 in
theorem finish_walk (a0 : Option Addr) (len0 cap0 : Nat) (z0 : List Int) (a1 : Option Addr) (len1 cap1 : Nat) (z1 : List Int) (a2 : Option Addr) (len2 cap2 : Nat) (z2 : List Int) (ho : Bool) (oLo oHi oP : Int) (w : World)
    (w0 : Came w a0 len0 cap0 z0) (w1 : Came w a1 len1 cap1 z1) (w2 : Came w a2 len2 cap2 z2) :
    Calls Try.prog 4 #[.slice a0 len0 cap0, .slice a1 len1 cap1, .slice a2 len2 cap2, .bool ho, .int .i64 oLo, .int .i64 oHi, .int .i64 oP] w fun e w' => e = .returned (.bool true) ∧ Below w.heap.size w w' := by
  have m0 := w0.le
  have m1 := w1.le
  have m2 := w2.le
  unfold maxLen at m0 m1 m2
  by_cases bad : 4096 < len0 ∨ 4096 < len1 ∨ 4096 < len2 ∨ ¬ len1 = len0 ∨ ¬ len2 = len0
  · clear w0 w1 w2
    have hcase : (4096 < len0) ∨ (len0 ≤ 4096 ∧ 4096 < len1) ∨ (len0 ≤ 4096 ∧ len1 ≤ 4096 ∧ 4096 < len2) ∨ (len0 ≤ 4096 ∧ len1 ≤ 4096 ∧ len2 ≤ 4096 ∧ ((len1 : Int) != (len0 : Int)) = true) ∨ (len0 ≤ 4096 ∧ len1 ≤ 4096 ∧ len2 ≤ 4096 ∧ ((len1 : Int) != (len0 : Int)) = false ∧ ((len2 : Int) != (len0 : Int)) = true) := by
      by_cases e1 : len1 = len0
      · by_cases e2 : len2 = len0
        · omega
        · have h1 : ((len1 : Int) != (len0 : Int)) = false := by simp [e1]
          have h2 : ((len2 : Int) != (len0 : Int)) = true := by simp; omega
          rw [h1, h2]; simp; omega
      · have h1 : ((len1 : Int) != (len0 : Int)) = true := by simp; omega
        rw [h1]; simp; omega
    clear bad
    rcases hcase with h | ⟨g0, h⟩ | ⟨g0, g1, h⟩ | ⟨g0, g1, g2, h⟩ | ⟨g0, g1, g2, g3, h⟩
    all_goals
      go_enter Try.func4, Try.ntmps4
      go_wp2_with fail
      refine (bytes_any _ _ _ _ _ _ _ _ _ _ _ _ _ _ (by unfold maxLen; omega) (by unfold maxLen; omega) (by unfold maxLen; omega)).mono ?_
      rintro e w' ⟨b, rfl, rfl⟩
      cases b
      all_goals
        go_wp2
        go_ret
        exact ⟨rfl, Below.refl _ _⟩
  · have hn : len0 ≤ 4096 := by omega
    obtain rfl : len1 = len0 := by omega
    obtain rfl : len2 = len1 := by omega
    generalize len2 = n at *
    clear bad m1 m2
    obtain ⟨i2, hi2, hz20, hz21, hz22⟩ := info_parts Try.info2
    obtain ⟨i3, hi3, hz30, hz31, hz32⟩ := info_parts Try.info3
    have W0 : Hid (Came w a0 n cap0 z0) := w0
    have W1 : Hid (Came w a1 n cap1 z1) := w1
    have W2 : Hid (Came w a2 n cap2 z2) := w2
    clear w0 w1 w2
    have hq22 := fun (w : World) (a : Option Addr) (l c : Nat) => run_neq_slice_nil_any (P := Try.prog) w 22 2 a l c 0 0 Try.underlying22
    have hq23 := fun (w : World) (a : Option Addr) (l c : Nat) => run_neq_slice_nil_any (P := Try.prog) w 23 3 a l c 0 0 Try.underlying23
    go_enter Try.func4, Try.ntmps4
    go_wp2_with fail
    refine (bytes_any _ _ _ _ _ _ _ _ _ _ _ _ _ _ (by unfold maxLen; omega) (by unfold maxLen; omega) (by unfold maxLen; omega)).mono ?_
    rintro e w' ⟨b, rfl, rfl⟩
    cases b
    · go_wp2
      go_ret
      exact ⟨rfl, Below.refl _ _⟩
    go_upto_if 54 with fail
    go_cut [0] (fun v0 wc => RowIn wc v0 n z0 ∧ Below w'.heap.size w' wc)
    case first =>
      rcases W0.out with ⟨rfl, rfl, rfl, rfl⟩ | ⟨x, rfl, hnc, hcm, hzl, hcell, _⟩
      · go_wp2
        go_meet
        exact ⟨⟨none, 0, rfl, fun h => by omega⟩, Below.refl _ _⟩
      · have HC : Hid (∀ i, i < z0.length → w'.cell? (x.add i) = some (.int .i64 (z0.getD i 0))) := hcell
        clear hcell
        have hnz : n ≤ z0.length := by omega
        have HL := cellsOf_length hnz
        go_wp2_with (first
          | (at_make; refine wpList_make_full _ rfl (.tmp 56) (.tmp 56) 22 rfl w'.heap.size 2 i2 (.int .i64 0) 1 Try.underlying22 hi2 hz20 hz21 .i64 .i64 _ _ n rfl rfl rfl rfl (by rw [hz22]; omega) (by unfold maxLen; omega) (by omega) ?_; intro w1 hown1 hgrow1; obtain ⟨hb1, hX⟩ := made_block hown1; have hbel1 := (Below.refl w'.heap.size w').grown hgrow1 (by omega) (fun k h => by cases h); generalize (madeCells (Value.cells (.int .i64 0)) (n * 1)).toList = X at *; have HB1 : Hid (w1.heap[w'.heap.size]? = some (.cells X.toArray 2 (0, 0))) := hb1; clear hown1 hgrow1 hb1)
          | (refine wpList_copy_splice rfl (.tmp 58) (.tmp 59) 22 22 rfl 2 Try.underlying22 Try.size2 _ _ n n n cap0 rfl rfl w'.heap.size 0 X 2 HB1.out (cellsOf z0 n) (by rw [HL]; exact (Nat.min_self n).symm) (fun _ => ⟨rfl, x, rfl, came_cells HC.out hbel1⟩) (by omega) (cellsOf_one z0 n) w'.heap.size w' hbel1 (Nat.le_refl _) ?_; intro w2 HG2 hbel2))
        go_meet
        exact ⟨row_of_copy hX hnz HG2.out, hbel2⟩
    case rest =>
      obtain ⟨⟨b0, d0, rfl, hr0⟩, hb0⟩ := hcut
      have R0 : Hid (RowIn wc (.slice b0 n d0) n z0) := ⟨b0, d0, rfl, hr0⟩
      clear hr0
      have hsz0 := hb0.size
      go_upto_if 63 with fail
      go_cut [1] (fun v1 wd => RowIn wd (.slice b0 n d0) n z0 ∧ RowIn wd v1 n z1 ∧ Below w'.heap.size w' wd)
      case first =>
        rcases W1.out with ⟨rfl, rfl, rfl, rfl⟩ | ⟨x, rfl, hnc, hcm, hzl, hcell, _⟩
        · go_wp2
          go_meet
          exact ⟨R0.out, ⟨none, 0, rfl, fun h => by omega⟩, hb0⟩
        · have HC : Hid (∀ i, i < z1.length → w'.cell? (x.add i) = some (.int .i64 (z1.getD i 0))) := hcell
          clear hcell
          have hnz : n ≤ z1.length := by omega
          have HL := cellsOf_length hnz
          go_wp2_with (first
            | (at_make; refine wpList_make_full _ rfl (.tmp 65) (.tmp 65) 22 rfl wc.heap.size 2 i2 (.int .i64 0) 1 Try.underlying22 hi2 hz20 hz21 .i64 .i64 _ _ n rfl rfl rfl rfl (by rw [hz22]; omega) (by unfold maxLen; omega) (by omega) ?_; intro w1 hown1 hgrow1; obtain ⟨hb1, hX⟩ := made_block hown1; have hbel1 := (Below.refl wc.heap.size wc).grown hgrow1 (by omega) (fun k h => by cases h); generalize (madeCells (Value.cells (.int .i64 0)) (n * 1)).toList = X at *; have HB1 : Hid (w1.heap[wc.heap.size]? = some (.cells X.toArray 2 (0, 0))) := hb1; clear hown1 hgrow1 hb1)
            | (refine wpList_copy_splice rfl (.tmp 67) (.tmp 68) 22 22 rfl 2 Try.underlying22 Try.size2 _ _ n n n cap1 rfl rfl wc.heap.size 0 X 2 HB1.out (cellsOf z1 n) (by rw [HL]; exact (Nat.min_self n).symm) (fun _ => ⟨rfl, x, rfl, came_cells HC.out (hb0.trans (hbel1.mono hsz0))⟩) (by omega) (cellsOf_one z1 n) wc.heap.size wc hbel1 (Nat.le_refl _) ?_; intro w2 HG2 hbel2))
          go_meet
          exact ⟨R0.out.below hbel2 (Nat.le_refl _), row_of_copy hX hnz HG2.out, hb0.trans (hbel2.mono hsz0)⟩
      case rest =>
        clear R0 hb0 hsz0
        obtain ⟨hr0, ⟨b1, d1, rfl, hr1⟩, hb0⟩ := hcut
        have R0 : Hid (RowIn wc (.slice b0 n d0) n z0) := hr0
        have R1 : Hid (RowIn wc (.slice b1 n d1) n z1) := ⟨b1, d1, rfl, hr1⟩
        clear hr0 hr1
        have hsz0 := hb0.size
        go_upto_if 72 with fail
        go_cut [2] (fun v2 wd => RowIn wd (.slice b0 n d0) n z0 ∧ RowIn wd (.slice b1 n d1) n z1 ∧ RowIn wd v2 n z2 ∧ Below w'.heap.size w' wd)
        case first =>
          rcases W2.out with ⟨rfl, rfl, rfl, rfl⟩ | ⟨x, rfl, hnc, hcm, hzl, hcell, _⟩
          · go_wp2
            go_meet
            exact ⟨R0.out, R1.out, ⟨none, 0, rfl, fun h => by omega⟩, hb0⟩
          · have HC : Hid (∀ i, i < z2.length → w'.cell? (x.add i) = some (.int .i64 (z2.getD i 0))) := hcell
            clear hcell
            have hnz : n ≤ z2.length := by omega
            have HL := cellsOf_length hnz
            go_wp2_with (first
              | (at_make; refine wpList_make_full _ rfl (.tmp 74) (.tmp 74) 23 rfl wc.heap.size 3 i3 (.int .i64 0) 1 Try.underlying23 hi3 hz30 hz31 .i64 .i64 _ _ n rfl rfl rfl rfl (by rw [hz32]; omega) (by unfold maxLen; omega) (by omega) ?_; intro w1 hown1 hgrow1; obtain ⟨hb1, hX⟩ := made_block hown1; have hbel1 := (Below.refl wc.heap.size wc).grown hgrow1 (by omega) (fun k h => by cases h); generalize (madeCells (Value.cells (.int .i64 0)) (n * 1)).toList = X at *; have HB1 : Hid (w1.heap[wc.heap.size]? = some (.cells X.toArray 3 (0, 0))) := hb1; clear hown1 hgrow1 hb1)
              | (refine wpList_copy_splice rfl (.tmp 76) (.tmp 77) 23 23 rfl 3 Try.underlying23 Try.size3 _ _ n n n cap2 rfl rfl wc.heap.size 0 X 3 HB1.out (cellsOf z2 n) (by rw [HL]; exact (Nat.min_self n).symm) (fun _ => ⟨rfl, x, rfl, came_cells HC.out (hb0.trans (hbel1.mono hsz0))⟩) (by omega) (cellsOf_one z2 n) wc.heap.size wc hbel1 (Nat.le_refl _) ?_; intro w2 HG2 hbel2))
            go_meet
            exact ⟨R0.out.below hbel2 (Nat.le_refl _), R1.out.below hbel2 (Nat.le_refl _), row_of_copy hX hnz HG2.out, hb0.trans (hbel2.mono hsz0)⟩
        case rest =>
          clear R0 R1 hb0 hsz0 W0 W1 W2 hq22 hq23
          obtain ⟨hr0, hr1, ⟨b2, d2, rfl, hr2⟩, hb0⟩ := hcut
          have R0 : Hid (RowIn wc (.slice b0 n d0) n z0) := hr0
          have R1 : Hid (RowIn wc (.slice b1 n d1) n z1) := hr1
          have R2 : Hid (RowIn wc (.slice b2 n d2) n z2) := ⟨b2, d2, rfl, hr2⟩
          have HB0 : Hid (Below w'.heap.size w' wc) := hb0
          have hsz := hb0.size
          have hml := made_length z0 z1 z2 n
          clear hr0 hr1 hr2 hb0 hi2 hz20 hz21 hz22 hi3 hz30 hz31 hz32
          -- the first builder
          go_wp2_with fail
          refine (make_any b0 b1 b2 n d0 d1 d2 z0 z1 z2 ho oLo oHi oP _ hn R0.out R1.out R2.out).mono ?_
          rintro e w3 ⟨rfl, v3, op3, hB3, hO3, hL3⟩
          have L3 : Hid (Below wc.heap.size wc w3) := hL3
          clear hL3
          -- cut
          go_wp2_with fail
          refine (zzcut_any wc.heap.size v3 op3 (made z0 z1 z2 n) ho oLo oHi oP _ hB3 (by omega) hO3).mono ?_
          rintro e w4 ⟨rfl, v4, hB4, hL4⟩
          have L4 : Hid (Below wc.heap.size wc w4) := L3.out.trans hL4
          clear hB3 hO3 hL4 L3
          have HB4 : Hid (Builder w4 wc.heap.size v4 (.pointer none) (made z0 z1 z2 n ++ opened ho (oLo, oHi, oP))) := hB4
          clear hB4
          -- nothing is open
          go_wp2_with fail
          refine (openNil_nil wc.heap.size _ _ _ _ _ HB4.out.block).mono ?_
          rintro e w5 ⟨rfl, rfl⟩
          -- finish, behind the cut
          go_wp2_with fail
          refine (zzfinish_any wc.heap.size v4 (.pointer none) (made z0 z1 z2 n ++ opened ho (oLo, oHi, oP)) false 0 0 0 _ HB4.out (by have := opened_length ho (oLo, oHi, oP); rw [List.length_append]; omega) (openAt_none _ _ _ _)).mono ?_
          rintro e w6 ⟨v6, rfl, hB6, hL6⟩
          rw [show opened false ((0 : Int), (0 : Int), (0 : Int)) = [] from rfl, List.append_nil] at hB6
          have S6 : SpanRow w6 v6 (spansOf z0 z1 z2 n ho oLo oHi oP) := spanRow_of_owns hB6.owns
          have L6 : Hid (Below wc.heap.size wc w6) := L4.out.trans hL6
          obtain ⟨go6, cap6, rfl, hs6⟩ := S6
          have S6 : Hid (SpanRow w6 (.slice go6 (spansOf z0 z1 z2 n ho oLo oHi oP).length cap6) (spansOf z0 z1 z2 n ho oLo oHi oP)) := ⟨go6, cap6, rfl, hs6⟩
          have hsz6 := L6.out.size
          clear hB6 hL6 HB4 L4 hs6
          -- the second builder
          go_wp2_with fail
          refine (make_any b0 b1 b2 n d0 d1 d2 z0 z1 z2 ho oLo oHi oP _ hn (R0.out.below L6.out (Nat.le_refl _)) (R1.out.below L6.out (Nat.le_refl _)) (R2.out.below L6.out (Nat.le_refl _))).mono ?_
          rintro e w7 ⟨rfl, v7, op7, hB7, hO7, hL7⟩
          have L7 : Hid (Below w6.heap.size w6 w7) := hL7
          clear hL7
          go_wp2_with fail
          refine (zzfinish_any w6.heap.size v7 op7 (made z0 z1 z2 n) ho oLo oHi oP _ hB7 (by omega) hO7).mono ?_
          rintro e w8 ⟨v8, rfl, hB8, hL8⟩
          have S8 : SpanRow w8 v8 (spansOf z0 z1 z2 n ho oLo oHi oP) := spanRow_of_owns hB8.owns
          have L8 : Hid (Below w6.heap.size w6 w8) := L7.out.trans hL8
          obtain ⟨go8, cap8, rfl, hs8⟩ := S8
          have S8 : Hid (SpanRow w8 (.slice go8 (spansOf z0 z1 z2 n ho oLo oHi oP).length cap8) (spansOf z0 z1 z2 n ho oLo oHi oP)) := ⟨go8, cap8, rfl, hs8⟩
          clear hB7 hO7 hB8 hL8 L7 hs8
          have S6' : Hid (SpanRow w8 (.slice go6 (spansOf z0 z1 z2 n ho oLo oHi oP).length cap6) (spansOf z0 z1 z2 n ho oLo oHi oP)) := S6.out.below L8.out (Nat.le_refl _)
          have hbb : Hid (Below wc.heap.size wc w8) := L6.out.trans (L8.out.mono hsz6)
          have R0' : Hid (RowIn w8 (.slice b0 n d0) n z0) := R0.out.below hbb.out (Nat.le_refl _)
          have R1' : Hid (RowIn w8 (.slice b1 n d1) n z1) := R1.out.below hbb.out (Nat.le_refl _)
          have R2' : Hid (RowIn w8 (.slice b2 n d2) n z2) := R2.out.below hbb.out (Nat.le_refl _)
          have fin : Hid (∀ a, Below w'.heap.size w' (w8.drewN a)) := fun a => below_drewN (HB0.out.trans (hbb.out.mono hsz)) a
          clear S6 R0 R1 R2 L6 L8 hbb HB0 hml
          generalize hm : (spansOf z0 z1 z2 n ho oLo oHi oP).length = m at *
          have HM : Hid ((spansOf z0 z1 z2 n ho oLo oHi oP).length = m) := hm
          clear hm
          -- the two looks
          go_wp2_with fail
          refine (spansAre_at m go6 cap6 b0 b1 b2 n d0 d1 d2 z0 z1 z2 ho oLo oHi oP _ hn HM R0'.out R1'.out R2'.out S6'.out).mono ?_
          rintro e w9 ⟨rfl, q9, rfl⟩
          go_wp2_with fail
          refine (spansAre_at m go8 cap8 b0 b1 b2 n d0 d1 d2 z0 z1 z2 ho oLo oHi oP (w8.drewN q9) hn HM R0'.out R1'.out R2'.out S8.out).mono ?_
          rintro e w10 ⟨rfl, q10, rfl⟩
          go_wp2
          go_ret
          exact ⟨rfl, fin.out _⟩
end Go.Proofs.Qxb6615596a.Spans
