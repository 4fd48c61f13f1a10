/-
  THE WALK OF THE LAW FnCommitsEachAddAfterHeardRingsAgain (6). By an AI agent, Nov 2026.
-/
import Derived.Test.Qxb6615596aRows
import Derived.Test.Qxb6615596aCommitsRows
import Derived.Test.Qxb6615596aCommits
import Derived.WalkKit
import Derived.WalkSpells
import Derived.WalkSmall
import Derived.Deep.DeepCutAuto
import Derived.Deep.QuietTactic
import Derived.BigQuiet
namespace Go.Proofs.Qxb6615596a.Bell
open Go.RowKit
set_option linter.unusedVariables false

theorem tail_at {zs : List Int} {n : Nat} (hn : n ≤ zs.length) (i : Nat) (ys : List Int) : (zs.take n ++ ys).getD (n + i) 0 = ys.getD i 0 := by
  have h1 : (zs.take n).length = n := by simp; omega
  simp only [List.getD_eq_getElem?_getD]
  rw [List.getElem?_append_right (by omega), h1, Nat.add_sub_cancel_left]

set_option maxHeartbeats 400000 in
theorem bytes6_any (a0 : Option Addr) (l0 c0 : Nat) (x y : Int) (w : World) (h0 : l0 ≤ maxLen) :
    Calls Try.prog 19 #[.slice a0 l0 c0, .int .u32 x, .int .u32 y] w fun e w' => ∃ b, e = .returned (.bool b) ∧ w' = w := by
  unfold maxLen at h0
  go_enter Try.func19, Try.ntmps19
  go_wp2
  all_goals
    go_ret
    exact ⟨_, rfl, rfl⟩

set_option maxRecDepth 100000 in
set_option maxHeartbeats 2000000 in
theorem heard_walk (a0 : Option Addr) (n cap0 : Nat) (z0 : List Int) (x y : Int) (w : World) (w0 : Came w a0 n cap0 z0) :
    Calls Try.prog 6 #[.slice a0 n cap0, .int .u32 x, .int .u32 y] w fun e w' => e = .returned (.bool true) ∧ Below w.heap.size w w' := by
  have m0 := w0.le
  unfold maxLen at m0
  by_cases bad : 4096 < n
  · clear w0
    go_enter Try.func6, Try.ntmps6
    go_wp2_with fail
    refine (bytes6_any _ _ _ _ _ _ (by unfold maxLen; omega)).mono ?_
    rintro e w' ⟨b, rfl, rfl⟩
    cases b
    all_goals
      go_wp2
      go_ret
      exact ⟨rfl, Below.refl _ _⟩
  · have hn : n ≤ 4096 := by omega
    clear bad
    obtain ⟨i0, hi0, hz0, hz1, hz2⟩ := info_parts Try.info34
    have hnz := w0.len
    have R0 : Hid (RowU w a0 n z0) := w0.row
    have W0 : Hid (a0 = none → n = 0) := w0.nil
    clear w0
    have hq := fun (w : World) (a : Option Addr) (l c : Nat) => run_neq_slice_nil_any (P := Try.prog) w 32 34 a l c 0 0 Try.underlying32
    go_enter Try.func6, Try.ntmps6
    go_wp2_with fail
    refine (bytes6_any _ _ _ _ _ _ (by unfold maxLen; omega)).mono ?_
    rintro e w' ⟨b, rfl, rfl⟩
    cases b
    · go_wp2
      go_ret
      exact ⟨rfl, Below.refl _ _⟩
    go_upto_if 26 with fail
    go_cut [7] (fun own wc => (∃ ao c, own = .slice ao n c) ∧ wc.ownsRow w'.heap.size 34 1 own (z0.take n).length (nums (z0.take n)) ∧ Below w'.heap.size w' wc)
    case first =>
      cases a0 with
      | none =>
        have hn0 := W0.out rfl
        subst hn0
        go_wp2
        go_meet
        exact ⟨⟨none, 0, rfl⟩, World.ownsRow_nil _ _ _ _, Below.refl _ _⟩
      | some x =>
        go_wp2_with (at_make; refine wpList_make_full _ rfl (.tmp 28) (.tmp 28) 32 rfl w'.heap.size 34 i0 (.int .u32 0) 1 Try.underlying32 hi0 hz0 hz1 .i64 .i64 _ _ n rfl rfl rfl rfl (by rw [hz2]; omega) (by unfold maxLen; omega) (by omega) ?_; intro w1 hown1 hgrow1; have HB1 : Hid (w1.heap[w'.heap.size]? = some (.cells (List.replicate n (Value.int .u32 0)).toArray 34 (0, 0))) := made_block hown1; have HL1 : Hid (Below w'.heap.size w' w1) := (Below.refl w'.heap.size w').grown hgrow1 (by omega) (fun k h => by cases h); clear hown1 hgrow1)
        go_loopw [8] (fun i wr => ∃ k : Nat, k ≤ n ∧ i = .int .i64 k ∧ wr.heap[w'.heap.size]? = some (.cells (half z0 n k).toArray 34 (0, 0)) ∧ Below w'.heap.size w' wr) (fun i _ => n - (intOf i).toNat)
        case atStart => exact ⟨0, Nat.zero_le _, rfl, by rw [half_zero]; exact HB1.out, HL1.out⟩
        case round =>
          obtain ⟨k, hk, rfl, hblk, hbel⟩ := hrel
          by_cases hlt : k < n
          · obtain ⟨b, off, e1, hb, hc⟩ := R0.out (by omega)
            injection e1 with e1
            subst e1
            have g0 := (hbel.cell (p := ⟨b, off + k, none⟩) hb).trans (hc k hlt)
            have c1 : ∃ u, wr.cell? ⟨w'.heap.size, k, none⟩ = some u := by
              rw [cell_of_row wr _ k _ _ _ hblk]
              exact half_some hlt hnz
            obtain ⟨u, c1⟩ := c1
            have f1 : wr.frozen? ⟨w'.heap.size, k, none⟩ = false := free_of_block hblk
            have H1 : Hid ((wr.setCell ⟨w'.heap.size, k, none⟩ (.int .u32 (z0.getD k 0))).heap[w'.heap.size]? = some (.cells (half z0 n (k + 1)).toArray 34 (0, 0))) := by
              show _ = _
              rw [block_setCell hblk, half_step hlt hnz]
            have H2 : Hid (Below w'.heap.size w' (wr.setCell ⟨w'.heap.size, k, none⟩ (.int .u32 (z0.getD k 0)))) := hbel.setCell (p := ⟨w'.heap.size, k, none⟩) (Nat.le_refl _) _
            generalize z0.getD k 0 = x0 at *
            clear hblk hbel hc HB1 HL1
            go_wp2
            go_roundw
            case rel => exact ⟨k + 1, by omega, by go_num, H1.out, H2.out⟩
            case measure => simp [intOf]; omega
          · have hkn : k = n := by omega
            subst hkn
            go_wp2
            go_meet
            exact ⟨⟨_, _, rfl⟩, owns_half _ (Nat.le_refl _) hnz (by unfold maxLen; omega) hblk, hbel⟩
    case rest =>
      obtain ⟨⟨bo, co, rfl⟩, hown, hbel⟩ := hcut
      have HO : Hid (wc.ownsRow w'.heap.size 34 1 (.slice bo n co) (z0.take n).length (nums (z0.take n))) := hown
      have HL : Hid (Below w'.heap.size w' wc) := hbel
      have hsz := hbel.size
      have hl0 : (z0.take n).length = n := by simp; omega
      have HN : Hid ((z0.take n).length = n) := hl0
      clear hown hbel hq hi0 hz0 hz1 hz2 W0 hl0
      -- the commits are made
      go_wp2_with fail
      refine (new_c false HO.out hsz).mono ?_
      rintro e w1 ⟨rfl, h1, b1⟩
      have H1 : Hid (Holds w1 w'.heap.size (wc.heap.size + 1) wc.heap.size (.slice bo n co) false (z0.take n) 0) := h1
      have L1 : Hid (Below w'.heap.size w' w1) := HL.out.trans b1
      clear h1 b1 HO HL
      generalize wc.heap.size + 1 = B at *
      generalize wc.heap.size = C at *
      -- x is added, heard once, and no more
      go_wp2_with fail
      refine (zzadd_c x H1.out (by rw [HN.out]; omega)).mono ?_
      rintro e w2 ⟨rfl, v2, h2, b2⟩
      have H2 : Hid (Holds w2 w'.heap.size B C v2 true (z0.take n ++ [x]) 0) := h2
      have L2 : Hid (Below w'.heap.size w' w2) := L1.out.trans b2
      clear h2 b2 H1 L1
      go_wp2_with fail
      refine (take_c H2.out).mono ?_
      rintro e w3 ⟨rfl, h3, b3⟩
      have H3 : Hid (Holds w3 w'.heap.size B C v2 false (z0.take n ++ [x]) 0) := h3
      have L3 : Hid (Below w'.heap.size w' w3) := L2.out.trans b3
      clear h3 b3 H2 L2
      go_wp2_with fail
      refine (take_c H3.out).mono ?_
      rintro e w4 ⟨rfl, h4, b4⟩
      have H4 : Hid (Holds w4 w'.heap.size B C v2 false (z0.take n ++ [x]) 0) := h4
      have L4 : Hid (Below w'.heap.size w' w4) := L3.out.trans b4
      clear h4 b4 H3 L3
      -- y and x are added, heard once, and no more
      go_wp2_with fail
      refine (zzadd_c y H4.out (by rw [List.length_append, HN.out]; simp; omega)).mono ?_
      rintro e w5 ⟨rfl, v5, h5, b5⟩
      have H5 : Hid (Holds w5 w'.heap.size B C v5 true (z0.take n ++ [x] ++ [y]) 0) := h5
      have L5 : Hid (Below w'.heap.size w' w5) := L4.out.trans b5
      clear h5 b5 H4 L4
      go_wp2_with fail
      refine (zzadd_c x H5.out (by rw [List.length_append, List.length_append, HN.out]; simp; omega)).mono ?_
      rintro e w6 ⟨rfl, v6, h6, b6⟩
      have h6' : Holds w6 w'.heap.size B C v6 true (z0.take n ++ [x, y, x]) 0 := by simpa using h6
      have H6 : Hid (Holds w6 w'.heap.size B C v6 true (z0.take n ++ [x, y, x]) 0) := h6'
      have L6 : Hid (Below w'.heap.size w' w6) := L5.out.trans b6
      clear h6 h6' b6 H5 L5
      go_wp2_with fail
      refine (take_c H6.out).mono ?_
      rintro e w7 ⟨rfl, h7, b7⟩
      have H7 : Hid (Holds w7 w'.heap.size B C v6 false (z0.take n ++ [x, y, x]) 0) := h7
      have L7 : Hid (Below w'.heap.size w' w7) := L6.out.trans b7
      clear h7 b7 H6 L6
      go_wp2_with fail
      refine (take_c H7.out).mono ?_
      rintro e w8 ⟨rfl, h8, b8⟩
      have H8 : Hid (Holds w8 w'.heap.size B C v6 false (z0.take n ++ [x, y, x]) 0) := h8
      have L8 : Hid (Below w'.heap.size w' w8) := L7.out.trans b8
      clear h8 b8 H7 L7
      have hlen : (z0.take n ++ [x, y, x]).length = n + 3 := by rw [List.length_append, HN.out]; rfl
      obtain ⟨go, cap, rfl, hG⟩ := rowG_of_owns H8.out.owns
      rw [hlen] at hG H8
      obtain ⟨g, rfl, hg⟩ := hG (by omega)
      have HG : Hid (∀ j, j < n + 3 → w8.cell? ⟨g, j, none⟩ = some (.int .u32 ((z0.take n ++ [x, y, x]).getD j 0))) := hg
      have R0' : Hid (RowU w8 a0 n z0) := R0.out.below L8.out (Nat.le_refl _)
      clear hG hg hlen R0
      go_wp2_with fail
      refine (xids_c H8.out).mono ?_
      rintro e w9 ⟨rfl, rfl⟩
      have t0 : w9.cell? ⟨g, n, none⟩ = some (.int .u32 x) := by rw [HG.out n (by omega)]; exact congrArg (fun z => some (Value.int .u32 z)) (tail_at hnz 0 [x, y, x])
      have t1 : w9.cell? ⟨g, n + 1, none⟩ = some (.int .u32 y) := by rw [HG.out (n + 1) (by omega)]; exact congrArg (fun z => some (Value.int .u32 z)) (tail_at hnz 1 [x, y, x])
      have t2 : w9.cell? ⟨g, n + 2, none⟩ = some (.int .u32 x) := by rw [HG.out (n + 2) (by omega)]; exact congrArg (fun z => some (Value.int .u32 z)) (tail_at hnz 2 [x, y, x])
      have fin : Hid (∀ a, Below w'.heap.size w' (w9.drewN a)) := fun a => below_drewN L8.out a
      clear H8 L8 HN
      go_wp2
      go_loopw [15] (fun i wx => ∃ j q : Nat, j ≤ n ∧ i = .int .i64 j ∧ wx = w9.drewN q) (fun i _ => n - (intOf i).toNat)
      case atStart => exact ⟨0, 0, Nat.zero_le _, rfl, rfl⟩
      case round =>
        obtain ⟨j, q, hj, rfl, rfl⟩ := hrel
        by_cases hlt : j < n
        · obtain ⟨b, off, rfl, hb, hc⟩ := R0'.out (by omega)
          have g1 := HG.out j (by omega)
          rw [take_at hlt _ hnz] at g1
          have g2 := hc j hlt
          have i1 : (j : Int) < (n : Int) + 3 := by omega
          have i2 : (j : Int) < (n : Int) := by omega
          generalize z0.getD j 0 = x' at *
          clear hc HG t0 t1 t2
          go_wp2
          go_quiet (fail)
          go_wp2
          go_roundw
          case rel => exact ⟨j + 1, _, by omega, by go_num, rfl⟩
          case measure => simp [intOf]; omega
        · have hjn : j = n := by omega
          subst hjn
          clear HG R0'
          go_wp2
          go_ret
          exact ⟨rfl, fin.out _⟩
end Go.Proofs.Qxb6615596a.Bell
