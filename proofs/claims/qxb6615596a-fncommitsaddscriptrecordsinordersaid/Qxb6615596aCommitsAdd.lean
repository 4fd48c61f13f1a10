/-
  THE WALK OF THE LAW FnCommitsAddScriptRecordsInOrder (5). By an AI agent, Nov 2026.
-/
import Derived.Test.Qxb6615596aRows
import Derived.Test.Qxb6615596aCommitsRows
import Derived.Test.Qxb6615596aCommits
import Derived.WalkKit
import Derived.WalkSpells
import Derived.WalkSmall
import Derived.Deep.DeepCutAuto
import Derived.Deep.QuietTactic
import Derived.BigQuiet
namespace Go.Proofs.Qxb6615596a.Bell
open Go.RowKit
set_option linter.unusedVariables false

set_option maxHeartbeats 400000 in
theorem bytes5_any (a0 a2 : Option Addr) (l0 c0 l2 c2 : Nat) (b : Bool) (w : World) (h0 : l0 ≤ maxLen) (h2 : l2 ≤ maxLen) :
    Calls Try.prog 14 #[.slice a0 l0 c0, .bool b, .slice a2 l2 c2] w fun e w' => ∃ b, e = .returned (.bool b) ∧ w' = w := by
  unfold maxLen at h0 h2
  go_enter Try.func14, Try.ntmps14
  go_wp2
  all_goals
    go_ret
    exact ⟨_, rfl, rfl⟩

set_option maxRecDepth 100000 in
set_option maxHeartbeats 2000000 in
theorem add_walk (a0 : Option Addr) (n cap0 : Nat) (z0 : List Int) (rg : Bool) (a2 : Option Addr) (m cap2 : Nat) (z2 : List Int) (w : World)
    (w0 : Came w a0 n cap0 z0) (w2 : Came w a2 m cap2 z2) :
    Calls Try.prog 5 #[.slice a0 n cap0, .bool rg, .slice a2 m cap2] w fun e w' => e = .returned (.bool true) ∧ Below w.heap.size w w' := by
  have m0 := w0.le
  have m2 := w2.le
  unfold maxLen at m0 m2
  by_cases bad : 4096 < n ∨ 4096 < m
  · clear w0 w2
    have hcase : (4096 < n) ∨ (n ≤ 4096 ∧ 4096 < m) := by omega
    clear bad
    rcases hcase with h | ⟨g0, h⟩
    all_goals
      go_enter Try.func5, Try.ntmps5
      go_wp2_with fail
      refine (bytes5_any _ _ _ _ _ _ _ _ (by unfold maxLen; omega) (by unfold maxLen; omega)).mono ?_
      rintro e w' ⟨b, rfl, rfl⟩
      cases b
      all_goals
        go_wp2
        go_ret
        exact ⟨rfl, Below.refl _ _⟩
  · have hn : n ≤ 4096 := by omega
    have hm : m ≤ 4096 := by omega
    clear bad
    obtain ⟨i0, hi0, hz0, hz1, hz2⟩ := info_parts Try.info34
    have hnz := w0.len
    have hmz := w2.len
    have R0 : Hid (RowU w a0 n z0) := w0.row
    have R2 : Hid (RowU w a2 m z2) := w2.row
    have W0 : Hid (a0 = none → n = 0) := w0.nil
    clear w0 w2
    have hq := fun (w : World) (a : Option Addr) (l c : Nat) => run_neq_slice_nil_any (P := Try.prog) w 32 34 a l c 0 0 Try.underlying32
    go_enter Try.func5, Try.ntmps5
    go_wp2_with fail
    refine (bytes5_any _ _ _ _ _ _ _ _ (by unfold maxLen; omega) (by unfold maxLen; omega)).mono ?_
    rintro e w' ⟨b, rfl, rfl⟩
    cases b
    · go_wp2
      go_ret
      exact ⟨rfl, Below.refl _ _⟩
    go_upto_if 27 with fail
    go_cut [7] (fun own wc => (∃ ao c, own = .slice ao n c) ∧ wc.ownsRow w'.heap.size 34 1 own (z0.take n).length (nums (z0.take n)) ∧ Below w'.heap.size w' wc)
    case first =>
      cases a0 with
      | none =>
        have hn0 := W0.out rfl
        subst hn0
        go_wp2
        go_meet
        exact ⟨⟨none, 0, rfl⟩, World.ownsRow_nil _ _ _ _, Below.refl _ _⟩
      | some x =>
        go_wp2_with (at_make; refine wpList_make_full _ rfl (.tmp 29) (.tmp 29) 32 rfl w'.heap.size 34 i0 (.int .u32 0) 1 Try.underlying32 hi0 hz0 hz1 .i64 .i64 _ _ n rfl rfl rfl rfl (by rw [hz2]; omega) (by unfold maxLen; omega) (by omega) ?_; intro w1 hown1 hgrow1; have HB1 : Hid (w1.heap[w'.heap.size]? = some (.cells (List.replicate n (Value.int .u32 0)).toArray 34 (0, 0))) := made_block hown1; have HL1 : Hid (Below w'.heap.size w' w1) := (Below.refl w'.heap.size w').grown hgrow1 (by omega) (fun k h => by cases h); clear hown1 hgrow1)
        go_loopw [8] (fun i wr => ∃ k : Nat, k ≤ n ∧ i = .int .i64 k ∧ wr.heap[w'.heap.size]? = some (.cells (half z0 n k).toArray 34 (0, 0)) ∧ Below w'.heap.size w' wr) (fun i _ => n - (intOf i).toNat)
        case atStart => exact ⟨0, Nat.zero_le _, rfl, by rw [half_zero]; exact HB1.out, HL1.out⟩
        case round =>
          obtain ⟨k, hk, rfl, hblk, hbel⟩ := hrel
          by_cases hlt : k < n
          · obtain ⟨b, off, e1, hb, hc⟩ := R0.out (by omega)
            injection e1 with e1
            subst e1
            have g0 := (hbel.cell (p := ⟨b, off + k, none⟩) hb).trans (hc k hlt)
            have c1 : ∃ u, wr.cell? ⟨w'.heap.size, k, none⟩ = some u := by
              rw [cell_of_row wr _ k _ _ _ hblk]
              exact half_some hlt hnz
            obtain ⟨u, c1⟩ := c1
            have f1 : wr.frozen? ⟨w'.heap.size, k, none⟩ = false := free_of_block hblk
            have H1 : Hid ((wr.setCell ⟨w'.heap.size, k, none⟩ (.int .u32 (z0.getD k 0))).heap[w'.heap.size]? = some (.cells (half z0 n (k + 1)).toArray 34 (0, 0))) := by
              show _ = _
              rw [block_setCell hblk, half_step hlt hnz]
            have H2 : Hid (Below w'.heap.size w' (wr.setCell ⟨w'.heap.size, k, none⟩ (.int .u32 (z0.getD k 0)))) := hbel.setCell (p := ⟨w'.heap.size, k, none⟩) (Nat.le_refl _) _
            generalize z0.getD k 0 = x0 at *
            clear hblk hbel hc HB1 HL1
            go_wp2
            go_roundw
            case rel => exact ⟨k + 1, by omega, by go_num, H1.out, H2.out⟩
            case measure => simp [intOf]; omega
          · have hkn : k = n := by omega
            subst hkn
            go_wp2
            go_meet
            exact ⟨⟨_, _, rfl⟩, owns_half _ (Nat.le_refl _) hnz (by unfold maxLen; omega) hblk, hbel⟩
    case rest =>
      obtain ⟨⟨bo, co, rfl⟩, hown, hbel⟩ := hcut
      have HO : Hid (wc.ownsRow w'.heap.size 34 1 (.slice bo n co) (z0.take n).length (nums (z0.take n))) := hown
      have HL : Hid (Below w'.heap.size w' wc) := hbel
      have hsz := hbel.size
      have hl0 : (z0.take n).length = n := by simp; omega
      have HN : Hid ((z0.take n).length = n) := hl0
      clear hown hbel hq hi0 hz0 hz1 hz2 W0 hl0
      -- the commits are made
      go_wp2_with fail
      refine (new_c rg HO.out hsz).mono ?_
      rintro e w3 ⟨rfl, h3, b3⟩
      have H3 : Hid (Holds w3 w'.heap.size (wc.heap.size + 1) wc.heap.size (.slice bo n co) rg (z0.take n) 0) := h3
      have L3 : Hid (Below w'.heap.size w' w3) := HL.out.trans b3
      clear h3 b3 HO HL
      generalize wc.heap.size + 1 = B at *
      generalize wc.heap.size = C at *
      go_wp2
      go_loopw [10] (fun j wr => ∃ (k : Nat) (v : Value), k ≤ m ∧ j = .int .i64 k ∧ Holds wr w'.heap.size B C v (rg || decide (0 < k)) (z0.take n ++ z2.take k) 0 ∧ Below w'.heap.size w' wr) (fun j _ => m - (intOf j).toNat)
      case atStart =>
        exact ⟨0, .slice bo n co, Nat.zero_le _, rfl, by have := H3.out; simpa using this, L3.out⟩
      case round =>
        obtain ⟨k, v, hk, rfl, hh, hbel⟩ := hrel
        by_cases hlt : k < m
        · obtain ⟨b, off, rfl, hb, hc⟩ := R2.out (by omega)
          have g0 := (hbel.cell (p := ⟨b, off + k, none⟩) hb).trans (hc k hlt)
          have HT : Hid (z2.take (k + 1) = z2.take k ++ [z2.getD k 0]) := take_succ z2 k (by omega)
          have HH : Hid (Holds wr w'.heap.size B C v (rg || decide (0 < k)) (z0.take n ++ z2.take k) 0) := hh
          have HL : Hid (Below w'.heap.size w' wr) := hbel
          have hlen : (z0.take n ++ z2.take k).length ≤ 10000 := by rw [List.length_append, HN.out]; simp; omega
          generalize z2.getD k 0 = x0 at *
          clear hh hbel hc H3 L3
          go_wp2_with fail
          refine (zzadd_c x0 HH.out hlen).mono ?_
          rintro e w4 ⟨rfl, v4, h4, b4⟩
          have R4 : Hid (Holds w4 w'.heap.size B C v4 (rg || decide (0 < k + 1)) (z0.take n ++ z2.take (k + 1)) 0 ∧ Below w'.heap.size w' w4) := by
            rw [HT.out, ← List.append_assoc]
            refine ⟨?_, HL.out.trans b4⟩
            simpa using h4
          clear h4 b4 HH HL HT hlen
          go_wp2
          go_roundw
          case rel => exact ⟨k + 1, v4, by omega, by go_num, R4.out.1, R4.out.2⟩
          case measure => simp [intOf]; omega
        · have hkm : k = m := by omega
          subst hkm
          have HH : Hid (Holds wr w'.heap.size B C v (rg || decide (0 < k)) (z0.take n ++ z2.take k) 0) := hh
          have HL : Hid (Below w'.heap.size w' wr) := hbel
          obtain ⟨go, cap, rfl, hG⟩ := rowG_of_owns hh.owns
          have hlen : (z0.take n ++ z2.take k).length = n + k := by rw [List.length_append, HN.out]; simp; omega
          rw [hlen] at hG
          have HG : Hid (0 < n + k → ∃ g, go = some ⟨g, 0, none⟩ ∧ ∀ j, j < n + k → wr.cell? ⟨g, j, none⟩ = some (.int .u32 ((z0.take n ++ z2.take k).getD j 0))) := hG
          rw [hlen] at HH
          have R0' : Hid (RowU wr a0 n z0) := R0.out.below hbel (Nat.le_refl _)
          have R2' : Hid (RowU wr a2 k z2) := R2.out.below hbel (Nat.le_refl _)
          clear hh hbel hG hlen H3 L3 R0 R2
          go_wp2_with fail
          refine (xids_c HH.out).mono ?_
          rintro e w5 ⟨rfl, rfl⟩
          go_wp2
          go_loopw [12] (fun i wx => ∃ j q : Nat, j ≤ n ∧ i = .int .i64 j ∧ wx = w5.drewN q) (fun i _ => n - (intOf i).toNat)
          case atStart => exact ⟨0, 0, Nat.zero_le _, rfl, rfl⟩
          case round =>
            obtain ⟨j, q, hj, rfl, rfl⟩ := hrel
            by_cases hlt : j < n
            · obtain ⟨g, rfl, hg⟩ := HG.out (by omega)
              obtain ⟨b, off, rfl, hb, hc⟩ := R0'.out (by omega)
              have g1 := hg j (by omega)
              rw [take_at hlt _ hnz] at g1
              have g2 := hc j hlt
              have i1 : (j : Int) < (n : Int) + (k : Int) := by omega
              have i2 : (j : Int) < (n : Int) := by omega
              generalize z0.getD j 0 = x at *
              clear hg hc HH HL HN R2'
              go_wp2
              go_quiet (fail)
              go_wp2
              go_roundw
              case rel => exact ⟨j + 1, _, by omega, by go_num, rfl⟩
              case measure => simp [intOf]; omega
            · have hjn : j = n := by omega
              subst hjn
              go_wp2
              go_loopw [13] (fun i wx => ∃ i' q : Nat, i' ≤ k ∧ i = .int .i64 i' ∧ wx = w5.drewN q) (fun i _ => k - (intOf i).toNat)
              case atStart => exact ⟨0, _, Nat.zero_le _, rfl, rfl⟩
              case round =>
                obtain ⟨i', q', hi', rfl, rfl⟩ := hrel
                by_cases hlt' : i' < k
                · obtain ⟨g, rfl, hg⟩ := HG.out (by omega)
                  obtain ⟨b, off, rfl, hb, hc⟩ := R2'.out (by omega)
                  have g1 := hg (j + i') (by omega)
                  rw [past_at hnz hlt'] at g1
                  have g2 := hc i' hlt'
                  have i1 : (j : Int) + (i' : Int) < (j : Int) + (k : Int) := by omega
                  have i2 : (i' : Int) < (k : Int) := by omega
                  have i3 : 0 ≤ (j : Int) + (i' : Int) := by omega
                  have i4 : ((j : Int) + (i' : Int)).toNat = j + i' := by omega
                  generalize z2.getD i' 0 = x at *
                  clear hg hc HH HL HN R0'
                  go_wp2
                  go_quiet (fail)
                  go_wp2
                  go_roundw
                  case rel => exact ⟨i' + 1, _, by omega, by go_num, rfl⟩
                  case measure => simp [intOf]; omega
                · have hik : i' = k := by omega
                  subst hik
                  have fin : Hid (∀ a, Below w'.heap.size w' (w5.drewN a)) := fun a => below_drewN HL.out a
                  have HQ : Hid (∀ a, Holds (w5.drewN a) w'.heap.size B C (.slice go (j + i') cap) (rg || decide (0 < i')) (z0.take j ++ z2.take i') 0) := fun a => HH.out.drewN a
                  clear HH HL HN R0' R2' HG
                  cases rg
                  · by_cases h0 : 0 < i'
                    · go_wp2_with fail
                      refine (ringing_c (HQ.out _) 1 (by simp [h0])).mono ?_
                      rintro e w6 ⟨rfl, rfl⟩
                      go_wp2
                      go_ret
                      exact ⟨rfl, fin.out _⟩
                    · go_wp2_with fail
                      refine (ringing_c (HQ.out _) 0 (by simp [h0])).mono ?_
                      rintro e w6 ⟨rfl, rfl⟩
                      go_wp2
                      go_ret
                      exact ⟨rfl, fin.out _⟩
                  · go_wp2_with fail
                    refine (ringing_c (HQ.out _) 1 (by simp)).mono ?_
                    rintro e w6 ⟨rfl, rfl⟩
                    go_wp2
                    go_ret
                    exact ⟨rfl, fin.out _⟩
end Go.Proofs.Qxb6615596a.Bell
