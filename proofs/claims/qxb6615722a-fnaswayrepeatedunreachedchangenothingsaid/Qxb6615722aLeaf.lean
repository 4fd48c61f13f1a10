/-
  THE WALKS OF THE LEAVES OVER STRINGS: slices.Index (29), slices.Contains (26), slices.Clip (27), GoOnWithout[string] (21), zzEqStrings (8), zzCloneStrings (14). By an AI agent, Nov 2026.
-/
import Derived.Test.Qxb6615722aRows
import Derived.Test.Qxb6615722aBase
import Derived.WalkKit
import Derived.WalkSpells
import Derived.Lib.SlicesS
import Derived.Deep.QuietTactic
import Derived.BigQuiet
import Derived.Deep.AppendLies
import Derived.Laws.OwnMore
namespace Go.Proofs.Qxb6615722a.AsWay
open Go.RowKit
set_option linter.unusedVariables false

theorem Try.info9 : (Try.prog.info? 9).map (fun i => (i.zero, i.size, i.bytes)) = some (some (.string ⟨#[]⟩), 1, 16) := by kernel_rfl

set_option maxHeartbeats 400000 in
theorem index_any {hot : Nat → Prop} (a : Option Addr) (n c : Nat) (ss : List ByteArray) (x : ByteArray) (w : World) (h : StrRow hot w (.slice a n c) ss) (hm : n ≤ 1000000) :
    Calls Try.prog 29 #[.slice a n c, .string x] w fun e w' => ∃ q : Int, e = .returned (.int .i64 q) ∧ (0 ≤ q ↔ x ∈ ss) ∧ w' = w := by
  obtain ⟨hn, _, _, hr⟩ := h.cells
  subst hn
  clear h
  have HR : Hid _ := hr
  clear hr
  go_enter Try.func29, Try.ntmps29
  go_wp2
  go_loop [8] (fun i => ∃ k : Nat, k ≤ ss.length ∧ i = .int .i64 k ∧ ∀ j, j < k → ss.getD j ByteArray.empty ≠ x) (fun i => ss.length - (intOf i).toNat)
  case atStart => exact ⟨0, Nat.zero_le _, rfl, fun j hj => by omega⟩
  case round =>
    obtain ⟨k, hk, rfl, hne⟩ := hrel
    have HN : Hid (∀ j, j < k → ss.getD j ByteArray.empty ≠ x) := hne
    clear hne
    by_cases hlt : k < ss.length
    · obtain ⟨b, off, rfl, _, _, hc⟩ := HR.out (by omega)
      have g0 := hc k hlt
      by_cases hx : x = ss.getD k ByteArray.empty
      · have HM : Hid (x ∈ ss) := by rw [hx]; exact List.mem_of_getElem? (i := k) (by simp [List.getElem?_eq_getElem hlt])
        rw [← hx] at g0
        clear hc hx
        go_wp2
        go_ret
        exact ⟨_, rfl, ⟨fun _ => HM.out, fun _ => by omega⟩, rfl⟩
      · have ht : (x.toList == (ss.getD k ByteArray.empty).toList) = false := (Lib.bytes_beq_false_iff _ _).2 hx
        have HX : Hid (∀ j, j < k + 1 → ss.getD j ByteArray.empty ≠ x) := fun j hj => by
          rcases Nat.lt_succ_iff_lt_or_eq.1 hj with h | h
          · exact HN.out j h
          · subst h; exact fun e => hx e.symm
        clear HN
        generalize ss.getD k ByteArray.empty = s at *
        clear hc hx
        go_wp2
        go_round
        case rel => exact ⟨k + 1, by omega, by go_num, HX.out⟩
        case measure => simp [intOf]; omega
    · have hkn : k = ss.length := by omega
      subst hkn
      go_wp2
      go_ret
      refine ⟨_, rfl, ⟨fun h => absurd h (by decide), fun h => ?_⟩, rfl⟩
      obtain ⟨j, hj, e⟩ := List.getElem_of_mem h
      exact absurd (by simp [List.getElem?_eq_getElem hj, e]) (HN.out j hj)

set_option maxHeartbeats 400000 in
theorem contains_any {hot : Nat → Prop} (a : Option Addr) (n c : Nat) (ss : List ByteArray) (x : ByteArray) (w : World) (h : StrRow hot w (.slice a n c) ss) (hm : n ≤ 1000000) :
    Calls Try.prog 26 #[.slice a n c, .string x] w fun e w' => e = .returned (.bool (inS x ss)) ∧ w' = w := by
  have H : Hid (StrRow hot w (.slice a n c) ss) := h
  clear h
  go_enter Try.func26, Try.ntmps26
  go_wp2_with fail
  refine (index_any a n c ss x w H.out hm).mono ?_
  rintro e w' ⟨q, rfl, hq, rfl⟩
  by_cases hx : x ∈ ss
  · have hq' := hq.2 hx
    have HX : Hid (inS x ss = true) := inS_iff.2 hx
    clear hq hx H
    go_wp2
    go_ret
    exact ⟨by rw [HX.out]; rfl, rfl⟩
  · have hq' : decide (0 ≤ q) = false := decide_eq_false (fun h => hx (hq.1 h))
    have HX : Hid (inS x ss = false) := inS_false.2 hx
    clear hq hx H
    go_wp2
    go_ret
    exact ⟨by rw [HX.out]; rfl, rfl⟩

set_option maxHeartbeats 400000 in
theorem clip_any (a : Option Addr) (n c : Nat) (w : World) (h : n ≤ c) (hc : c ≤ maxLen) :
    Calls Try.prog 27 #[.slice a n c] w fun e w' => e = .returned (.slice a n n) ∧ w' = w := by
  unfold maxLen at hc
  go_enter Try.func27, Try.ntmps27
  go_wp2
  go_ret
  exact ⟨rfl, rfl⟩

theorem one_news (w : World) (x : ByteArray) : ∀ j u, [Value.string x][j]? = some u → (w.alloc (.cells #[.string x] 9)).cell? ((⟨w.heap.size, 0, none⟩ : Addr).add j) = some u :=
  World.news_of_block (cs := #[.string x]) (t := 9) (fr := (0, 0)) (by exact heap_alloc_new w _)
theorem one_cell (x : ByteArray) : ∀ u ∈ [Value.string x], u.oneCell' = true := strs_one [x]

theorem goOn_parts {hot : Nat → Prop} {w w2 : World} {n : Nat} {ss l : List ByteArray} {x : ByteArray} {v : Value} {o : Obj} (hl : l = ss ++ [x]) (hn : n = ss.length) (hh : ∀ k, hot k → k < w.heap.size)
    (hown : w2.ownsRow (w.alloc o).heap.size 9 1 v (n + 1) (strs ss ++ [.string x])) (hgrow : (w.alloc o).grownBy w2 none) : StrRow hot w2 v l ∧ Below w.heap.size w w2 := by
  subst hl
  refine ⟨strRow_of_owns (lo := (w.alloc o).heap.size) ?_ (fun k hk => by have := hh k hk; simp; omega), ((Below.refl _ w).alloc (Nat.le_refl _) o).grown hgrow (by simp) (fun k h => by cases h)⟩
  have e1 : (ss ++ [x]).length = n + 1 := by simp [hn]
  have e2 : strs (ss ++ [x]) = strs ss ++ [.string x] := by rw [strs_append]; rfl
  rw [e1, e2]
  exact hown

set_option maxHeartbeats 400000 in
/-- GoOnWithout: the name is there already; or it is put behind the others, in a new array. -/
theorem goOnS_any {hot : Nat → Prop} (a : Option Addr) (n c : Nat) (ss : List ByteArray) (x : ByteArray) (w : World) (h : StrRow hot w (.slice a n c) ss) (hm : n ≤ 1000000) (hh : ∀ k, hot k → k < w.heap.size) :
    Calls Try.prog 21 #[.slice a n c, .string x] w fun e w' => ∃ v', e = .returned (.tuple #[v', .bool (!inS x ss)]) ∧ StrRow hot w' v' (addNew ss x) ∧ Below w.heap.size w w' := by
  obtain ⟨i0, hi0, hz0, hz1, hz2⟩ := info_parts Try.info9
  have H : Hid (StrRow hot w (.slice a n c) ss) := h
  obtain ⟨hn, hnc, hcm, hr⟩ := h.cells
  have HR : Hid (0 < ss.length → ∃ b off, a = some ⟨b, off, none⟩ ∧ b < w.heap.size ∧ ¬ hot b ∧ ∀ k, k < ss.length → w.cell? ⟨b, off + k, none⟩ = some (.string (ss.getD k ByteArray.empty))) := hr
  have HH : Hid (∀ k, hot k → k < w.heap.size) := hh
  have HN : Hid (n = ss.length) := hn
  clear h hn hr hh
  go_enter Try.func21, Try.ntmps21
  go_wp2_with fail
  refine (contains_any a n c ss x w H.out hm).mono ?_
  rintro e w' ⟨rfl, rfl⟩
  by_cases hx : inS x ss = true
  · have R : Hid (StrRow hot w' (.slice a n c) (addNew ss x) ∧ inS x ss = true) := ⟨by unfold addNew; rw [if_pos hx]; exact H.out, hx⟩
    clear H HR
    go_wp2
    go_ret2
    exact ⟨_, by rw [R.out.2]; rfl, R.out.1, Below.refl _ _⟩
  · have hx' : inS x ss = false := by simpa using hx
    have HA : Hid (addNew ss x = ss ++ [x] ∧ inS x ss = false) := ⟨if_neg hx, hx'⟩
    clear hx
    go_wp2_with fail
    refine (clip_any a n c w' hnc hcm).mono ?_
    rintro e w1 ⟨rfl, rfl⟩
    go_wp2_with (at_builtin; refine wpList_append_grows _ rfl (.tmp 11) (.tmp 13) 24 rfl 9 i0 (.string ⟨#[]⟩) 1 16 Try.underlying24 hi0 hz0 hz1 hz2 rfl (by decide) a n n (strs ss) rfl (fun e => ⟨(H.out.olds (Below.refl _ _)).1 e, (H.out.olds (Below.refl _ _)).1 e⟩) (by rw [strs_length, HN.out, Nat.mul_one]) (by exact (H.out.olds ((Below.refl _ _).alloc (Nat.le_refl _) _)).2) ⟨w1.heap.size, 0, none⟩ 1 1 [.string x] rfl rfl (by exact one_news w1 x) (by exact one_cell x) (by omega) (by unfold maxLen; omega) (by omega) ?_; intro v2 w2 hown hgrow; have R : Hid (StrRow hot w2 v2 (addNew ss x) ∧ Below w1.heap.size w1 w2) := goOn_parts HA.out.1 HN.out HH.out hown hgrow; clear hown hgrow)
    go_ret2
    exact ⟨_, by rw [HA.out.2]; rfl, R.out.1, R.out.2⟩
end Go.Proofs.Qxb6615722a.AsWay
