/-
  THE WALKS OF zzEqStrings (8), zzCloneStrings (14), zzDedup (9). By an AI agent, Nov 2026.
-/
import Derived.Test.Qxb6615722aRows
import Derived.Test.Qxb6615722aBase
import Derived.Test.Qxb6615722aLeaf
import Derived.WalkKit
import Derived.WalkSpells
import Derived.WalkSmall
import Derived.Lib.SlicesS
import Derived.Deep.QuietTactic
import Derived.BigQuiet
import Derived.Deep.AppendLies
import Derived.Laws.OwnMore
namespace Go.Proofs.Qxb6615722a.AsWay
open Go.RowKit
set_option linter.unusedVariables false

set_option maxHeartbeats 400000 in
/-- Two slices of the same strings. -/
theorem eq_any {hot hot' : Nat → Prop} (a a' : Option Addr) (n c n' c' : Nat) (ss : List ByteArray) (w : World) (h : StrRow hot w (.slice a n c) ss) (h' : StrRow hot' w (.slice a' n' c') ss) (hm : n ≤ 1000000) :
    Calls Try.prog 8 #[.slice a n c, .slice a' n' c'] w fun e w' => e = .returned (.bool true) ∧ ∃ q, w' = w.drewN q := by
  obtain ⟨hn, _, _, hr⟩ := h.cells
  obtain ⟨hn', _, _, hr'⟩ := h'.cells
  have e1 : n' = n := by omega
  subst e1
  subst hn
  clear h h' hn'
  have HR : Hid _ := hr
  have HR' : Hid _ := hr'
  clear hr hr'
  go_enter Try.func8, Try.ntmps8
  go_wp2
  go_loopw [5] (fun i wr => ∃ k q : Nat, k ≤ ss.length ∧ i = .int .i64 k ∧ wr = w.drewN q) (fun i _ => ss.length - (intOf i).toNat)
  case atStart => exact ⟨0, 0, Nat.zero_le _, rfl, rfl⟩
  case round =>
    obtain ⟨k, q, hk, rfl, rfl⟩ := hrel
    by_cases hlt : k < ss.length
    · obtain ⟨b, off, rfl, _, _, hc⟩ := HR.out (by omega)
      obtain ⟨b', off', rfl, _, _, hc'⟩ := HR'.out (by omega)
      have g0 := hc k hlt
      have g1 := hc' k hlt
      have i1 : (k : Int) < (ss.length : Int) := by omega
      generalize ss.getD k ByteArray.empty = s at *
      clear hc hc' HR HR'
      go_wp2
      go_quiet (fail)
      go_wp2
      go_roundw
      case rel => exact ⟨k + 1, _, by omega, by go_num, rfl⟩
      case measure => simp [intOf]; omega
    · have hkn : k = ss.length := by omega
      subst hkn
      go_wp2
      go_ret
      exact ⟨rfl, _, rfl⟩

/-- The copy, half made. -/
def half (ss : List ByteArray) (n k : Nat) : List Value := strs (ss.take k) ++ List.replicate (n - k) (.string ⟨#[]⟩)
theorem half_length {ss : List ByteArray} {n k : Nat} (hk : k ≤ n) (hn : n = ss.length) : (half ss n k).length = n := by simp [half, strs]; omega
theorem half_zero (ss : List ByteArray) (n : Nat) : half ss n 0 = List.replicate n (.string ⟨#[]⟩) := by simp [half, strs]
theorem half_full (ss : List ByteArray) : half ss ss.length ss.length = strs ss := by simp [half]
theorem take_succ (ss : List ByteArray) (k : Nat) (h : k < ss.length) : ss.take (k + 1) = ss.take k ++ [ss.getD k ByteArray.empty] := by
  rw [List.take_succ_eq_append_getElem h]; simp [List.getElem?_eq_getElem h]
theorem half_step {ss : List ByteArray} {n k : Nat} (hk : k < n) (hn : n = ss.length) : (half ss n k).toArray.setIfInBounds k (.string (ss.getD k ByteArray.empty)) = (half ss n (k + 1)).toArray := by
  have h1 : k < ss.length := by omega
  have e1 : n - k = (n - (k + 1)) + 1 := by omega
  have hl : (strs (ss.take k)).length = k := by simp [strs]; omega
  simp only [half, List.setIfInBounds_toArray]
  congr 1
  rw [e1, List.replicate_succ, take_succ ss k h1, strs_append, List.set_append_right _ _ (by omega), hl, Nat.sub_self]
  simp [strs]
theorem half_some {ss : List ByteArray} {n k : Nat} (hk : k < n) (hn : n = ss.length) : ∃ u, (half ss n k).toArray[k]? = some u := by
  have h : k < (half ss n k).length := by rw [half_length (by omega) hn]; exact hk
  exact ⟨(half ss n k)[k], by simp [List.getElem?_eq_getElem h]⟩
theorem row_of_block {w : World} {O t : Nat} {ss : List ByteArray} {hot : Nat → Prop} (hm : ss.length ≤ maxLen) (h : w.heap[O]? = some (.cells (strs ss).toArray t (0, 0))) (hO : ¬ hot O) : StrRow hot w (.slice (some ⟨O, 0, none⟩) ss.length ss.length) ss := by
  refine ⟨_, _, rfl, Nat.le_refl _, hm, fun hp => ⟨O, 0, rfl, lt_size h, hO, fun k hk => ?_⟩⟩
  rw [cell_of_row w O _ _ _ _ h, Nat.zero_add]
  simp [strs, List.getElem?_eq_getElem hk]
/-- What 'make' has just made, whole. -/
theorem made_strs {w : World} {lo n g : Nat} (h : w.ownsRow lo 9 1 (.slice (some ⟨g, 0, none⟩) n n) n (madeCells (Value.cells (.string ⟨#[]⟩)) (n * 1)).toList) :
    w.heap[g]? = some (.cells (List.replicate n (Value.string ⟨#[]⟩)).toArray 9 (0, 0)) := by
  obtain ⟨hl, h⟩ := h
  rcases h with ⟨hv, _⟩ | ⟨g', cap, cur, hv, _, hg, _, _, hs, ht⟩
  · cases hv
  · injection hv with e1 _ e3
    injection e1 with e1
    injection e1 with e1 _ _
    subst e1; subst e3
    have e : (madeCells (Value.cells (.string ⟨#[]⟩)) (n * 1)).toList = List.replicate n (.string ⟨#[]⟩) := by rw [Nat.mul_one]; exact toList_madeCells_one _ _
    have : cur.toList = List.replicate n (.string ⟨#[]⟩) := by rw [← e, ← ht, List.take_of_length_le (by simp [hs])]
    rw [hg, ← this]

set_option maxRecDepth 100000 in
set_option maxHeartbeats 400000 in
theorem clone_any {hot : Nat → Prop} (a : Option Addr) (n c : Nat) (ss : List ByteArray) (w : World) (h : StrRow hot w (.slice a n c) ss) (hm : n ≤ 1000000) :
    Calls Try.prog 14 #[.slice a n c] w fun e w' => ∃ v', e = .returned v' ∧ StrRow (fun k => k < w.heap.size) w' v' ss ∧ Below w.heap.size w w' := by
  obtain ⟨i0, hi0, hz0, hz1, hz2⟩ := info_parts Try.info9
  obtain ⟨hn, _, _, hr⟩ := h.cells
  have HR : Hid (0 < ss.length → ∃ b off, a = some ⟨b, off, none⟩ ∧ b < w.heap.size ∧ ¬ hot b ∧ ∀ k, k < ss.length → w.cell? ⟨b, off + k, none⟩ = some (.string (ss.getD k ByteArray.empty))) := hr
  have HO : Hid (a = none → n = 0) := (h.olds (Below.refl _ _)).1
  clear h hr
  have hq := fun (w : World) (a : Option Addr) (l c : Nat) => Lib.run_eql_slice_nil (P := Try.prog) w 24 9 a l c 0 0 Try.underlying24
  cases a with
  | none =>
    have e := HO.out rfl
    have e' : ss = [] := List.eq_nil_of_length_eq_zero (by omega)
    clear hn HR HO
    subst e'
    subst e
    go_enter Try.func14, Try.ntmps14
    go_wp2
    go_ret
    exact ⟨_, rfl, StrRow.nil _ _, Below.refl _ _⟩
  | some x =>
    clear HO
    subst hn
    go_enter Try.func14, Try.ntmps14
    go_wp2_with (at_make; refine wpList_make_full _ rfl (.tmp 8) (.tmp 8) 24 rfl w.heap.size 9 i0 (.string ⟨#[]⟩) 1 Try.underlying24 hi0 hz0 hz1 .i64 .i64 _ _ ss.length rfl rfl rfl rfl (by rw [hz2]; omega) (by unfold maxLen; omega) (by omega) ?_; intro w1 hown1 hgrow1; have HB1 : Hid (w1.heap[w.heap.size]? = some (.cells (List.replicate ss.length (Value.string ⟨#[]⟩)).toArray 9 (0, 0))) := made_strs hown1; have HL1 : Hid (Below w.heap.size w w1) := (Below.refl w.heap.size w).grown hgrow1 (by omega) (fun k h => by cases h); clear hown1 hgrow1)
    go_loopw [4] (fun i wr => ∃ k : Nat, k ≤ ss.length ∧ i = .int .i64 k ∧ wr.heap[w.heap.size]? = some (.cells (half ss ss.length k).toArray 9 (0, 0)) ∧ Below w.heap.size w wr) (fun i _ => ss.length - (intOf i).toNat)
    case atStart => exact ⟨0, Nat.zero_le _, rfl, by rw [half_zero]; exact HB1.out, HL1.out⟩
    case round =>
      obtain ⟨k, hk, rfl, hblk, hbel⟩ := hrel
      by_cases hlt : k < ss.length
      · obtain ⟨b, off, e1, hb, _, hc⟩ := HR.out (by omega)
        injection e1 with e1
        subst e1
        have g0 := (hbel.cell (p := ⟨b, off + k, none⟩) hb).trans (hc k hlt)
        have c1 : ∃ u, wr.cell? ⟨w.heap.size, k, none⟩ = some u := by
          rw [cell_of_row wr _ k _ _ _ hblk]
          exact half_some hlt rfl
        obtain ⟨u, c1⟩ := c1
        have f1 : wr.frozen? ⟨w.heap.size, k, none⟩ = false := free_of_block hblk
        have H1 : Hid ((wr.setCell ⟨w.heap.size, k, none⟩ (.string (ss.getD k ByteArray.empty))).heap[w.heap.size]? = some (.cells (half ss ss.length (k + 1)).toArray 9 (0, 0))) := by
          show _ = _
          rw [block_setCell hblk, half_step hlt rfl]
        have H2 : Hid (Below w.heap.size w (wr.setCell ⟨w.heap.size, k, none⟩ (.string (ss.getD k ByteArray.empty)))) := hbel.setCell (p := ⟨w.heap.size, k, none⟩) (Nat.le_refl _) _
        generalize ss.getD k ByteArray.empty = s at *
        clear hblk hbel hc HB1 HL1
        go_wp2
        go_roundw
        case rel => exact ⟨k + 1, by omega, by go_num, H1.out, H2.out⟩
        case measure => simp [intOf]; omega
      · have hkn : k = ss.length := by omega
        subst hkn
        have R : Hid (StrRow (fun k => k < w.heap.size) wr (.slice (some ⟨w.heap.size, 0, none⟩) ss.length ss.length) ss ∧ Below w.heap.size w wr) := ⟨row_of_block (by unfold maxLen; omega) (by rw [half_full] at hblk; exact hblk) (Nat.lt_irrefl _), hbel⟩
        clear hblk hbel HB1 HL1 HR
        go_wp2
        go_ret
        exact ⟨_, rfl, R.out.1, R.out.2⟩

theorem mem_addNew (l : List ByteArray) (n x : ByteArray) : x ∈ addNew l n ↔ x ∈ l ∨ x = n := by
  unfold addNew
  split
  · rename_i h
    have := inS_iff.1 h
    exact ⟨fun hx => .inl hx, fun hx => hx.elim id (fun e => by rw [e]; exact this)⟩
  · simp
theorem mem_fold (us : List ByteArray) : ∀ (l : List ByteArray) (x : ByteArray), x ∈ us.foldl addNew l ↔ x ∈ l ∨ x ∈ us := by
  induction us with
  | nil => intro l x; simp
  | cons u us ih =>
    intro l x
    rw [List.foldl_cons, ih, mem_addNew, List.mem_cons]
    exact or_assoc
theorem mem_dedup (us : List ByteArray) (x : ByteArray) : x ∈ dedup us ↔ x ∈ us := by unfold dedup; rw [mem_fold]; simp
theorem dedup_take (us : List ByteArray) (k : Nat) (h : k < us.length) : dedup (us.take (k + 1)) = addNew (dedup (us.take k)) (us.getD k ByteArray.empty) := by
  unfold dedup; rw [take_succ us k h, List.foldl_append]; rfl
theorem len_addNew (l : List ByteArray) (n : ByteArray) : (addNew l n).length ≤ l.length + 1 := by unfold addNew; split <;> simp
theorem len_dedup_take (us : List ByteArray) (k : Nat) (h : k ≤ us.length) : (dedup (us.take k)).length ≤ k := by
  induction k with
  | zero => simp [dedup]
  | succ k ih =>
    rw [dedup_take us k (by omega)]
    have := len_addNew (dedup (us.take k)) (us.getD k ByteArray.empty)
    have := ih (by omega)
    omega
/-- One name more: it was there before. -/
theorem dedup_old {us : List ByteArray} {k j : Nat} (h : k < us.length) (hj : j < k) (e : us.getD j ByteArray.empty = us.getD k ByteArray.empty) : dedup (us.take (k + 1)) = dedup (us.take k) := by
  rw [dedup_take us k h]
  unfold addNew
  rw [if_pos]
  rw [inS_iff, mem_dedup, ← e]
  exact List.mem_of_getElem? (i := j) (by rw [List.getElem?_take_of_lt hj]; simp [List.getElem?_eq_getElem (show j < us.length by omega)])
/-- One name more: a new one. -/
theorem dedup_new {us : List ByteArray} {k : Nat} (h : k < us.length) (hne : ∀ j, j < k → us.getD j ByteArray.empty ≠ us.getD k ByteArray.empty) : dedup (us.take (k + 1)) = dedup (us.take k) ++ [us.getD k ByteArray.empty] := by
  rw [dedup_take us k h]
  unfold addNew
  rw [if_neg]
  rw [inS_iff, mem_dedup]
  intro hm
  obtain ⟨j, hj, e⟩ := List.getElem_of_mem hm
  simp at hj
  refine hne j (by omega) ?_
  rw [← e]
  simp [List.getElem?_eq_getElem (show j < us.length by omega)]

theorem dedup_push {w w1 : World} {lo B : Nat} {v v' : Value} {l : List ByteArray} {s : ByteArray} {o : Obj} {W : World} (hW : Below lo W w) (hlo : lo ≤ W.heap.size) (hown : w.ownsRow lo 9 1 v l.length (strs l)) (hown1 : w1.ownsRow lo 9 1 v' (l.length + 1) (strs l ++ [.string s])) (hgrow : (w.alloc o).grownBy w1 v.ownBlock) :
    w1.ownsRow lo 9 1 v' (l ++ [s]).length (strs (l ++ [s])) ∧ Below lo W w1 := by
  have e1 : (l ++ [s]).length = l.length + 1 := by simp
  have e2 : strs (l ++ [s]) = strs l ++ [.string s] := by rw [strs_append]; rfl
  have := hW.size
  refine ⟨by rw [e1, e2]; exact hown1, (hW.alloc (by omega) o).grown hgrow (by simp; omega) (fun k hk => (hown.lt k hk).1)⟩

set_option maxRecDepth 100000 in
set_option maxHeartbeats 1000000 in
theorem dedup_any {hot : Nat → Prop} (a : Option Addr) (n c : Nat) (us : List ByteArray) (w : World) (h : StrRow hot w (.slice a n c) us) (hm : n ≤ 1000000) :
    Calls Try.prog 9 #[.slice a n c] w fun e w' => ∃ v', e = .returned v' ∧ StrRow cold w' v' (dedup us) ∧ Below w.heap.size w w' := by
  obtain ⟨i0, hi0, hz0, hz1, hz2⟩ := info_parts Try.info9
  obtain ⟨hn, _, _, hr⟩ := h.cells
  have HR : Hid (0 < us.length → ∃ b off, a = some ⟨b, off, none⟩ ∧ b < w.heap.size ∧ ¬ hot b ∧ ∀ k, k < us.length → w.cell? ⟨b, off + k, none⟩ = some (.string (us.getD k ByteArray.empty))) := hr
  clear h hr
  subst hn
  go_enter Try.func9, Try.ntmps9
  go_wp2
  go_loopw [3, 4] (fun v i wr => ∃ k : Nat, k ≤ us.length ∧ i = .int .i64 k ∧ wr.ownsRow w.heap.size 9 1 v (dedup (us.take k)).length (strs (dedup (us.take k))) ∧ Below w.heap.size w wr) (fun _ i _ => us.length - (intOf i).toNat)
  case atStart => exact ⟨0, Nat.zero_le _, rfl, World.ownsRow_nil _ _ _ _, Below.refl _ _⟩
  case round =>
    obtain ⟨k, hk, rfl, hown, hbel⟩ := hrel
    by_cases hlt : k < us.length
    · obtain ⟨b, off, rfl, hb, _, hc⟩ := HR.out (by omega)
      have HC : Hid (∀ j, j < us.length → wr.cell? ⟨b, off + j, none⟩ = some (.string (us.getD j ByteArray.empty))) := fun j hj => (hbel.cell (p := ⟨b, off + j, none⟩) hb).trans (hc j hj)
      have gk := HC.out k hlt
      have ik : (k : Int) < (us.length : Int) := by omega
      have HO : Hid (wr.ownsRow w.heap.size 9 1 u3 (dedup (us.take k)).length (strs (dedup (us.take k)))) := hown
      have HL : Hid (Below w.heap.size w wr) := hbel
      have hsz := hbel.size
      obtain ⟨s, hs⟩ : ∃ s, us.getD k ByteArray.empty = s := ⟨_, rfl⟩
      have HS : Hid (us.getD k ByteArray.empty = s) := hs
      rw [hs] at gk
      have hl := len_dedup_take us k hk
      clear hown hbel hc hs HR
      go_wp2
      go_loopw [5, 6] (fun kp kk wx => ∃ j q : Nat, j ≤ k ∧ kp = .bool true ∧ kk = .int .i64 j ∧ wx = wr.drewN q ∧ ∀ i, i < j → us.getD i ByteArray.empty ≠ s) (fun _ kk _ => k - (intOf kk).toNat)
      case atStart => exact ⟨0, 0, Nat.zero_le _, rfl, rfl, rfl, fun i hi => by omega⟩
      case round =>
        obtain ⟨j, q, hj, rfl, rfl, rfl, hne⟩ := hrel
        have HN : Hid (∀ i, i < j → us.getD i ByteArray.empty ≠ s) := hne
        clear hne
        by_cases hjk : j < k
        · have gj := HC.out j (by omega)
          have ij : (j : Int) < (us.length : Int) := by omega
          have ij' : (j : Int) < (k : Int) := by omega
          by_cases hx : us.getD j ByteArray.empty = s
          · have HD : Hid (dedup (us.take (k + 1)) = dedup (us.take k)) := dedup_old hlt hjk (hx.trans HS.out.symm)
            rw [hx] at gj
            clear hx HN HC
            go_wp2
            go_quiet (fail)
            go_wp2
            go_roundw
            case rel => exact ⟨k + 1, by omega, by go_num, by rw [HD.out]; exact HO.out, below_drewN HL.out _⟩
            case measure => simp [intOf]; omega
          · have HX : Hid (∀ i, i < j + 1 → us.getD i ByteArray.empty ≠ s) := fun i hi => by
              rcases Nat.lt_succ_iff_lt_or_eq.1 hi with h | h
              · exact HN.out i h
              · subst h; exact hx
            have ht : ((us.getD j ByteArray.empty).toList == s.toList) = false := (Lib.bytes_beq_false_iff _ _).2 hx
            generalize us.getD j ByteArray.empty = sj at *
            clear hx HN HC
            go_wp2
            go_quiet (fail)
            go_wp2
            go_roundw
            case rel => exact ⟨j + 1, _, by omega, rfl, by go_num, rfl, HX.out⟩
            case measure => simp [intOf]; omega
        · have hjk' : j = k := by omega
          subst hjk'
          have HD : Hid (dedup (us.take (j + 1)) = dedup (us.take j) ++ [s]) := by
            rw [← HS.out]
            exact dedup_new hlt (fun i hi => by rw [HS.out]; exact HN.out i hi)
          have HOq : Hid ((wr.drewN q).ownsRow w.heap.size 9 1 u3 (dedup (us.take j)).length (strs (dedup (us.take j)))) := HO.out
          have HLq : Hid (Below w.heap.size w (wr.drewN q)) := below_drewN HL.out q
          clear HN HC HO HL
          go_wp2_with (at_builtin; refine wpList_append_lies _ rfl (.tmp 28) (.tmp 33) 24 rfl w.heap.size 9 i0 (.string ⟨#[]⟩) 1 16 Try.underlying24 hi0 hz0 hz1 hz2 rfl (by decide) u3 (dedup (us.take j)).length (strs (dedup (us.take j))) rfl (by exact HOq.out.alloc _) ⟨wr.heap.size, 0, none⟩ 1 1 [.string s] rfl rfl (by exact one_news (wr.drewN q) s) (by exact one_cell s) (by omega) (by unfold maxLen; omega) (by omega) (by simp; omega) (wr.heap.size + 1) (by simp) ?_; intro g cap w1 hown1 hgrow hat hlt1; have R : Hid (w1.ownsRow w.heap.size 9 1 (.slice (some ⟨g, 0, none⟩) ((dedup (us.take j)).length + 1) cap) (dedup (us.take j) ++ [s]).length (strs (dedup (us.take j) ++ [s])) ∧ Below w.heap.size w w1) := dedup_push (B := 0) HLq.out (Nat.le_refl _) HOq.out hown1 hgrow; clear hown1 hgrow hat hlt1)
          go_roundw
          case rel => exact ⟨j + 1, by omega, by go_num, by rw [HD.out]; exact R.out.1, R.out.2⟩
          case measure => simp [intOf]; omega
    · have hkn : k = us.length := by omega
      subst hkn
      have R : Hid (StrRow cold wr u3 (dedup us) ∧ Below w.heap.size w wr) := ⟨strRow_of_owns (lo := w.heap.size) (by simpa using hown) (fun k e => e.elim), hbel⟩
      clear hown hbel HR
      go_wp2
      go_ret
      exact ⟨_, rfl, R.out.1, R.out.2⟩
end Go.Proofs.Qxb6615722a.AsWay
