/-
  SLICES OF uint32: what the walks of the commits' laws are told of them; the copy that a law makes first. No walk. By an AI agent, Nov 2026.
-/
import Derived.WalkKit
import Derived.Deep.AppendLies
import Derived.Laws.OwnMore
namespace Go.Proofs.Qxb6615596a.Bell
open Go.RowKit
set_option linter.unusedVariables false

def nums (L : List Int) : List Value := L.map (Value.int .u32)
theorem nums_length (L : List Int) : (nums L).length = L.length := by simp [nums]
theorem nums_append (L M : List Int) : nums (L ++ M) = nums L ++ nums M := by simp [nums]

theorem lt_size {w : World} {B : Nat} {o : Obj} (h : w.heap[B]? = some o) : B < w.heap.size := by
  rcases Nat.lt_or_ge B w.heap.size with h' | h'
  · exact h'
  · rw [Array.getElem?_eq_none h'] at h; cases h
theorem block_setCell {w : World} {B j : Nat} {cs : Array Value} {t : TypeId} {fr : Nat × Nat} (h : w.heap[B]? = some (.cells cs t fr)) (u : Value) :
    (w.setCell ⟨B, j, none⟩ u).heap[B]? = some (.cells (cs.setIfInBounds j u) t fr) := by
  simp [World.setCell, Array.getElem?_modify, h]
theorem free_of_block {w : World} {B j : Nat} {cs : Array Value} {t : TypeId} (h : w.heap[B]? = some (.cells cs t (0, 0))) : w.frozen? ⟨B, j, none⟩ = false := by
  simp [World.frozen?, h]

/-- A slice of uint32 that came in. -/
def Came (w : World) (a : Option Addr) (n cap : Nat) (zs : List Int) : Prop :=
  (a = none ∧ n = 0 ∧ cap = 0 ∧ zs = []) ∨
  ∃ x, a = some x ∧ n ≤ cap ∧ cap ≤ maxLen ∧ zs.length = cap ∧ (∀ i, i < zs.length → w.cell? (x.add i) = some (.int .u32 (zs.getD i 0))) ∧ ∀ z ∈ zs, (Lit.int .u32 z).wf = true
theorem Came.le {w : World} {a : Option Addr} {n cap : Nat} {zs : List Int} (h : Came w a n cap zs) : n ≤ maxLen := by
  rcases h with ⟨_, rfl, _, _⟩ | ⟨x, _, h1, h2, _⟩
  · exact Nat.zero_le _
  · omega
theorem Came.len {w : World} {a : Option Addr} {n cap : Nat} {zs : List Int} (h : Came w a n cap zs) : n ≤ zs.length := by
  rcases h with ⟨_, rfl, _, _⟩ | ⟨x, _, h1, h2, h3, _⟩
  · exact Nat.zero_le _
  · omega

theorem Came.nil {w : World} {a : Option Addr} {n cap : Nat} {zs : List Int} (h : Came w a n cap zs) (e : a = none) : n = 0 := by
  rcases h with ⟨_, h, _⟩ | ⟨x, h, _⟩
  · exact h
  · rw [e] at h; cases h

/-- What is read of a slice of uint32: n elements, the numbers zs. -/
def RowU (w : World) (a : Option Addr) (n : Nat) (zs : List Int) : Prop :=
  0 < n → ∃ b off, a = some ⟨b, off, none⟩ ∧ b < w.heap.size ∧ ∀ k, k < n → w.cell? ⟨b, off + k, none⟩ = some (.int .u32 (zs.getD k 0))
theorem RowU.below {w w' : World} {B : Nat} {a : Option Addr} {n : Nat} {zs : List Int} (h : RowU w a n zs) (hb : Below B w w') (hB : w.heap.size ≤ B) : RowU w' a n zs := by
  intro hp
  obtain ⟨b, off, ha, hlt, hc⟩ := h hp
  refine ⟨b, off, ha, by have := hb.size; omega, fun k hk => ?_⟩
  rw [hb.cell (p := ⟨b, off + k, none⟩) (by show b < B; omega)]
  exact hc k hk
theorem Came.row {w : World} {a : Option Addr} {n cap : Nat} {zs : List Int} (h : Came w a n cap zs) : RowU w a n zs := by
  intro hp
  rcases h with ⟨_, rfl, _, _⟩ | ⟨x, rfl, hnc, _, hzl, hcell, _⟩
  · omega
  · obtain ⟨b, off, spot⟩ := x
    have h0 := hcell 0 (by omega)
    have hspot : spot = none := by simpa [Addr.add] using World.cell?_spot h0
    subst hspot
    have hadd : ∀ j, (⟨b, off, none⟩ : Addr).add j = ⟨b, off + j, none⟩ := fun j => by unfold Addr.add; split <;> simp_all
    refine ⟨b, off, rfl, ?_, fun k hk => ?_⟩
    · rw [hadd] at h0; exact World.block_lt_of_cell? w _ h0
    · rw [← hadd]; exact hcell k (by omega)

/-- What is read of a row that is owned, at its head. -/
def RowG (w : World) (v : Value) (L : List Int) : Prop :=
  ∃ go cap, v = .slice go L.length cap ∧ (0 < L.length → ∃ g, go = some ⟨g, 0, none⟩ ∧ ∀ k, k < L.length → w.cell? ⟨g, k, none⟩ = some (.int .u32 (L.getD k 0)))
theorem rowG_of_owns {w : World} {lo : Nat} {v : Value} {L : List Int} (h : w.ownsRow lo 34 1 v L.length (nums L)) : RowG w v L := by
  rcases Nat.eq_zero_or_pos L.length with h0 | hp
  · rcases h.2 with ⟨hv, _⟩ | ⟨g, cap, cur, hv, _⟩
    · exact ⟨none, 0, by rw [hv, h0], fun hp => by omega⟩
    · exact ⟨_, cap, hv, fun hp => by omega⟩
  · obtain ⟨g, cap, hv, _, hg⟩ := h.form hp
    refine ⟨_, cap, hv, fun _ => ⟨g, rfl, fun k hk => ?_⟩⟩
    have hc := h.cells (g := g) (by rw [hv]; rfl)
    have hadd : ∀ j, (⟨g, 0, none⟩ : Addr).add j = ⟨g, j, none⟩ := fun j => by unfold Addr.add; split <;> simp_all
    rw [← hadd]
    exact hc k _ (by simp [nums, List.getElem?_eq_getElem hk])

/-- The copy, half made: the first k numbers, then noughts. -/
def half (zs : List Int) (n k : Nat) : List Value := nums (zs.take k) ++ List.replicate (n - k) (.int .u32 0)
theorem half_length {zs : List Int} {n k : Nat} (hk : k ≤ n) (hn : n ≤ zs.length) : (half zs n k).length = n := by simp [half, nums]; omega
theorem half_zero (zs : List Int) (n : Nat) : half zs n 0 = List.replicate n (.int .u32 0) := by simp [half, nums]
theorem half_full (zs : List Int) (n : Nat) : half zs n n = nums (zs.take n) := by simp [half]
theorem half_step {zs : List Int} {n k : Nat} (hk : k < n) (hn : n ≤ zs.length) : (half zs n k).toArray.setIfInBounds k (.int .u32 (zs.getD k 0)) = (half zs n (k + 1)).toArray := by
  have h1 : k < zs.length := by omega
  have e1 : n - k = (n - (k + 1)) + 1 := by omega
  have e2 : zs.take (k + 1) = zs.take k ++ [zs.getD k 0] := by
    rw [List.take_succ_eq_append_getElem h1]; simp [List.getElem?_eq_getElem h1]
  have hl : (nums (zs.take k)).length = k := by simp [nums]; omega
  simp only [half, List.setIfInBounds_toArray]
  congr 1
  rw [e1, List.replicate_succ, e2, nums_append, List.set_append_right _ _ (by omega), hl, Nat.sub_self]
  simp [nums]
theorem half_some {zs : List Int} {n k : Nat} (hk : k < n) (hn : n ≤ zs.length) : ∃ u, (half zs n k).toArray[k]? = some u := by
  have h : k < (half zs n k).length := by rw [half_length (by omega) hn]; exact hk
  exact ⟨(half zs n k)[k], by simp [List.getElem?_eq_getElem h]⟩
/-- The copy, whole. -/
theorem owns_half {w : World} {O n : Nat} {zs : List Int} (lo : Nat) (hlo : lo ≤ O) (hn : n ≤ zs.length) (hm : n ≤ maxLen) (h : w.heap[O]? = some (.cells (half zs n n).toArray 34 (0, 0))) :
    w.ownsRow lo 34 1 (.slice (some ⟨O, 0, none⟩) n n) (zs.take n).length (nums (zs.take n)) := by
  have hl : (zs.take n).length = n := by simp; omega
  rw [half_full] at h
  rw [hl]
  refine ⟨by simp [nums_length, hl], .inr ⟨O, n, (nums (zs.take n)).toArray, rfl, hlo, h, Nat.le_refl _, hm, by simp [nums_length, hl], ?_⟩⟩
  rw [List.take_of_length_le (by simp [nums_length, hl])]
/-- What 'make' has just made, whole. -/
theorem made_block {w : World} {lo n g : Nat} (h : w.ownsRow lo 34 1 (.slice (some ⟨g, 0, none⟩) n n) n (madeCells (Value.cells (.int .u32 0)) (n * 1)).toList) :
    w.heap[g]? = some (.cells (List.replicate n (Value.int .u32 0)).toArray 34 (0, 0)) := by
  obtain ⟨hl, h⟩ := h
  rcases h with ⟨hv, _⟩ | ⟨g', cap, cur, hv, _, hg, _, _, hs, ht⟩
  · cases hv
  · injection hv with e1 _ e3
    injection e1 with e1
    injection e1 with e1 _ _
    subst e1; subst e3
    have e : (madeCells (Value.cells (.int .u32 0)) (n * 1)).toList = List.replicate n (.int .u32 0) := by rw [Nat.mul_one]; exact toList_madeCells_one _ _
    have : cur.toList = List.replicate n (.int .u32 0) := by rw [← e, ← ht, List.take_of_length_le (by simp [hs])]
    rw [hg, ← this]
theorem take_succ (zs : List Int) (k : Nat) (h : k < zs.length) : zs.take (k + 1) = zs.take k ++ [zs.getD k 0] := by
  rw [List.take_succ_eq_append_getElem h]; simp [List.getElem?_eq_getElem h]
theorem take_at {zs : List Int} {n k : Nat} (h : k < n) (ys : List Int) (hn : n ≤ zs.length) : (zs.take n ++ ys).getD k 0 = zs.getD k 0 := by
  have h1 : k < (zs.take n).length := by simp; omega
  simp [List.getElem?_append_left h1, h]
theorem past_at {zs ys : List Int} {n m k : Nat} (hn : n ≤ zs.length) (h : k < m) : (zs.take n ++ ys.take m).getD (n + k) 0 = ys.getD k 0 := by
  have h1 : (zs.take n).length = n := by simp; omega
  have h2 : (zs.take n).length ≤ n + k := by omega
  simp only [List.getD_eq_getElem?_getD]
  rw [List.getElem?_append_right h2, h1, Nat.add_sub_cancel_left, List.getElem?_take_of_lt h]
end Go.Proofs.Qxb6615596a.Bell
