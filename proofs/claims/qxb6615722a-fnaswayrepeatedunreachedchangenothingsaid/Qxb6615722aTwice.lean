/-
  THE LAW's SECOND LIST: the names twice. What lies there, half written. No walk. By an AI agent, Nov 2026.
-/
import Derived.Test.Qxb6615722aLeaf2
namespace Go.Proofs.Qxb6615722a.AsWay
open Go.RowKit
set_option linter.unusedVariables false

/-- The first k names lie at the first and at the second place. -/
structure TwInv (us : List ByteArray) (g : Nat) (Wb : World) (k : Nat) (wr : World) : Prop where
  le : k ≤ us.length
  one : ∀ q, q < k → wr.cell? ⟨g, q, none⟩ = some (.string (us.getD q ByteArray.empty))
  two : ∀ q, q < k → wr.cell? ⟨g, us.length + q, none⟩ = some (.string (us.getD q ByteArray.empty))
  all : ∀ p, p < 2 * us.length → ∃ u, wr.cell? ⟨g, p, none⟩ = some u
  free : ∀ p, wr.frozen? ⟨g, p, none⟩ = false
  below : Below Wb.heap.size Wb wr
  lt : g < wr.heap.size
theorem cell_setCell_ne {w : World} {g p q : Nat} (u : Value) (h : p ≠ q) : (w.setCell ⟨g, q, none⟩ u).cell? ⟨g, p, none⟩ = w.cell? ⟨g, p, none⟩ := World.cell?_setCell_other _ _ _ _ (fun e => h (by injection e with _ e _; first | exact e | exact e.symm))
theorem TwInv.put {us : List ByteArray} {g : Nat} {Wb : World} {k : Nat} {wr : World} (h : TwInv us g Wb k wr) (hg : Wb.heap.size ≤ g) (hk : k < us.length) :
    TwInv us g Wb (k + 1) ((wr.setCell ⟨g, k, none⟩ (.string (us.getD k ByteArray.empty))).setCell ⟨g, us.length + k, none⟩ (.string (us.getD k ByteArray.empty))) := by
  obtain ⟨u1, hu1⟩ := h.all k (by omega)
  obtain ⟨u2, hu2⟩ := h.all (us.length + k) (by omega)
  have hu2' : (wr.setCell ⟨g, k, none⟩ (.string (us.getD k ByteArray.empty))).cell? ⟨g, us.length + k, none⟩ = some u2 := by rw [cell_setCell_ne _ (by omega)]; exact hu2
  refine ⟨hk, fun q hq => ?_, fun q hq => ?_, fun p hp => ?_, fun p => ?_, (h.below.setCell (p := ⟨g, k, none⟩) hg _).setCell (p := ⟨g, us.length + k, none⟩) hg _, by simpa using h.lt⟩
  · rw [cell_setCell_ne _ (by omega)]
    rcases Nat.lt_succ_iff_lt_or_eq.1 hq with hq | hq
    · rw [cell_setCell_ne _ (by omega)]; exact h.one q hq
    · subst hq; exact World.cell?_setCell_same _ _ _ hu1
  · rcases Nat.lt_succ_iff_lt_or_eq.1 hq with hq | hq
    · rw [cell_setCell_ne _ (by omega), cell_setCell_ne _ (by omega)]; exact h.two q hq
    · subst hq; exact World.cell?_setCell_same _ _ _ hu2'
  · by_cases h2 : p = us.length + k
    · subst h2; exact ⟨_, World.cell?_setCell_same _ _ _ hu2'⟩
    · rw [cell_setCell_ne _ h2]
      by_cases h1 : p = k
      · subst h1; exact ⟨_, World.cell?_setCell_same _ _ _ hu1⟩
      · rw [cell_setCell_ne _ h1]; exact h.all p hp
  · rw [World.frozen?_setCell, World.frozen?_setCell]; exact h.free p
theorem TwInv.made {us : List ByteArray} {Wb w1 : World} {g n : Nat} {xs : List Value} (hn : n = 2 * us.length) (hown : w1.ownsRow Wb.heap.size 9 1 (.slice (some ⟨g, 0, none⟩) n n) n xs) (hgrow : Wb.grownBy w1 none) : TwInv us g Wb 0 w1 := by
  rcases hown.2 with ⟨hv, _⟩ | ⟨g', cap, cur, hv, _, hg, _, _, hs, _⟩
  · cases hv
  · injection hv with e1 _ e3
    injection e1 with e1
    injection e1 with e1 _ _
    subst e1; subst e3
    refine ⟨Nat.zero_le _, fun q hq => absurd hq (by omega), fun q hq => absurd hq (by omega), fun p hp => ?_, fun p => free_of_block hg, (Below.refl _ Wb).grown hgrow (Nat.le_refl _) (fun k h => by cases h), lt_size hg⟩
    refine ⟨cur[p]'(by omega), ?_⟩
    rw [cell_of_row w1 g _ _ _ _ hg, Array.getElem?_eq_getElem (by omega)]
theorem TwInv.row {us : List ByteArray} {g : Nat} {Wb wr : World} (h : TwInv us g Wb us.length wr) (hm : 2 * us.length ≤ maxLen) : StrRow cold wr (.slice (some ⟨g, 0, none⟩) (2 * us.length) (2 * us.length)) (us ++ us) := by
  have e : (us ++ us).length = 2 * us.length := by simp; omega
  refine ⟨some ⟨g, 0, none⟩, 2 * us.length, by rw [e], by rw [e]; exact Nat.le_refl _, hm, fun _ => ⟨g, 0, rfl, h.lt, fun e => e, fun k hk => ?_⟩⟩
  rw [e] at hk
  rw [Nat.zero_add]
  by_cases hk1 : k < us.length
  · rw [h.one k hk1]
    simp [List.getElem?_append_left hk1]
  · have h2 := h.two (k - us.length) (by omega)
    rw [show us.length + (k - us.length) = k by omega] at h2
    rw [h2]
    simp [List.getElem?_append_right (show us.length ≤ k by omega)]
end Go.Proofs.Qxb6615722a.AsWay
