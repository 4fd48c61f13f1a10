/-
  PLAIN PARTS FOR THE SPAN LAWS: a held span's five cells, a list of spans laid flat, and the spans that the builder holds. No walk. By an AI agent, Nov 2026.
-/
import Derived.WalkKit
import Derived.Deep.AppendLies
namespace Go.Proofs.Qxb6615596a.Spans
open Go.RowKit
set_option linter.unusedVariables false

/-- The five cells of a heldSpan without keys and watch: lo, hi, keys, pending, watch. -/
def spanV (t : Int × Int × Int) : List Value := [.int .i64 t.1, .int .i64 t.2.1, .map none, .int .i64 t.2.2, .slice none 0 0]
def flat (L : List (Int × Int × Int)) : List Value := L.flatMap spanV
/-- The first k spans that were made. -/
def made (z0 z1 z2 : List Int) (k : Nat) : List (Int × Int × Int) := (List.range k).map fun i => (z0.getD i 0, z1.getD i 0, z2.getD i 0)

theorem flat_append (L M : List (Int × Int × Int)) : flat (L ++ M) = flat L ++ flat M := by simp [flat]
theorem flat_length (L : List (Int × Int × Int)) : (flat L).length = L.length * 5 := by
  induction L with
  | nil => rfl
  | cons t L ih =>
    have e : flat (t :: L) = spanV t ++ flat L := by simp [flat]
    rw [e, List.length_append, ih]
    simp [spanV]
    omega
theorem made_length (z0 z1 z2 : List Int) (k : Nat) : (made z0 z1 z2 k).length = k := by simp [made]
theorem made_succ (z0 z1 z2 : List Int) (k : Nat) : made z0 z1 z2 (k + 1) = made z0 z1 z2 k ++ [(z0.getD k 0, z1.getD k 0, z2.getD k 0)] := by
  simp [made, List.range_succ]
theorem made_at (z0 z1 z2 : List Int) (n k : Nat) (h : k < n) : (made z0 z1 z2 n)[k]? = some (z0.getD k 0, z1.getD k 0, z2.getD k 0) := by
  simp [made, h]

/-- Cell j of span k in the flat row. -/
theorem flat_at (L : List (Int × Int × Int)) (k : Nat) (t : Int × Int × Int) (h : L[k]? = some t) (j : Nat) (hj : j < 5) : (flat L)[k * 5 + j]? = (spanV t)[j]? := by
  induction L generalizing k with
  | nil => simp at h
  | cons s L ih =>
    have e : flat (s :: L) = spanV s ++ flat L := by simp [flat]
    rw [e]
    cases k with
    | zero =>
      simp at h; subst h
      rw [Nat.zero_mul, Nat.zero_add, List.getElem?_append_left (by simp [spanV]; omega)]
    | succ k =>
      simp at h
      rw [List.getElem?_append_right (by simp [spanV]; omega)]
      have : (k + 1) * 5 + j - (spanV s).length = k * 5 + j := by simp [spanV]; omega
      rw [this]
      exact ih k h

/-- WHAT IS READ OF A SLICE OF SPANS: m elements, the list L; each element's five cells. -/
def SpanRow (w : World) (v : Value) (L : List (Int × Int × Int)) : Prop :=
  ∃ go cap, v = .slice go L.length cap ∧ (0 < L.length → ∃ g, go = some ⟨g, 0, none⟩ ∧ g < w.heap.size ∧
    ∀ k t, L[k]? = some t → w.cell? ⟨g, k * 5, none⟩ = some (.int .i64 t.1) ∧ w.cell? ⟨g, k * 5 + 1, none⟩ = some (.int .i64 t.2.1) ∧ w.cell? ⟨g, k * 5 + 2, none⟩ = some (.map none) ∧
      w.cell? ⟨g, k * 5 + 3, none⟩ = some (.int .i64 t.2.2) ∧ w.cell? ⟨g, k * 5 + 4, none⟩ = some (.slice none 0 0))

theorem spanRow_of_owns {w : World} {base : Nat} {v : Value} {L : List (Int × Int × Int)} (h : w.ownsRow base 47 5 v L.length (flat L)) : SpanRow w v L := by
  rcases Nat.eq_zero_or_pos L.length with h0 | hp
  · rcases h.2 with ⟨hv, _⟩ | ⟨g, cap, cur, hv, _⟩
    · exact ⟨none, 0, by rw [hv, h0], fun hp => by omega⟩
    · exact ⟨_, cap, hv, fun hp => by omega⟩
  · obtain ⟨g, cap, hv, _, hg⟩ := h.form hp
    refine ⟨_, cap, hv, fun _ => ⟨g, rfl, hg, fun k t hk => ?_⟩⟩
    have hc := h.cells (g := g) (by rw [hv]; rfl)
    have hadd : ∀ j, (⟨g, 0, none⟩ : Addr).add j = ⟨g, j, none⟩ := fun j => by unfold Addr.add; split <;> simp_all
    have hat : ∀ j u, (spanV t)[j]? = some u → w.cell? ⟨g, k * 5 + j, none⟩ = some u := fun j u hu => by
      have hj : j < 5 := by
        rcases Nat.lt_or_ge j 5 with h | h
        · exact h
        · rw [List.getElem?_eq_none (by simpa [spanV] using h)] at hu; cases hu
      rw [← hadd]
      exact hc _ u (by rw [flat_at L k t hk j hj]; exact hu)
    exact ⟨hat 0 _ rfl, hat 1 _ rfl, hat 2 _ rfl, hat 3 _ rfl, hat 4 _ rfl⟩

theorem SpanRow.below {w w' : World} {B : Nat} {v : Value} {L : List (Int × Int × Int)} (h : SpanRow w v L) (hb : Below B w w') (hB : w.heap.size ≤ B) : SpanRow w' v L := by
  obtain ⟨go, cap, hv, hr⟩ := h
  refine ⟨go, cap, hv, fun hp => ?_⟩
  obtain ⟨g, hg, hlt, hc⟩ := hr hp
  refine ⟨g, hg, by have := hb.size; omega, fun k t hk => ?_⟩
  obtain ⟨a, b, c, d, e⟩ := hc k t hk
  refine ⟨?_, ?_, ?_, ?_, ?_⟩
  · rw [hb.cell (p := ⟨g, k * 5, none⟩) (by show g < B; omega)]; exact a
  · rw [hb.cell (p := ⟨g, k * 5 + 1, none⟩) (by show g < B; omega)]; exact b
  · rw [hb.cell (p := ⟨g, k * 5 + 2, none⟩) (by show g < B; omega)]; exact c
  · rw [hb.cell (p := ⟨g, k * 5 + 3, none⟩) (by show g < B; omega)]; exact d
  · rw [hb.cell (p := ⟨g, k * 5 + 4, none⟩) (by show g < B; omega)]; exact e

/-- WHAT IS READ OF A SLICE OF int64 | int: n elements, the numbers zs. -/
def RowIn (w : World) (v : Value) (n : Nat) (zs : List Int) : Prop :=
  ∃ ao c, v = .slice ao n c ∧ (0 < n → ∃ b off, ao = some ⟨b, off, none⟩ ∧ b < w.heap.size ∧ ∀ k, k < n → w.cell? ⟨b, off + k, none⟩ = some (.int .i64 (zs.getD k 0)))

theorem RowIn.below {w w' : World} {B : Nat} {v : Value} {n : Nat} {zs : List Int} (h : RowIn w v n zs) (hb : Below B w w') (hB : w.heap.size ≤ B) : RowIn w' v n zs := by
  obtain ⟨ao, c, hv, hr⟩ := h
  refine ⟨ao, c, hv, fun hp => ?_⟩
  obtain ⟨b, off, ha, hlt, hc⟩ := hr hp
  refine ⟨b, off, ha, by have := hb.size; omega, fun k hk => ?_⟩
  rw [hb.cell (p := ⟨b, off + k, none⟩) (by show b < B; omega)]
  exact hc k hk

theorem RowIn.cells {w : World} {a : Option Addr} {n c : Nat} {zs : List Int} (h : RowIn w (.slice a n c) n zs) (hp : 0 < n) :
    ∃ b off, a = some ⟨b, off, none⟩ ∧ b < w.heap.size ∧ ∀ k, k < n → w.cell? ⟨b, off + k, none⟩ = some (.int .i64 (zs.getD k 0)) := by
  obtain ⟨ao, c', hv, hr⟩ := h
  obtain ⟨b, off, ha, hlt, hc⟩ := hr hp
  injection hv with e1 _ _
  exact ⟨b, off, e1.trans ha, hlt, hc⟩

/-- What an open span adds: itself, where it is there and holds a pending event. -/
def opened (ho : Bool) (t : Int × Int × Int) : List (Int × Int × Int) := if ho = true ∧ 0 < t.2.2 then [t] else []
theorem opened_yes {ho : Bool} {lo hi p : Int} (h : ho = true ∧ 0 < p) : opened ho (lo, hi, p) = [(lo, hi, p)] := if_pos h
theorem opened_no {ho : Bool} {lo hi p : Int} (h : ¬ (ho = true ∧ 0 < p)) : opened ho (lo, hi, p) = [] := if_neg h
theorem opened_length (ho : Bool) (t : Int × Int × Int) : (opened ho t).length ≤ 1 := by
  unfold opened
  split <;> simp
/-- The spans that the builder gives: those that were made, and the open one where there is one that holds a pending event. -/
def spansOf (z0 z1 z2 : List Int) (n : Nat) (ho : Bool) (oLo oHi oP : Int) : List (Int × Int × Int) := made z0 z1 z2 n ++ opened ho (oLo, oHi, oP)
theorem spansOf_open (z0 z1 z2 : List Int) (n : Nat) (oLo oHi oP : Int) (h : 0 < oP) : spansOf z0 z1 z2 n true oLo oHi oP = made z0 z1 z2 n ++ [(oLo, oHi, oP)] := by rw [spansOf, opened_yes ⟨rfl, h⟩]
theorem spansOf_shut (z0 z1 z2 : List Int) (n : Nat) (ho : Bool) (oLo oHi oP : Int) (h : ¬ (ho = true ∧ 0 < oP)) : spansOf z0 z1 z2 n ho oLo oHi oP = made z0 z1 z2 n := by rw [spansOf, opened_no h, List.append_nil]
end Go.Proofs.Qxb6615596a.Spans
