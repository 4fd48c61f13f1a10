/-
  THE WALK OF ZZasWay (6). By an AI agent, Nov 2026.
-/
import Derived.Test.Qxb6615722aAsw
namespace Go.Proofs.Qxb6615722a.AsWay
open Go.RowKit
set_option linter.unusedVariables false
attribute [local go_sem] run_store_float

theorem z30_string {w : World} {R j : Nat} {s : ByteArray} (h : w.heap[R]? = some Z30) (hc : w.cell? ⟨R, j, none⟩ = some (.string s)) : False := by
  unfold Z30 at h
  rw [cell_of_row w R _ _ _ _ h] at hc
  rcases Nat.lt_or_ge j 10 with hj | hj
  · have : j = 0 ∨ j = 1 ∨ j = 2 ∨ j = 3 ∨ j = 4 ∨ j = 5 ∨ j = 6 ∨ j = 7 ∨ j = 8 ∨ j = 9 := by omega
    rcases this with rfl | rfl | rfl | rfl | rfl | rfl | rfl | rfl | rfl | rfl <;> simp at hc
  · rw [Array.getElem?_eq_none (by simpa using hj)] at hc
    cases hc
theorem strRow_off {w : World} {R : Nat} {v : Value} {ss : List ByteArray} (hR : w.heap[R]? = some Z30) (h : StrRow cold w v ss) : StrRow (fun k => k = R) w v ss := by
  obtain ⟨a, c, hv, h1, h2, hr⟩ := h
  refine ⟨a, c, hv, h1, h2, fun hp => ?_⟩
  obtain ⟨b, off, ha, hlt, _, hc⟩ := hr hp
  exact ⟨b, off, ha, hlt, fun e => by subst e; exact z30_string hR (hc 0 hp), hc⟩
theorem row_off {w : World} {R K M : Nat} {s : Out} {c0 c1 c2 c3 c4 c5 c6 c8 c9 : Value} (hR : w.heap[R]? = some Z30) (h : Row cold K M w s c0 c1 c2 c3 c4 c5 c6 c8 c9) : Row (fun k => k = R) K M w s c0 c1 c2 c3 c4 c5 c6 c8 c9 ∧ (s.walk ≠ none → K ≠ R ∧ M ≠ R) := by
  refine ⟨⟨?_, ?_, strRow_off hR h.frm, strRow_off hR h.reached, strRow_off hR h.tried, strRow_off hR h.busy, strRow_off hR h.unfit, ?_, strRow_off hR h.unr⟩, ?_⟩
  · have hb := h.best
    revert hb
    cases s.best with
    | none => exact fun e => e
    | some o => exact fun ⟨b, off, e, hlt, _, hc⟩ => ⟨b, off, e, hlt, fun e' => by subst e'; exact z30_string hR (hc.at 0 rfl), hc⟩
  · obtain ⟨a, c, hv, hr⟩ := h.rem
    refine ⟨a, c, hv, fun hp => ?_⟩
    obtain ⟨b, off, ha, hlt, _, hc⟩ := hr hp
    refine ⟨b, off, ha, hlt, fun e => ?_, hc⟩
    subst e
    exact z30_string hR ((hc 0 _ (List.getElem?_eq_getElem hp)).at 0 rfl)
  · have hb := h.walk
    revert hb
    cases s.walk with
    | none => exact fun e => e
    | some q => exact fun ⟨hp, ca, cu, h1, h2, h3⟩ => ⟨hp, ca, cu, h1, strRow_off hR h2, h3⟩
  · have hb := h.walk
    revert hb
    cases s.walk with
    | none => exact fun _ hn => absurd rfl hn
    | some q =>
      rintro ⟨hp, ca, cu, h1, h2, es, clock, h3, _⟩ _
      refine ⟨fun e => ?_, fun e => ?_⟩
      · subst e; rw [h1] at hR; cases hR
      · subst e; rw [h3] at hR; cases hR
theorem JobAt.later {w w' : World} {p : Value} {x : Option WIn} {y : Option KIn} {us : List ByteArray} (h : JobAt w p x y us) (hb : Below w.heap.size w w') : JobAt w' p x y us := by
  obtain ⟨J, pk, pw, u, rfl, hJ, h5, h6, h8, hk, hw, hu⟩ := h
  have hb' : But cold w w' := But.of_below hb
  exact ⟨J, pk, pw, u, rfl, Nat.lt_of_lt_of_le hJ hb.size, (hb.cell (p := ⟨J, 5, none⟩) hJ).trans h5, (hb.cell (p := ⟨J, 6, none⟩) hJ).trans h6, (hb.cell (p := ⟨J, 8, none⟩) hJ).trans h8, hk.but hb', hw.but hb', hu.but hb'⟩

set_option maxRecDepth 100000 in
set_option maxHeartbeats 1000000 in
theorem zzAsWay_any (p : Value) (x : Option WIn) (y : Option KIn) (us : List ByteArray) (w : World) (h : JobAt w p x y us) (hf : Fits x y us) :
    Calls Try.prog 6 #[p] w fun e w' => ∃ v K M, e = .returned v ∧ WayV cold K M w' v (final x y us) ∧ Below w.heap.size w w' := by
  have HJ : Hid (JobAt (w.alloc Z30) p x y us) := h.later ((Below.refl _ w).alloc (Nat.le_refl _) _)
  have HF : Hid (Fits x y us) := hf
  clear h hf
  go_enter Try.func6, Try.ntmps6
  go_wp2_with fail
  refine (asWay_any p x y us _ HJ.out HF.out).mono ?_
  rintro e w1 ⟨v, K, M, rfl, hv, hb1⟩
  have hR : w1.heap[w.heap.size]? = some Z30 := (hb1.block w.heap.size (by simp)).trans (heap_alloc_new w Z30)
  have hB : Below w.heap.size w w1 := ((Below.refl _ w).alloc (Nat.le_refl _) Z30).trans (hb1.mono (by simp))
  obtain ⟨c0, c1, c2, c3, c4, c5, c6, c8, c9, rfl, hrow⟩ := hv
  obtain ⟨hro, hKM⟩ := row_off hR hrow
  obtain ⟨sf, hsf⟩ : ∃ sf, final x y us = sf := ⟨_, rfl⟩
  rw [hsf] at hro hKM
  obtain ⟨⟨a0, rfl⟩, ⟨a1, n1, d1, rfl⟩, ⟨a2, n2, d2, rfl⟩, ⟨a3, n3, d3, rfl⟩, ⟨a4, n4, d4, rfl⟩, ⟨a5, n5, d5, rfl⟩, ⟨a6, n6, d6, rfl⟩, ⟨a8, rfl⟩, ⟨a9, n9, d9, rfl⟩⟩ := hrow.forms
  have HFIN : Hid (∀ vs, Row cold K M (w1.setCells w.heap.size 0 vs) sf (.pointer a0) (.slice a1 n1 d1) (.slice a2 n2 d2) (.slice a3 n3 d3) (.slice a4 n4 d4) (.slice a5 n5 d5) (.slice a6 n6 d6) (.pointer a8) (.slice a9 n9 d9) ∧ Below w.heap.size w (w1.setCells w.heap.size 0 vs)) := fun vs =>
    ⟨(hro.but (But.cells (hot := fun k => k = w.heap.size) (b := w.heap.size) (.inr rfl) vs 0 w1 (But.refl _ _)) (fun hn => ⟨heap_setCells (hKM hn).1 vs 0 w1, heap_setCells (hKM hn).2 vs 0 w1⟩)).cool, Below.setCells (Nat.le_refl _) vs 0 w1 hB⟩
  rw [hsf]
  have HSF : Hid (final x y us = sf) := hsf
  have r0 := cellB (j := 0) hR rfl
  have r1 := cellB (j := 1) hR rfl
  have r2 := cellB (j := 2) hR rfl
  have r3 := cellB (j := 3) hR rfl
  have r4 := cellB (j := 4) hR rfl
  have r5 := cellB (j := 5) hR rfl
  have r6 := cellB (j := 6) hR rfl
  have r7 := cellB (j := 7) hR rfl
  have r8 := cellB (j := 8) hR rfl
  have r9 := cellB (j := 9) hR rfl
  have fz : ∀ j, w1.frozen? ⟨w.heap.size, j, none⟩ = false := fun j => free_of_block hR
  clear hro hrow hKM hR hB hb1 hsf HJ HF
  go_wp2
  exact bodyPost_ret (v := .agg #[.pointer a0, .slice a1 n1 d1, .slice a2 n2 d2, .slice a3 n3 d3, .slice a4 n4 d4, .slice a5 n5 d5, .slice a6 n6 d6, .int .i64 sf.jumps, .pointer a8, .slice a9 n9 d9]) (by simp [results, Try.results6, go_sem, r0, r1, r2, r3, r4, r5, r6, r7, r8, r9]) rfl ⟨_, K, M, rfl, ⟨_, _, _, _, _, _, _, _, _, by rw [HSF.out], by rw [HSF.out]; exact (HFIN.out [.pointer a0, .slice a1 n1 d1, .slice a2 n2 d2, .slice a3 n3 d3, .slice a4 n4 d4, .slice a5 n5 d5, .slice a6 n6 d6, .int .i64 sf.jumps, .pointer a8, .slice a9 n9 d9]).1⟩, (HFIN.out [.pointer a0, .slice a1 n1 d1, .slice a2 n2 d2, .slice a3 n3 d3, .slice a4 n4 d4, .slice a5 n5 d5, .slice a6 n6 d6, .int .i64 sf.jumps, .pointer a8, .slice a9 n9 d9]).2⟩
end Go.Proofs.Qxb6615722a.AsWay
