/-
  THE WALKS OF cut (23), finish (21), ZZcut (13), ZZfinish (9). By an AI agent, Nov 2026.
-/
import Derived.Test.Qxb6615596aRows
import Derived.Test.Qxb6615596aSpanPlain
import Derived.WalkKit
import Derived.Deep.RegionLaw
import Derived.Deep.AppendLies
namespace Go.Proofs.Qxb6615596a.Spans
open Go.RowKit
set_option linter.unusedVariables false

theorem Try.info47 : (Try.prog.info? 47).map (fun i => (i.zero, i.size, i.bytes)) = some (some (.agg #[.int .i64 0, .int .i64 0, .map none, .int .i64 0, .slice none 0 0]), 5, 56) := by kernel_rfl

theorem lt_size {w : World} {B : Nat} {o : Obj} (h : w.heap[B]? = some o) : B < w.heap.size := by
  rcases Nat.lt_or_ge B w.heap.size with h' | h'
  · exact h'
  · rw [Array.getElem?_eq_none h'] at h; cases h
theorem block_setCell {w : World} {B j : Nat} {cs : Array Value} {t : TypeId} {fr : Nat × Nat} (h : w.heap[B]? = some (.cells cs t fr)) (u : Value) :
    (w.setCell ⟨B, j, none⟩ u).heap[B]? = some (.cells (cs.setIfInBounds j u) t fr) := by
  simp [World.setCell, Array.getElem?_modify, h]
theorem free_of_block {w : World} {B j : Nat} {cs : Array Value} {t : TypeId} (h : w.heap[B]? = some (.cells cs t (0, 0))) : w.frozen? ⟨B, j, none⟩ = false := by
  simp [World.frozen?, h]

/-- THE BUILDER IN MEMORY: block B holds it; its spans are v, which owns the row L; its open span is 'op'. -/
structure Builder (w : World) (B : Nat) (v op : Value) (L : List (Int × Int × Int)) : Prop where
  block : w.heap[B]? = some (.cells #[.int .i64 0, .slice none 0 0, .int .i64 0, v, op] 44 (0, 0))
  owns : w.ownsRow (B + 1) 47 5 v L.length (flat L)

theorem span_oneCell (lo hi p : Int) : ∀ u ∈ [Value.int .i64 lo, .int .i64 hi, .map none, .int .i64 p, .slice none 0 0], u.oneCell' = true := by
  intro u hu
  simp at hu
  rcases hu with rfl | rfl | rfl | rfl | rfl <;> rfl
theorem news_at (w : World) (lo hi p : Int) : ∀ j u, [Value.int .i64 lo, .int .i64 hi, .map none, .int .i64 p, .slice none 0 0][j]? = some u →
    ((w.alloc (.cells #[.int .i64 lo, .int .i64 hi, .map none, .int .i64 p, .slice none 0 0] 47)).drew).cell? ((⟨w.heap.size, 0, none⟩ : Addr).add j) = some u :=
  World.news_of_block (cs := #[.int .i64 lo, .int .i64 hi, .map none, .int .i64 p, .slice none 0 0]) (t := 47) (fr := (0, 0)) (by exact heap_alloc_new w _)

/-- What the append of cut leaves: the builder's cells as they were; and, behind the two stores, the builder with one span more and none open. -/
theorem cut_parts {w w1 : World} {B g cap : Nat} {v op : Value} {L : List (Int × Int × Int)} {t : Int × Int × Int} {o : Obj} (hown : w.ownsRow (B + 1) 47 5 v L.length (flat L))
    (hblk : w.heap[B]? = some (.cells #[.int .i64 0, .slice none 0 0, .int .i64 0, v, op] 44 (0, 0))) (hvB : some B ≠ v.ownBlock)
    (hown1 : w1.ownsRow (B + 1) 47 5 (.slice (some ⟨g, 0, none⟩) (L.length + 1) cap) (L.length + 1) (flat L ++ spanV t)) (hgrow : ((w.alloc o).drew).grownBy w1 v.ownBlock) :
    w1.cell? ⟨B, 3, none⟩ = some v ∧ w1.cell? ⟨B, 4, none⟩ = some op ∧ w1.frozen? ⟨B, 3, none⟩ = false ∧ w1.frozen? ⟨B, 4, none⟩ = false ∧
    Hid (Builder ((w1.setCell ⟨B, 3, none⟩ (.slice (some ⟨g, 0, none⟩) (L.length + 1) cap)).setCell ⟨B, 4, none⟩ (.pointer none)) B (.slice (some ⟨g, 0, none⟩) (L.length + 1) cap) (.pointer none) (L ++ [t]) ∧
      Below B w ((w1.setCell ⟨B, 3, none⟩ (.slice (some ⟨g, 0, none⟩) (L.length + 1) cap)).setCell ⟨B, 4, none⟩ (.pointer none))) := by
  have hBs := lt_size hblk
  have hW : ((w.alloc o).drew).heap[B]? = w.heap[B]? := Below.heap_alloc w o B hBs
  have h1 : w1.heap[B]? = some (.cells #[.int .i64 0, .slice none 0 0, .int .i64 0, v, op] 44 (0, 0)) := by
    rw [hgrow.block B (by simp; omega) hvB, hW]; exact hblk
  refine ⟨by rw [cell_of_row w1 B 3 _ _ _ h1]; rfl, by rw [cell_of_row w1 B 4 _ _ _ h1]; rfl, free_of_block h1, free_of_block h1, ⟨?_, ?_⟩, ?_⟩
  · rw [block_setCell (block_setCell h1 _) _]; rfl
  · have hl : (L ++ [t]).length = L.length + 1 := by simp
    have hf : flat (L ++ [t]) = flat L ++ spanV t := by rw [flat_append]; simp [flat]
    rw [hl, hf]
    exact ownsRow_setCell_below (ownsRow_setCell_below hown1 (by show B < B + 1; omega) _) (by show B < B + 1; omega) _
  · refine ((((Below.refl B w).alloc (by omega) o).drew.grown hgrow (by simp; omega) (fun k hk => ?_)).setCell (Nat.le_refl B) _).setCell (Nat.le_refl B) _
    have := hown.lt k hk
    omega

set_option maxHeartbeats 1000000 in
theorem cut_append (B C : Nat) (v : Value) (L : List (Int × Int × Int)) (lo hi p : Int) (w : World) (hb : Builder w B v (.pointer (some ⟨C, 0, none⟩)) L) (hL : L.length ≤ 4097) (hBC : B < C)
    (hC : w.heap[C]? = some (.cells #[.int .i64 lo, .int .i64 hi, .map none, .int .i64 p, .slice none 0 0] 47 (0, 0))) (hvC : v.ownBlock ≠ some C) (hp : 0 < p) :
    Calls Try.prog 23 #[.pointer (some ⟨B, 0, none⟩)] w fun e w' => e = .returned (.tuple #[]) ∧ ∃ v', Builder w' B v' (.pointer none) (L ++ [(lo, hi, p)]) ∧ Below B w w' := by
  obtain ⟨hblk, hown⟩ := hb
  have hBs : B < w.heap.size := lt_size hblk
  have hCs : C < w.heap.size := lt_size hC
  have hvB : some B ≠ v.ownBlock := fun e => by have := hown.lt B e.symm; omega
  have b3 : w.cell? ⟨B, 3, none⟩ = some v := by rw [cell_of_row w B 3 _ _ _ hblk]; rfl
  have b4 : w.cell? ⟨B, 4, none⟩ = some (.pointer (some ⟨C, 0, none⟩)) := by rw [cell_of_row w B 4 _ _ _ hblk]; rfl
  have k0 : w.cell? ⟨C, 0, none⟩ = some (.int .i64 lo) := by rw [cell_of_row w C 0 _ _ _ hC]; rfl
  have k1 : w.cell? ⟨C, 1, none⟩ = some (.int .i64 hi) := by rw [cell_of_row w C 1 _ _ _ hC]; rfl
  have k2 : w.cell? ⟨C, 2, none⟩ = some (.map none) := by rw [cell_of_row w C 2 _ _ _ hC]; rfl
  have k3 : w.cell? ⟨C, 3, none⟩ = some (.int .i64 p) := by rw [cell_of_row w C 3 _ _ _ hC]; rfl
  have k4 : w.cell? ⟨C, 4, none⟩ = some (.slice none 0 0) := by rw [cell_of_row w C 4 _ _ _ hC]; rfl
  have HB : Hid (w.heap[B]? = some (.cells #[.int .i64 0, .slice none 0 0, .int .i64 0, v, .pointer (some ⟨C, 0, none⟩)] 44 (0, 0))) := hblk
  have HO : Hid (w.ownsRow (B + 1) 47 5 v L.length (flat L)) := hown
  have HV : Hid (some B ≠ v.ownBlock) := hvB
  clear hblk hC hown hvB hvC
  obtain ⟨i0, hi0, hz0, hz1, hz2⟩ := info_parts Try.info47
  go_enter Try.func23, Try.ntmps23
  go_wp2
  go_region_law (refine step_append_lies _ rfl (.tmp 21) (.tmp 28) 27 rfl (B + 1) 47 i0 _ 5 56 Try.underlying27 hi0 hz0 hz1 hz2 rfl (by decide) v L.length (flat L) (by simp [Act.eval]) (by first | exact HO.out.drew.alloc _ | exact (HO.out.alloc _).drew) ⟨w.heap.size, 0, none⟩ 1 1 [.int .i64 lo, .int .i64 hi, .map none, .int .i64 p, .slice none 0 0] (by simp [Act.eval]) rfl (by exact news_at w lo hi p) (by exact span_oneCell lo hi p) (by omega) (by unfold maxLen; omega) (by omega) (by simp; omega) (w.heap.size + 1) (by simp) ?_; intro g cap w1 hown1 hgrow hat hlt; obtain ⟨c3, c4, f3, f4, R⟩ := cut_parts (t := (lo, hi, p)) HO.out HB.out HV.out hown1 hgrow; clear hown1 hgrow hat hlt)
  all_goals
    go_wp2
    go_end0
    exact ⟨rfl, _, R.out.1, R.out.2⟩

/-- Behind the one store 'b.open = nil'. -/
theorem builder_shut {w : World} {B : Nat} {v op : Value} {L : List (Int × Int × Int)} (hb : Builder w B v op L) :
    Builder (w.setCell ⟨B, 4, none⟩ (.pointer none)) B v (.pointer none) L ∧ Below B w (w.setCell ⟨B, 4, none⟩ (.pointer none)) :=
  ⟨⟨by rw [block_setCell hb.block _]; rfl, ownsRow_setCell_below hb.owns (by show B < B + 1; omega) _⟩, (Below.refl B w).setCell (Nat.le_refl B) _⟩

set_option maxHeartbeats 400000 in
theorem cut_nil (B : Nat) (v : Value) (L : List (Int × Int × Int)) (w : World) (hb : Builder w B v (.pointer none) L) :
    Calls Try.prog 23 #[.pointer (some ⟨B, 0, none⟩)] w fun e w' => e = .returned (.tuple #[]) ∧ Builder w' B v (.pointer none) L ∧ Below B w w' := by
  have R : Hid _ := builder_shut hb
  have b4 : w.cell? ⟨B, 4, none⟩ = some (.pointer none) := by rw [cell_of_row w B 4 _ _ _ hb.block]; rfl
  have f4 : w.frozen? ⟨B, 4, none⟩ = false := free_of_block hb.block
  clear hb
  go_enter Try.func23, Try.ntmps23
  go_wp2
  go_end0
  exact ⟨rfl, R.out.1, R.out.2⟩

set_option maxHeartbeats 400000 in
theorem cut_drop (B C : Nat) (v : Value) (L : List (Int × Int × Int)) (p : Int) (w : World) (hb : Builder w B v (.pointer (some ⟨C, 0, none⟩)) L) (hC : w.cell? ⟨C, 3, none⟩ = some (.int .i64 p)) (hp : ¬ 0 < p) :
    Calls Try.prog 23 #[.pointer (some ⟨B, 0, none⟩)] w fun e w' => e = .returned (.tuple #[]) ∧ Builder w' B v (.pointer none) L ∧ Below B w w' := by
  have R : Hid _ := builder_shut hb
  have b4 : w.cell? ⟨B, 4, none⟩ = some (.pointer (some ⟨C, 0, none⟩)) := by rw [cell_of_row w B 4 _ _ _ hb.block]; rfl
  have f4 : w.frozen? ⟨B, 4, none⟩ = false := free_of_block hb.block
  clear hb
  go_enter Try.func23, Try.ntmps23
  go_wp2
  go_end0
  exact ⟨rfl, R.out.1, R.out.2⟩

/-- THE OPEN SPAN IN MEMORY: none; or one in a block of its own. -/
def OpenAt (w : World) (B : Nat) (v op : Value) (ho : Bool) (t : Int × Int × Int) : Prop :=
  if ho = true then ∃ C, op = .pointer (some ⟨C, 0, none⟩) ∧ B < C ∧ w.heap[C]? = some (.cells #[.int .i64 t.1, .int .i64 t.2.1, .map none, .int .i64 t.2.2, .slice none 0 0] 47 (0, 0)) ∧ v.ownBlock ≠ some C else op = .pointer none

/-- cut, whatever is open. -/
theorem cut_any (B : Nat) (v op : Value) (L : List (Int × Int × Int)) (ho : Bool) (lo hi p : Int) (w : World) (hb : Builder w B v op L) (hL : L.length ≤ 4097) (hop : OpenAt w B v op ho (lo, hi, p)) :
    Calls Try.prog 23 #[.pointer (some ⟨B, 0, none⟩)] w fun e w' => e = .returned (.tuple #[]) ∧ ∃ v', Builder w' B v' (.pointer none) (L ++ opened ho (lo, hi, p)) ∧ Below B w w' := by
  unfold OpenAt at hop
  by_cases h : ho = true
  · rw [if_pos h] at hop
    obtain ⟨C, rfl, hBC, hC, hvC⟩ := hop
    by_cases hp : 0 < p
    · rw [opened_yes ⟨h, hp⟩]
      exact cut_append B C v L lo hi p w hb hL hBC hC hvC hp
    · rw [opened_no (fun e => hp e.2), List.append_nil]
      exact (cut_drop B C v L p w hb (by rw [cell_of_row w C 3 _ _ _ hC]; rfl) hp).mono fun e w' ⟨h1, h2, h3⟩ => ⟨h1, v, h2, h3⟩
  · rw [if_neg h] at hop
    subst hop
    rw [opened_no (fun e => h e.1), List.append_nil]
    exact (cut_nil B v L w hb).mono fun e w' ⟨h1, h2, h3⟩ => ⟨h1, v, h2, h3⟩

set_option maxHeartbeats 400000 in
theorem finish_any (B : Nat) (v op : Value) (L : List (Int × Int × Int)) (ho : Bool) (lo hi p : Int) (w : World) (hb : Builder w B v op L) (hL : L.length ≤ 4097) (hop : OpenAt w B v op ho (lo, hi, p)) :
    Calls Try.prog 21 #[.pointer (some ⟨B, 0, none⟩)] w fun e w' => ∃ v', e = .returned v' ∧ Builder w' B v' (.pointer none) (L ++ opened ho (lo, hi, p)) ∧ Below B w w' := by
  have HB : Hid (Builder w B v op L) := hb
  have HP : Hid (OpenAt w B v op ho (lo, hi, p)) := hop
  clear hb hop
  go_enter Try.func21, Try.ntmps21
  go_wp2_with fail
  refine (cut_any B v op L ho lo hi p w HB.out hL HP.out).mono ?_
  rintro e w' ⟨rfl, v', hb', hbel⟩
  have b3 : w'.cell? ⟨B, 3, none⟩ = some v' := by rw [cell_of_row w' B 3 _ _ _ hb'.block]; rfl
  have R : Hid (Builder w' B v' (.pointer none) (L ++ opened ho (lo, hi, p)) ∧ Below B w w') := And.intro hb' hbel
  clear hb' hbel HB HP
  go_wp2
  go_ret
  exact ⟨v', rfl, R.out.1, R.out.2⟩

set_option maxHeartbeats 400000 in
theorem zzfinish_any (B : Nat) (v op : Value) (L : List (Int × Int × Int)) (ho : Bool) (lo hi p : Int) (w : World) (hb : Builder w B v op L) (hL : L.length ≤ 4097) (hop : OpenAt w B v op ho (lo, hi, p)) :
    Calls Try.prog 9 #[.pointer (some ⟨B, 0, none⟩)] w fun e w' => ∃ v', e = .returned v' ∧ Builder w' B v' (.pointer none) (L ++ opened ho (lo, hi, p)) ∧ Below B w w' := by
  have HB : Hid (Builder w B v op L) := hb
  have HP : Hid (OpenAt w B v op ho (lo, hi, p)) := hop
  clear hb hop
  go_enter Try.func9, Try.ntmps9
  go_wp2_with fail
  refine (finish_any B v op L ho lo hi p w HB.out hL HP.out).mono ?_
  rintro e w' ⟨v', rfl, hb', hbel⟩
  have R : Hid (Builder w' B v' (.pointer none) (L ++ opened ho (lo, hi, p)) ∧ Below B w w') := And.intro hb' hbel
  clear hb' hbel HB HP
  go_wp2
  go_ret
  exact ⟨v', rfl, R.out.1, R.out.2⟩

set_option maxHeartbeats 400000 in
theorem zzcut_any (B : Nat) (v op : Value) (L : List (Int × Int × Int)) (ho : Bool) (lo hi p : Int) (w : World) (hb : Builder w B v op L) (hL : L.length ≤ 4097) (hop : OpenAt w B v op ho (lo, hi, p)) :
    Calls Try.prog 13 #[.pointer (some ⟨B, 0, none⟩)] w fun e w' => e = .returned (.tuple #[]) ∧ ∃ v', Builder w' B v' (.pointer none) (L ++ opened ho (lo, hi, p)) ∧ Below B w w' := by
  have HB : Hid (Builder w B v op L) := hb
  have HP : Hid (OpenAt w B v op ho (lo, hi, p)) := hop
  clear hb hop
  go_enter Try.func13, Try.ntmps13
  go_wp2_with fail
  refine (cut_any B v op L ho lo hi p w HB.out hL HP.out).mono ?_
  rintro e w' ⟨rfl, v', hb', hbel⟩
  have R : Hid (Builder w' B v' (.pointer none) (L ++ opened ho (lo, hi, p)) ∧ Below B w w') := And.intro hb' hbel
  clear hb' hbel HB HP
  go_wp2
  go_end0
  exact ⟨rfl, v', R.out.1, R.out.2⟩
end Go.Proofs.Qxb6615596a.Spans
