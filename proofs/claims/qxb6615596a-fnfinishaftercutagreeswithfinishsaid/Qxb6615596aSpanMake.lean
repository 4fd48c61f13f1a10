/-
  THE WALK OF ZZnewSpanBuilder (8). By an AI agent, Nov 2026.
-/
import Derived.Test.Qxb6615596aRows
import Derived.Test.Qxb6615596aSpanPlain
import Derived.Test.Qxb6615596aSpanCut
import Derived.WalkKit
import Derived.Deep.RegionLaw
import Derived.Deep.AppendLies
namespace Go.Proofs.Qxb6615596a.Spans
open Go.RowKit
set_option linter.unusedVariables false

/-- What the append of one made span leaves: the builder's field is there to be stored into; what lies below the builder is as it was; and, behind the store, the builder with one span more. -/
theorem push_parts {w w1 : World} {B g cap : Nat} {v : Value} {L : List (Int × Int × Int)} {t : Int × Int × Int} {o : Obj} (hb : Builder w B v (.pointer none) L)
    (hown1 : w1.ownsRow (B + 1) 47 5 (.slice (some ⟨g, 0, none⟩) (L.length + 1) cap) (L.length + 1) (flat L ++ spanV t)) (hgrow : ((w.alloc o).drew).grownBy w1 v.ownBlock) :
    w1.cell? ⟨B, 3, none⟩ = some v ∧ w1.frozen? ⟨B, 3, none⟩ = false ∧ (∀ b j, b < B → w1.cell? ⟨b, j, none⟩ = w.cell? ⟨b, j, none⟩) ∧
    Hid (Builder (w1.setCell ⟨B, 3, none⟩ (.slice (some ⟨g, 0, none⟩) (L.length + 1) cap)) B (.slice (some ⟨g, 0, none⟩) (L.length + 1) cap) (.pointer none) (L ++ [t]) ∧
      Below B w (w1.setCell ⟨B, 3, none⟩ (.slice (some ⟨g, 0, none⟩) (L.length + 1) cap))) := by
  obtain ⟨hblk, hown⟩ := hb
  have hBs := lt_size hblk
  have hvB : some B ≠ v.ownBlock := fun e => by have := hown.lt B e.symm; omega
  have hW : ((w.alloc o).drew).heap[B]? = w.heap[B]? := Below.heap_alloc w o B hBs
  have h1 : w1.heap[B]? = some (.cells #[.int .i64 0, .slice none 0 0, .int .i64 0, v, .pointer none] 44 (0, 0)) := by
    rw [hgrow.block B (by simp; omega) hvB, hW]; exact hblk
  have hbel : Below B w w1 := ((Below.refl B w).alloc (by omega) o).drew.grown hgrow (by simp; omega) (fun k hk => by have := hown.lt k hk; omega)
  refine ⟨by rw [cell_of_row w1 B 3 _ _ _ h1]; rfl, free_of_block h1, fun b j hb => hbel.cell (p := ⟨b, j, none⟩) hb, ⟨?_, ?_⟩, hbel.setCell (Nat.le_refl B) _⟩
  · rw [block_setCell h1 _]; rfl
  · have hl : (L ++ [t]).length = L.length + 1 := by simp
    have hf : flat (L ++ [t]) = flat L ++ spanV t := by rw [flat_append]; simp [flat]
    rw [hl, hf]
    exact ownsRow_setCell_below hown1 (by show B < B + 1; omega) _

theorem openAt_none (w : World) (B : Nat) (v : Value) (t : Int × Int × Int) : OpenAt w B v (.pointer none) false t := by
  unfold OpenAt
  rw [if_neg (by decide)]
/-- The open span laid into a block of its own, and the builder's field pointed at it. -/
theorem open_parts {w : World} {B : Nat} {v : Value} {L : List (Int × Int × Int)} (lo hi p : Int) (hb : Builder w B v (.pointer none) L) :
    Builder ((w.setCell ⟨B, 4, none⟩ (.pointer (some ⟨w.heap.size, 0, none⟩))).alloc (.cells #[.int .i64 lo, .int .i64 hi, .map none, .int .i64 p, .slice none 0 0] 47)) B v (.pointer (some ⟨w.heap.size, 0, none⟩)) L ∧
    OpenAt ((w.setCell ⟨B, 4, none⟩ (.pointer (some ⟨w.heap.size, 0, none⟩))).alloc (.cells #[.int .i64 lo, .int .i64 hi, .map none, .int .i64 p, .slice none 0 0] 47)) B v (.pointer (some ⟨w.heap.size, 0, none⟩)) true (lo, hi, p) ∧
    Below B w ((w.setCell ⟨B, 4, none⟩ (.pointer (some ⟨w.heap.size, 0, none⟩))).alloc (.cells #[.int .i64 lo, .int .i64 hi, .map none, .int .i64 p, .slice none 0 0] 47)) := by
  obtain ⟨hblk, hown⟩ := hb
  have hBs := lt_size hblk
  have hs : (w.setCell ⟨B, 4, none⟩ (.pointer (some ⟨w.heap.size, 0, none⟩))).heap.size = w.heap.size := by simp
  refine ⟨⟨?_, ?_⟩, ?_, ((Below.refl B w).setCell (Nat.le_refl B) _).alloc (by rw [hs]; omega) _⟩
  · rw [Below.heap_alloc _ _ B (by rw [hs]; exact hBs), block_setCell hblk _]; rfl
  · exact (ownsRow_setCell_below hown (by show B < B + 1; omega) _).alloc _
  · unfold OpenAt
    rw [if_pos rfl]
    refine ⟨w.heap.size, rfl, hBs, ?_, fun e => ?_⟩
    · have := heap_alloc_new (w.setCell ⟨B, 4, none⟩ (.pointer (some ⟨w.heap.size, 0, none⟩))) (.cells #[.int .i64 lo, .int .i64 hi, .map none, .int .i64 p, .slice none 0 0] 47)
      rw [hs] at this
      exact this
    · have := hown.lt _ e; omega

set_option maxRecDepth 100000 in
set_option maxHeartbeats 20000000 in
theorem make_any (a0 a1 a2 : Option Addr) (n c0 c1 c2 : Nat) (z0 z1 z2 : List Int) (ho : Bool) (oLo oHi oP : Int) (w : World) (hn : n ≤ 4096)
    (r0 : RowIn w (.slice a0 n c0) n z0) (r1 : RowIn w (.slice a1 n c1) n z1) (r2 : RowIn w (.slice a2 n c2) n z2) :
    Calls Try.prog 8 #[.slice a0 n c0, .slice a1 n c1, .slice a2 n c2, .bool ho, .int .i64 oLo, .int .i64 oHi, .int .i64 oP] w fun e w' =>
      e = .returned (.pointer (some ⟨w.heap.size, 0, none⟩)) ∧ ∃ v op, Builder w' w.heap.size v op (made z0 z1 z2 n) ∧ OpenAt w' w.heap.size v op ho (oLo, oHi, oP) ∧ Below w.heap.size w w' := by
  obtain ⟨B, hB⟩ : ∃ B, B = w.heap.size := ⟨_, rfl⟩
  obtain ⟨i0, hi0, hz0, hz1, hz2⟩ := info_parts Try.info47
  go_enter Try.func8, Try.ntmps8
  go_wp2
  go_loopw [16] (fun i wr => ∃ (k : Nat) (v : Value), k ≤ n ∧ i = .int .i64 k ∧ Builder wr w.heap.size v (.pointer none) (made z0 z1 z2 k) ∧ Below w.heap.size w wr) (fun i _ => n - (intOf i).toNat)
  case atStart =>
    refine ⟨0, .slice none 0 0, Nat.zero_le _, rfl, ⟨?_, World.ownsRow_nil _ _ _ _⟩, (Below.refl _ _).alloc (Nat.le_refl _) _⟩
    exact heap_alloc_new w _
  case round =>
    obtain ⟨k, v, hk, rfl, hb, hbel⟩ := hrel
    by_cases hlt : k < n
    · obtain ⟨b0, o0, rfl, l0, h0⟩ := r0.cells (by omega)
      obtain ⟨b1, o1, rfl, l1, h1⟩ := r1.cells (by omega)
      obtain ⟨b2, o2, rfl, l2, h2⟩ := r2.cells (by omega)
      have g0 := (hbel.cell (p := ⟨b0, o0 + k, none⟩) l0).trans (h0 k hlt)
      have g1 := (hbel.cell (p := ⟨b1, o1 + k, none⟩) l1).trans (h1 k hlt)
      have g2 := (hbel.cell (p := ⟨b2, o2 + k, none⟩) l2).trans (h2 k hlt)
      have hml := made_length z0 z1 z2 k
      have hms := made_succ z0 z1 z2 k
      have HM : Hid (made z0 z1 z2 (k + 1) = made z0 z1 z2 k ++ [(z0.getD k 0, z1.getD k 0, z2.getD k 0)]) := hms
      clear h0 h1 h2 r0 r1 r2 hms
      have hBs := lt_size hb.block
      have n0 : b0 < wr.heap.size := by omega
      have n1 : b1 < wr.heap.size := by omega
      have n2 : b2 < wr.heap.size := by omega
      have d0 : ¬ b0 = w.heap.size := by omega
      have d1 : ¬ b1 = w.heap.size := by omega
      have d2 : ¬ b2 = w.heap.size := by omega
      have b3 : wr.cell? ⟨w.heap.size, 3, none⟩ = some v := by rw [cell_of_row wr w.heap.size 3 _ _ _ hb.block]; rfl
      have HB : Hid (Builder wr w.heap.size v (.pointer none) (made z0 z1 z2 k)) := hb
      have HL : Hid (Below w.heap.size w wr) := hbel
      generalize made z0 z1 z2 k = L at *
      generalize z0.getD k 0 = x0 at *
      generalize z1.getD k 0 = x1 at *
      generalize z2.getD k 0 = x2 at *
      have hL : L.length ≤ 4096 := by omega
      have HN : Hid (L.length = k) := hml
      clear hb hbel hml
      go_wp2
      go_region_law (refine step_append_lies _ rfl (.tmp 29) (.tmp 43) 27 rfl (w.heap.size + 1) 47 i0 _ 5 56 Try.underlying27 hi0 hz0 hz1 hz2 rfl (by decide) v L.length (flat L) (by simp [Act.eval]) (by first | exact HB.out.owns.drew.alloc _ | exact (HB.out.owns.alloc _).drew) ⟨wr.heap.size, 0, none⟩ 1 1 [.int .i64 x0, .int .i64 x1, .map none, .int .i64 x2, .slice none 0 0] (by simp [Act.eval]) rfl (by exact news_at wr x0 x1 x2) (by exact span_oneCell x0 x1 x2) (by omega) (by unfold maxLen; omega) (by omega) (by simp; omega) (wr.heap.size + 1) (by simp) ?_; intro g cap w1 hown1 hgrow hat hlt; obtain ⟨c3, f3, hlow, R⟩ := push_parts (t := (x0, x1, x2)) HB.out hown1 hgrow; clear hown1 hgrow hat hlt hlow)
      all_goals
        go_wp2
        go_roundw
        case rel => exact ⟨k + 1, _, by omega, by go_num, by rw [HM.out]; exact R.out.1, HL.out.trans R.out.2⟩
        case measure => simp [intOf]; omega
    · have hkn : k = n := by omega
      subst hkn
      clear r0 r1 r2
      have b4 : wr.cell? ⟨w.heap.size, 4, none⟩ = some (.pointer none) := by rw [cell_of_row wr w.heap.size 4 _ _ _ hb.block]; rfl
      have f4 : wr.frozen? ⟨w.heap.size, 4, none⟩ = false := free_of_block hb.block
      have hBs := lt_size hb.block
      have HB : Hid (Builder wr w.heap.size v (.pointer none) (made z0 z1 z2 k)) := hb
      have HL : Hid (Below w.heap.size w wr) := hbel
      clear hb hbel
      cases ho
      · go_wp2
        go_ret
        exact ⟨rfl, v, .pointer none, HB.out, openAt_none _ _ _ _, HL.out⟩
      · go_wp2
        go_ret
        exact ⟨rfl, v, _, (open_parts oLo oHi oP HB.out).1, (open_parts oLo oHi oP HB.out).2.1, HL.out.trans (open_parts oLo oHi oP HB.out).2.2⟩
end Go.Proofs.Qxb6615596a.Spans
