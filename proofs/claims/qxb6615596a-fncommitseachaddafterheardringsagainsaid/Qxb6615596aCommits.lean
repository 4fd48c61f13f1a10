/-
  THE COMMITS IN MEMORY, AND THE CONTRACTS OF Lock, Unlock, ring, ZZcommitsTakeRing, add, ZZcommitsAdd, ZZnewCommits, ZZcommitsXids, ZZcommitsRinging OVER THEM. By an AI agent, Nov 2026.
-/
import Derived.Test.Qxb6615596aRows
import Derived.Test.Qxb6615596aLocks
import Derived.Test.Qxb6615596aRing
import Derived.Test.Qxb6615596aCommitsRows
import Derived.Conc.MuLone
import Derived.Conc.LoneSelectN
import Derived.WalkKit
import Derived.Deep.AppendLies
import Derived.Deep.Draws
namespace Go.Proofs.Qxb6615596a.Bell
open Go.Conc Go.RowKit
open Go.MuLone
set_option linter.unusedVariables false

theorem Try.info34 : (Try.prog.info? 34).map (fun i => (i.zero, i.size, i.bytes)) = some (some (.int .u32 0), 1, 4) := by kernel_rfl

/-- What lies in the bell's buffer. -/
def bellBuf (rg : Bool) : Array Value := if rg then #[.agg #[]] else #[]

/-- THE COMMITS: block B holds the struct (the bell, the lock's two words, the xids v), block C the bell's channel; v owns the row L. 'st': the lock's state word. -/
structure Holds (w : World) (lo B C : Nat) (v : Value) (rg : Bool) (L : List Int) (st : Int) : Prop where
  block : w.heap[B]? = some (.cells #[.chan (some C), .int .i32 st, .int .u32 0, v] 59 (0, 0))
  bell : ∃ s r, w.heap[C]? = some (.chan 1 (bellBuf rg) false s r false)
  owns : w.ownsRow lo 34 1 v L.length (nums L)
  lB : lo ≤ B
  lC : lo ≤ C

theorem grownBy_setCell (w : World) (B j : Nat) (u : Value) : w.grownBy (w.setCell ⟨B, j, none⟩ u) (some B) :=
  ⟨rfl, rfl, rfl, by simp, fun k _ hk => Below.heap_setCell w ⟨B, j, none⟩ u k (fun e => hk (by rw [e]))⟩
theorem grownBy_setChan (w : World) (C cap : Nat) (buf : Array Value) (cl : Bool) (s r : Nat) (tm : Bool) : w.grownBy (w.setChan C cap buf cl s r tm) (some C) :=
  ⟨rfl, rfl, rfl, by simp [World.setChan], fun k _ hk => by simp only [World.setChan]; rw [Array.getElem?_setIfInBounds_ne (fun e => hk (by rw [e]))]⟩
theorem row_ne {w : World} {lo e size n : Nat} {v : Value} {xs : List Value} (h : w.ownsRow lo e size v n xs) {B : Nat} {o : Obj} (hB : w.heap[B]? = some o) (hne : ∀ cur, o ≠ .cells cur e (0, 0)) : v.ownBlock ≠ some B := by
  rcases h.2 with ⟨rfl, _⟩ | ⟨g, cap, cur, rfl, _, hg, _⟩
  · intro h; cases h
  · intro h
    have : g = B := by simpa [Value.ownBlock] using h
    subst this
    rw [hg] at hB
    injection hB with hB
    exact hne cur hB.symm

section
variable {w : World} {lo B C : Nat} {v : Value} {rg : Bool} {L : List Int} {st : Int}
theorem Holds.neBC (h : Holds w lo B C v rg L st) : B ≠ C := by
  intro e
  subst e
  obtain ⟨s, r, hc⟩ := h.bell
  rw [h.block] at hc
  cases hc
theorem Holds.neRowB (h : Holds w lo B C v rg L st) : v.ownBlock ≠ some B := row_ne h.owns h.block (fun cur e => by injection e with _ e _; cases e)
theorem Holds.neRowC (h : Holds w lo B C v rg L st) : v.ownBlock ≠ some C := by
  obtain ⟨s, r, hc⟩ := h.bell
  exact row_ne h.owns hc (fun cur e => by cases e)

theorem Holds.drewN (h : Holds w lo B C v rg L st) (n : Nat) : Holds (w.drewN n) lo B C v rg L st := ⟨h.block, h.bell, h.owns, h.lB, h.lC⟩
/-- The lock's word turned. -/
theorem Holds.lockword (h : Holds w lo B C v rg L st) (st' : Int) :
    Holds (w.setCell ⟨B, 1, none⟩ (.int .i32 st')) lo B C v rg L st' ∧ Below lo w (w.setCell ⟨B, 1, none⟩ (.int .i32 st')) := by
  refine ⟨⟨?_, ?_, ?_, h.lB, h.lC⟩, (Below.refl lo w).setCell (p := ⟨B, 1, none⟩) h.lB _⟩
  · rw [block_setCell h.block _]; rfl
  · obtain ⟨s, r, hc⟩ := h.bell
    exact ⟨s, r, by rw [Below.heap_setCell w ⟨B, 1, none⟩ _ C (fun e => h.neBC e.symm)]; exact hc⟩
  · exact h.owns.kept (grownBy_setCell w B 1 _) (.inr h.neRowB)
/-- The bell turned. -/
theorem Holds.bellword (h : Holds w lo B C v rg L st) (rg' : Bool) (s r : Nat) :
    Holds (w.setChan C 1 (bellBuf rg') false s r false) lo B C v rg' L st ∧ Below lo w (w.setChan C 1 (bellBuf rg') false s r false) := by
  obtain ⟨s0, r0, hc⟩ := h.bell
  refine ⟨⟨?_, ⟨s, r, heap_setChan w C _ _ _ _ _ _ (lt_size hc)⟩, ?_, h.lB, h.lC⟩, below_setChan (Below.refl lo w) h.lC _ _ _ _ _ _⟩
  · rw [(grownBy_setChan w C 1 (bellBuf rg') false s r false).block B (lt_size h.block) (fun e => h.neBC (by injection e))]; exact h.block
  · exact h.owns.kept (grownBy_setChan w C 1 (bellBuf rg') false s r false) (.inr h.neRowC)
end

theorem lock_c {w : World} {lo B C : Nat} {v : Value} {rg : Bool} {L : List Int} (h : Holds w lo B C v rg L 0) :
    Calls Try.prog 25 #[.pointer (some ⟨B, 1, none⟩)] w fun e w' => e = .returned (.tuple #[]) ∧ Holds w' lo B C v rg L 1 ∧ Below lo w w' :=
  (lock_free Try.muLib ⟨B, 1, none⟩ w (by rw [cell_of_row w B 1 _ _ _ h.block]; rfl) (free_of_block h.block)).mono fun e w' ⟨he, hw⟩ => ⟨he, by rw [hw]; exact h.lockword 1⟩
theorem unlock_c {w : World} {lo B C : Nat} {v : Value} {rg : Bool} {L : List Int} (h : Holds w lo B C v rg L 1) :
    Calls Try.prog 26 #[.pointer (some ⟨B, 1, none⟩)] w fun e w' => e = .returned (.tuple #[]) ∧ Holds w' lo B C v rg L 0 ∧ Below lo w w' :=
  (unlock_held Try.muLib ⟨B, 1, none⟩ w (by rw [cell_of_row w B 1 _ _ _ h.block]; rfl) (free_of_block h.block)).mono fun e w' ⟨he, hw⟩ => ⟨he, by rw [hw]; exact h.lockword 0⟩
theorem ring_c {w : World} {lo B C : Nat} {v : Value} {rg : Bool} {L : List Int} (h : Holds w lo B C v rg L 0) :
    Calls Try.prog 27 #[.pointer (some ⟨B, 0, none⟩)] w fun e w' => e = .returned (.tuple #[]) ∧ Holds w' lo B C v true L 0 ∧ Below lo w w' := by
  have hb : w.cell? ⟨B, 0, none⟩ = some (.chan (some C)) := by rw [cell_of_row w B 0 _ _ _ h.block]; rfl
  obtain ⟨s, r, hc⟩ := h.bell
  cases rg
  · exact (ring_room B C s r w hb hc).mono fun e w' ⟨he, hw⟩ => ⟨he, by rw [hw]; exact h.bellword true (s + 1) r⟩
  · exact (ring_full B C s r w hb hc).mono fun e w' ⟨he, hw⟩ => ⟨he, by rw [hw]; exact ⟨h, Below.refl _ _⟩⟩
theorem take_c {w : World} {lo B C : Nat} {v : Value} {rg : Bool} {L : List Int} (h : Holds w lo B C v rg L 0) :
    Calls Try.prog 20 #[.pointer (some ⟨B, 0, none⟩)] w fun e w' => e = .returned (.bool rg) ∧ Holds w' lo B C v false L 0 ∧ Below lo w w' := by
  have hb : w.cell? ⟨B, 0, none⟩ = some (.chan (some C)) := by rw [cell_of_row w B 0 _ _ _ h.block]; rfl
  obtain ⟨s, r, hc⟩ := h.bell
  cases rg
  · exact (take_none B C s r w hb hc).mono fun e w' ⟨he, hw⟩ => ⟨he, by rw [hw]; exact ⟨h, Below.refl _ _⟩⟩
  · exact (take_some B C s r w hb hc).mono fun e w' ⟨he, hw⟩ => ⟨he, by rw [hw]; exact h.bellword false s (r + 1)⟩

theorem one_news (w : World) (x : Int) : ∀ j u, [Value.int .u32 x][j]? = some u → (w.alloc (.cells #[.int .u32 x] 34)).cell? ((⟨w.heap.size, 0, none⟩ : Addr).add j) = some u :=
  World.news_of_block (cs := #[.int .u32 x]) (t := 34) (fr := (0, 0)) (by exact heap_alloc_new w _)
theorem one_cell (x : Int) : ∀ u ∈ [Value.int .u32 x], u.oneCell' = true := by
  intro u hu
  simp at hu
  subst hu
  rfl
/-- What the append leaves, and the commits behind the store. -/
theorem add_parts {w w1 : World} {lo B C g cap : Nat} {v : Value} {rg : Bool} {L : List Int} {x : Int} {o : Obj} (h : Holds w lo B C v rg L 1)
    (hown1 : w1.ownsRow lo 34 1 (.slice (some ⟨g, 0, none⟩) (L.length + 1) cap) (L.length + 1) (nums L ++ [.int .u32 x])) (hgrow : (w.alloc o).grownBy w1 v.ownBlock) :
    w1.cell? ⟨B, 3, none⟩ = some v ∧ w1.frozen? ⟨B, 3, none⟩ = false ∧
    Hid (Holds (w1.setCell ⟨B, 3, none⟩ (.slice (some ⟨g, 0, none⟩) (L.length + 1) cap)) lo B C (.slice (some ⟨g, 0, none⟩) (L.length + 1) cap) rg (L ++ [x]) 1 ∧
      Below lo w (w1.setCell ⟨B, 3, none⟩ (.slice (some ⟨g, 0, none⟩) (L.length + 1) cap))) := by
  obtain ⟨s, r, hc⟩ := h.bell
  have hBs := lt_size h.block
  have hCs := lt_size hc
  have hlB := h.lB
  have h1 : w1.heap[B]? = some (.cells #[.chan (some C), .int .i32 1, .int .u32 0, v] 59 (0, 0)) := by
    rw [hgrow.block B (by simp; omega) (fun e => h.neRowB e.symm), Below.heap_alloc w o B hBs]; exact h.block
  have h2 : w1.heap[C]? = some (.chan 1 (bellBuf rg) false s r false) := by
    rw [hgrow.block C (by simp; omega) (fun e => h.neRowC e.symm), Below.heap_alloc w o C hCs]; exact hc
  have hbel : Below lo w w1 := ((Below.refl lo w).alloc (by omega) o).grown hgrow (by simp; omega) (fun k hk => (h.owns.lt k hk).1)
  have hne : Value.ownBlock (.slice (some ⟨g, 0, none⟩) (L.length + 1) cap) ≠ some B := row_ne hown1 h1 (fun cur e => by injection e with _ e _; cases e)
  refine ⟨by rw [cell_of_row w1 B 3 _ _ _ h1]; rfl, free_of_block h1, ⟨?_, ⟨s, r, ?_⟩, ?_, h.lB, h.lC⟩, hbel.setCell (p := ⟨B, 3, none⟩) h.lB _⟩
  · rw [block_setCell h1 _]; rfl
  · rw [Below.heap_setCell w1 ⟨B, 3, none⟩ _ C (fun e => h.neBC e.symm)]; exact h2
  · have hl : (L ++ [x]).length = L.length + 1 := by simp
    have hf : nums (L ++ [x]) = nums L ++ [.int .u32 x] := by rw [nums_append]; rfl
    rw [hl, hf]
    exact hown1.kept (grownBy_setCell w1 B 3 _) (.inr hne)

set_option maxHeartbeats 1000000 in
theorem add_c {w : World} {lo B C : Nat} {v : Value} {rg : Bool} {L : List Int} (x : Int) (h : Holds w lo B C v rg L 0) (hL : L.length ≤ 10000) :
    Calls Try.prog 24 #[.pointer (some ⟨B, 0, none⟩), .int .u32 x] w fun e w' => e = .returned (.tuple #[]) ∧ ∃ v', Holds w' lo B C v' true (L ++ [x]) 0 ∧ Below lo w w' := by
  obtain ⟨i0, hi0, hz0, hz1, hz2⟩ := info_parts Try.info34
  have H0 : Hid (Holds w lo B C v rg L 0) := h
  clear h
  go_enter Try.func24, Try.ntmps24
  go_wp2_with fail
  refine (lock_c H0.out).mono ?_
  rintro e w1 ⟨rfl, h1, b1⟩
  have H1 : Hid (Holds w1 lo B C v rg L 1) := h1
  have L1 : Hid (Below lo w w1) := b1
  have hBs := lt_size h1.block
  have hlB := h1.lB
  have c3 : w1.cell? ⟨B, 3, none⟩ = some v := by rw [cell_of_row w1 B 3 _ _ _ h1.block]; rfl
  clear h1 b1 H0
  go_wp2_with (at_builtin; refine wpList_append_lies _ rfl (.tmp 12) (.tmp 14) 32 rfl lo 34 i0 (.int .u32 0) 1 4 Try.underlying32 hi0 hz0 hz1 hz2 rfl (by decide) v L.length (nums L) rfl (H1.out.owns.alloc _) ⟨w1.heap.size, 0, none⟩ 1 1 [.int .u32 x] rfl rfl (by exact one_news w1 x) (by exact one_cell x) (by omega) (by unfold maxLen; omega) (by omega) (by simp; omega) (w1.heap.size + 1) (by simp) ?_; intro g cap w2 hown hgrow hat hlt; obtain ⟨c3', f3', R⟩ := add_parts H1.out hown hgrow; clear hown hgrow hat hlt)
  refine (unlock_c R.out.1).mono ?_
  rintro e w3 ⟨rfl, h3, b3⟩
  have H3 : Hid (Holds w3 lo B C _ rg (L ++ [x]) 0) := h3
  have L3 : Hid (Below lo w w3) := L1.out.trans (R.out.2.trans b3)
  clear h3 b3 R L1 H1 c3 c3' f3'
  go_wp2_with fail
  refine (ring_c H3.out).mono ?_
  rintro e w4 ⟨rfl, h4, b4⟩
  have R4 : Hid (∃ v', Holds w4 lo B C v' true (L ++ [x]) 0 ∧ Below lo w w4) := ⟨_, h4, L3.out.trans b4⟩
  clear h4 b4 H3 L3
  go_wp2
  go_end0
  exact ⟨rfl, R4.out⟩

set_option maxHeartbeats 400000 in
theorem zzadd_c {w : World} {lo B C : Nat} {v : Value} {rg : Bool} {L : List Int} (x : Int) (h : Holds w lo B C v rg L 0) (hL : L.length ≤ 10000) :
    Calls Try.prog 16 #[.pointer (some ⟨B, 0, none⟩), .int .u32 x] w fun e w' => e = .returned (.tuple #[]) ∧ ∃ v', Holds w' lo B C v' true (L ++ [x]) 0 ∧ Below lo w w' := by
  have H0 : Hid (Holds w lo B C v rg L 0) := h
  clear h
  go_enter Try.func16, Try.ntmps16
  go_wp2_with fail
  refine (add_c x H0.out hL).mono ?_
  rintro e w1 ⟨rfl, h1⟩
  have R4 : Hid (∃ v', Holds w1 lo B C v' true (L ++ [x]) 0 ∧ Below lo w w1) := h1
  clear h1 H0
  go_wp2
  go_end0
  exact ⟨rfl, R4.out⟩

set_option maxHeartbeats 400000 in
theorem xids_c {w : World} {lo B C : Nat} {v : Value} {rg : Bool} {L : List Int} (h : Holds w lo B C v rg L 0) :
    Calls Try.prog 17 #[.pointer (some ⟨B, 0, none⟩)] w fun e w' => e = .returned v ∧ w' = w := by
  have c3 : w.cell? ⟨B, 3, none⟩ = some v := by rw [cell_of_row w B 3 _ _ _ h.block]; rfl
  clear h
  go_enter Try.func17, Try.ntmps17
  go_wp2
  go_ret
  exact ⟨rfl, rfl⟩

theorem bellBuf_size (rg : Bool) : (bellBuf rg).size = if rg = true then 1 else 0 := by cases rg <;> rfl
set_option maxHeartbeats 400000 in
theorem ringing_c {w : World} {lo B C : Nat} {v : Value} {rg : Bool} {L : List Int} (h : Holds w lo B C v rg L 0) (q : Int) (hq : q = if rg = true then 1 else 0) :
    Calls Try.prog 18 #[.pointer (some ⟨B, 0, none⟩)] w fun e w' => e = .returned (.int .i64 q) ∧ w' = w := by
  have c0 : w.cell? ⟨B, 0, none⟩ = some (.chan (some C)) := by rw [cell_of_row w B 0 _ _ _ h.block]; rfl
  obtain ⟨s, r, hc⟩ := h.bell
  have hlen := fun ty => run_len_chan (P := Try.prog) 51 ty Try.underlying51 hc
  have hs : ((bellBuf rg).size : Int) = q := by rw [bellBuf_size, hq]; cases rg <;> rfl
  clear h hc hq
  go_enter Try.func18, Try.ntmps18
  go_wp2
  go_ret
  exact ⟨rfl, rfl⟩

set_option maxHeartbeats 400000 in
theorem new_quiet (ao : Option Addr) (n c : Nat) (w : World) :
    Calls Try.prog 15 #[.slice ao n c, .bool false] w fun e w' => e = .returned (.pointer (some ⟨w.heap.size + 1, 0, none⟩)) ∧
      w' = (w.alloc (.chan 1 #[] false 0 0 false)).alloc (.cells #[.chan (some w.heap.size), .int .i32 0, .int .u32 0, .slice ao n c] 59) := by
  have hmc := mk1
  have hbd := build_any
  go_enter Try.func15, Try.ntmps15
  go_wp2
  go_ret
  exact ⟨rfl, rfl⟩

/-- The two blocks of a new one. -/
theorem new_parts {w : World} {lo : Nat} {ao : Option Addr} {n c : Nat} {L : List Int} (h : w.ownsRow lo 34 1 (.slice ao n c) L.length (nums L)) (hlo : lo ≤ w.heap.size) :
    Holds ((w.alloc (.chan 1 #[] false 0 0 false)).alloc (.cells #[.chan (some w.heap.size), .int .i32 0, .int .u32 0, .slice ao n c] 59)) lo (w.heap.size + 1) w.heap.size (.slice ao n c) false L 0 ∧
      Below w.heap.size w ((w.alloc (.chan 1 #[] false 0 0 false)).alloc (.cells #[.chan (some w.heap.size), .int .i32 0, .int .u32 0, .slice ao n c] 59)) := by
  refine ⟨⟨?_, ⟨0, 0, ?_⟩, (h.alloc _).alloc _, by omega, hlo⟩, ((Below.refl _ w).alloc (Nat.le_refl _) _).alloc (by simp) _⟩
  · have := heap_alloc_new (w.alloc (.chan 1 #[] false 0 0 false)) (.cells #[.chan (some w.heap.size), .int .i32 0, .int .u32 0, .slice ao n c] 59)
    simpa only [World.size_alloc] using this
  · rw [Below.heap_alloc _ _ _ (by simp)]
    exact heap_alloc_new w _

theorem new_c {w : World} {lo : Nat} {ao : Option Addr} {n c : Nat} {L : List Int} (rg : Bool) (h : w.ownsRow lo 34 1 (.slice ao n c) L.length (nums L)) (hlo : lo ≤ w.heap.size) :
    Calls Try.prog 15 #[.slice ao n c, .bool rg] w fun e w' => e = .returned (.pointer (some ⟨w.heap.size + 1, 0, none⟩)) ∧ Holds w' lo (w.heap.size + 1) w.heap.size (.slice ao n c) rg L 0 ∧ Below lo w w' := by
  obtain ⟨hh, hb⟩ := new_parts h hlo
  cases rg
  · exact (new_quiet ao n c w).mono fun e w' ⟨he, hw⟩ => ⟨he, by rw [hw]; exact ⟨hh, hb.mono hlo⟩⟩
  · refine (new_rung ao n c w).mono fun e w' ⟨he, hw⟩ => ⟨he, ?_⟩
    rw [hw]
    exact ⟨(hh.bellword true 1 0).1, (hb.mono hlo).trans (hh.bellword true 1 0).2⟩
end Go.Proofs.Qxb6615596a.Bell
