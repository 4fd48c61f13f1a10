/-
  THE WAY AS THE PLACEMENT HAS IT, and the walk of its GoOnWithout (20). By an AI agent, Nov 2026.
-/
import Derived.Test.Qxb6615722aMaps
import Derived.Test.Qxb6615722aDel2
import Derived.Deep.RegionWith
import Derived.Deep.DeepCutAuto
import Derived.Deep.Cut
namespace Go.Proofs.Qxb6615722a.AsWay
open Go.RowKit
set_option linter.unusedVariables false

/-- The blocks that a way's own methods write: the way, its walk, the walk's map. -/
def hotOf (B K M : Nat) : Nat → Prop := fun k => k = B ∨ k = K ∨ k = M
def WalkOut (hot : Nat → Prop) (w : World) (K M : Nat) (p : Value) : Option (List ByteArray × List ByteArray) → Prop
  | none => p = .pointer none
  | some q => p = .pointer (some ⟨K, 0, none⟩) ∧ ∃ ca cu, w.heap[K]? = some (.cells #[.map (some M), ca, cu] 48 (0, 0)) ∧ StrRow hot w ca q.2 ∧ MapAt w M q.1
theorem WalkOut.but {hot : Nat → Prop} {w w' : World} {K M : Nat} {p : Value} {q : Option (List ByteArray × List ByteArray)} (h : WalkOut hot w K M p q) (hb : But hot w w') (hKM : q ≠ none → w'.heap[K]? = w.heap[K]? ∧ w'.heap[M]? = w.heap[M]?) : WalkOut hot w' K M p q := by
  cases q with
  | none => exact h
  | some q =>
    obtain ⟨hp, ca, cu, h1, h2, h3⟩ := h
    obtain ⟨hK, hM⟩ := hKM (by simp)
    exact ⟨hp, ca, cu, hK.trans h1, h2.but hb, h3.of_block hM⟩
/-- The ten cells of a way hold s. -/
structure Row (hot : Nat → Prop) (K M : Nat) (w : World) (s : Out) (c0 c1 c2 c3 c4 c5 c6 c8 c9 : Value) : Prop where
  best : BestAt hot w outCells c0 s.best
  rem : OptRow hot w outCells c1 s.rem
  frm : StrRow hot w c2 s.frm
  reached : StrRow hot w c3 s.reached
  tried : StrRow hot w c4 s.tried
  busy : StrRow hot w c5 s.busy
  unfit : StrRow hot w c6 s.unfit
  walk : WalkOut hot w K M c8 s.walk
  unr : StrRow hot w c9 s.unr
theorem Row.but {hot : Nat → Prop} {K M : Nat} {w w' : World} {s : Out} {c0 c1 c2 c3 c4 c5 c6 c8 c9 : Value} (h : Row hot K M w s c0 c1 c2 c3 c4 c5 c6 c8 c9) (hb : But hot w w') (hKM : s.walk ≠ none → w'.heap[K]? = w.heap[K]? ∧ w'.heap[M]? = w.heap[M]?) : Row hot K M w' s c0 c1 c2 c3 c4 c5 c6 c8 c9 :=
  ⟨h.best.but hb, h.rem.but hb, h.frm.but hb, h.reached.but hb, h.tried.but hb, h.busy.but hb, h.unfit.but hb, h.walk.but hb hKM, h.unr.but hb⟩
def WayOut (hot : Nat → Prop) (B K M : Nat) (w : World) (s : Out) : Prop :=
  ∃ c0 c1 c2 c3 c4 c5 c6 c8 c9, w.heap[B]? = some (.cells #[c0, c1, c2, c3, c4, c5, c6, .int .i64 s.jumps, c8, c9] 30 (0, 0)) ∧ Row hot K M w s c0 c1 c2 c3 c4 c5 c6 c8 c9
theorem WayOut.lt {hot : Nat → Prop} {B K M : Nat} {w : World} {s : Out} (h : WayOut hot B K M w s) : B < w.heap.size := by
  obtain ⟨c0, c1, c2, c3, c4, c5, c6, c8, c9, h, _⟩ := h
  exact lt_size h
/-- One cell of the way turned; of what is hot nothing else. -/
theorem Row.step {hot : Nat → Prop} {B K M : Nat} {W0 w1 : World} {s : Out} {c0 c1 c2 c3 c4 c5 c6 c8 c9 : Value} {cs : Array Value} (hr : Row hot K M W0 s c0 c1 c2 c3 c4 c5 c6 c8 c9) (hB : W0.heap[B]? = some (.cells cs 30 (0, 0))) (hb1 : Below W0.heap.size W0 w1) (hsub : ∀ k, hotOf B K M k → hot k) (hap : s.walk ≠ none → B ≠ K ∧ B ≠ M ∧ K ≠ M) (hK : K < W0.heap.size) (hM : M < W0.heap.size)
    (j : Nat) (u : Value) : Row hot K M (w1.setCell ⟨B, j, none⟩ u) s c0 c1 c2 c3 c4 c5 c6 c8 c9 ∧ But (hotOf B K M) W0 (w1.setCell ⟨B, j, none⟩ u) ∧ (w1.setCell ⟨B, j, none⟩ u).heap[B]? = some (.cells (cs.setIfInBounds j u) 30 (0, 0)) ∧ But hot w1 (w1.setCell ⟨B, j, none⟩ u) := by
  have hbut : But (hotOf B K M) W0 (w1.setCell ⟨B, j, none⟩ u) := (But.of_below hb1).setCell (p := ⟨B, j, none⟩) (.inr (.inl rfl)) u
  refine ⟨hr.but (hbut.mono (fun k _ h => hsub k h)) (fun hq => ⟨?_, ?_⟩), hbut, block_setCell ((hb1.block B (lt_size hB)).trans hB) u, (But.refl _ w1).setCell (p := ⟨B, j, none⟩) (.inr (hsub B (.inl rfl))) u⟩
  · exact (Below.heap_setCell w1 ⟨B, j, none⟩ u K (fun e => (hap hq).1 e.symm)).trans (hb1.block K hK)
  · exact (Below.heap_setCell w1 ⟨B, j, none⟩ u M (fun e => (hap hq).2.1 e.symm)).trans (hb1.block M hM)

theorem WayOut.step9 {hot : Nat → Prop} {B K M : Nat} {W0 w1 : World} {s : Out} {c0 c1 c2 c3 c4 c5 c6 c8 c9 : Value} (hr : Row hot K M W0 s c0 c1 c2 c3 c4 c5 c6 c8 c9) (hB : W0.heap[B]? = some (.cells #[c0, c1, c2, c3, c4, c5, c6, .int .i64 s.jumps, c8, c9] 30 (0, 0))) (hb1 : Below W0.heap.size W0 w1) (hsub : ∀ k, hotOf B K M k → hot k) (hap : s.walk ≠ none → B ≠ K ∧ B ≠ M ∧ K ≠ M) (hK : K < W0.heap.size) (hM : M < W0.heap.size)
    {u : Value} {l : List ByteArray} (hu : StrRow hot w1 u l) : WayOut hot B K M (w1.setCell ⟨B, 9, none⟩ u) { s with unr := l } ∧ But (hotOf B K M) W0 (w1.setCell ⟨B, 9, none⟩ u) := by
  obtain ⟨h1, h2, h3, h4⟩ := hr.step hB hb1 hsub hap hK hM 9 u
  exact ⟨⟨c0, c1, c2, c3, c4, c5, c6, c8, u, h3, h1.best, h1.rem, h1.frm, h1.reached, h1.tried, h1.busy, h1.unfit, h1.walk, hu.but h4⟩, h2⟩
theorem WayOut.step0 {hot : Nat → Prop} {B K M : Nat} {W0 w1 : World} {s : Out} {c0 c1 c2 c3 c4 c5 c6 c8 c9 : Value} (hr : Row hot K M W0 s c0 c1 c2 c3 c4 c5 c6 c8 c9) (hB : W0.heap[B]? = some (.cells #[c0, c1, c2, c3, c4, c5, c6, .int .i64 s.jumps, c8, c9] 30 (0, 0))) (hb1 : Below W0.heap.size W0 w1) (hsub : ∀ k, hotOf B K M k → hot k) (hap : s.walk ≠ none → B ≠ K ∧ B ≠ M ∧ K ≠ M) (hK : K < W0.heap.size) (hM : M < W0.heap.size) :
    WayOut hot B K M (w1.setCell ⟨B, 0, none⟩ (.pointer none)) { s with best := none } ∧ But (hotOf B K M) W0 (w1.setCell ⟨B, 0, none⟩ (.pointer none)) := by
  obtain ⟨h1, h2, h3, h4⟩ := hr.step hB hb1 hsub hap hK hM 0 (.pointer none)
  exact ⟨⟨.pointer none, c1, c2, c3, c4, c5, c6, c8, c9, h3, rfl, h1.rem, h1.frm, h1.reached, h1.tried, h1.busy, h1.unfit, h1.walk, h1.unr⟩, h2⟩
theorem WayOut.step1 {hot : Nat → Prop} {B K M : Nat} {W0 w1 : World} {s : Out} {c0 c1 c2 c3 c4 c5 c6 c8 c9 : Value} (hr : Row hot K M W0 s c0 c1 c2 c3 c4 c5 c6 c8 c9) (hB : W0.heap[B]? = some (.cells #[c0, c1, c2, c3, c4, c5, c6, .int .i64 s.jumps, c8, c9] 30 (0, 0))) (hb1 : Below W0.heap.size W0 w1) (hsub : ∀ k, hotOf B K M k → hot k) (hap : s.walk ≠ none → B ≠ K ∧ B ≠ M ∧ K ≠ M) (hK : K < W0.heap.size) (hM : M < W0.heap.size)
    {u : Value} {l : List Opt} (hu : OptRow hot w1 outCells u l) : WayOut hot B K M (w1.setCell ⟨B, 1, none⟩ u) { s with rem := l } ∧ But (hotOf B K M) W0 (w1.setCell ⟨B, 1, none⟩ u) := by
  obtain ⟨h1, h2, h3, h4⟩ := hr.step hB hb1 hsub hap hK hM 1 u
  exact ⟨⟨c0, u, c2, c3, c4, c5, c6, c8, c9, h3, h1.best, hu.but h4, h1.frm, h1.reached, h1.tried, h1.busy, h1.unfit, h1.walk, h1.unr⟩, h2⟩
theorem WayOut.stepW {hot : Nat → Prop} {B K M : Nat} {W w5 : World} {s : Out} {c0 c1 c2 c3 c4 c5 c6 c8 c9 : Value} (hr : Row hot K M W s c0 c1 c2 c3 c4 c5 c6 c8 c9) (hB : W.heap[B]? = some (.cells #[c0, c1, c2, c3, c4, c5, c6, .int .i64 s.jumps, c8, c9] 30 (0, 0))) (hg : W.grownBy w5 (some M)) (hsub : ∀ k, hotOf B K M k → hot k) (hBM : B ≠ M) (hKM : K ≠ M)
    {x : ByteArray} {q : List ByteArray × List ByteArray} (hq : s.walk = some q) (hm : MapAt w5 M (q.1 ++ [x])) : WayOut hot B K M w5 { s with walk := s.walk.map (fun q => (q.1 ++ [x], q.2)) } ∧ But (hotOf B K M) W w5 := by
  have hb0 : But (hotOf B K M) W w5 := (But.refl _ W).grown hg (fun k hk => by injection hk with hk; subst hk; exact .inr (.inr (.inr rfl)))
  have hb : But hot W w5 := hb0.mono (fun k _ h => hsub k h)
  have hwk := hr.walk
  rw [hq] at hwk
  obtain ⟨hp, ca, cu, h1, h2, h3⟩ := hwk
  refine ⟨⟨c0, c1, c2, c3, c4, c5, c6, c8, c9, (hg.block B (lt_size hB) (fun e => hBM (by injection e))).trans hB, hr.best.but hb, hr.rem.but hb, hr.frm.but hb, hr.reached.but hb, hr.tried.but hb, hr.busy.but hb, hr.unfit.but hb, ?_, hr.unr.but hb⟩, hb0⟩
  show WalkOut hot w5 K M c8 (s.walk.map (fun q => (q.1 ++ [x], q.2)))
  rw [hq]
  exact ⟨hp, ca, cu, (hg.block K (lt_size h1) (fun e => hKM (by injection e))).trans h1, h2.but hb, hm⟩
theorem WayOut.stepN {hot : Nat → Prop} {B K M : Nat} {W : World} {s : Out} {f : List ByteArray × List ByteArray → List ByteArray × List ByteArray} (h : WayOut hot B K M W s) (hq : s.walk = none) : WayOut hot B K M W { s with walk := s.walk.map f } := by
  have e : { s with walk := s.walk.map f } = s := by
    cases s; simp only at hq; subst hq; rfl
  rw [e]; exact h
/-- Is the best node this one? -/
def hit (x : ByteArray) : Option Opt → Bool
  | none => false
  | some o => decide (o.name = x)
theorem dropBest_hit {x : ByteArray} {b : Option Opt} (h : hit x b = true) : dropBest x b = none := by
  cases b with
  | none => rfl
  | some o => exact if_pos (of_decide_eq_true h)
theorem dropBest_miss {x : ByteArray} {b : Option Opt} (h : hit x b = false) : dropBest x b = b := by
  cases b with
  | none => rfl
  | some o => exact if_neg (of_decide_eq_false h)
theorem goOn_new {s : Out} {x : ByteArray} (h : inS x s.unr = false) : goOn s x = { s with best := dropBest x s.best, rem := keep x s.rem, walk := s.walk.map (fun q => (q.1 ++ [x], q.2)), unr := addNew s.unr x } := by
  have hn : ¬ inS x s.unr = true := by rw [h]; decide
  unfold goOn addNew keep
  rw [if_neg hn, if_neg hn]
theorem WayOut.drewN {hot : Nat → Prop} {B K M : Nat} {w : World} {s : Out} (h : WayOut hot B K M w s) (n : Nat) : WayOut hot B K M (w.drewN n) s := by
  obtain ⟨c0, c1, c2, c3, c4, c5, c6, c8, c9, hb, hr⟩ := h
  exact ⟨c0, c1, c2, c3, c4, c5, c6, c8, c9, hb, hr.but ((But.refl _ w).drewN n) (fun _ => ⟨rfl, rfl⟩)⟩
theorem OptRow.form' {hot : Nat → Prop} {w : World} {f : Opt → List Value} {v : Value} {os : List Opt} (h : OptRow hot w f v os) : ∃ a c, v = .slice a os.length c ∧ OptRow hot w f (.slice a os.length c) os := by
  obtain ⟨a, c, rfl, h'⟩ := h
  exact ⟨a, c, rfl, a, c, rfl, h'⟩
theorem cellB {w : World} {B j : Nat} {cs : Array Value} {u : Value} (h : w.heap[B]? = some (.cells cs 30 (0, 0))) (hu : cs[j]? = some u) : w.cell? ⟨B, j, none⟩ = some u := by rw [cell_of_row w B _ _ _ _ h]; exact hu

set_option maxRecDepth 100000 in
set_option maxHeartbeats 4000000 in
theorem goOn_any {hot : Nat → Prop} (B K M : Nat) (s : Out) (x : ByteArray) (w : World) (h : WayOut hot B K M w s) (hsub : ∀ k, hotOf B K M k → hot k) (hlt : ∀ k, hot k → k < w.heap.size) (hap : s.walk ≠ none → B ≠ K ∧ B ≠ M ∧ K ≠ M) (hK : K < w.heap.size) (hM : M < w.heap.size) (hx : x.size ≤ maxLen)
    (h1 : s.unr.length ≤ 1000000) (h2 : s.rem.length ≤ 1000000) (h3 : ∀ q, s.walk = some q → q.1.length ≤ 1000000) :
    Calls Try.prog 20 #[.pointer (some ⟨B, 0, none⟩), .string x] w fun e w' => (∃ b, e = .returned (.bool b)) ∧ WayOut hot B K M w' (goOn s x) ∧ But (hotOf B K M) w w' := by
  have hB := h.lt
  have HLT : Hid (∀ k, hot k → k < w.heap.size) := hlt
  have HSUB : Hid (∀ k, hotOf B K M k → hot k) := hsub
  have HL : Hid (But (hotOf B K M) w (w.alloc (.cells #[.string x] 9))) := (But.refl _ w).alloc _
  have HW : Hid (WayOut hot B K M (w.alloc (.cells #[.string x] 9)) s) := by
    obtain ⟨c0, c1, c2, c3, c4, c5, c6, c8, c9, hb, hr⟩ := h
    exact ⟨c0, c1, c2, c3, c4, c5, c6, c8, c9, (Below.heap_alloc w _ B hB).trans hb, hr.but (HL.out.mono (fun k _ h => hsub k h)) (fun _ => ⟨Below.heap_alloc w _ K hK, Below.heap_alloc w _ M hM⟩)⟩
  have HN : Hid ((w.alloc (.cells #[.string x] 9)).cell? ⟨w.heap.size, 0, none⟩ = some (.string x)) := by show _ = _; simp [World.cell?_alloc_new]
  have HS : Hid ((w.alloc (.cells #[.string x] 9)).heap.size = w.heap.size + 1) := by show _ = _; simp
  clear h hlt hsub
  go_enter Try.func20, Try.ntmps20
  go_upto_region 1 with fail
  generalize w.alloc (.cells #[.string x] 9) = W0 at *
  have hsz := HS.out
  go_cut [4] (fun ok wc => ok = .bool (!inS x s.unr) ∧ WayOut hot B K M wc { s with unr := addNew s.unr x } ∧ But (hotOf B K M) W0 wc)
  case first =>
    obtain ⟨c0, c1, c2, c3, c4, c5, c6, c8, c9, hb, hr⟩ := HW.out
    obtain ⟨a9, d9, rfl, hu⟩ := hr.unr.form
    have g9 := cellB (j := 9) hb rfl
    have HB : Hid (W0.heap[B]? = some (.cells #[c0, c1, c2, c3, c4, c5, c6, .int .i64 s.jumps, c8, .slice a9 s.unr.length d9] 30 (0, 0))) := hb
    have HR : Hid (Row hot K M W0 s c0 c1 c2 c3 c4 c5 c6 c8 (.slice a9 s.unr.length d9)) := hr
    have HU : Hid (StrRow hot W0.drew (.slice a9 s.unr.length d9) s.unr) := hu.but (But.refl _ _).drew
    have HH : Hid (∀ k, hot k → k < W0.drew.heap.size) := fun k hk => by
      show k < W0.heap.size
      have := HLT.out k hk
      omega
    have gn := HN.out
    clear hb hr hu
    go_region_with (go_at_call 21; refine (goOnS_any a9 s.unr.length d9 s.unr x _ HU.out h1 HH.out).mono ?_; rintro e w1 ⟨v1, rfl, hv1, hb1⟩; obtain ⟨a1, d1, rfl, hv1⟩ := hv1.form; have HV : Hid (StrRow hot w1 (.slice a1 (addNew s.unr x).length d1) (addNew s.unr x)) := hv1; have HB1 : Hid (Below W0.heap.size W0 w1) := ((Below.refl _ W0).drew).trans hb1; have hl9 : w1.cell? ⟨B, 9, none⟩ = some (.slice a9 s.unr.length d9) := (HB1.out.cell (p := ⟨B, 9, none⟩) (by exact lt_size HB.out)).trans g9; have hf9 : w1.frozen? ⟨B, 9, none⟩ = false := free_of_block ((HB1.out.block B (lt_size HB.out)).trans HB.out); clear hv1 hb1)
    all_goals (go_wp2_with fail; go_meet)
    all_goals (refine ⟨rfl, ?_⟩; exact WayOut.step9 HR.out HB.out HB1.out HSUB.out hap (by omega) (by omega) HV.out)
  case rest =>
    obtain ⟨h4, hw1, hb1⟩ := hcut
    have HW1 : Hid (WayOut hot B K M wc { s with unr := addNew s.unr x }) := hw1
    have HL1 : Hid (But (hotOf B K M) W0 wc) := hb1
    clear hw1 hb1 HW
    have HNh : Hid (¬ hotOf B K M w.heap.size) := fun hk => by rcases hk with h | h | h <;> omega
    have hsz1 := HL1.out.size
    by_cases hin : inS x s.unr = true
    · have R : Hid (WayOut hot B K M wc (goOn s x) ∧ But (hotOf B K M) w wc) := by
        refine ⟨?_, HL.out.trans HL1.out⟩
        have e1 : goOn s x = s := if_pos hin
        have e2 : addNew s.unr x = s.unr := if_pos hin
        have := HW1.out
        rw [e2] at this
        rw [e1]; exact this
      have h4' : u4 = .bool false := by rw [h4, hin]; rfl
      subst h4'
      clear HL HW1 HL1 HN HNh h4
      go_wp2
      go_ret
      exact ⟨⟨_, rfl⟩, R.out.1, R.out.2⟩
    · have hin' : inS x s.unr = false := by simpa using hin
      have HG := goOn_new hin'
      have HG' : Hid (goOn s x = _) := HG
      have gn : wc.cell? ⟨w.heap.size, 0, none⟩ = some (.string x) := (HL1.out.cell (p := ⟨w.heap.size, 0, none⟩) (by show w.heap.size < _; omega) HNh.out).trans HN.out
      have h4' : u4 = .bool true := by rw [h4, hin']; rfl
      subst h4'
      clear hin HG h4 hin'
      go_upto_region 4 with fail
      go_cut [34] (fun c wd => c = .bool (hit x s.best) ∧ ∃ n, wd = wc.drewN n)
      case first =>
        obtain ⟨c0, c1, c2, c3, c4, c5, c6, c8, c9, hb, hr⟩ := HW1.out
        have g0 := cellB (j := 0) hb rfl
        obtain ⟨bo, hbo⟩ : ∃ bo, s.best = bo := ⟨_, rfl⟩
        have HBO : Hid (s.best = bo) := hbo
        have hbest : BestAt hot wc outCells c0 bo := by rw [← hbo]; exact hr.best
        clear hb hr hbo
        cases bo with
        | none =>
          have hbest' : c0 = .pointer none := hbest
          subst hbest'
          clear hbest
          go_quiet (fail)
          go_wp2
          go_meet
          exact ⟨by rw [HBO.out]; rfl, _, rfl⟩
        | some o =>
          obtain ⟨b, off, rfl, hlt, hn, hc⟩ := hbest
          have g1 : wc.cell? ⟨b, off, none⟩ = some (.string o.name) := hc.at 0 rfl
          clear hc
          by_cases hox : o.name = x
          · have HD : Hid (hit x (some o) = true) := decide_eq_true hox
            rw [hox] at g1
            clear hox
            go_quiet (fail)
            go_wp2
            go_meet
            exact ⟨by rw [HBO.out, HD.out], _, rfl⟩
          · have HD : Hid (hit x (some o) = false) := decide_eq_false hox
            have ht : (o.name.toList == x.toList) = false := (Lib.bytes_beq_false_iff _ _).2 hox
            clear hox
            go_quiet (fail)
            go_wp2
            go_meet
            exact ⟨by rw [HBO.out, HD.out], _, rfl⟩
      case rest =>
        obtain ⟨rfl, nd, rfl⟩ := hcut
        have HW2 : Hid (WayOut hot B K M (wc.drewN nd) { s with unr := addNew s.unr x }) := HW1.out.drewN nd
        have HL2 : Hid (But (hotOf B K M) W0 (wc.drewN nd)) := HL1.out.drewN nd
        have hszd : (wc.drewN nd).heap.size = wc.heap.size := rfl
        clear HW1 HL1 gn
        generalize wc.drewN nd = wd at *
        go_upto_if 34 with fail
        go_cut [] (fun we => WayOut hot B K M we { s with unr := addNew s.unr x, best := dropBest x s.best } ∧ But (hotOf B K M) W0 we)
        case first =>
          generalize hh : hit x s.best = hv
          cases hv with
          | true =>
            have R := dropBest_hit hh
            clear hh
            obtain ⟨c0, c1, c2, c3, c4, c5, c6, c8, c9, hb, hr⟩ := HW2.out
            have g0 := cellB (j := 0) hb rfl
            have f0 : wd.frozen? ⟨B, 0, none⟩ = false := free_of_block hb
            have HR : Hid (WayOut hot B K M (wd.setCell ⟨B, 0, none⟩ (.pointer none)) { s with unr := addNew s.unr x, best := dropBest x s.best } ∧ But (hotOf B K M) wd (wd.setCell ⟨B, 0, none⟩ (.pointer none))) := by
              rw [R]; exact WayOut.step0 hr hb (Below.refl _ _) HSUB.out hap (by omega) (by omega)
            clear hb hr HW2 R
            go_wp2
            go_meet
            exact ⟨HR.out.1, HL2.out.trans HR.out.2⟩
          | false =>
            have HR : Hid (WayOut hot B K M wd { s with unr := addNew s.unr x, best := dropBest x s.best }) := by rw [dropBest_miss hh]; exact HW2.out
            clear hh HW2
            go_wp2
            go_meet
            exact ⟨HR.out, HL2.out⟩
        case rest =>
          obtain ⟨hw3, hb3⟩ := hcut
          have hsz3 := hb3.size
          obtain ⟨c0, c1, c2, c3, c4, c5, c6, c8, c9, hb, hr⟩ := hw3
          obtain ⟨a1, d1, rfl, h1r⟩ := hr.rem.form'
          have g1 := cellB (j := 1) hb rfl
          have HB : Hid (wc.heap[B]? = some (.cells #[c0, .slice a1 s.rem.length d1, c2, c3, c4, c5, c6, .int .i64 s.jumps, c8, c9] 30 (0, 0))) := hb
          have HR : Hid (Row hot K M wc { s with unr := addNew s.unr x, best := dropBest x s.best } c0 (.slice a1 s.rem.length d1) c2 c3 c4 c5 c6 c8 c9) := hr
          have H1R : Hid (OptRow hot wc outCells (.slice a1 s.rem.length d1) s.rem) := h1r
          have HL3 : Hid (But (hotOf B K M) W0 wc) := hb3
          have HA : Hid (wc.cell? ⟨w.heap.size, 0, none⟩ = some (.string x)) := (hb3.cell (p := ⟨w.heap.size, 0, none⟩) (by show w.heap.size < _; omega) HNh.out).trans HN.out
          have HH : Hid (∀ k, hot k → k < wc.heap.size) := fun k hk => by
            have := HLT.out k hk
            omega
          clear hb hr h1r hb3 HW2 HL2
          go_upto_region 7 with (first
            | (go_at_call 23; refine (cloneO_any a1 s.rem.length d1 s.rem wc H1R.out h2).mono ?_; rintro e w2 ⟨v2, rfl, hown2, hb2⟩; have HO2 : Hid (w2.ownsRow wc.heap.size 45 6 v2 s.rem.length (flatO s.rem)) := hown2; have HB2 : Hid (Below wc.heap.size wc w2) := hb2; have HA2 : Hid (w2.cell? ⟨w.heap.size, 0, none⟩ = some (.string x)) := (hb2.cell (p := ⟨w.heap.size, 0, none⟩) (by show w.heap.size < _; omega)).trans HA.out; have hsz2 := hb2.size; clear hown2 hb2)
            | (go_at_call 22; refine (delFunc_any (hot := hot) wc.heap.size v2 s.rem ⟨w.heap.size, 0, none⟩ x w2 HO2.out hsz2 h2 HA2.out (by show w.heap.size < _; omega) HH.out).mono ?_; rintro e w3 ⟨v3, rfl, hrow3, hb3⟩; obtain ⟨a3, d3, rfl, hrow3⟩ := hrow3.form'; have HR3 : Hid (OptRow hot w3 outCells (.slice a3 (keep x s.rem).length d3) (keep x s.rem)) := hrow3; have HB3 : Hid (Below wc.heap.size wc w3) := HB2.out.trans hb3; have hl1 : w3.cell? ⟨B, 1, none⟩ = some (.slice a1 s.rem.length d1) := (HB3.out.cell (p := ⟨B, 1, none⟩) (by exact lt_size HB.out)).trans g1; have hf1 : w3.frozen? ⟨B, 1, none⟩ = false := free_of_block ((HB3.out.block B (lt_size HB.out)).trans HB.out); clear hrow3 hb3))
          have HF : Hid (WayOut hot B K M (w3.setCell ⟨B, 1, none⟩ (.slice a3 (keep x s.rem).length d3)) { s with unr := addNew s.unr x, best := dropBest x s.best, rem := keep x s.rem } ∧ But (hotOf B K M) wc (w3.setCell ⟨B, 1, none⟩ (.slice a3 (keep x s.rem).length d3))) := WayOut.step1 HR.out HB.out HB3.out HSUB.out hap (by omega) (by omega) HR3.out
          clear HB HR HB3 HR3 HO2 HB2 HA2 H1R hl1 hf1 g1
          generalize w3.setCell ⟨B, 1, none⟩ (.slice a3 (keep x s.rem).length d3) = w4 at *
          obtain ⟨c0, c1, c2, c3, c4, c5, c6, c8, c9, hb, hr⟩ := HF.out.1
          have g8 := cellB (j := 8) hb rfl
          have hsz4 := HF.out.2.size
          have gn : w4.cell? ⟨w.heap.size, 0, none⟩ = some (.string x) := (HF.out.2.cell (p := ⟨w.heap.size, 0, none⟩) (by show w.heap.size < _; omega) HNh.out).trans HA.out
          have HB : Hid (w4.heap[B]? = some (.cells #[c0, c1, c2, c3, c4, c5, c6, .int .i64 s.jumps, c8, c9] 30 (0, 0))) := hb
          have HR : Hid (Row hot K M w4 { s with unr := addNew s.unr x, best := dropBest x s.best, rem := keep x s.rem } c0 c1 c2 c3 c4 c5 c6 c8 c9) := hr
          have HALL : Hid (But (hotOf B K M) w w4) := (HL.out.trans HL3.out).trans HF.out.2
          have HF1 : Hid (WayOut hot B K M w4 { s with unr := addNew s.unr x, best := dropBest x s.best, rem := keep x s.rem }) := HF.out.1
          have hwk := hr.walk
          clear hb hr HF HL HL3 HA HN
          obtain ⟨wk, hw⟩ : ∃ wk, s.walk = wk := ⟨_, rfl⟩
          cases wk with
          | none =>
            have hwk' : c8 = .pointer none := by
              have : WalkOut hot w4 K M c8 s.walk := hwk
              rw [hw] at this; exact this
            subst hwk'
            have R : Hid (WayOut hot B K M w4 (goOn s x)) := by rw [HG'.out]; exact HF1.out.stepN (s := { s with unr := addNew s.unr x, best := dropBest x s.best, rem := keep x s.rem }) hw
            clear hwk hw HR HB HF1 HG'
            go_wp2
            go_ret
            exact ⟨.inr rfl, R.out, HALL.out⟩
          | some q =>
            have hwk' : WalkOut hot w4 K M c8 (some q) := by
              have : WalkOut hot w4 K M c8 s.walk := hwk
              rw [hw] at this; exact this
            obtain ⟨rfl, ca, cu, hk1, hk2, hk3⟩ := hwk'
            have HK1 : Hid (w4.drew.heap[K]? = some (.cells #[.map (some M), ca, cu] 48 (0, 0))) := hk1
            have HK3 : Hid (MapAt w4.drew M q.1) := hk3
            have HQ : Hid (s.walk = some q) := hw
            have h3' := h3 q hw
            obtain ⟨hBK, hBM, hKM⟩ := hap (by rw [hw]; simp)
            have HR' : Hid (Row hot K M w4.drew { s with unr := addNew s.unr x, best := dropBest x s.best, rem := keep x s.rem } c0 c1 c2 c3 c4 c5 c6 (.pointer (some ⟨K, 0, none⟩)) c9) := HR.out.but (But.refl _ _).drew (fun _ => ⟨rfl, rfl⟩)
            clear hwk hw hk1 hk2 hk3 HF1 HR h3
            go_upto_region 8 with fail
            go_region_with (go_at_call 25; refine (visit_any K M ca cu q.1 x _ HK1.out HK3.out hx h3').mono ?_; rintro e w5 ⟨rfl, hm5, hg5⟩; have R : Hid (WayOut hot B K M w5 (goOn s x) ∧ But (hotOf B K M) w w5) := (by rw [HG'.out]; have hh := WayOut.stepW HR'.out HB.out hg5 HSUB.out hBM hKM HQ.out hm5; exact ⟨hh.1, HALL.out.drew.trans hh.2⟩); clear hm5 hg5)
            all_goals (go_wp2; go_ret; exact ⟨⟨_, rfl⟩, R.out.1, R.out.2⟩)
end Go.Proofs.Qxb6615722a.AsWay
