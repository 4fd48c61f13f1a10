/-
  THE LAW's ARGUMENTS OPENED: what the reading of the two pointers and of the names says of memory, in this seat's own shapes (WayAt, WalkAt, StrRow). By an AI agent, Nov 2026.
-/
import Derived.Test.Qxb6615722aLeaf
import Derived.SliceStrings
import Derived.Deep.Slices
import Derived.ChangeShapes
import Derived.KernelRfl
namespace Go.Proofs.Qxb6615722a.AsWay
open Go.RowKit
set_option linter.unusedVariables false

theorem cellsN9 : Try.prog.cellsOf 9 = 1 := by kernel_rfl
theorem cellsN3 : Try.prog.cellsOf 3 = 1 := by kernel_rfl
theorem cellsN4 : Try.prog.cellsOf 4 = 1 := by kernel_rfl
theorem cellsN24 : Try.prog.cellsOf 24 = 1 := by kernel_rfl
theorem cellsN36 : Try.prog.cellsOf 36 = 1 := by kernel_rfl
theorem cellsN37 : Try.prog.cellsOf 37 = 1 := by kernel_rfl
theorem cellsN39 : Try.prog.cellsOf 39 = 8 := by kernel_rfl
theorem cellsN41 : Try.prog.cellsOf 41 = 1 := by kernel_rfl
theorem cellsN50 : Try.prog.cellsOf 50 = 2 := by kernel_rfl
theorem cellsN52 : Try.prog.cellsOf 52 = 6 := by kernel_rfl

theorem cell_lt {w : World} {a : Addr} {v : Value} (h : w.cell? a = some v) : a.block < w.heap.size := by
  unfold World.cell? at h
  split at h
  · rename_i h1; exact lt_size h1
  · cases h
theorem add_zero_addr (a : Addr) : a.add 0 = a := by simp [Addr.add]
theorem len2 {cs : List Value} (h : cs.length = 2) : ∃ v0 v1, cs = [v0, v1] := by
  match cs, h with
  | [v0, v1], _ => exact ⟨v0, v1, rfl⟩
theorem len6 {cs : List Value} (h : cs.length = 6) : ∃ v0 v1 v2 v3 v4 v5, cs = [v0, v1, v2, v3, v4, v5] := by
  match cs, h with
  | [v0, v1, v2, v3, v4, v5], _ => exact ⟨v0, v1, v2, v3, v4, v5, rfl⟩
theorem len8 {cs : List Value} (h : cs.length = 8) : ∃ v0 v1 v2 v3 v4 v5 v6 v7, cs = [v0, v1, v2, v3, v4, v5, v6, v7] := by
  match cs, h with
  | [v0, v1, v2, v3, v4, v5, v6, v7], _ => exact ⟨v0, v1, v2, v3, v4, v5, v6, v7, rfl⟩
instance : Inhabited Opt := ⟨⟨ByteArray.empty, ByteArray.empty, 0, 0, 0, false⟩⟩

theorem trod_float {H : Type} {enc : TypeId × Value → H} {P : Program} {w : World} {base : Nat} {spare : Nat → Bool} {held : Bool} {fuel : Nat} {t : TypeId} {cs : List Value} {x : DataW H × List MemPlace} {k : FloatKind}
    (ht : P.underlying t = some (.float k)) (h : DataW.trod enc P w base spare held fuel t cs = some x) : ∃ b, cs = [.float k b] := by
  cases fuel with
  | zero => simp [DataW.trod] at h
  | succ n =>
    unfold DataW.trod at h
    rw [ht] at h
    split at h <;> simp_all

section
variable {H : Type} {enc : TypeId × Value → H} {w : World} {base : Nat} {spare : Nat → Bool} {held : Bool}

/-- A []string. -/
theorem open_row {fuel : Nat} {cs : List Value} {x : DataW H × List MemPlace} (h : DataW.trod enc Try.prog w base spare held fuel 24 cs = some x) :
    ∃ a n c ss, cs = [.slice a n c] ∧ StrRow cold w (.slice a n c) ss ∧ ∀ s ∈ ss, s.size ≤ maxLen := by
  rcases ChangeShapes.open_strings Try.underlying24 Try.underlying9 cellsN9 h with ⟨hcs, _⟩ | ⟨a, len, cap, ss, hcs, _, hl, hm, hn, _, hcell, hs⟩
  · exact ⟨none, 0, 0, [], hcs, StrRow.nil cold w, fun s h => by cases h⟩
  · have hlen : len ≤ ss.length := by rw [hn]; split <;> omega
    have htl : (ss.take len).length = len := by rw [List.length_take, Nat.min_eq_left hlen]
    refine ⟨some a, len, cap, ss.take len, hcs, ⟨some a, cap, by rw [htl], by rw [htl]; exact hl, hm, fun hp => ?_⟩, fun s h => hs s (List.mem_of_mem_take h)⟩
    rw [htl] at hp
    have h0 := hcell 0 (by omega)
    rw [add_zero_addr] at h0
    have hsp := World.cell?_spot h0
    have hlt := cell_lt h0
    obtain ⟨b, off, spot⟩ := a
    simp only at hsp
    subst hsp
    refine ⟨b, off, rfl, hlt, fun e => e, fun k hk => ?_⟩
    rw [htl] at hk
    have := hcell k (by omega)
    rw [WideShapes.add_plain] at this
    rw [this]
    simp [hk]

/-- An option on the wire. -/
theorem open_opt {fuel : Nat} {cs : List Value} {x : DataW H × List MemPlace} (h : DataW.trod enc Try.prog w base spare held fuel 52 cs = some x) : ∃ o, cs = inCells o := by
  obtain ⟨xs, n, _, _, hl, hlen, hf⟩ := DataW.trod_struct Try.underlying52 h
  rw [cellsN52] at hl
  have hx : ∀ i, i < 6 → ∃ y, xs[i]? = some y := fun i hi => ⟨xs[i]'(by rw [hlen]; exact hi), by simp⟩
  obtain ⟨v0, v1, v2, v3, v4, v5, rfl⟩ := len6 hl
  obtain ⟨y0, e0⟩ := hx 0 (by omega)
  obtain ⟨y1, e1⟩ := hx 1 (by omega)
  obtain ⟨y2, e2⟩ := hx 2 (by omega)
  obtain ⟨y3, e3⟩ := hx 3 (by omega)
  obtain ⟨y4, e4⟩ := hx 4 (by omega)
  obtain ⟨y5, e5⟩ := hx 5 (by omega)
  have f0 : DataW.trod enc Try.prog w base spare held n 9 (([v0, v1, v2, v3, v4, v5].drop 0).take (Try.prog.cellsOf 9)) = some y0 := (hf 0 _ rfl).trans e0
  have f1 : DataW.trod enc Try.prog w base spare held n 9 (([v0, v1, v2, v3, v4, v5].drop 1).take (Try.prog.cellsOf 9)) = some y1 := (hf 1 _ rfl).trans e1
  have f2 : DataW.trod enc Try.prog w base spare held n 41 (([v0, v1, v2, v3, v4, v5].drop 2).take (Try.prog.cellsOf 41)) = some y2 := (hf 2 _ rfl).trans e2
  have f3 : DataW.trod enc Try.prog w base spare held n 3 (([v0, v1, v2, v3, v4, v5].drop 3).take (Try.prog.cellsOf 3)) = some y3 := (hf 3 _ rfl).trans e3
  have f4 : DataW.trod enc Try.prog w base spare held n 3 (([v0, v1, v2, v3, v4, v5].drop 4).take (Try.prog.cellsOf 3)) = some y4 := (hf 4 _ rfl).trans e4
  have f5 : DataW.trod enc Try.prog w base spare held n 4 (([v0, v1, v2, v3, v4, v5].drop 5).take (Try.prog.cellsOf 4)) = some y5 := (hf 5 _ rfl).trans e5
  simp only [cellsN9, cellsN3, cellsN4, cellsN41, List.drop, List.take] at f0 f1 f2 f3 f4 f5
  obtain ⟨s0, h0, _⟩ := DataW.trod_string Try.underlying9 f0
  obtain ⟨s1, h1, _⟩ := DataW.trod_string Try.underlying9 f1
  obtain ⟨b2, h2⟩ := trod_float Try.underlying41 f2
  obtain ⟨n3, h3, _⟩ := DataW.trod_int Try.underlying3 f3
  obtain ⟨n4, h4, _⟩ := DataW.trod_int Try.underlying3 f4
  obtain ⟨b5, h5, _⟩ := DataW.trod_bool Try.underlying4 f5
  injection h0 with h0
  injection h1 with h1
  injection h2 with h2
  injection h3 with h3
  injection h4 with h4
  injection h5 with h5
  subst h0 h1 h2 h3 h4 h5
  exact ⟨⟨s0, s1, b2, n3, n4, b5⟩, rfl⟩

/-- The options that are remembered. -/
theorem open_opts {fuel : Nat} {cs : List Value} {x : DataW H × List MemPlace} (h : DataW.trod enc Try.prog w base spare held fuel 37 cs = some x) :
    ∃ v os, cs = [v] ∧ OptRow cold w inCells v os ∧ os.length ≤ maxLen := by
  rcases Deep.open_slice Try.underlying37 h with ⟨hcs, _⟩ | ⟨a, len, cap, m, n, D, Pl, hcs, _, hl, hm, hmm, _, hel⟩
  · exact ⟨_, [], hcs, OptRow.nil cold w inCells, by simp⟩
  · have hlm : len ≤ m := by rw [hmm]; split <;> omega
    rw [cellsN52] at hel
    obtain ⟨O, hO⟩ := Deep.choose_lt (α := Opt) (n := len) (p := fun i o => ∀ j u, (inCells o)[j]? = some u → w.cell? ((a.add (i * 6)).add j) = some u) (fun i hi => by
      obtain ⟨cs', h1, h2⟩ := hel i (by omega)
      obtain ⟨o, rfl⟩ := open_opt h2
      obtain ⟨_, hcl, hcc⟩ := World.cells?_some h1
      exact ⟨o, fun j u hu => by rw [hcc j (by rw [← hcl]; exact (List.getElem?_eq_some_iff.1 hu).1)]; exact hu⟩)
    have hol : ((List.range len).map O).length = len := by simp
    refine ⟨_, (List.range len).map O, hcs, ⟨some a, cap, by rw [hol], fun hp => ?_⟩, by rw [hol]; omega⟩
    rw [hol] at hp
    have h0 := hO 0 hp 0 _ rfl
    rw [Nat.zero_mul, add_zero_addr, add_zero_addr] at h0
    have hsp := World.cell?_spot h0
    have hlt := cell_lt h0
    obtain ⟨b, off, spot⟩ := a
    simp only at hsp
    subst hsp
    refine ⟨b, off, rfl, hlt, fun e => e, fun k o hk j u hu => ?_⟩
    have hk' := (List.getElem?_eq_some_iff.1 hk).1
    rw [hol] at hk'
    have : o = O k := by simpa [hk'] using hk.symm
    subst this
    have := hO k hk' j u hu
    rw [WideShapes.add_plain, WideShapes.add_plain] at this
    exact this

/-- What a pointer that is not nil leads to. -/
theorem open_cells {a : Addr} {n : Nat} {cs : List Value} (h : w.cells? base a n = some cs) (hp : 0 < n) : ∃ b off, a = ⟨b, off, none⟩ ∧ b < w.heap.size ∧ cs.length = n ∧ CellsAt w b off cs := by
  obtain ⟨_, hlen, hcell⟩ := World.cells?_some h
  have h0 := hcell 0 hp
  rw [add_zero_addr] at h0
  obtain ⟨c0, hc0⟩ : ∃ c0, cs[0]? = some c0 := ⟨cs[0], by simp⟩
  rw [hc0] at h0
  have hsp := World.cell?_spot h0
  have hlt := cell_lt h0
  obtain ⟨b, off, spot⟩ := a
  simp only at hsp
  subst hsp
  refine ⟨b, off, rfl, hlt, hlen, fun j u hu => ?_⟩
  have := hcell j (by rw [← hlen]; exact (List.getElem?_eq_some_iff.1 hu).1)
  rw [WideShapes.add_plain] at this
  rw [this]; exact hu

/-- The best option, or nil. -/
theorem open_best {fuel : Nat} {cs : List Value} {x : DataW H × List MemPlace} (h : DataW.trod enc Try.prog w base spare held fuel 36 cs = some x) :
    ∃ v o, cs = [v] ∧ BestAt cold w inCells v o := by
  rcases DataW.trod_pointer Try.underlying36 h with ⟨hcs, _⟩ | ⟨a, cs', y, n, _, hcs, _, hc, ht⟩
  · exact ⟨_, none, hcs, rfl⟩
  · rw [cellsN52] at hc
    obtain ⟨b, off, rfl, hlt, _, hat⟩ := open_cells hc (by omega)
    obtain ⟨o, rfl⟩ := open_opt ht
    exact ⟨_, some o, hcs, b, off, rfl, hlt, fun e => e, hat⟩

/-- A way on the wire. -/
theorem open_way {fuel : Nat} {cs : List Value} {x : DataW H × List MemPlace} (h : DataW.trod enc Try.prog w base spare held fuel 22 cs = some x) :
    ∃ v z, cs = [v] ∧ WayAt w v z ∧ ∀ q, z = some q → q.rem.length ≤ maxLen := by
  rcases DataW.trod_pointer Try.underlying22 h with ⟨hcs, _⟩ | ⟨a, cs', y, n, _, hcs, _, hc, ht⟩
  · exact ⟨_, none, hcs, rfl, fun q hq => by cases hq⟩
  · rw [cellsN39] at hc
    obtain ⟨b, off, rfl, hlt, hl, hat⟩ := open_cells hc (by omega)
    obtain ⟨xs, n, _, _, _, hlen, hf⟩ := DataW.trod_struct Try.underlying39 ht
    have hx : ∀ i, i < 8 → ∃ y, xs[i]? = some y := fun i hi => ⟨xs[i]'(by rw [hlen]; exact hi), by simp⟩
    obtain ⟨v0, v1, v2, v3, v4, v5, v6, v7, rfl⟩ := len8 hl
    obtain ⟨y0, e0⟩ := hx 0 (by omega)
    obtain ⟨y1, e1⟩ := hx 1 (by omega)
    obtain ⟨y2, e2⟩ := hx 2 (by omega)
    obtain ⟨y3, e3⟩ := hx 3 (by omega)
    obtain ⟨y4, e4⟩ := hx 4 (by omega)
    obtain ⟨y5, e5⟩ := hx 5 (by omega)
    obtain ⟨y6, e6⟩ := hx 6 (by omega)
    obtain ⟨y7, e7⟩ := hx 7 (by omega)
    have f0 : DataW.trod enc Try.prog w base spare held n 36 (([v0, v1, v2, v3, v4, v5, v6, v7].drop 0).take (Try.prog.cellsOf 36)) = some y0 := (hf 0 _ rfl).trans e0
    have f1 : DataW.trod enc Try.prog w base spare held n 37 (([v0, v1, v2, v3, v4, v5, v6, v7].drop 1).take (Try.prog.cellsOf 37)) = some y1 := (hf 1 _ rfl).trans e1
    have f2 : DataW.trod enc Try.prog w base spare held n 24 (([v0, v1, v2, v3, v4, v5, v6, v7].drop 2).take (Try.prog.cellsOf 24)) = some y2 := (hf 2 _ rfl).trans e2
    have f3 : DataW.trod enc Try.prog w base spare held n 24 (([v0, v1, v2, v3, v4, v5, v6, v7].drop 3).take (Try.prog.cellsOf 24)) = some y3 := (hf 3 _ rfl).trans e3
    have f4 : DataW.trod enc Try.prog w base spare held n 24 (([v0, v1, v2, v3, v4, v5, v6, v7].drop 4).take (Try.prog.cellsOf 24)) = some y4 := (hf 4 _ rfl).trans e4
    have f5 : DataW.trod enc Try.prog w base spare held n 24 (([v0, v1, v2, v3, v4, v5, v6, v7].drop 5).take (Try.prog.cellsOf 24)) = some y5 := (hf 5 _ rfl).trans e5
    have f6 : DataW.trod enc Try.prog w base spare held n 24 (([v0, v1, v2, v3, v4, v5, v6, v7].drop 6).take (Try.prog.cellsOf 24)) = some y6 := (hf 6 _ rfl).trans e6
    have f7 : DataW.trod enc Try.prog w base spare held n 3 (([v0, v1, v2, v3, v4, v5, v6, v7].drop 7).take (Try.prog.cellsOf 3)) = some y7 := (hf 7 _ rfl).trans e7
    simp only [cellsN24, cellsN3, cellsN36, cellsN37, List.drop, List.take] at f0 f1 f2 f3 f4 f5 f6 f7
    obtain ⟨u0, o0, h0, g0⟩ := open_best f0
    obtain ⟨u1, o1, h1, g1, l1⟩ := open_opts f1
    obtain ⟨a2, n2, c2, s2, h2, g2, _⟩ := open_row f2
    obtain ⟨a3, n3, c3, s3, h3, g3, _⟩ := open_row f3
    obtain ⟨a4, n4, c4, s4, h4, g4, _⟩ := open_row f4
    obtain ⟨a5, n5, c5, s5, h5, g5, _⟩ := open_row f5
    obtain ⟨a6, n6, c6, s6, h6, g6, _⟩ := open_row f6
    obtain ⟨n7, h7, _⟩ := DataW.trod_int Try.underlying3 f7
    injection h0 with h0
    injection h1 with h1
    injection h2 with h2
    injection h3 with h3
    injection h4 with h4
    injection h5 with h5
    injection h6 with h6
    injection h7 with h7
    subst h0 h1 h2 h3 h4 h5 h6 h7
    exact ⟨_, some ⟨o0, o1, s2, s3, s4, s5, s6, n7⟩, hcs, ⟨b, off, _, _, _, _, _, _, _, rfl, hlt, hat, g0, g1, g2, g3, g4, g5, g6⟩, fun q hq => by cases hq; exact l1⟩

/-- A walk on the wire. -/
theorem open_walk {fuel : Nat} {cs : List Value} {x : DataW H × List MemPlace} (h : DataW.trod enc Try.prog w base spare held fuel 23 cs = some x) :
    ∃ v z, cs = [v] ∧ WalkAt w v z ∧ ∀ q, z = some q → ∀ s ∈ q.visited, s.size ≤ maxLen := by
  rcases DataW.trod_pointer Try.underlying23 h with ⟨hcs, _⟩ | ⟨a, cs', y, n, _, hcs, _, hc, ht⟩
  · exact ⟨_, none, hcs, rfl, fun q hq => by cases hq⟩
  · rw [cellsN50] at hc
    obtain ⟨b, off, rfl, hlt, hl, hat⟩ := open_cells hc (by omega)
    obtain ⟨xs, n, _, _, _, hlen, hf⟩ := DataW.trod_struct Try.underlying50 ht
    have hx : ∀ i, i < 2 → ∃ y, xs[i]? = some y := fun i hi => ⟨xs[i]'(by rw [hlen]; exact hi), by simp⟩
    obtain ⟨v0, v1, rfl⟩ := len2 hl
    obtain ⟨y0, e0⟩ := hx 0 (by omega)
    obtain ⟨y1, e1⟩ := hx 1 (by omega)
    have f0 : DataW.trod enc Try.prog w base spare held n 24 (([v0, v1].drop 0).take (Try.prog.cellsOf 24)) = some y0 := (hf 0 _ rfl).trans e0
    have f1 : DataW.trod enc Try.prog w base spare held n 24 (([v0, v1].drop 1).take (Try.prog.cellsOf 24)) = some y1 := (hf 1 _ rfl).trans e1
    simp only [cellsN24, List.drop, List.take] at f0 f1
    obtain ⟨a2, n2, c2, s2, h2, g2, l2⟩ := open_row f0
    obtain ⟨a3, n3, c3, s3, h3, g3, _⟩ := open_row f1
    injection h2 with h2
    injection h3 with h3
    subst h2 h3
    exact ⟨_, some ⟨s2, s3⟩, hcs, ⟨b, off, _, _, rfl, hlt, hat, g2, g3⟩, fun q hq => by cases hq; exact l2⟩
end
end Go.Proofs.Qxb6615722a.AsWay
