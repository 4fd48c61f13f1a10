/-
  THE WALK OF zzPoolJob (7): the job that the law hands to asWay. By an AI agent, Nov 2026.
-/
import Derived.Test.Qxb6615722aLeaf2
import Derived.Test.Qxb6615722aOpts
import Derived.Deep.RegionHeld3
import Derived.Deep.RegionWith
import Derived.Deep.DeepCutAuto
import Derived.Deep.Cut
import Derived.Laws.IdiomCopy
namespace Go.Proofs.Qxb6615722a.AsWay
open Go.RowKit
set_option linter.unusedVariables false
attribute [local go_sem] run_store_float

structure Room (x : Option WIn) (y : Option KIn) (us : List ByteArray) : Prop where
  us : us.length ≤ 200000
  way : ∀ z : WIn, x = some z → z.rem.length ≤ 200000 ∧ z.frm.length ≤ 200000 ∧ z.reached.length ≤ 200000 ∧ z.tried.length ≤ 200000 ∧ z.busy.length ≤ 200000 ∧ z.unfit.length ≤ 200000
  walk : ∀ z : KIn, y = some z → z.visited.length ≤ 200000 ∧ z.ahead.length ≤ 200000

/-- The job's block, as far as asWay reads it. -/
def JB (pk pw u : Value) : Obj := .cells #[.float .f64 0, .float .f64 0, .float .f64 0, .int .i64 0, .float .f64 0, pk, pw, .int .i64 0, u, .string ⟨#[]⟩, .slice none 0 0, .pointer none, .pointer none, .bool false, .pointer none, .bool false] 63 (0, 0)
/-- A way on the wire, of which nothing lies in a hot block. -/
def WayH (hot : Nat → Prop) (w : World) (p : Value) : Option WIn → Prop
  | none => p = .pointer none
  | some x => ∃ b off c0 c1 c2 c3 c4 c5 c6, p = .pointer (some ⟨b, off, none⟩) ∧ b < w.heap.size ∧ ¬ hot b ∧ CellsAt w b off [c0, c1, c2, c3, c4, c5, c6, .int .i64 x.jumps] ∧ BestAt hot w inCells c0 x.best ∧ OptRow hot w inCells c1 x.rem ∧
      StrRow hot w c2 x.frm ∧ StrRow hot w c3 x.reached ∧ StrRow hot w c4 x.tried ∧ StrRow hot w c5 x.busy ∧ StrRow hot w c6 x.unfit
theorem WayH.but {hot : Nat → Prop} {w w' : World} {p : Value} {x : Option WIn} (h : WayH hot w p x) (hb : But hot w w') : WayH hot w' p x := by
  cases x with
  | none => exact h
  | some x =>
    obtain ⟨b, off, c0, c1, c2, c3, c4, c5, c6, hp, hlt, hn, hc, h0, h1, h2, h3, h4, h5, h6⟩ := h
    exact ⟨b, off, c0, c1, c2, c3, c4, c5, c6, hp, Nat.lt_of_lt_of_le hlt hb.size, hn, hc.but hb hlt hn, h0.but hb, h1.but hb, h2.but hb, h3.but hb, h4.but hb, h5.but hb, h6.but hb⟩
theorem WayH.cool {hot : Nat → Prop} {w : World} {p : Value} {x : Option WIn} (h : WayH hot w p x) : WayAt w p x := by
  cases x with
  | none => exact h
  | some x =>
    obtain ⟨b, off, c0, c1, c2, c3, c4, c5, c6, hp, hlt, hn, hc, h0, h1, h2, h3, h4, h5, h6⟩ := h
    have hh : ∀ k, k < w.heap.size → cold k → hot k := fun _ _ e => e.elim
    exact ⟨b, off, c0, c1, c2, c3, c4, c5, c6, hp, hlt, hc, h0.warm hh, h1.warm hh, h2.warm hh, h3.warm hh, h4.warm hh, h5.warm hh, h6.warm hh⟩
theorem CellsAt.below' {w w' : World} {b off : Nat} {cs : List Value} (h : CellsAt w b off cs) (hb : Below w.heap.size w w') (hlt : b < w.heap.size) : CellsAt w' b off cs := fun j u hu => by
  rw [hb.cell (p := ⟨b, off + j, none⟩) hlt]; exact h j u hu
def isJ (J : Nat) : Nat → Prop := fun k => k = J
theorem hid {p : Prop} (h : p) : Hid p := h
theorem chainB {W0 W w2 : World} (h : Below W0.heap.size W0 W) (hb : Below W.heap.size W w2) : Below W0.heap.size W0 w2 := h.trans (hb.mono h.size)
theorem allocB {W0 W : World} (h : Below W0.heap.size W0 W) (o : Obj) : Below W0.heap.size W0 (W.alloc o) := h.alloc h.size o
theorem rowJ {W0 W w2 : World} {J : Nat} {v : Value} {ss : List ByteArray} (hb : Below W.heap.size W w2) (h : Below W0.heap.size W0 W) (hJ : J < W0.heap.size) (hv : StrRow (fun k => k < W.heap.size) w2 v ss) : StrRow (isJ J) w2 v ss :=
  hv.warm (fun k _ e => by unfold isJ at e; have := h.size; omega)
def hotJQ (J Q : Nat) : Nat → Prop := fun k => k = J ∨ k = Q
/-- The wire's way in the making, at Q; the job at J. -/
structure QHalf (w : World) (x : WIn) (us : List ByteArray) (J Q : Nat) (u v0 v1 p2 p3 p4 p5 p6 : Value) (wx : World) : Prop where
  job : wx.heap[J]? = some (JB (.pointer none) (.pointer none) u)
  way : wx.heap[Q]? = some (.cells #[v0, v1, p2, p3, p4, p5, p6, .int .i64 x.jumps] 67 (0, 0))
  us : StrRow (hotJQ J Q) wx u us
  frm : StrRow (hotJQ J Q) wx p2 x.frm
  reached : StrRow (hotJQ J Q) wx p3 x.reached
  tried : StrRow (hotJQ J Q) wx p4 x.tried
  busy : StrRow (hotJQ J Q) wx p5 x.busy
  unfit : StrRow (hotJQ J Q) wx p6 x.unfit
  below : Below w.heap.size w wx
  lt : J < Q
  old : w.heap.size ≤ J
theorem QHalf.later {w : World} {x : WIn} {us : List ByteArray} {J Q : Nat} {u v0 v1 p2 p3 p4 p5 p6 : Value} {wx w2 : World} (h : QHalf w x us J Q u v0 v1 p2 p3 p4 p5 p6 wx) (hb : Below wx.heap.size wx w2) : QHalf w x us J Q u v0 v1 p2 p3 p4 p5 p6 w2 :=
  have hb' : But (hotJQ J Q) wx w2 := But.of_below hb
  ⟨(hb.block _ (lt_size h.job)).trans h.job, (hb.block _ (lt_size h.way)).trans h.way, h.us.but hb', h.frm.but hb', h.reached.but hb', h.tried.but hb', h.busy.but hb', h.unfit.but hb', h.below.trans (hb.mono h.below.size), h.lt, h.old⟩
/-- A cell of the way set. -/
theorem QHalf.set {w : World} {x : WIn} {us : List ByteArray} {J Q : Nat} {u v0 v1 p2 p3 p4 p5 p6 : Value} {wx : World} (h : QHalf w x us J Q u v0 v1 p2 p3 p4 p5 p6 wx) (j : Nat) (z : Value) {v0' v1' : Value} (hc : #[v0, v1, p2, p3, p4, p5, p6, .int .i64 x.jumps].setIfInBounds j z = #[v0', v1', p2, p3, p4, p5, p6, .int .i64 x.jumps]) :
    QHalf w x us J Q u v0' v1' p2 p3 p4 p5 p6 (wx.setCell ⟨Q, j, none⟩ z) := by
  have hb' : But (hotJQ J Q) wx (wx.setCell ⟨Q, j, none⟩ z) := (But.refl _ wx).setCell (p := ⟨Q, j, none⟩) (.inr (.inr rfl)) z
  have hl := h.lt
  have ho := h.old
  refine ⟨(Below.heap_setCell wx ⟨Q, j, none⟩ z J (by show J ≠ Q; omega)).trans h.job, ?_, h.us.but hb', h.frm.but hb', h.reached.but hb', h.tried.but hb', h.busy.but hb', h.unfit.but hb', h.below.setCell (p := ⟨Q, j, none⟩) (by show w.heap.size ≤ Q; omega) z, h.lt, h.old⟩
  rw [block_setCell h.way, hc]
theorem qfirst {w W0 w2 w3 w4 w5 w6 : World} {x : WIn} {us : List ByteArray} {J : Nat} {u p2 p3 p4 p5 p6 : Value} (hJ : W0.heap[J]? = some (JB (.pointer none) (.pointer none) u)) (hu : StrRow (isJ J) W0 u us) (hW : Below w.heap.size w W0) (ho : w.heap.size ≤ J) (h2 : StrRow (isJ J) w2 p2 x.frm) (h3 : StrRow (isJ J) w3 p3 x.reached)
    (h4 : StrRow (isJ J) w4 p4 x.tried) (h5 : StrRow (isJ J) w5 p5 x.busy) (h6 : StrRow (isJ J) w6 p6 x.unfit) (b3 : Below w2.heap.size w2 w3) (b4 : Below w3.heap.size w3 w4) (b5 : Below w4.heap.size w4 w5) (b6 : Below w5.heap.size w5 w6) (hb : Below W0.heap.size W0 w6) :
    QHalf w x us J w6.heap.size u (.pointer none) (.slice none 0 0) p2 p3 p4 p5 p6 (w6.alloc (.cells #[.pointer none, .slice none 0 0, p2, p3, p4, p5, p6, .int .i64 x.jumps] 67)) := by
  have hlt : J < w6.heap.size := Nat.lt_of_lt_of_le (lt_size hJ) hb.size
  have up : ∀ {v ss}, StrRow (isJ J) w6 v ss → StrRow (hotJQ J w6.heap.size) (w6.alloc (.cells #[.pointer none, .slice none 0 0, p2, p3, p4, p5, p6, .int .i64 x.jumps] 67)) v ss := fun h =>
    (h.warm (hot' := hotJQ J w6.heap.size) (fun k hk e => by rcases e with e | e; exact e; omega)).but (But.of_below ((Below.refl _ w6).alloc (Nat.le_refl _) _))
  have c5 : ∀ {v ss}, StrRow (isJ J) w5 v ss → StrRow (isJ J) w6 v ss := fun h => h.but (But.of_below b6)
  have c4 : ∀ {v ss}, StrRow (isJ J) w4 v ss → StrRow (isJ J) w6 v ss := fun h => c5 (h.but (But.of_below b5))
  have c3 : ∀ {v ss}, StrRow (isJ J) w3 v ss → StrRow (isJ J) w6 v ss := fun h => c4 (h.but (But.of_below b4))
  have c2 : ∀ {v ss}, StrRow (isJ J) w2 v ss → StrRow (isJ J) w6 v ss := fun h => c3 (h.but (But.of_below b3))
  exact ⟨(Below.heap_alloc _ _ _ hlt).trans ((hb.block J (lt_size hJ)).trans hJ), heap_alloc_new _ _, up (hu.but (But.of_below hb)), up (c2 h2), up (c3 h3), up (c4 h4), up (c5 h5), up h6, (hW.trans (hb.mono hW.size)).alloc (by have := hb.size; have := hW.size; omega) _, hlt, ho⟩
theorem QHalf.best {w : World} {x : WIn} {us : List ByteArray} {J Q : Nat} {u v0 v1 p2 p3 p4 p5 p6 : Value} {wx w1 : World} {o : Opt} (h : QHalf w x us J Q u v0 v1 p2 p3 p4 p5 p6 wx) (hb : Below wx.heap.size wx w1) (hx : x.best = some o) :
    ∃ v0', QHalf w x us J Q u v0' v1 p2 p3 p4 p5 p6 ((w1.alloc (.cells (inCells o).toArray 69)).setCell ⟨Q, 0, none⟩ (.pointer (some ⟨w1.heap.size, 0, none⟩))) ∧ BestAt (hotJQ J Q) ((w1.alloc (.cells (inCells o).toArray 69)).setCell ⟨Q, 0, none⟩ (.pointer (some ⟨w1.heap.size, 0, none⟩))) inCells v0' x.best := by
  have hs := hb.size
  have hQ := lt_size h.way
  have hl := h.lt
  have h2 := h.later (hb.alloc hs (.cells (inCells o).toArray 69))
  refine ⟨.pointer (some ⟨w1.heap.size, 0, none⟩), h2.set 0 _ rfl, ?_⟩
  rw [hx]
  refine ⟨w1.heap.size, 0, rfl, by simp, fun e => by rcases e with e | e <;> omega, fun j z hz => ?_⟩
  rw [World.cell?_of_block (w := w1.alloc (.cells (inCells o).toArray 69)) (Below.heap_setCell _ ⟨Q, 0, none⟩ _ _ (by show w1.heap.size ≠ Q; omega)), Nat.zero_add, World.cell?_alloc_new]
  simpa using hz
theorem cellQ {w : World} {B j : Nat} {cs : Array Value} {t : TypeId} {z : Value} (h : w.heap[B]? = some (.cells cs t (0, 0))) (hz : cs[j]? = some z) : w.cell? ⟨B, j, none⟩ = some z := by rw [cell_of_row w B _ _ _ _ h]; exact hz
/-! ### The remembered, copied -/
theorem Try.info69 : (Try.prog.info? 69).map (fun i => (i.zero, i.size, i.bytes)) = some (some (.agg #[.string ⟨#[]⟩, .string ⟨#[]⟩, .float .f64 0, .int .i64 0, .int .i64 0, .bool false]), 6, 64) := by kernel_rfl
theorem inCells_lt {o : Opt} {j : Nat} {u : Value} (h : (inCells o)[j]? = some u) : j < 6 := by
  rcases Nat.lt_or_ge j 6 with h' | h'
  · exact h'
  · rw [List.getElem?_eq_none (by simpa [inCells] using h')] at h; cases h
theorem inCells_length (o : Opt) : (inCells o).length = 6 := rfl
theorem below_setCells {lo : Nat} {w : World} {b : Nat} (hb : lo ≤ b) : ∀ (vs : List Value) (o : Nat) (w' : World), Below lo w w' → Below lo w (w'.setCells b o vs)
  | [], _, _, h => h
  | v :: r, o, w', h => below_setCells hb r (o + 1) _ (h.setCell (p := ⟨b, o, none⟩) hb v)
theorem size_setCells' (b : Nat) : ∀ (vs : List Value) (o : Nat) (w' : World), (w'.setCells b o vs).heap.size = w'.heap.size
  | [], _, _ => rfl
  | v :: r, o, w' => by rw [World.setCells, size_setCells' b r]; simp
/-- The copy, half made: the first k options lie in the new block g. -/
structure CpInv (os : List Opt) (g : Nat) (Wb : World) (k : Nat) (wr : World) : Prop where
  le : k ≤ os.length
  done : ∀ q o, q < k → os[q]? = some o → CellsAt wr g (q * 6) (inCells o)
  all : ∀ p, p < os.length * 6 → (wr.cell? ⟨g, p, none⟩).isSome = true
  free : ∀ p, wr.frozen? ⟨g, p, none⟩ = false
  below : Below Wb.heap.size Wb wr
  lt : g < wr.heap.size
theorem CpInv.later {os : List Opt} {g : Nat} {Wb : World} {k : Nat} {wr W : World} (h : CpInv os g Wb k wr) (hb : Below wr.heap.size wr W) : CpInv os g Wb k W :=
  ⟨h.le, fun q o hq ho => (h.done q o hq ho).below' hb h.lt, fun p hp => by rw [hb.cell (p := ⟨g, p, none⟩) h.lt]; exact h.all p hp, fun p => by rw [hb.frozen (p := ⟨g, p, none⟩) h.lt]; exact h.free p, chainB h.below hb, Nat.lt_of_lt_of_le h.lt hb.size⟩
theorem CpInv.put {os : List Opt} {g : Nat} {Wb : World} {k : Nat} {wr : World} (h : CpInv os g Wb k wr) (hg : Wb.heap.size ≤ g) {o : Opt} (ho : os[k]? = some o) : CpInv os g Wb (k + 1) (wr.setCells g (k * 6) (inCells o)) := by
  have hl := (List.getElem?_eq_some_iff.1 ho).1
  refine ⟨hl, fun q o' hq ho' j u hu => ?_, fun p hp => ?_, fun p => ?_, below_setCells hg _ _ _ h.below, by rw [size_setCells']; exact h.lt⟩
  · have hj := inCells_lt hu
    rcases Nat.lt_succ_iff_lt_or_eq.1 hq with hqk | hqk
    · rw [World.cell?_setCells_out g _ _ _ _ (fun _ _ => by rw [inCells_length]; show q * 6 + j < k * 6 ∨ k * 6 + 6 ≤ q * 6 + j; omega)]
      exact h.done q o' hqk ho' j u hu
    · subst hqk
      have eo : o = o' := Option.some.inj (ho.symm.trans ho')
      subst eo
      have hj' : j < (inCells o).length := hj
      rw [World.cell?_setCells_in g _ _ _ (fun i hi => h.all _ (by rw [inCells_length] at hi; omega)) j hj']
      rw [List.getElem?_eq_getElem hj'] at hu
      exact hu
  · rcases Nat.lt_or_ge p (k * 6) with hp1 | hp1
    · rw [World.cell?_setCells_out g _ _ _ _ (fun _ _ => .inl hp1)]; exact h.all p hp
    · rcases Nat.lt_or_ge p (k * 6 + 6) with hp2 | hp2
      · have := World.cell?_setCells_in g (inCells o) (k * 6) wr (fun i hi => h.all _ (by rw [inCells_length] at hi; omega)) (p - k * 6) (by rw [inCells_length]; omega)
        rw [show k * 6 + (p - k * 6) = p by omega] at this
        rw [this]; rfl
      · rw [World.cell?_setCells_out g _ _ _ _ (fun _ _ => .inr (by rw [inCells_length]; exact hp2))]; exact h.all p hp
  · rw [World.frozen?_setCells]; exact h.free p
theorem CpInv.six {os : List Opt} {g : Nat} {Wb : World} {k : Nat} {wr : World} (h : CpInv os g Wb k wr) (hk : k < os.length) : ∃ u0 u1 u2 u3 u4 u5, wr.cell? ⟨g, k * 6, none⟩ = some u0 ∧ wr.cell? ⟨g, k * 6 + 1, none⟩ = some u1 ∧ wr.cell? ⟨g, k * 6 + 2, none⟩ = some u2 ∧
    wr.cell? ⟨g, k * 6 + 3, none⟩ = some u3 ∧ wr.cell? ⟨g, k * 6 + 4, none⟩ = some u4 ∧ wr.cell? ⟨g, k * 6 + 5, none⟩ = some u5 := by
  obtain ⟨u0, s0⟩ := Option.isSome_iff_exists.1 (h.all (k * 6) (by omega))
  obtain ⟨u1, s1⟩ := Option.isSome_iff_exists.1 (h.all (k * 6 + 1) (by omega))
  obtain ⟨u2, s2⟩ := Option.isSome_iff_exists.1 (h.all (k * 6 + 2) (by omega))
  obtain ⟨u3, s3⟩ := Option.isSome_iff_exists.1 (h.all (k * 6 + 3) (by omega))
  obtain ⟨u4, s4⟩ := Option.isSome_iff_exists.1 (h.all (k * 6 + 4) (by omega))
  obtain ⟨u5, s5⟩ := Option.isSome_iff_exists.1 (h.all (k * 6 + 5) (by omega))
  exact ⟨u0, u1, u2, u3, u4, u5, s0, s1, s2, s3, s4, s5⟩
theorem CpInv.made {os : List Opt} {Wb w1 : World} {g n : Nat} {xs : List Value} (hn : n = os.length) (hown : w1.ownsRow Wb.heap.size 69 6 (.slice (some ⟨g, 0, none⟩) n n) n xs) (hgrow : Wb.grownBy w1 none) : CpInv os g Wb 0 w1 := by
  rcases hown.2 with ⟨hv, _⟩ | ⟨g', cap, cur, hv, _, hg, _, _, hs, _⟩
  · cases hv
  · injection hv with e1 _ e3
    injection e1 with e1
    injection e1 with e1 _ _
    subst e1; subst e3
    refine ⟨Nat.zero_le _, fun q o hq => absurd hq (by omega), fun p hp => ?_, fun p => free_of_block hg, (Below.refl _ Wb).grown hgrow (Nat.le_refl _) (fun k h => by cases h), lt_size hg⟩
    rw [cell_of_row w1 g _ _ _ _ hg, Array.getElem?_eq_getElem (by omega)]
    rfl
theorem CpInv.row {hot : Nat → Prop} {os : List Opt} {g c : Nat} {Wb : World} {wr : World} (h : CpInv os g Wb os.length wr) (hn : ¬ hot g) : OptRow hot wr inCells (.slice (some ⟨g, 0, none⟩) os.length c) os :=
  ⟨_, c, rfl, fun _ => ⟨g, 0, rfl, h.lt, hn, fun q o hq => by rw [Nat.zero_add]; exact h.done q o (List.getElem?_eq_some_iff.1 hq).1 hq⟩⟩
/-- After 'if way != nil { .. }'. -/
def JobHalf (w : World) (x : Option WIn) (us : List ByteArray) (J : Nat) (u : Value) (wx : World) : Prop :=
  ∃ pw, wx.heap[J]? = some (JB (.pointer none) pw u) ∧ WayH (isJ J) wx pw x ∧ StrRow (isJ J) wx u us ∧ Below w.heap.size w wx

theorem QHalf.shut {w : World} {x : WIn} {us : List ByteArray} {J Q : Nat} {u v0 v1 p2 p3 p4 p5 p6 : Value} {wx : World} (h : QHalf w x us J Q u v0 v1 p2 p3 p4 p5 p6 wx) (hbest : BestAt (hotJQ J Q) wx inCells v0 x.best) (hrem : OptRow (hotJQ J Q) wx inCells v1 x.rem) :
    JobHalf w (some x) us J u (wx.setCell ⟨J, 6, none⟩ (.pointer (some ⟨Q, 0, none⟩))) := by
  have hl := h.lt
  have ho := h.old
  have hb' : But (isJ J) wx (wx.setCell ⟨J, 6, none⟩ (.pointer (some ⟨Q, 0, none⟩))) := (But.refl (isJ J) wx).setCell (p := ⟨J, 6, none⟩) (.inr (show isJ J J from rfl)) _
  have hh : ∀ k, k < wx.heap.size → isJ J k → hotJQ J Q k := fun k _ e => .inl e
  have hQJ : ¬ isJ J Q := fun e => by unfold isJ at e; omega
  refine ⟨.pointer (some ⟨Q, 0, none⟩), block_setCell h.job _, ⟨Q, 0, v0, v1, p2, p3, p4, p5, p6, rfl, by simpa using lt_size h.way, hQJ, ?_, (hbest.warm hh).but hb', (hrem.warm hh).but hb', (h.frm.warm hh).but hb', (h.reached.warm hh).but hb', (h.tried.warm hh).but hb', (h.busy.warm hh).but hb', (h.unfit.warm hh).but hb'⟩, (h.us.warm hh).but hb', h.below.setCell (p := ⟨J, 6, none⟩) ho _⟩
  exact (CellsAt.of_block h.way).but hb' (lt_size h.way) hQJ

theorem jobHalf_none {w : World} {x : Option WIn} {us : List ByteArray} {J : Nat} {u : Value} {wx : World} (h : JobHalf w x us J u wx) : JobAt wx (.pointer (some ⟨J, 0, none⟩)) x none us := by
  obtain ⟨pw, h1, h2, h3, h4⟩ := h
  exact ⟨J, _, pw, u, rfl, lt_size h1, cellQ (j := 5) h1 rfl, cellQ (j := 6) h1 rfl, cellQ (j := 8) h1 rfl, rfl, h2.cool, h3.warm (fun _ _ e => e.elim)⟩
theorem rowJ2 {W0 W w2 : World} {J : Nat} {v : Value} {ss : List ByteArray} (hb : Below W.heap.size W w2) (h : But (isJ J) W0 W) (hJ : J < W0.heap.size) (hv : StrRow (fun k => k < W.heap.size) w2 v ss) : StrRow (isJ J) w2 v ss :=
  hv.warm (fun k _ e => by unfold isJ at e; have := h.size; omega)
theorem keptJ {W w2 : World} {J : Nat} {o : Obj} (hb : Below W.heap.size W w2) (h : W.heap[J]? = some o) : w2.heap[J]? = some o := (hb.block J (lt_size h)).trans h
theorem jobHalf_walk {wx w2 w3 : World} {x : Option WIn} {y : KIn} {us : List ByteArray} {J : Nat} {u pw v2 v3 : Value} (hx : WayH (isJ J) wx pw x) (hu : StrRow (isJ J) wx u us) (hbut : But (isJ J) wx w3) (hJ3 : w3.heap[J]? = some (JB (.pointer none) pw u)) (b3 : Below w2.heap.size w2 w3) (h2 : StrRow (isJ J) w2 v2 y.visited) (h3 : StrRow (isJ J) w3 v3 y.ahead) :
    JobAt ((w3.alloc (.cells #[v2, v3, .map none] 73)).setCell ⟨J, 5, none⟩ (.pointer (some ⟨w3.heap.size, 0, none⟩))) (.pointer (some ⟨J, 0, none⟩)) x (some y) us := by
  have hJl := lt_size hJ3
  have hb' : But (isJ J) w3 ((w3.alloc (.cells #[v2, v3, .map none] 73)).setCell ⟨J, 5, none⟩ (.pointer (some ⟨w3.heap.size, 0, none⟩))) := ((But.refl (isJ J) w3).alloc _).setCell (p := ⟨J, 5, none⟩) (.inr (show isJ J J from rfl)) _
  have hJ4 : (w3.alloc (.cells #[v2, v3, .map none] 73)).heap[J]? = some (JB (.pointer none) pw u) := (Below.heap_alloc _ _ _ hJl).trans hJ3
  have hJ5 := block_setCell (j := 5) hJ4 (.pointer (some ⟨w3.heap.size, 0, none⟩))
  have cold' : ∀ {v ss}, StrRow (isJ J) w3 v ss → StrRow cold ((w3.alloc (.cells #[v2, v3, .map none] 73)).setCell ⟨J, 5, none⟩ (.pointer (some ⟨w3.heap.size, 0, none⟩))) v ss := fun h => (h.but hb').warm (fun _ _ e => e.elim)
  refine ⟨J, .pointer (some ⟨w3.heap.size, 0, none⟩), pw, u, rfl, lt_size hJ5, cellQ (j := 5) hJ5 rfl, cellQ (j := 6) hJ5 rfl, cellQ (j := 8) hJ5 rfl, ?_, (hx.but (hbut.trans hb')).cool, cold' (hu.but hbut)⟩
  refine ⟨w3.heap.size, 0, v2, v3, rfl, by simp, fun j z hz => ?_, cold' (h2.but (But.of_below b3)), cold' h3⟩
  rw [World.cell?_of_block (w := w3.alloc (.cells #[v2, v3, .map none] 73)) (Below.heap_setCell _ ⟨J, 5, none⟩ _ _ (by show w3.heap.size ≠ J; omega)), Nat.zero_add, World.cell?_alloc_new]
  rcases j with _ | _ | j
  · simpa using hz
  · simpa using hz
  · simp at hz

set_option maxRecDepth 100000 in
set_option maxHeartbeats 4000000 in
theorem poolJob_any (pw pk : Value) (x : Option WIn) (y : Option KIn) (au : Option Addr) (nu cu : Nat) (us : List ByteArray) (w : World) (hx : WayAt w pw x) (hy : WalkAt w pk y) (hu : StrRow cold w (.slice au nu cu) us) (hf : Room x y us) :
    Calls Try.prog 7 #[pw, pk, .slice au nu cu] w fun e w' => ∃ p, e = .returned p ∧ JobAt w' p x y us ∧ Below w.heap.size w w' := by
  have HF : Hid (Room x y us) := hf
  have HU : Hid (StrRow cold w (.slice au nu cu) us) := hu
  have HX : Hid (WayAt w pw x) := hx
  have HY : Hid (WalkAt w pk y) := hy
  have hnu : nu ≤ 1000000 := by have := hf.us; have := hu.cells.1; omega
  obtain ⟨aw, hpw⟩ : ∃ a, pw = .pointer a := by
    cases x with
    | none => exact ⟨none, hx⟩
    | some x =>
      obtain ⟨b, off, c0, c1, c2, c3, c4, c5, c6, e, _⟩ := hx
      exact ⟨_, e⟩
  obtain ⟨ak, hpk⟩ : ∃ a, pk = .pointer a := by
    cases y with
    | none => exact ⟨none, hy⟩
    | some y =>
      obtain ⟨b, off, c0, c1, e, _⟩ := hy
      exact ⟨_, e⟩
  subst hpw
  subst hpk
  clear hf hx hy hu
  go_enter Try.func7, Try.ntmps7
  go_upto_if 17 with (go_at_call 14; refine (clone_any au nu cu us w HU.out hnu).mono ?_; rintro e w1 ⟨v1, rfl, hv1, hb1⟩; obtain ⟨a1, d1, rfl, hv1⟩ := hv1.form; have HV1 : Hid (StrRow (fun k => k < w.heap.size) w1 (.slice a1 us.length d1) us) := hv1; have HB1 : Hid (Below w.heap.size w w1) := hb1; clear hv1 hb1)
  obtain ⟨W0, hW0⟩ : ∃ W0, W0 = w1.alloc (JB (.pointer none) (.pointer none) (.slice a1 us.length d1)) := ⟨_, rfl⟩
  have hJ : w.heap.size ≤ w1.heap.size := HB1.out.size
  have hsz0 : W0.heap.size = w1.heap.size + 1 := by rw [hW0]; simp
  have HJ : Hid (W0.heap[w1.heap.size]? = some (JB (.pointer none) (.pointer none) (.slice a1 us.length d1))) := by show _ = _; rw [hW0]; exact heap_alloc_new _ _
  have HBW : Hid (Below w.heap.size w W0) := by rw [hW0]; exact HB1.out.alloc hJ _
  have HUS : Hid (StrRow (isJ w1.heap.size) W0 (.slice a1 us.length d1) us) := by
    rw [hW0]
    exact (HV1.out.warm (hot' := isJ w1.heap.size) (fun k hk e => by unfold isJ at e; omega)).but (But.of_below ((Below.refl _ w1).alloc (Nat.le_refl _) _))
  unfold JB at hW0
  rw [← hW0]
  clear HV1 HB1 hW0 HU
  generalize w1.heap.size = J at *
  go_cut [] (fun wx => JobHalf w x us J (.slice a1 us.length d1) wx)
  case first =>
    cases x with
    | none =>
      have e : Value.pointer aw = .pointer none := HX.out
      injection e with e
      subst e
      have R : Hid (JobHalf w none us J (.slice a1 us.length d1) W0) := ⟨_, HJ.out, rfl, HUS.out, HBW.out⟩
      clear HX HY HF
      go_wp2
      go_meet
      exact R.out
    | some x =>
      obtain ⟨b, off, c0, c1, c2, c3, c4, c5, c6, e, hb, hc, hbest, hrem, hfrm, hrea, htri, hbus, hunf⟩ := HX.out
      injection e with e
      subst e
      obtain ⟨r1, e1, rfl, hrem⟩ : ∃ a d, c1 = .slice a x.rem.length d ∧ OptRow cold w inCells (.slice a x.rem.length d) x.rem := by
        obtain ⟨a, c, rfl, h'⟩ := hrem
        exact ⟨a, c, rfl, a, c, rfl, h'⟩
      obtain ⟨r2, e2, rfl, hfrm⟩ := hfrm.form
      obtain ⟨r3, e3, rfl, hrea⟩ := hrea.form
      obtain ⟨r4, e4, rfl, htri⟩ := htri.form
      obtain ⟨r5, e5, rfl, hbus⟩ := hbus.form
      obtain ⟨r6, e6, rfl, hunf⟩ := hunf.form
      obtain ⟨l1, l2, l3, l4, l5, l6⟩ := HF.out.way x rfl
      obtain ⟨r0, hc0⟩ : ∃ a, c0 = .pointer a := by
        revert hbest
        cases x.best with
        | none => exact fun e => ⟨none, e⟩
        | some o => exact fun ⟨_, _, e, _⟩ => ⟨_, e⟩
      subst hc0
      have hb' : b < W0.heap.size := by omega
      have HC : Hid (CellsAt W0 b off [.pointer r0, .slice r1 x.rem.length e1, .slice r2 x.frm.length e2, .slice r3 x.reached.length e3, .slice r4 x.tried.length e4, .slice r5 x.busy.length e5, .slice r6 x.unfit.length e6, .int .i64 x.jumps]) := hc.but (hot := cold) (But.of_below HBW.out) hb (fun e => e)
      have H0 : Hid (BestAt cold W0 inCells (.pointer r0) x.best) := hbest.but (But.of_below HBW.out)
      have H1 : Hid (OptRow cold W0 inCells (.slice r1 x.rem.length e1) x.rem) := hrem.but (But.of_below HBW.out)
      have H2 : Hid (StrRow cold W0 (.slice r2 x.frm.length e2) x.frm) := hfrm.but (But.of_below HBW.out)
      have H3 : Hid (StrRow cold W0 (.slice r3 x.reached.length e3) x.reached) := hrea.but (But.of_below HBW.out)
      have H4 : Hid (StrRow cold W0 (.slice r4 x.tried.length e4) x.tried) := htri.but (But.of_below HBW.out)
      have H5 : Hid (StrRow cold W0 (.slice r5 x.busy.length e5) x.busy) := hbus.but (But.of_below HBW.out)
      have H6 : Hid (StrRow cold W0 (.slice r6 x.unfit.length e6) x.unfit) := hunf.but (But.of_below HBW.out)
      have HKEEP : Hid (∀ w2, Below W0.heap.size W0 w2 → w2.cell? ⟨b, off + 2, none⟩ = some (.slice r2 x.frm.length e2) ∧ w2.cell? ⟨b, off + 3, none⟩ = some (.slice r3 x.reached.length e3) ∧ w2.cell? ⟨b, off + 4, none⟩ = some (.slice r4 x.tried.length e4) ∧ w2.cell? ⟨b, off + 5, none⟩ = some (.slice r5 x.busy.length e5) ∧ w2.cell? ⟨b, off + 6, none⟩ = some (.slice r6 x.unfit.length e6) ∧ w2.cell? ⟨b, off + 7, none⟩ = some (.int .i64 x.jumps) ∧ Below W0.heap.size W0 w2) := fun w2 h =>
        have hq := HC.out.below' h hb'
        ⟨hq.at 2 rfl, hq.at 3 rfl, hq.at 4 rfl, hq.at 5 rfl, hq.at 6 rfl, hq.at 7 rfl, h⟩
      have HREMW : Hid (OptRow cold w inCells (.slice r1 x.rem.length e1) x.rem) := hrem
      clear hc hbest hrem hfrm hrea htri hbus hunf HX
      go_upto_region 3 with fail
      go_cut [8] (fun v8 wx => ∃ Q q2 f2 q3 f3 q4 f4 q5 f5 q6 f6, v8 = .pointer (some ⟨Q, 0, none⟩) ∧ QHalf w x us J Q (.slice a1 us.length d1) (.pointer none) (.slice none 0 0) (.slice q2 x.frm.length f2) (.slice q3 x.reached.length f3) (.slice q4 x.tried.length f4) (.slice q5 x.busy.length f5) (.slice q6 x.unfit.length f6) wx ∧ Below W0.heap.size W0 wx)
      case first =>
        go_region_held3 (fun w2 => w2.cell? ⟨b, off + 2, none⟩ = some (.slice r2 x.frm.length e2) ∧ w2.cell? ⟨b, off + 3, none⟩ = some (.slice r3 x.reached.length e3) ∧ w2.cell? ⟨b, off + 4, none⟩ = some (.slice r4 x.tried.length e4) ∧ w2.cell? ⟨b, off + 5, none⟩ = some (.slice r5 x.busy.length e5) ∧ w2.cell? ⟨b, off + 6, none⟩ = some (.slice r6 x.unfit.length e6) ∧ w2.cell? ⟨b, off + 7, none⟩ = some (.int .i64 x.jumps) ∧ Below W0.heap.size W0 w2)
          (first
            | exact HKEEP.out _ (by assumption)
            | exact HKEEP.out _ (Below.drew (Below.refl _ _))
            | exact HKEEP.out _ (allocB (by assumption) _))
          (first
            | (go_at_call 14; (with_reducible change Calls Try.prog 14 #[Value.slice r3 x.reached.length e3] _ _); go_split_ands; refine (clone_any (hot := cold) r3 x.reached.length e3 x.reached _ ?_ ?_).mono ?_; (refine H3.out.but (But.of_below ?_); assumption); omega; rintro e w3 ⟨v3, rfl, hv3, hb3⟩; have hB3 : Below W0.heap.size W0 w3 := (by refine chainB ?_ hb3; assumption); have hv3 : StrRow (isJ J) w3 v3 x.reached := (by refine rowJ (W0 := W0) hb3 ?_ (by omega) hv3; assumption); obtain ⟨q3, f3, rfl, hv3⟩ := hv3.form; have HV3 : Hid (StrRow (isJ J) w3 (.slice q3 x.reached.length f3) x.reached) := hv3; have HB3 := hid hb3; clear hv3 hb3)
            | (go_at_call 14; (with_reducible change Calls Try.prog 14 #[Value.slice r4 x.tried.length e4] _ _); go_split_ands; refine (clone_any (hot := cold) r4 x.tried.length e4 x.tried _ ?_ ?_).mono ?_; (refine H4.out.but (But.of_below ?_); assumption); omega; rintro e w4 ⟨v4, rfl, hv4, hb4⟩; have hB4 : Below W0.heap.size W0 w4 := (by refine chainB ?_ hb4; assumption); have hv4 : StrRow (isJ J) w4 v4 x.tried := (by refine rowJ (W0 := W0) hb4 ?_ (by omega) hv4; assumption); obtain ⟨q4, f4, rfl, hv4⟩ := hv4.form; have HV4 : Hid (StrRow (isJ J) w4 (.slice q4 x.tried.length f4) x.tried) := hv4; have HB4 := hid hb4; clear hv4 hb4)
            | (go_at_call 14; (with_reducible change Calls Try.prog 14 #[Value.slice r5 x.busy.length e5] _ _); go_split_ands; refine (clone_any (hot := cold) r5 x.busy.length e5 x.busy _ ?_ ?_).mono ?_; (refine H5.out.but (But.of_below ?_); assumption); omega; rintro e w5 ⟨v5, rfl, hv5, hb5⟩; have hB5 : Below W0.heap.size W0 w5 := (by refine chainB ?_ hb5; assumption); have hv5 : StrRow (isJ J) w5 v5 x.busy := (by refine rowJ (W0 := W0) hb5 ?_ (by omega) hv5; assumption); obtain ⟨q5, f5, rfl, hv5⟩ := hv5.form; have HV5 : Hid (StrRow (isJ J) w5 (.slice q5 x.busy.length f5) x.busy) := hv5; have HB5 := hid hb5; clear hv5 hb5)
            | (go_at_call 14; (with_reducible change Calls Try.prog 14 #[Value.slice r6 x.unfit.length e6] _ _); go_split_ands; refine (clone_any (hot := cold) r6 x.unfit.length e6 x.unfit _ ?_ ?_).mono ?_; (refine H6.out.but (But.of_below ?_); assumption); omega; rintro e w6 ⟨v6, rfl, hv6, hb6⟩; have hB6 : Below W0.heap.size W0 w6 := (by refine chainB ?_ hb6; assumption); have hv6 : StrRow (isJ J) w6 v6 x.unfit := (by refine rowJ (W0 := W0) hb6 ?_ (by omega) hv6; assumption); obtain ⟨q6, f6, rfl, hv6⟩ := hv6.form; have HV6 : Hid (StrRow (isJ J) w6 (.slice q6 x.unfit.length f6) x.unfit) := hv6; have HB6 := hid hb6; clear hv6 hb6)
            | (go_at_call 14; (with_reducible change Calls Try.prog 14 #[Value.slice r2 x.frm.length e2] _ _); go_split_ands; refine (clone_any (hot := cold) r2 x.frm.length e2 x.frm _ ?_ ?_).mono ?_; (refine H2.out.but (But.of_below ?_); assumption); omega; rintro e w2 ⟨v2, rfl, hv2, hb2⟩; have hB2 : Below W0.heap.size W0 w2 := (by refine chainB ?_ hb2; assumption); have hv2 : StrRow (isJ J) w2 v2 x.frm := (by refine rowJ (W0 := W0) hb2 ?_ (by omega) hv2; assumption); obtain ⟨q2, f2, rfl, hv2⟩ := hv2.form; have HV2 : Hid (StrRow (isJ J) w2 (.slice q2 x.frm.length f2) x.frm) := hv2; have HB2 := hid hb2; clear hv2 hb2))
        go_wp2
        go_meet
        exact ⟨_, q2, f2, q3, f3, q4, f4, q5, f5, q6, f6, rfl, qfirst HJ.out HUS.out HBW.out hJ HV2.out HV3.out HV4.out HV5.out HV6.out HB3.out HB4.out HB5.out HB6.out hB6, allocB hB6 _⟩
      case rest =>
        obtain ⟨Q, q2, f2, q3, f3, q4, f4, q5, f5, q6, f6, rfl, hq, hbq⟩ := hcut
        have HQ : Hid (QHalf w x us J Q (.slice a1 us.length d1) (.pointer none) (.slice none 0 0) (.slice q2 x.frm.length f2) (.slice q3 x.reached.length f3) (.slice q4 x.tried.length f4) (.slice q5 x.busy.length f5) (.slice q6 x.unfit.length f6) wc) := hq
        have HBQ : Hid (Below W0.heap.size W0 wc) := hbq
        have g0 : wc.cell? ⟨b, off, none⟩ = some (.pointer r0) := (hbq.cell (p := ⟨b, off, none⟩) hb').trans (HC.out.at 0 rfl)
        have hszq := hbq.size
        clear hq hbq H2 H3 H4 H5 H6 HKEEP
        go_upto_if 53 with fail
        go_cut [] (fun wx => ∃ v0, QHalf w x us J Q (.slice a1 us.length d1) v0 (.slice none 0 0) (.slice q2 x.frm.length f2) (.slice q3 x.reached.length f3) (.slice q4 x.tried.length f4) (.slice q5 x.busy.length f5) (.slice q6 x.unfit.length f6) wx ∧ BestAt (hotJQ J Q) wx inCells v0 x.best ∧ But (hotJQ J Q) W0 wx)
        case first =>
          obtain ⟨bo, hbo⟩ : ∃ bo, x.best = bo := ⟨_, rfl⟩
          have HBO : Hid (x.best = bo) := hbo
          have hbest : BestAt cold wc inCells (.pointer r0) bo := by rw [← hbo]; exact H0.out.but (But.of_below HBQ.out)
          clear hbo
          cases bo with
          | none =>
            have e : Value.pointer r0 = .pointer none := hbest
            injection e with e
            subst e
            clear hbest
            go_wp2
            go_meet
            exact ⟨_, HQ.out, by rw [HBO.out]; exact rfl, But.of_below HBQ.out⟩
          | some o =>
            obtain ⟨bb, bof, e, hbb, _, hcells⟩ := hbest
            injection e with e
            subst e
            have t0 : wc.cell? ⟨bb, bof, none⟩ = some (.string o.name) := hcells.at 0 rfl
            have t1 : wc.cell? ⟨bb, bof + 1, none⟩ = some (.string o.addr) := hcells.at 1 rfl
            have t2 : wc.cell? ⟨bb, bof + 2, none⟩ = some (.float .f64 o.speed) := hcells.at 2 rfl
            have t3 : wc.cell? ⟨bb, bof + 3, none⟩ = some (.int .i64 o.cores) := hcells.at 3 rfl
            have t4 : wc.cell? ⟨bb, bof + 4, none⟩ = some (.int .i64 o.load) := hcells.at 4 rfl
            have t5 : wc.cell? ⟨bb, bof + 5, none⟩ = some (.bool o.fits) := hcells.at 5 rfl
            clear hcells
            go_wp2_with (go_at_call 15; refine (poolOption_any o wc).mono ?_; rintro e w1 ⟨he, hb1⟩; unfold inV at he; subst he; have HB1 : Hid (Below wc.heap.size wc w1) := hb1; have hv1 : ∀ o2, (w1.alloc o2).cell? ⟨Q, 0, none⟩ = some (.pointer none) := (fun o2 => cellQ (j := 0) (HQ.out.later (hb1.alloc hb1.size o2)).way rfl); have hf1 : ∀ o2, (w1.alloc o2).frozen? ⟨Q, 0, none⟩ = false := (fun o2 => free_of_block (HQ.out.later (hb1.alloc hb1.size o2)).way); clear hb1)
            go_meet
            obtain ⟨v0, h1, h2⟩ := HQ.out.best HB1.out HBO.out
            exact ⟨v0, h1, h2, ((But.of_below (chainB HBQ.out HB1.out)).alloc _).setCell (p := ⟨Q, 0, none⟩) (.inr (.inr rfl)) _⟩
        case rest =>
          obtain ⟨v0, hq, hbest, hbq⟩ := hcut
          have HQ1 : Hid (QHalf w x us J Q (.slice a1 us.length d1) v0 (.slice none 0 0) (.slice q2 x.frm.length f2) (.slice q3 x.reached.length f3) (.slice q4 x.tried.length f4) (.slice q5 x.busy.length f5) (.slice q6 x.unfit.length f6) wc) := hq
          have HBEST : Hid (BestAt (hotJQ J Q) wc inCells v0 x.best) := hbest
          have HBW1 : Hid (But (hotJQ J Q) W0 wc) := hbq
          have hJQ := hq.lt
          have hQl := lt_size hq.way
          have hszw := hbq.size
          have hnb : ∀ k, k < w.heap.size → ¬ hotJQ J Q k := fun k hk e => by rcases e with e | e <;> omega
          have g1 : wc.cell? ⟨b, off + 1, none⟩ = some (.slice r1 x.rem.length e1) := (hbq.cell (p := ⟨b, off + 1, none⟩) hb' (hnb b hb)).trans (HC.out.at 1 rfl)
          have HREM : Hid (OptRow cold w inCells (.slice r1 x.rem.length e1) x.rem) := HREMW.out
          have HLW : Hid (Below w.heap.size w wc) := hq.below
          clear hq hbest hbq HQ HBQ g0 hnb
          have hq37 := fun (w : World) (a : Option Addr) (n c : Nat) => run_neq_slice_nil_any (P := Try.prog) w 37 52 a n c 0 0 Try.underlying37
          go_upto_if 68 with fail
          go_cut [] (fun wx => ∃ v0 v1, QHalf w x us J Q (.slice a1 us.length d1) v0 v1 (.slice q2 x.frm.length f2) (.slice q3 x.reached.length f3) (.slice q4 x.tried.length f4) (.slice q5 x.busy.length f5) (.slice q6 x.unfit.length f6) wx ∧ BestAt (hotJQ J Q) wx inCells v0 x.best ∧ OptRow (hotJQ J Q) wx inCells v1 x.rem)
          case first =>
            cases r1 with
            | none =>
              have hnil : x.rem = [] := by
                obtain ⟨_, hr⟩ := HREM.out.cells
                cases hx : x.rem with
                | nil => rfl
                | cons o os =>
                  obtain ⟨b, off, e, _⟩ := hr (by rw [hx]; simp)
                  cases e
              have R : Hid (∃ v0 v1, QHalf w x us J Q (.slice a1 us.length d1) v0 v1 (.slice q2 x.frm.length f2) (.slice q3 x.reached.length f3) (.slice q4 x.tried.length f4) (.slice q5 x.busy.length f5) (.slice q6 x.unfit.length f6) wc ∧ BestAt (hotJQ J Q) wc inCells v0 x.best ∧ OptRow (hotJQ J Q) wc inCells v1 x.rem) := ⟨v0, _, HQ1.out, HBEST.out, by rw [hnil]; exact OptRow.nil _ _ _⟩
              clear hnil
              go_wp2
              go_meet
              exact R.out
            | some rr =>
              obtain ⟨i0, hi0, hz0, hz1, hz2⟩ := info_parts Try.info69
              go_wp2_with (at_make; refine wpList_make_full _ rfl (.tmp 73) (.tmp 73) 65 rfl wc.heap.size 69 i0 _ 6 Try.underlying65 hi0 hz0 hz1 .i64 .i64 _ _ x.rem.length rfl rfl rfl rfl (by rw [hz2]; omega) (by unfold maxLen; omega) (by omega) ?_; intro w1 hown1 hgrow1; have HCP : Hid (CpInv x.rem wc.heap.size wc 0 w1) := CpInv.made rfl hown1 hgrow1; clear hown1 hgrow1)
              go_loopw [11] (fun i wr => ∃ k : Nat, i = .int .i64 k ∧ CpInv x.rem wc.heap.size wc k wr) (fun i _ => x.rem.length - (intOf i).toNat)
              case atStart => exact ⟨0, rfl, HCP.out⟩
              case round =>
                obtain ⟨k, rfl, hcp⟩ := hrel
                have HCP1 : Hid (CpInv x.rem wc.heap.size wc k wr) := hcp
                have hle := hcp.le
                have hbr := hcp.below
                have hszr := hbr.size
                have g1r : wr.cell? ⟨b, off + 1, none⟩ = some (.slice (some rr) x.rem.length e1) := (hbr.cell (p := ⟨b, off + 1, none⟩) (by show b < _; omega)).trans g1
                have HLR : Hid (Below w.heap.size w wr) := HLW.out.trans (hbr.mono (HLW.out.size))
                clear hcp hbr HCP g1
                by_cases hkl : k < x.rem.length
                · obtain ⟨o, ho⟩ : ∃ o, x.rem[k]? = some o := ⟨x.rem[k], List.getElem?_eq_getElem hkl⟩
                  obtain ⟨_, hr⟩ := HREM.out.cells
                  obtain ⟨br, offr, er, hbr, _, hcr⟩ := hr (by omega)
                  injection er with er
                  subst er
                  have HCO : Hid (CellsAt wr br (offr + k * 6) (inCells o)) := fun j u hu => (HLR.out.cell (p := ⟨br, offr + k * 6 + j, none⟩) hbr).trans (hcr k o ho j u hu)
                  have t0 : wr.cell? ⟨br, offr + k * 6, none⟩ = some (.string o.name) := HCO.out.at 0 rfl
                  have t1 : wr.cell? ⟨br, offr + k * 6 + 1, none⟩ = some (.string o.addr) := HCO.out.at 1 rfl
                  have t2 : wr.cell? ⟨br, offr + k * 6 + 2, none⟩ = some (.float .f64 o.speed) := HCO.out.at 2 rfl
                  have t3 : wr.cell? ⟨br, offr + k * 6 + 3, none⟩ = some (.int .i64 o.cores) := HCO.out.at 3 rfl
                  have t4 : wr.cell? ⟨br, offr + k * 6 + 4, none⟩ = some (.int .i64 o.load) := HCO.out.at 4 rfl
                  have t5 : wr.cell? ⟨br, offr + k * 6 + 5, none⟩ = some (.bool o.fits) := HCO.out.at 5 rfl
                  have HO : Hid (x.rem[k]? = some o) := ho
                  clear hr hcr ho HCO
                  go_wp2_with (go_at_call 15; refine (poolOption_any o wr).mono ?_; rintro e w2 ⟨he, hb2⟩; unfold inV at he; subst he; have HCP2 : Hid (CpInv x.rem wc.heap.size wc k w2) := HCP1.out.later hb2; obtain ⟨u0, u1, u2, u3, u4, u5, s0, s1, s2, s3, s4, s5⟩ := HCP2.out.six hkl; have fz : ∀ p, w2.frozen? ⟨wc.heap.size, p, none⟩ = false := HCP2.out.free; have HCP3 : Hid (CpInv x.rem wc.heap.size wc (k + 1) (w2.setCells wc.heap.size (k * 6) (inCells o))) := HCP2.out.put (Nat.le_refl _) HO.out; clear hb2 HCP2)
                  go_roundw
                  case rel => exact ⟨k + 1, by go_num, HCP3.out⟩
                  case measure => simp [intOf]; omega
                · have hkn : k = x.rem.length := by omega
                  subst hkn
                  have HQ2 : Hid (QHalf w x us J Q (.slice a1 us.length d1) v0 (.slice none 0 0) (.slice q2 x.frm.length f2) (.slice q3 x.reached.length f3) (.slice q4 x.tried.length f4) (.slice q5 x.busy.length f5) (.slice q6 x.unfit.length f6) wr) := HQ1.out.later HCP1.out.below
                  have c1 : wr.cell? ⟨Q, 1, none⟩ = some (.slice none 0 0) := cellQ (j := 1) HQ2.out.way rfl
                  have f1 : wr.frozen? ⟨Q, 1, none⟩ = false := free_of_block HQ2.out.way
                  have hgn : ¬ hotJQ J Q wc.heap.size := fun e => by rcases e with e | e <;> omega
                  have R : Hid (∃ v0 v1, QHalf w x us J Q (.slice a1 us.length d1) v0 v1 (.slice q2 x.frm.length f2) (.slice q3 x.reached.length f3) (.slice q4 x.tried.length f4) (.slice q5 x.busy.length f5) (.slice q6 x.unfit.length f6) (wr.setCell ⟨Q, 1, none⟩ (.slice (some ⟨wc.heap.size, 0, none⟩) x.rem.length x.rem.length)) ∧ BestAt (hotJQ J Q) (wr.setCell ⟨Q, 1, none⟩ (.slice (some ⟨wc.heap.size, 0, none⟩) x.rem.length x.rem.length)) inCells v0 x.best ∧ OptRow (hotJQ J Q) (wr.setCell ⟨Q, 1, none⟩ (.slice (some ⟨wc.heap.size, 0, none⟩) x.rem.length x.rem.length)) inCells v1 x.rem) := by
                    have hb' : But (hotJQ J Q) wr (wr.setCell ⟨Q, 1, none⟩ (.slice (some ⟨wc.heap.size, 0, none⟩) x.rem.length x.rem.length)) := (But.refl _ wr).setCell (p := ⟨Q, 1, none⟩) (.inr (.inr rfl)) _
                    exact ⟨v0, _, HQ2.out.set 1 _ rfl, (HBEST.out.but (But.of_below HCP1.out.below)).but hb', (HCP1.out.row hgn).but hb'⟩
                  clear HQ1 HQ2 HCP1 HBEST
                  go_wp2
                  go_meet
                  exact R.out
          case rest =>
            obtain ⟨v0, v1, hq, hbest, hrem⟩ := hcut
            have c6 : wc.cell? ⟨J, 6, none⟩ = some (.pointer none) := cellQ (j := 6) hq.job rfl
            have f6' : wc.frozen? ⟨J, 6, none⟩ = false := free_of_block hq.job
            have R : Hid (JobHalf w (some x) us J (.slice a1 us.length d1) (wc.setCell ⟨J, 6, none⟩ (.pointer (some ⟨Q, 0, none⟩)))) := hq.shut hbest hrem
            clear hq hbest hrem
            go_wp2
            go_meet
            exact R.out
  case rest =>
    have HH : Hid (JobHalf w x us J (.slice a1 us.length d1) wc) := hcut
    clear hcut HX HJ HUS HBW hsz0
    cases y with
    | none =>
      have e : Value.pointer ak = .pointer none := HY.out
      injection e with e
      subst e
      have R : Hid (JobAt wc (.pointer (some ⟨J, 0, none⟩)) x none us ∧ Below w.heap.size w wc) := ⟨jobHalf_none HH.out, HH.out.choose_spec.2.2.2⟩
      clear HH HY HF
      go_wp2
      go_ret
      exact ⟨_, rfl, R.out.1, R.out.2⟩
    | some y =>
      obtain ⟨pw', hj, hxw, hus, hbw⟩ := HH.out
      obtain ⟨bk, offk, k0, k1, e, hbk, hck, hk0, hk1⟩ := HY.out
      injection e with e
      subst e
      obtain ⟨r7, e7, rfl, hk0⟩ := hk0.form
      obtain ⟨r8, e8, rfl, hk1⟩ := hk1.form
      obtain ⟨l7, l8⟩ := HF.out.walk y rfl
      have hJl := lt_size hj
      have hbkJ : ¬ isJ J bk := fun e => by unfold isJ at e; omega
      have hbk' : bk < wc.heap.size := by omega
      have HX1 : Hid (WayH (isJ J) wc pw' x ∧ StrRow (isJ J) wc (.slice a1 us.length d1) us) := ⟨hxw, hus⟩
      have HBW1 : Hid (Below w.heap.size w wc) := hbw
      have hj0 : wc.drew.heap[J]? = some (JB (.pointer none) pw' (.slice a1 us.length d1)) := hj
      have HCK : Hid (CellsAt wc bk offk [.slice r7 y.visited.length e7, .slice r8 y.ahead.length e8]) := hck.but (hot := cold) (But.of_below hbw) hbk (fun e => e)
      have hwm : ∀ k, k < w.heap.size → isJ J k → cold k := fun k hk e => by unfold isJ at e; omega
      have H7 : Hid (StrRow (isJ J) wc (.slice r7 y.visited.length e7) y.visited) := (hk0.warm hwm).but (But.of_below hbw)
      have H8 : Hid (StrRow (isJ J) wc (.slice r8 y.ahead.length e8) y.ahead) := (hk1.warm hwm).but (But.of_below hbw)
      have HKEEP : Hid (∀ w2, But (isJ J) wc w2 → w2.cell? ⟨bk, offk, none⟩ = some (.slice r7 y.visited.length e7) ∧ w2.cell? ⟨bk, offk + 1, none⟩ = some (.slice r8 y.ahead.length e8) ∧ But (isJ J) wc w2) := fun w2 h =>
        have hq := HCK.out.but h hbk' hbkJ
        ⟨hq.at 0 rfl, hq.at 1 rfl, h⟩
      clear hck hk0 hk1 HY HH hj hxw hus hbw hwm
      go_upto_region 16 with fail
      go_region_held3 (fun w2 => w2.cell? ⟨bk, offk, none⟩ = some (.slice r7 y.visited.length e7) ∧ w2.cell? ⟨bk, offk + 1, none⟩ = some (.slice r8 y.ahead.length e8) ∧ But (isJ J) wc w2)
        (first
          | exact HKEEP.out _ (by assumption)
          | exact HKEEP.out _ (But.drew (But.refl _ _))
          | exact HKEEP.out _ (But.alloc (by assumption) _)
          | exact HKEEP.out _ (But.setCell (p := ⟨J, 5, none⟩) (But.alloc (by assumption) _) (.inr (show isJ J J from rfl)) _))
        (first
          | (go_at_call 14; (with_reducible change Calls Try.prog 14 #[Value.slice r7 y.visited.length e7] _ _); go_split_ands; refine (clone_any (hot := isJ J) r7 y.visited.length e7 y.visited _ ?_ ?_).mono ?_; (refine H7.out.but ?_; assumption); omega; rintro e w2 ⟨v2, rfl, hv2, hb2⟩; have hB2 : But (isJ J) wc w2 := (by refine But.trans ?_ (But.of_below hb2); assumption); have hv2 : StrRow (isJ J) w2 v2 y.visited := (by refine rowJ2 (W0 := wc) hb2 ?_ (by omega) hv2; assumption); obtain ⟨q2, f2, rfl, hv2⟩ := hv2.form; have HV2 : Hid (StrRow (isJ J) w2 (.slice q2 y.visited.length f2) y.visited) := hv2; have hj2 := keptJ hb2 (by assumption); clear hv2 hb2)
          | (go_at_call 14; (with_reducible change Calls Try.prog 14 #[Value.slice r8 y.ahead.length e8] _ _); go_split_ands; refine (clone_any (hot := isJ J) r8 y.ahead.length e8 y.ahead _ ?_ ?_).mono ?_; (refine H8.out.but ?_; assumption); omega; rintro e w3 ⟨v3, rfl, hv3, hb3⟩; have hB3 : But (isJ J) wc w3 := (by refine But.trans ?_ (But.of_below hb3); assumption); have hv3 : StrRow (isJ J) w3 v3 y.ahead := (by refine rowJ2 (W0 := wc) hb3 ?_ (by omega) hv3; assumption); obtain ⟨q3, f3, rfl, hv3⟩ := hv3.form; have HV3 : Hid (StrRow (isJ J) w3 (.slice q3 y.ahead.length f3) y.ahead) := hv3; have hj3 := keptJ hb3 hj2; have HB3 := hid hb3; have cj : ∀ o, (w3.alloc o).cell? ⟨J, 5, none⟩ = some (.pointer none) := (fun o => cellQ (j := 5) ((Below.heap_alloc _ _ _ (lt_size hj3)).trans hj3) rfl); have fj : ∀ o, (w3.alloc o).frozen? ⟨J, 5, none⟩ = false := (fun o => free_of_block ((Below.heap_alloc _ _ _ (lt_size hj3)).trans hj3)); clear hv3 hb3))
      go_wp2
      go_ret
      exact ⟨_, rfl, jobHalf_walk HX1.out.1 HX1.out.2 hB3 hj3 HB3.out HV2.out HV3.out, (HBW1.out.trans (((hB3.alloc _).setCell (p := ⟨J, 5, none⟩) (.inr (show isJ J J from rfl)) _).below (fun k e => by unfold isJ at e; omega) HBW1.out.size))⟩
end Go.Proofs.Qxb6615722a.AsWay
