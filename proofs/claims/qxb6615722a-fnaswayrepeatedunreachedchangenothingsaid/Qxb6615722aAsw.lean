/-
  THE WALK OF asWay (13) AND OF ZZasWay (6). By an AI agent, Nov 2026.
-/
import Derived.Test.Qxb6615722aWay
import Derived.Deep.RegionHeld3
import Derived.Deep.RegionLaw
namespace Go.Proofs.Qxb6615722a.AsWay
open Go.RowKit
set_option linter.unusedVariables false
attribute [local go_sem] run_store_float

def Z30 : Obj := .cells #[.pointer none, .slice none 0 0, .slice none 0 0, .slice none 0 0, .slice none 0 0, .slice none 0 0, .slice none 0 0, .int .i64 0, .pointer none, .slice none 0 0] 30 (0, 0)
/-- Not too many, not too long. -/
structure Fits (x : Option WIn) (y : Option KIn) (us : List ByteArray) : Prop where
  lus : us.length ≤ 200000
  lrem : ∀ z, x = some z → z.rem.length ≤ 200000
  lvis : ∀ z, y = some z → z.visited.length ≤ 200000
  short : ∀ s ∈ us, s.size ≤ maxLen
  vshort : ∀ z, y = some z → ∀ s ∈ z.visited, s.size ≤ maxLen

/-- The bounds along the way. -/
structure Bd (s : Out) (k r v : Nat) : Prop where
  unr : s.unr.length ≤ k
  rem : s.rem.length ≤ r
  walk : ∀ q, s.walk = some q → q.1.length ≤ v + k
theorem Bd.goOn {s : Out} {k r v : Nat} (h : Bd s k r v) (n : ByteArray) : Bd (goOn s n) (k + 1) r v := by
  unfold AsWay.goOn
  split
  · exact ⟨by have := h.unr; omega, h.rem, fun q hq => by have := h.walk q hq; omega⟩
  · refine ⟨?_, ?_, ?_⟩
    · have := h.unr; simp; omega
    · exact Nat.le_trans (List.length_filter_le _ _) h.rem
    · intro q hq
      simp at hq
      obtain ⟨a, b, hab, rfl⟩ := hq
      have := h.walk _ hab
      simp at this ⊢
      omega
theorem goOn_walk_none (s : Out) (n : ByteArray) : (goOn s n).walk = none ↔ s.walk = none := by
  unfold AsWay.goOn; split
  · rfl
  · simp
def upTo (x : Option WIn) (y : Option KIn) (us : List ByteArray) (k : Nat) : Out := (us.take k).foldl goOn (start x y)
theorem upTo_zero (x : Option WIn) (y : Option KIn) (us : List ByteArray) : upTo x y us 0 = start x y := rfl
theorem upTo_succ (x : Option WIn) (y : Option KIn) (us : List ByteArray) (k : Nat) (h : k < us.length) : upTo x y us (k + 1) = goOn (upTo x y us k) (us.getD k ByteArray.empty) := by
  unfold upTo; rw [take_succ us k h, List.foldl_append]; rfl
theorem upTo_full (x : Option WIn) (y : Option KIn) (us : List ByteArray) : upTo x y us us.length = final x y us := by unfold upTo final; rw [List.take_length]
theorem upTo_bd {x : Option WIn} {y : Option KIn} {us : List ByteArray} (hf : Fits x y us) : ∀ k, k ≤ us.length → Bd (upTo x y us k) k 200000 200000
  | 0, _ => by
    rw [upTo_zero]
    cases x with
    | none => exact ⟨Nat.le_refl _, by simp [start], fun q hq => by simp [start] at hq⟩
    | some z =>
      refine ⟨Nat.le_refl _, hf.lrem z rfl, fun q hq => ?_⟩
      cases y with
      | none => simp [start] at hq
      | some v => simp [start] at hq; subst hq; exact hf.lvis v rfl
  | k + 1, h => by rw [upTo_succ x y us k (by omega)]; exact (upTo_bd hf k (by omega)).goOn _
theorem upTo_walk {x : Option WIn} {y : Option KIn} {us : List ByteArray} : ∀ k, k ≤ us.length → ((upTo x y us k).walk = none ↔ (start x y).walk = none)
  | 0, _ => Iff.rfl
  | k + 1, h => by rw [upTo_succ x y us k (by omega), goOn_walk_none]; exact upTo_walk k (by omega)

def WayV (hot : Nat → Prop) (K M : Nat) (w : World) (v : Value) (s : Out) : Prop :=
  ∃ c0 c1 c2 c3 c4 c5 c6 c8 c9, v = .agg #[c0, c1, c2, c3, c4, c5, c6, .int .i64 s.jumps, c8, c9] ∧ Row hot K M w s c0 c1 c2 c3 c4 c5 c6 c8 c9

theorem Row.cool {hot : Nat → Prop} {K M : Nat} {w : World} {s : Out} {c0 c1 c2 c3 c4 c5 c6 c8 c9 : Value} (h : Row hot K M w s c0 c1 c2 c3 c4 c5 c6 c8 c9) : Row cold K M w s c0 c1 c2 c3 c4 c5 c6 c8 c9 := by
  refine ⟨h.best.warm (fun _ _ e => e.elim), h.rem.warm (fun _ _ e => e.elim), h.frm.warm (fun _ _ e => e.elim), h.reached.warm (fun _ _ e => e.elim), h.tried.warm (fun _ _ e => e.elim), h.busy.warm (fun _ _ e => e.elim), h.unfit.warm (fun _ _ e => e.elim), ?_, h.unr.warm (fun _ _ e => e.elim)⟩
  have hw := h.walk
  revert hw
  cases s.walk with
  | none => exact fun h => h
  | some q => exact fun ⟨hp, ca, cu, h1, h2, h3⟩ => ⟨hp, ca, cu, h1, h2.warm (fun _ _ e => e.elim), h3⟩
theorem Row.forms {hot : Nat → Prop} {K M : Nat} {w : World} {s : Out} {c0 c1 c2 c3 c4 c5 c6 c8 c9 : Value} (h : Row hot K M w s c0 c1 c2 c3 c4 c5 c6 c8 c9) :
    (∃ a, c0 = .pointer a) ∧ (∃ a n c, c1 = .slice a n c) ∧ (∃ a n c, c2 = .slice a n c) ∧ (∃ a n c, c3 = .slice a n c) ∧ (∃ a n c, c4 = .slice a n c) ∧ (∃ a n c, c5 = .slice a n c) ∧ (∃ a n c, c6 = .slice a n c) ∧ (∃ a, c8 = .pointer a) ∧ (∃ a n c, c9 = .slice a n c) := by
  have sf : ∀ {v ss}, StrRow hot w v ss → ∃ a n c, v = .slice a n c := fun h => by
    obtain ⟨a, c, e, _⟩ := h.form
    exact ⟨a, _, c, e⟩
  refine ⟨?_, ?_, sf h.frm, sf h.reached, sf h.tried, sf h.busy, sf h.unfit, ?_, sf h.unr⟩
  · have hb := h.best
    revert hb
    cases s.best with
    | none => exact fun e => ⟨none, e⟩
    | some o => exact fun ⟨b, off, e, _⟩ => ⟨_, e⟩
  · obtain ⟨a, c, e, _⟩ := h.rem
    exact ⟨a, _, c, e⟩
  · have hb := h.walk
    revert hb
    cases s.walk with
    | none => exact fun e => ⟨none, e⟩
    | some o => exact fun ⟨e, _⟩ => ⟨_, e⟩
/-- .. and the result's block R. -/
def hotR (R B K M : Nat) : Nat → Prop := fun k => k = R ∨ hotOf B K M k
/-- After 'if j.Way != nil { .. }'. -/
def Ready (w : World) (x : Option WIn) (y : Option KIn) (wx : World) : Prop :=
  ∃ K M, ((start x y).walk ≠ none → w.heap.size + 1 ≠ K ∧ w.heap.size + 1 ≠ M ∧ K ≠ M) ∧ w.heap.size < K ∧ w.heap.size < M ∧ K < wx.heap.size ∧ M < wx.heap.size ∧
    WayOut (hotR w.heap.size (w.heap.size + 1) K M) (w.heap.size + 1) K M wx (start x y) ∧ Below w.heap.size w wx ∧ wx.heap[w.heap.size]? = some Z30

/-- The way, half made: what its cells hold; the result's block; the old world. -/
def Stage (w : World) (x : WIn) (v0 v1 f r t b u : Value) (wx : World) : Prop :=
  wx.heap[w.heap.size + 1]? = some (.cells #[v0, v1, f, r, t, b, u, .int .i64 x.jumps, .pointer none, .slice none 0 0] 30 (0, 0)) ∧ wx.heap[w.heap.size]? = some Z30 ∧ Below w.heap.size w wx
def hot2 (w : World) : Nat → Prop := fun k => k = w.heap.size ∨ k = w.heap.size + 1
theorem Stage.lt {w : World} {x : WIn} {v0 v1 f r t b u : Value} {wx : World} (h : Stage w x v0 v1 f r t b u wx) : w.heap.size + 1 < wx.heap.size := lt_size h.1
theorem Stage.later {w : World} {x : WIn} {v0 v1 f r t b u : Value} {wx w1 : World} (h : Stage w x v0 v1 f r t b u wx) (hb : Below wx.heap.size wx w1) : Stage w x v0 v1 f r t b u w1 :=
  ⟨(hb.block _ (lt_size h.1)).trans h.1, (hb.block _ (lt_size h.2.1)).trans h.2.1, h.2.2.trans (hb.mono h.2.2.size)⟩
theorem Stage.cell0 {w : World} {x : WIn} {v0 v1 f r t b u : Value} {wx w1 : World} (h : Stage w x v0 v1 f r t b u wx) (hb : Below wx.heap.size wx w1) (o : Obj) : (w1.alloc o).cell? ⟨w.heap.size + 1, 0, none⟩ = some v0 :=
  cellB (j := 0) (h.later (hb.alloc hb.size o)).1 rfl
theorem Stage.free0 {w : World} {x : WIn} {v0 v1 f r t b u : Value} {wx w1 : World} (h : Stage w x v0 v1 f r t b u wx) (hb : Below wx.heap.size wx w1) (o : Obj) : (w1.alloc o).frozen? ⟨w.heap.size + 1, 0, none⟩ = false :=
  free_of_block (h.later (hb.alloc hb.size o)).1
theorem Stage.best {w : World} {x : WIn} {v0 v1 f r t b u : Value} {wx w1 : World} {o : Opt} (h : Stage w x v0 v1 f r t b u wx) (hb : Below wx.heap.size wx w1) (hx : x.best = some o) :
    ∃ v0', Stage w x v0' v1 f r t b u ((w1.alloc (.cells (outCells o).toArray 45)).setCell ⟨w.heap.size + 1, 0, none⟩ (.pointer (some ⟨w1.heap.size, 0, none⟩))) ∧ BestAt (hot2 w) ((w1.alloc (.cells (outCells o).toArray 45)).setCell ⟨w.heap.size + 1, 0, none⟩ (.pointer (some ⟨w1.heap.size, 0, none⟩))) outCells v0' x.best := by
  have h2 := h.later (hb.alloc hb.size (.cells (outCells o).toArray 45))
  have hl := h.lt
  have hs := hb.size
  refine ⟨.pointer (some ⟨w1.heap.size, 0, none⟩), ⟨block_setCell h2.1 _, (Below.heap_setCell _ ⟨w.heap.size + 1, 0, none⟩ _ _ (by simp)).trans h2.2.1, h2.2.2.setCell (p := ⟨w.heap.size + 1, 0, none⟩) (by show w.heap.size ≤ w.heap.size + 1; omega) _⟩, ?_⟩
  rw [hx]
  refine ⟨w1.heap.size, 0, rfl, by simp, fun e => ?_, fun j u hu => ?_⟩
  · rcases e with e | e <;> omega
  · rw [World.cell?_of_block (w := w1.alloc (.cells (outCells o).toArray 45)) (Below.heap_setCell _ ⟨w.heap.size + 1, 0, none⟩ _ _ (by show w1.heap.size ≠ w.heap.size + 1; omega)), Nat.zero_add, World.cell?_alloc_new]
    simpa using hu
/-! ### The remembered, one more -/
theorem grown_of_below {w w' : World} (h : Below w.heap.size w w') : w.grownBy w' none := ⟨h.os, h.tape, h.output, h.size, fun k hk _ => h.block k hk⟩
theorem own_later {lo : Nat} {w w' : World} {v : Value} {n : Nat} {xs : List Value} (h : w.ownsRow lo 45 6 v n xs) (hb : Below w.heap.size w w') : w'.ownsRow lo 45 6 v n xs :=
  h.kept (row := none) (grown_of_below hb) (by cases v.ownBlock <;> simp)
theorem own_setCell {lo : Nat} {w : World} {v : Value} {n : Nat} {xs : List Value} (h : w.ownsRow lo 45 6 v n xs) {p : Addr} (hp : p.block < lo) (u : Value) : (w.setCell p u).ownsRow lo 45 6 v n xs := by
  refine h.kept (row := some p.block) ⟨rfl, rfl, rfl, by simp, fun k hk hne => Below.heap_setCell w p u k (fun e => hne (by rw [e]))⟩ ?_
  cases hv : v.ownBlock with
  | none => exact .inl rfl
  | some g => exact .inr (fun e => by injection e with e; have := (h.lt g hv).1; omega)
theorem rem_call {wr w2 : World} {B : Nat} {cs : Array Value} {v1 : Value} {lo n : Nat} {xs : List Value} {O : Obj} (hB : wr.heap[B]? = some (.cells cs 30 (0, 0))) (h1 : cs[1]? = some v1) (hown : wr.ownsRow lo 45 6 v1 n xs) (hb : Below (wr.alloc O).heap.size (wr.alloc O).drew w2) :
    w2.cell? ⟨B, 1, none⟩ = some v1 ∧ w2.ownsRow lo 45 6 v1 n xs ∧ Below wr.heap.size wr w2 := by
  have hb' : Below wr.heap.size wr w2 := (((Below.refl _ wr).alloc (Nat.le_refl _) O).drew).trans (hb.mono (by simp))
  exact ⟨cellB ((hb'.block B (lt_size hB)).trans hB) h1, own_later hown hb', hb'⟩
theorem rem_push {wc wr w2 w3 : World} {B g cap : Nat} {v0 v1 f r t b u j p s : Value} {o : Opt} {L : List Opt} {O2 : Obj} (hbut : But (fun k => k = B) wc wr) (hB : wr.heap[B]? = some (.cells #[v0, v1, f, r, t, b, u, j, p, s] 30 (0, 0))) (hBl : B < wc.heap.size)
    (hown : wr.ownsRow wc.heap.size 45 6 v1 L.length (flatO L)) (hb : Below wr.heap.size wr w2) (hown1 : w3.ownsRow wc.heap.size 45 6 (.slice (some ⟨g, 0, none⟩) (L.length + 1) cap) (L.length + 1) (flatO L ++ outCells o)) (hgrow : (w2.alloc O2).grownBy w3 v1.ownBlock) :
    w3.cell? ⟨B, 1, none⟩ = some v1 ∧ w3.frozen? ⟨B, 1, none⟩ = false ∧ Hid (But (fun k => k = B) wc (w3.setCell ⟨B, 1, none⟩ (.slice (some ⟨g, 0, none⟩) (L.length + 1) cap)) ∧
      (w3.setCell ⟨B, 1, none⟩ (.slice (some ⟨g, 0, none⟩) (L.length + 1) cap)).heap[B]? = some (.cells #[v0, .slice (some ⟨g, 0, none⟩) (L.length + 1) cap, f, r, t, b, u, j, p, s] 30 (0, 0)) ∧
      (w3.setCell ⟨B, 1, none⟩ (.slice (some ⟨g, 0, none⟩) (L.length + 1) cap)).ownsRow wc.heap.size 45 6 (.slice (some ⟨g, 0, none⟩) (L.length + 1) cap) (L ++ [o]).length (flatO (L ++ [o]))) := by
  have hl := hbut.size
  have hne : some B ≠ v1.ownBlock := fun e => by have := (hown.lt B e.symm).1; omega
  have hB3 : w3.heap[B]? = some (.cells #[v0, v1, f, r, t, b, u, j, p, s] 30 (0, 0)) := by
    have hs := hb.size
    rw [hgrow.block B (by simp; omega) hne, Below.heap_alloc _ _ _ (by omega), hb.block B (by omega)]
    exact hB
  have e1 : (L ++ [o]).length = L.length + 1 := by simp
  have e2 : flatO (L ++ [o]) = flatO L ++ outCells o := by rw [flatO_append]; simp [flatO]
  refine ⟨cellB hB3 rfl, free_of_block hB3, ?_, block_setCell hB3 _, ?_⟩
  · have h1 : But (fun k => k = B) wc w2 := hbut.trans (But.of_below hb)
    exact ((h1.alloc O2).grown hgrow (fun k hk => .inl (hown.lt k hk).1)).setCell (p := ⟨B, 1, none⟩) (.inr rfl) _
  · rw [e1, e2]
    exact own_setCell hown1 (p := ⟨B, 1, none⟩) hBl _
theorem opt_in (wr : World) (o : Opt) : CellsAt ((wr.alloc (.cells #[.string o.name, .string o.addr, .float .f64 o.speed, .int .i64 o.cores, .int .i64 o.load, .bool o.fits] 69)).drew) wr.heap.size 0 (inCells o) := fun j u hu => by
  show (wr.alloc (.cells (inCells o).toArray 69)).cell? _ = _
  rw [Nat.zero_add, World.cell?_alloc_new]
  simpa using hu
theorem opt_news (w : World) (o : Opt) : ∀ j u, (outCells o)[j]? = some u → (w.alloc (.cells #[.string o.name, .string o.name, .float .f64 o.speed, .int .i64 o.cores, .int .i64 o.load, .bool o.fits] 45)).cell? ((⟨w.heap.size, 0, none⟩ : Addr).add j) = some u :=
  World.news_of_block (cs := (outCells o).toArray) (t := 45) (fr := (0, 0)) (by exact heap_alloc_new w _)
theorem opt_one (o : Opt) : ∀ u ∈ outCells o, u.oneCell' = true := by
  intro u hu
  exact flatO_one [o] u (by simpa [flatO] using hu)
theorem But.cells {hot : Nat → Prop} {w : World} {b : Nat} (hb : w.heap.size ≤ b ∨ hot b) : ∀ (vs : List Value) (o : Nat) (w' : World), But hot w w' → But hot w (w'.setCells b o vs)
  | [], _, _, h => h
  | v :: r, o, w', h => But.cells hb r (o + 1) _ (h.setCell (p := ⟨b, o, none⟩) hb v)
theorem heap_setCells {b k : Nat} (hk : k ≠ b) : ∀ (vs : List Value) (o : Nat) (w' : World), (w'.setCells b o vs).heap[k]? = w'.heap[k]?
  | [], _, _ => rfl
  | v :: r, o, w' => by rw [World.setCells, heap_setCells hk r]; exact Below.heap_setCell w' ⟨b, o, none⟩ v k hk
/-- The rows of the way, all but the walk. -/
theorem rowA {w wc wr : World} {x : WIn} {v0 v1 f r t b u : Value} (hB1 : Below w.heap.size w wc) (hbut : But (fun q => q = w.heap.size + 1) wc wr) (hl : w.heap.size + 1 < wc.heap.size) (hlow : Below w.heap.size w wr) (hbest : BestAt (hot2 w) wc outCells v0 x.best)
    (hown : wr.ownsRow wc.heap.size 45 6 v1 x.rem.length (flatO x.rem)) (h2 : StrRow cold w f x.frm) (h3 : StrRow cold w r x.reached) (h4 : StrRow cold w t x.tried) (h5 : StrRow cold w b x.busy) (h6 : StrRow cold w u x.unfit) :
    Row (hot2 w) (w.heap.size + 1) (w.heap.size + 1) wr (start (some x) none) v0 v1 f r t b u (.pointer none) (.slice none 0 0) := by
  have hs : ∀ {v ss}, StrRow cold w v ss → StrRow (hot2 w) wr v ss := fun h => (h.warm (fun k hk e => by rcases e with e | e <;> omega)).but (But.of_below hlow)
  refine ⟨hbest.but (hbut.mono (fun k _ e => .inr e)), optRow_of_owns hown (fun k e => by rcases e with e | e <;> omega), hs h2, hs h3, hs h4, hs h5, hs h6, rfl, StrRow.nil _ _⟩
theorem Row.rehot {hot hot' : Nat → Prop} {K M K' M' : Nat} {w : World} {s : Out} {c0 c1 c2 c3 c4 c5 c6 c8 c9 : Value} (h : Row hot K M w s c0 c1 c2 c3 c4 c5 c6 c8 c9) (hh : ∀ k, k < w.heap.size → hot' k → hot k) (hn : s.walk = none) : Row hot' K' M' w s c0 c1 c2 c3 c4 c5 c6 c8 c9 := by
  refine ⟨h.best.warm hh, h.rem.warm hh, h.frm.warm hh, h.reached.warm hh, h.tried.warm hh, h.busy.warm hh, h.unfit.warm hh, ?_, h.unr.warm hh⟩
  have := h.walk
  rw [hn] at this ⊢
  exact this
theorem ready_plain {w wr : World} {x : WIn} {v0 v1 f r t b u : Value} (hrow : Row (hot2 w) (w.heap.size + 1) (w.heap.size + 1) wr (start (some x) none) v0 v1 f r t b u (.pointer none) (.slice none 0 0))
    (hst : Stage w x v0 v1 f r t b u wr) : Ready w (some x) none wr := by
  have hl := hst.lt
  exact ⟨w.heap.size + 1, w.heap.size + 1, fun h => absurd rfl h, by omega, by omega, by omega, by omega, ⟨v0, v1, f, r, t, b, u, _, _, hst.1, hrow.rehot (fun k _ e => by rcases e with e | e | e | e <;> first | exact .inl e | exact .inr e) rfl⟩, hst.2.2, hst.2.1⟩
theorem ready_walk {w wr w5 : World} {x : WIn} {y : KIn} {v0 v1 f r t b u c1 : Value} (hrow : Row (hot2 w) (w.heap.size + 1) (w.heap.size + 1) wr (start (some x) none) v0 v1 f r t b u (.pointer none) (.slice none 0 0))
    (hst : Stage w x v0 v1 f r t b u wr) (hK : w5.heap[wr.heap.size]? = some (.cells #[.map (some (wr.heap.size + 1)), c1, .slice none 0 0] 48 (0, 0))) (hM : MapAt w5 (wr.heap.size + 1) y.visited) (hb : Below wr.heap.size wr w5) (hc1 : StrRow cold w c1 y.ahead) :
    Ready w (some x) (some y) (w5.setCell ⟨w.heap.size + 1, 8, none⟩ (.pointer (some ⟨wr.heap.size, 0, none⟩))) := by
  have hl := hst.lt
  have hM' := hM.lt
  have h5 := hst.later hb
  have hne1 : wr.heap.size ≠ w.heap.size + 1 := by omega
  have hne2 : wr.heap.size + 1 ≠ w.heap.size + 1 := by omega
  have hne3 : w.heap.size ≠ w.heap.size + 1 := by omega
  have hbut : But (hotR w.heap.size (w.heap.size + 1) wr.heap.size (wr.heap.size + 1)) wr (w5.setCell ⟨w.heap.size + 1, 8, none⟩ (.pointer (some ⟨wr.heap.size, 0, none⟩))) := (But.of_below hb).setCell (p := ⟨w.heap.size + 1, 8, none⟩) (.inr (.inr (.inl rfl))) _
  have hr2 : Row (hotR w.heap.size (w.heap.size + 1) wr.heap.size (wr.heap.size + 1)) wr.heap.size (wr.heap.size + 1) (w5.setCell ⟨w.heap.size + 1, 8, none⟩ (.pointer (some ⟨wr.heap.size, 0, none⟩))) (start (some x) none) v0 v1 f r t b u (.pointer none) (.slice none 0 0) :=
    (hrow.rehot (fun k hk e => by rcases e with e | e | e | e <;> first | exact .inl e | exact .inr e | omega) rfl).but hbut (fun h => absurd rfl h)
  refine ⟨wr.heap.size, wr.heap.size + 1, fun _ => ⟨by omega, by omega, by omega⟩, by omega, by omega, by simp; omega, by simp; omega, ⟨v0, v1, f, r, t, b, u, .pointer (some ⟨wr.heap.size, 0, none⟩), .slice none 0 0, block_setCell h5.1 _, hr2.best, hr2.rem, hr2.frm, hr2.reached, hr2.tried, hr2.busy, hr2.unfit, ?_, hr2.unr⟩, h5.2.2.setCell (p := ⟨w.heap.size + 1, 8, none⟩) (by show w.heap.size ≤ w.heap.size + 1; omega) _, (Below.heap_setCell _ ⟨w.heap.size + 1, 8, none⟩ _ _ hne3).trans h5.2.1⟩
  refine ⟨rfl, c1, .slice none 0 0, (Below.heap_setCell _ ⟨w.heap.size + 1, 8, none⟩ _ _ hne1).trans hK, ?_, hM.of_block (Below.heap_setCell _ ⟨w.heap.size + 1, 8, none⟩ _ _ hne2)⟩
  exact ((hc1.warm (fun k hk e => by rcases e with e | e | e | e <;> omega)).but (But.of_below hst.2.2)).but hbut
theorem stage3 (w : World) (x : WIn) (f r t b u : Value) : Stage w x (.pointer none) (.slice none 0 0) f r t b u ((w.alloc Z30).alloc (.cells #[.pointer none, .slice none 0 0, f, r, t, b, u, .int .i64 x.jumps, .pointer none, .slice none 0 0] 30)).drew := by
  have e1 : (w.alloc Z30).heap.size = w.heap.size + 1 := by simp
  refine ⟨?_, ?_, ?_⟩
  · show ((w.alloc Z30).alloc _).heap[w.heap.size + 1]? = _
    rw [← e1]; exact heap_alloc_new _ _
  · show ((w.alloc Z30).alloc _).heap[w.heap.size]? = _
    rw [Below.heap_alloc _ _ _ (by omega)]; exact heap_alloc_new _ _
  · exact (((Below.refl _ w).alloc (Nat.le_refl _) _).alloc (by omega) _).drew
theorem ready_none (w : World) (y : Option KIn) : Ready w none y ((w.alloc Z30).alloc Z30) := by
  have e1 : (w.alloc Z30).heap.size = w.heap.size + 1 := by simp
  have hh : ((w.alloc Z30).alloc Z30).heap[w.heap.size + 1]? = some Z30 := by rw [← e1]; exact heap_alloc_new _ _
  have hs : ((w.alloc Z30).alloc Z30).heap.size = w.heap.size + 2 := by simp
  refine ⟨w.heap.size + 1, w.heap.size + 1, fun h => absurd rfl h, by omega, by omega, by omega, by omega, ?_, ?_, ?_⟩
  · exact ⟨_, _, _, _, _, _, _, _, _, hh, rfl, OptRow.nil _ _ _, StrRow.nil _ _, StrRow.nil _ _, StrRow.nil _ _, StrRow.nil _ _, StrRow.nil _ _, rfl, StrRow.nil _ _⟩
  · exact ((Below.refl _ w).alloc (Nat.le_refl _) _).alloc (by omega) _
  · rw [Below.heap_alloc _ _ _ (by omega)]; exact heap_alloc_new _ _

set_option maxRecDepth 100000 in
set_option maxHeartbeats 4000000 in
theorem asWay_any (p : Value) (x : Option WIn) (y : Option KIn) (us : List ByteArray) (w : World) (h : JobAt w p x y us) (hf : Fits x y us) :
    Calls Try.prog 13 #[p] w fun e w' => ∃ v K M, e = .returned v ∧ WayV cold K M w' v (final x y us) ∧ Below w.heap.size w w' := by
  obtain ⟨J, pk, pw, u, rfl, hJ, h5, h6, h8, hwalk, hway, hu⟩ := h
  have HF : Hid (Fits x y us) := hf
  have HU : Hid (StrRow cold w u us) := hu
  have HWALK : Hid (WalkAt w pk y) := hwalk
  have HWAY : Hid (WayAt w pw x) := hway
  clear hf hu hwalk hway
  obtain ⟨aw, hpw⟩ : ∃ a, pw = .pointer a := by
    cases x with
    | none => exact ⟨none, HWAY.out⟩
    | some x =>
      obtain ⟨b, off, c0, c1, c2, c3, c4, c5, c6, e, _⟩ := HWAY.out
      exact ⟨_, e⟩
  subst hpw
  obtain ⟨au, du, rfl, hu'⟩ := HU.out.form
  clear hu'
  go_enter Try.func13, Try.ntmps13
  go_upto_if 14 with fail
  go_cut [] (fun wx => Ready w x y wx)
  case first =>
    cases x with
    | none =>
      have hpw : Value.pointer aw = .pointer none := HWAY.out
      injection hpw with hpw
      subst hpw
      have R : Hid (Ready w none y ((w.alloc Z30).alloc Z30)) := ready_none w y
      clear HF HU HWALK HWAY
      go_wp2
      go_meet
      exact R.out
    | some x =>
      obtain ⟨b, off, c0, c1, c2, c3, c4, c5, c6, e, hb, hc, hbest, hrem, hfrm, hrea, htri, hbus, hunf⟩ := HWAY.out
      injection e with e
      subst e
      obtain ⟨a1, d1, rfl, hrem⟩ := hrem.form'
      obtain ⟨a2, d2, rfl, hfrm⟩ := hfrm.form
      obtain ⟨a3, d3, rfl, hrea⟩ := hrea.form
      obtain ⟨a4, d4, rfl, htri⟩ := htri.form
      obtain ⟨a5, d5, rfl, hbus⟩ := hbus.form
      obtain ⟨a6, d6, rfl, hunf⟩ := hunf.form
      obtain ⟨a0, hc0⟩ : ∃ a, c0 = .pointer a := by
        revert hbest
        cases x.best with
        | none => exact fun e => ⟨none, e⟩
        | some o => exact fun ⟨_, _, e, _⟩ => ⟨_, e⟩
      subst hc0
      have HC : Hid (CellsAt w b off [.pointer a0, .slice a1 x.rem.length d1, .slice a2 x.frm.length d2, .slice a3 x.reached.length d3, .slice a4 x.tried.length d4, .slice a5 x.busy.length d5, .slice a6 x.unfit.length d6, .int .i64 x.jumps]) := hc
      have HROWS : Hid (BestAt cold w inCells (.pointer a0) x.best ∧ OptRow cold w inCells (.slice a1 x.rem.length d1) x.rem ∧ StrRow cold w (.slice a2 x.frm.length d2) x.frm ∧ StrRow cold w (.slice a3 x.reached.length d3) x.reached ∧ StrRow cold w (.slice a4 x.tried.length d4) x.tried ∧ StrRow cold w (.slice a5 x.busy.length d5) x.busy ∧ StrRow cold w (.slice a6 x.unfit.length d6) x.unfit) := ⟨hbest, hrem, hfrm, hrea, htri, hbus, hunf⟩
      have e2 : w.cell? ⟨b, off + 2, none⟩ = some (.slice a2 x.frm.length d2) := HC.out.at 2 rfl
      have e3 : w.cell? ⟨b, off + 3, none⟩ = some (.slice a3 x.reached.length d3) := HC.out.at 3 rfl
      have e4 : w.cell? ⟨b, off + 4, none⟩ = some (.slice a4 x.tried.length d4) := HC.out.at 4 rfl
      have e5 : w.cell? ⟨b, off + 5, none⟩ = some (.slice a5 x.busy.length d5) := HC.out.at 5 rfl
      have e6 : w.cell? ⟨b, off + 6, none⟩ = some (.slice a6 x.unfit.length d6) := HC.out.at 6 rfl
      have e7 : w.cell? ⟨b, off + 7, none⟩ = some (.int .i64 x.jumps) := HC.out.at 7 rfl
      have n1 : ¬ J = w.heap.size := by omega
      have n2 : ¬ J = w.heap.size + 1 := by omega
      have n3 : ¬ b = w.heap.size := by omega
      have n4 : ¬ b = w.heap.size + 1 := by omega
      clear hc hbest hrem hfrm hrea htri hbus hunf HWAY h8
      go_upto_region 3 with fail
      go_cut [] (fun wx => Stage w x (.pointer none) (.slice none 0 0) (.slice a2 x.frm.length d2) (.slice a3 x.reached.length d3) (.slice a4 x.tried.length d4) (.slice a5 x.busy.length d5) (.slice a6 x.unfit.length d6) wx)
      case first =>
        go_region_held3 (fun w' => w'.cell? ⟨J, 6, none⟩ = some (.pointer (some ⟨b, off, none⟩)) ∧ w'.cell? ⟨b, off + 2, none⟩ = some (.slice a2 x.frm.length d2) ∧ w'.cell? ⟨b, off + 3, none⟩ = some (.slice a3 x.reached.length d3) ∧ w'.cell? ⟨b, off + 4, none⟩ = some (.slice a4 x.tried.length d4) ∧ w'.cell? ⟨b, off + 5, none⟩ = some (.slice a5 x.busy.length d5) ∧ w'.cell? ⟨b, off + 6, none⟩ = some (.slice a6 x.unfit.length d6) ∧ w'.cell? ⟨b, off + 7, none⟩ = some (.int .i64 x.jumps)) (go_keep) (fail)
        go_wp2
        go_meet
        exact stage3 w x _ _ _ _ _
      case rest =>
        have HST : Hid (Stage w x (.pointer none) (.slice none 0 0) (.slice a2 x.frm.length d2) (.slice a3 x.reached.length d3) (.slice a4 x.tried.length d4) (.slice a5 x.busy.length d5) (.slice a6 x.unfit.length d6) wc) := hcut
        clear hcut e2 e3 e4 e5 e6 e7
        have HB0 : Hid (Below w.heap.size w wc) := HST.out.2.2
        have h6' : wc.cell? ⟨J, 6, none⟩ = some (.pointer (some ⟨b, off, none⟩)) := (HB0.out.cell (p := ⟨J, 6, none⟩) hJ).trans h6
        have e0' : wc.cell? ⟨b, off, none⟩ = some (.pointer a0) := (HB0.out.cell (p := ⟨b, off, none⟩) hb).trans (HC.out.at 0 rfl)
        go_upto_if 71 with fail
        go_cut [] (fun wx => ∃ v0, Stage w x v0 (.slice none 0 0) (.slice a2 x.frm.length d2) (.slice a3 x.reached.length d3) (.slice a4 x.tried.length d4) (.slice a5 x.busy.length d5) (.slice a6 x.unfit.length d6) wx ∧ BestAt (hot2 w) wx outCells v0 x.best)
        case first =>
          obtain ⟨bo, hbo⟩ : ∃ bo, x.best = bo := ⟨_, rfl⟩
          have HBO : Hid (x.best = bo) := hbo
          have hbest : BestAt cold w inCells (.pointer a0) bo := by rw [← hbo]; exact HROWS.out.1
          clear hbo
          cases bo with
          | none =>
            have e : Value.pointer a0 = .pointer none := hbest
            injection e with e
            subst e
            clear hbest
            go_wp2
            go_meet
            exact ⟨_, HST.out, by rw [HBO.out]; exact rfl⟩
          | some o =>
            obtain ⟨bb, bo, e, hbb, _, hcells⟩ := hbest
            injection e with e
            subst e
            have HCO : Hid (CellsAt wc bb bo (inCells o)) := hcells.below HB0.out hbb
            have hsz0 := HB0.out.size
            clear hcells
            go_wp2_with (go_at_call 18; refine (asOption_any bb bo o wc HCO.out (by omega)).mono ?_; rintro e w1 ⟨he, hb1⟩; unfold outV at he; subst he; have HB1 : Hid (Below wc.heap.size wc w1) := hb1; have hv1 : ∀ o2, (w1.alloc o2).cell? ⟨w.heap.size + 1, 0, none⟩ = some (.pointer none) := (fun o2 => HST.out.cell0 hb1 o2); have hf1 : ∀ o2, (w1.alloc o2).frozen? ⟨w.heap.size + 1, 0, none⟩ = false := (fun o2 => HST.out.free0 hb1 o2); clear hb1)
            go_meet
            exact HST.out.best HB1.out HBO.out
        case rest =>
          obtain ⟨v0, hst, hbest⟩ := hcut
          have HST1 : Hid (Stage w x v0 (.slice none 0 0) (.slice a2 x.frm.length d2) (.slice a3 x.reached.length d3) (.slice a4 x.tried.length d4) (.slice a5 x.busy.length d5) (.slice a6 x.unfit.length d6) wc) := hst
          have HBEST : Hid (BestAt (hot2 w) wc outCells v0 x.best) := hbest
          have HB1 : Hid (Below w.heap.size w wc) := hst.2.2
          have hlB := hst.lt
          clear HST HB0 h6' e0' hst hbest
          have h6' : wc.cell? ⟨J, 6, none⟩ = some (.pointer (some ⟨b, off, none⟩)) := (HB1.out.cell (p := ⟨J, 6, none⟩) hJ).trans h6
          have e1' : wc.cell? ⟨b, off + 1, none⟩ = some (.slice a1 x.rem.length d1) := (HB1.out.cell (p := ⟨b, off + 1, none⟩) hb).trans (HC.out.at 1 rfl)
          have hlrem := HF.out.lrem x rfl
          obtain ⟨i0, hi0, hz0, hz1, hz2⟩ := info_parts Try.info45
          go_wp2
          go_loopw [83] (fun i wr => ∃ (k : Nat) (v1 : Value), k ≤ x.rem.length ∧ i = .int .i64 k ∧ But (fun q => q = w.heap.size + 1) wc wr ∧ wr.heap[w.heap.size + 1]? = some (.cells #[v0, v1, .slice a2 x.frm.length d2, .slice a3 x.reached.length d3, .slice a4 x.tried.length d4, .slice a5 x.busy.length d5, .slice a6 x.unfit.length d6, .int .i64 x.jumps, .pointer none, .slice none 0 0] 30 (0, 0)) ∧ wr.ownsRow wc.heap.size 45 6 v1 (x.rem.take k).length (flatO (x.rem.take k))) (fun i _ => x.rem.length - (intOf i).toNat)
          case atStart => exact ⟨0, _, Nat.zero_le _, rfl, But.refl _ _, HST1.out.1, World.ownsRow_nil _ _ _ _⟩
          case round =>
            obtain ⟨k, v1, hk, rfl, hbut, hblk, hown⟩ := hrel
            have HBUT : Hid (But (fun q => q = w.heap.size + 1) wc wr) := hbut
            have HBLK : Hid (wr.heap[w.heap.size + 1]? = some (.cells #[v0, v1, .slice a2 x.frm.length d2, .slice a3 x.reached.length d3, .slice a4 x.tried.length d4, .slice a5 x.busy.length d5, .slice a6 x.unfit.length d6, .int .i64 x.jumps, .pointer none, .slice none 0 0] 30 (0, 0))) := hblk
            have HOWN : Hid (wr.ownsRow wc.heap.size 45 6 v1 (x.rem.take k).length (flatO (x.rem.take k))) := hown
            have HLOW : Hid (Below w.heap.size w wr) := HB1.out.trans (hbut.below (fun q e => by omega) (by omega))
            have hszr := hbut.size
            clear hbut hblk hown
            by_cases hkl : k < x.rem.length
            · obtain ⟨o, ho⟩ : ∃ o, x.rem[k]? = some o := ⟨x.rem[k], List.getElem?_eq_getElem hkl⟩
              obtain ⟨_, hr⟩ := HROWS.out.2.1.cells
              obtain ⟨br, offr, rfl, hbr, _, hcr⟩ := hr (by omega)
              have HCO : Hid (CellsAt wr br (offr + k * 6) (inCells o)) := fun j u hu => (HLOW.out.cell (p := ⟨br, offr + k * 6 + j, none⟩) hbr).trans (hcr k o ho j u hu)
              have HT : Hid (x.rem.take (k + 1) = x.rem.take k ++ [o]) := by
                obtain ⟨hl, e⟩ := List.getElem?_eq_some_iff.1 ho
                show _ = _
                rw [List.take_succ_eq_append_getElem hl, e]
              have hLl : (x.rem.take k).length ≤ 200000 := by simp; omega
              generalize hL : x.rem.take k = L at *
              have g0 : wr.cell? ⟨br, offr + k * 6, none⟩ = some (.string o.name) := HCO.out.at 0 rfl
              have g1 : wr.cell? ⟨br, offr + k * 6 + 1, none⟩ = some (.string o.addr) := HCO.out.at 1 rfl
              have g2 : wr.cell? ⟨br, offr + k * 6 + 2, none⟩ = some (.float .f64 o.speed) := HCO.out.at 2 rfl
              have g3 : wr.cell? ⟨br, offr + k * 6 + 3, none⟩ = some (.int .i64 o.cores) := HCO.out.at 3 rfl
              have g4 : wr.cell? ⟨br, offr + k * 6 + 4, none⟩ = some (.int .i64 o.load) := HCO.out.at 4 rfl
              have g5 : wr.cell? ⟨br, offr + k * 6 + 5, none⟩ = some (.bool o.fits) := HCO.out.at 5 rfl
              have v1c : ∀ o', (wr.alloc o').cell? ⟨w.heap.size + 1, 1, none⟩ = some v1 := fun o' => cellB (j := 1) ((Below.heap_alloc wr o' _ (lt_size HBLK.out)).trans HBLK.out) rfl
              have n5 : ¬ w.heap.size + 1 = wr.heap.size := by omega
              clear hr hcr ho HCO hL h6' e1'
              go_wp2
              go_region_law (first
                | (go_simp; refine (asOption_any wr.heap.size 0 o _ (by exact opt_in wr o) (by simp)).mono ?_; rintro e w2 ⟨he, hb2⟩; unfold outV at he; subst he; have HP := rem_call HBLK.out rfl HOWN.out hb2; have v1d := HP.1; have v1e : ∀ o', (w2.alloc o').cell? ⟨w.heap.size + 1, 1, none⟩ = some v1 := (fun o' => Lib.cell?_alloc_some o' HP.1); have HO2 : Hid (w2.ownsRow wc.heap.size 45 6 v1 L.length (flatO L)) := HP.2.1; have HB2 : Hid (Below wr.heap.size wr w2) := HP.2.2; have hsz2 := HP.2.2.size; clear hb2 HP)
                | (refine step_append_lies _ rfl (.tmp 88) (.tmp 90) 27 rfl wc.heap.size 45 i0 _ 6 64 Try.underlying27 hi0 hz0 hz1 hz2 rfl (by decide) v1 L.length (flatO L) (by simp [Act.eval]) (by exact HO2.out.alloc _) ⟨w2.heap.size, 0, none⟩ 1 1 (outCells o) (by simp [Act.eval]) rfl (by exact opt_news w2 o) (by exact opt_one o) (by omega) (by unfold maxLen; omega) (by omega) (by simp; omega) (w2.heap.size + 1) (by simp) ?_; intro g cap w3 hown1 hgrow hat hlt3; obtain ⟨c3, f3, R⟩ := rem_push HBUT.out HBLK.out hlB HOWN.out HB2.out hown1 hgrow; clear hown1 hgrow hat hlt3))
              all_goals
                go_wp2
                go_roundw
                case rel => exact ⟨k + 1, _, by omega, by go_num, R.out.1, R.out.2.1, by rw [HT.out]; exact R.out.2.2⟩
                case measure => simp [intOf]; omega
            · have hkn : k = x.rem.length := by omega
              subst hkn
              have hown := HOWN.out
              rw [List.take_length] at hown
              have HST2 : Hid (Stage w x v0 v1 (.slice a2 x.frm.length d2) (.slice a3 x.reached.length d3) (.slice a4 x.tried.length d4) (.slice a5 x.busy.length d5) (.slice a6 x.unfit.length d6) wr) := ⟨HBLK.out, (HBUT.out.block w.heap.size (lt_size HST1.out.2.1) (by omega)).trans HST1.out.2.1, HLOW.out⟩
              have HROW : Hid (Row (hot2 w) (w.heap.size + 1) (w.heap.size + 1) wr (start (some x) none) v0 v1 (.slice a2 x.frm.length d2) (.slice a3 x.reached.length d3) (.slice a4 x.tried.length d4) (.slice a5 x.busy.length d5) (.slice a6 x.unfit.length d6) (.pointer none) (.slice none 0 0)) := rowA HB1.out HBUT.out hlB HLOW.out HBEST.out hown HROWS.out.2.2.1 HROWS.out.2.2.2.1 HROWS.out.2.2.2.2.1 HROWS.out.2.2.2.2.2.1 HROWS.out.2.2.2.2.2.2
              have h5' : wr.cell? ⟨J, 5, none⟩ = some pk := (HLOW.out.cell (p := ⟨J, 5, none⟩) hJ).trans h5
              have hsz5 := HLOW.out.size
              clear hown HBLK HBUT HOWN HST1 HB1 HBEST h6' e1' HROWS
              cases y with
              | none =>
                have hpk : pk = .pointer none := HWALK.out
                subst hpk
                have R : Hid (Ready w (some x) none wr) := ready_plain HROW.out HST2.out
                clear HROW HST2 HF
                go_wp2
                go_meet
                exact R.out
              | some y =>
                obtain ⟨bk, offk, k0, k1, rfl, hbk, hck, hk0, hk1⟩ := HWALK.out
                have HCK : Hid (CellsAt wr bk offk [k0, k1]) := fun j u hu => (HLOW.out.cell (p := ⟨bk, offk + j, none⟩) hbk).trans (hck j u hu)
                have HK0 : Hid (StrRow cold wr k0 y.visited) := hk0.but (But.of_below HLOW.out)
                have HK1 : Hid (StrRow cold wr k1 y.ahead) := hk1.but (But.of_below HLOW.out)
                have HK1w : Hid (StrRow cold w k1 y.ahead) := hk1
                have HV : Hid (y.visited.length ≤ 1000000 ∧ ∀ s ∈ y.visited, s.size ≤ maxLen) := ⟨by have := HF.out.lvis y rfl; omega, HF.out.vshort y rfl⟩
                clear hck hk0 hk1 HF HWALK
                go_wp2_with (go_at_call 19; refine (asWalk_any bk offk k0 k1 y wr HCK.out (by omega) HK0.out HK1.out HV.out.1 HV.out.2).mono ?_; rintro e w5 ⟨rfl, hK5, hM5, hb5⟩; have R : Hid (Ready w (some x) (some y) (w5.setCell ⟨w.heap.size + 1, 8, none⟩ (.pointer (some ⟨wr.heap.size, 0, none⟩)))) := ready_walk HROW.out HST2.out hK5 hM5 hb5 HK1w.out; have c8 : w5.cell? ⟨w.heap.size + 1, 8, none⟩ = some (.pointer none) := cellB (j := 8) (HST2.out.later hb5).1 rfl; have f8 : w5.frozen? ⟨w.heap.size + 1, 8, none⟩ = false := free_of_block (HST2.out.later hb5).1; clear hK5 hM5 hb5)
                go_meet
                exact R.out
  case rest =>
    obtain ⟨K, M, hap, hK0, hM0, hK, hM, hwo, hbel, hR⟩ := hcut
    have HAP : Hid ((start x y).walk ≠ none → w.heap.size + 1 ≠ K ∧ w.heap.size + 1 ≠ M ∧ K ≠ M) := hap
    have HWO : Hid (WayOut (hotR w.heap.size (w.heap.size + 1) K M) (w.heap.size + 1) K M wc (start x y)) := hwo
    have HBEL : Hid (Below w.heap.size w wc) := hbel
    have HRR : Hid (wc.heap[w.heap.size]? = some Z30) := hR
    have h8' : wc.cell? ⟨J, 8, none⟩ = some (.slice au us.length du) := (hbel.cell (p := ⟨J, 8, none⟩) hJ).trans h8
    have hl := HF.out.lus
    clear hap hwo hbel hR h5 h6 h8 HWALK HWAY
    go_wp2
    go_loopw [110] (fun i wr => ∃ k : Nat, k ≤ us.length ∧ i = .int .i64 k ∧ WayOut (hotR w.heap.size (w.heap.size + 1) K M) (w.heap.size + 1) K M wr (upTo x y us k) ∧ Below w.heap.size w wr ∧ wr.heap[w.heap.size]? = some Z30 ∧ K < wr.heap.size ∧ M < wr.heap.size) (fun i _ => us.length - (intOf i).toNat)
    case atStart => exact ⟨0, Nat.zero_le _, rfl, HWO.out, HBEL.out, HRR.out, hK, hM⟩
    case round =>
      obtain ⟨k, hk, rfl, hw1, hb1, hr1, hK1, hM1⟩ := hrel
      have HW1 : Hid (WayOut (hotR w.heap.size (w.heap.size + 1) K M) (w.heap.size + 1) K M wr (upTo x y us k)) := hw1
      have HB1 : Hid (Below w.heap.size w wr) := hb1
      have HR1 : Hid (wr.heap[w.heap.size]? = some Z30) := hr1
      have hsz := hb1.size
      clear hw1 hb1 hr1 HWO HBEL HRR
      by_cases hkl : k < us.length
      · obtain ⟨_, _, _, hr⟩ := HU.out.cells
        obtain ⟨b0, off0, rfl, hb0, _, hcs⟩ := hr (by omega)
        have g0 := (HB1.out.cell (p := ⟨b0, off0 + k, none⟩) hb0).trans (hcs k hkl)
        have hshort := getD_short HF.out.short hkl
        have HBD : Hid (Bd (upTo x y us k) k 200000 200000) := upTo_bd HF.out k hk
        have HS : Hid (upTo x y us (k + 1) = goOn (upTo x y us k) (us.getD k ByteArray.empty)) := upTo_succ x y us k hkl
        have HAP1 : Hid ((upTo x y us k).walk ≠ none → w.heap.size + 1 ≠ K ∧ w.heap.size + 1 ≠ M ∧ K ≠ M) := fun hn => HAP.out (fun e => hn ((upTo_walk k hk).2 e))
        generalize us.getD k ByteArray.empty = s0 at *
        clear hr hcs
        go_wp2_with (go_at_call 20; refine (goOn_any (w.heap.size + 1) K M (upTo x y us k) s0 wr HW1.out (fun k h => .inr h) (fun k h => by rcases h with rfl | rfl | rfl | rfl <;> omega) HAP1.out hK1 hM1 hshort (by have := HBD.out.unr; omega) (by have := HBD.out.rem; omega) (fun q hq => by have := HBD.out.walk q hq; omega)).mono ?_; rintro e w2 ⟨⟨b2, rfl⟩, hw2, hb2⟩; have HW2 : Hid (WayOut (hotR w.heap.size (w.heap.size + 1) K M) (w.heap.size + 1) K M w2 (upTo x y us (k + 1))) := (by rw [HS.out]; exact hw2); have HB2 : Hid (But (hotOf (w.heap.size + 1) K M) wr w2) := hb2; clear hw2 hb2)
        go_roundw
        case rel =>
          have hlow : ∀ k, hotOf (w.heap.size + 1) K M k → w.heap.size + 1 ≤ k := fun k hk => by rcases hk with rfl | rfl | rfl <;> omega
          refine ⟨k + 1, by omega, by go_num, HW2.out, HB1.out.trans (HB2.out.below (fun k hk => by have := hlow k hk; omega) hsz), ?_, Nat.lt_of_lt_of_le hK1 HB2.out.size, Nat.lt_of_lt_of_le hM1 HB2.out.size⟩
          rw [HB2.out.block w.heap.size (lt_size HR1.out) (fun hk => by have := hlow _ hk; omega)]
          exact HR1.out
        case measure => simp [intOf]; omega
      · have hkn : k = us.length := by omega
        subst hkn
        have HW2 := HW1.out
        rw [upTo_full] at HW2
        obtain ⟨c0, c1, c2, c3, c4, c5, c6, c8, c9, hblk, hrow⟩ := HW2
        obtain ⟨⟨a0, rfl⟩, ⟨a1, n1, d1, rfl⟩, ⟨a2, n2, d2, rfl⟩, ⟨a3, n3, d3, rfl⟩, ⟨a4, n4, d4, rfl⟩, ⟨a5, n5, d5, rfl⟩, ⟨a6, n6, d6, rfl⟩, ⟨a8, rfl⟩, ⟨a9, n9, d9, rfl⟩⟩ := hrow.forms
        have HROW : Hid (Row (hotR w.heap.size (w.heap.size + 1) K M) K M wr (final x y us) (.pointer a0) (.slice a1 n1 d1) (.slice a2 n2 d2) (.slice a3 n3 d3) (.slice a4 n4 d4) (.slice a5 n5 d5) (.slice a6 n6 d6) (.pointer a8) (.slice a9 n9 d9)) := hrow
        have HBLK : Hid (wr.heap[w.heap.size + 1]? = some (.cells #[.pointer a0, .slice a1 n1 d1, .slice a2 n2 d2, .slice a3 n3 d3, .slice a4 n4 d4, .slice a5 n5 d5, .slice a6 n6 d6, .int .i64 (final x y us).jumps, .pointer a8, .slice a9 n9 d9] 30 (0, 0))) := hblk
        clear hrow hblk HW1 HF HU HAP
        obtain ⟨sf, hsf⟩ : ∃ sf, final x y us = sf := ⟨_, rfl⟩
        rw [hsf] at HROW HBLK
        have HSF : Hid (final x y us = sf) := hsf
        clear hsf
        have HFIN : Hid (∀ vs, Row cold K M (wr.setCells w.heap.size 0 vs) sf (.pointer a0) (.slice a1 n1 d1) (.slice a2 n2 d2) (.slice a3 n3 d3) (.slice a4 n4 d4) (.slice a5 n5 d5) (.slice a6 n6 d6) (.pointer a8) (.slice a9 n9 d9) ∧ Below w.heap.size w (wr.setCells w.heap.size 0 vs)) := fun vs =>
          ⟨(HROW.out.but (But.cells (.inr (.inl rfl)) vs 0 wr (But.refl _ _)) (fun _ => ⟨heap_setCells (by omega) vs 0 wr, heap_setCells (by omega) vs 0 wr⟩)).cool, Below.setCells (Nat.le_refl _) vs 0 wr HB1.out⟩
        have k0 := cellB (j := 0) HBLK.out rfl
        have k1 := cellB (j := 1) HBLK.out rfl
        have k2 := cellB (j := 2) HBLK.out rfl
        have k3 := cellB (j := 3) HBLK.out rfl
        have k4 := cellB (j := 4) HBLK.out rfl
        have k5 := cellB (j := 5) HBLK.out rfl
        have k6 := cellB (j := 6) HBLK.out rfl
        have k7 := cellB (j := 7) HBLK.out rfl
        have k8 := cellB (j := 8) HBLK.out rfl
        have k9 := cellB (j := 9) HBLK.out rfl
        have r0 := cellB (j := 0) HR1.out rfl
        have r1 := cellB (j := 1) HR1.out rfl
        have r2 := cellB (j := 2) HR1.out rfl
        have r3 := cellB (j := 3) HR1.out rfl
        have r4 := cellB (j := 4) HR1.out rfl
        have r5 := cellB (j := 5) HR1.out rfl
        have r6 := cellB (j := 6) HR1.out rfl
        have r7 := cellB (j := 7) HR1.out rfl
        have r8 := cellB (j := 8) HR1.out rfl
        have r9 := cellB (j := 9) HR1.out rfl
        have fz : ∀ j, wr.frozen? ⟨w.heap.size, j, none⟩ = false := fun j => free_of_block HR1.out
        clear HROW HBLK HR1 HB1
        go_wp2
        exact bodyPost_ret (v := .agg #[.pointer a0, .slice a1 n1 d1, .slice a2 n2 d2, .slice a3 n3 d3, .slice a4 n4 d4, .slice a5 n5 d5, .slice a6 n6 d6, .int .i64 sf.jumps, .pointer a8, .slice a9 n9 d9]) (by simp [results, Try.results13, go_sem, r0, r1, r2, r3, r4, r5, r6, r7, r8, r9]) rfl ⟨_, K, M, rfl, ⟨_, _, _, _, _, _, _, _, _, by rw [HSF.out], by rw [HSF.out]; exact (HFIN.out [.pointer a0, .slice a1 n1 d1, .slice a2 n2 d2, .slice a3 n3 d3, .slice a4 n4 d4, .slice a5 n5 d5, .slice a6 n6 d6, .int .i64 sf.jumps, .pointer a8, .slice a9 n9 d9]).1⟩, (HFIN.out [.pointer a0, .slice a1 n1 d1, .slice a2 n2 d2, .slice a3 n3 d3, .slice a4 n4 d4, .slice a5 n5 d5, .slice a6 n6 d6, .int .i64 sf.jumps, .pointer a8, .slice a9 n9 d9]).2⟩
end Go.Proofs.Qxb6615722a.AsWay
