/-
  WHAT THE WALKS OF THIS SEAT's LAW SAY OF MEMORY: rows of strings, rows of options, a way, a walk, a job; and the plain function that asWay computes. No walk. By an AI agent, Nov 2026.
-/
import Derived.WalkKit
import Derived.Deep.AppendLies
import Derived.Deep.Draws
import Derived.Maps.OwnSet
namespace Go.Proofs.Qxb6615722a.AsWay
open Go.RowKit
set_option linter.unusedVariables false

/-- A store of a float (the walk's own set has this for every other kind of one cell). -/
theorem run_store_float (P : Program) (w : World) (a : Addr) (k : FloatKind) (n : Nat) (m : Mode) : (store a (.float k n) m).run P w = stored P w a (.float k n) m := run_store P w a _ m rfl

/-! ### Worlds -/
/-- w' is w but for the hot blocks and new ones. -/
structure But (hot : Nat → Prop) (w w' : World) : Prop where
  os : w'.os = w.os
  tape : w'.tape = w.tape
  output : w'.output = w.output
  size : w.heap.size ≤ w'.heap.size
  block : ∀ k, k < w.heap.size → ¬ hot k → w'.heap[k]? = w.heap[k]?
def cold : Nat → Prop := fun _ => False
theorem But.refl (hot : Nat → Prop) (w : World) : But hot w w := ⟨rfl, rfl, rfl, Nat.le_refl _, fun _ _ _ => rfl⟩
theorem But.trans {hot : Nat → Prop} {a b c : World} (h : But hot a b) (k : But hot b c) : But hot a c :=
  ⟨k.os.trans h.os, k.tape.trans h.tape, k.output.trans h.output, Nat.le_trans h.size k.size, fun i hi hh => (k.block i (Nat.lt_of_lt_of_le hi h.size) hh).trans (h.block i hi hh)⟩
theorem But.mono {hot hot' : Nat → Prop} {w w' : World} (h : But hot w w') (hh : ∀ k, k < w.heap.size → hot k → hot' k) : But hot' w w' :=
  ⟨h.os, h.tape, h.output, h.size, fun k hk hn => h.block k hk (fun e => hn (hh k hk e))⟩
theorem But.of_below {hot : Nat → Prop} {w w' : World} (h : Below w.heap.size w w') : But hot w w' := ⟨h.os, h.tape, h.output, h.size, fun k hk _ => h.block k hk⟩
theorem But.below {hot : Nat → Prop} {w w' : World} {lo : Nat} (h : But hot w w') (hlo : ∀ k, hot k → lo ≤ k) (hs : lo ≤ w.heap.size) : Below lo w w' :=
  ⟨h.os, h.tape, h.output, h.size, fun k hk => h.block k (by omega) (fun e => by have := hlo k e; omega)⟩
theorem But.alloc {hot : Nat → Prop} {a w : World} (h : But hot a w) (o : Obj) : But hot a (w.alloc o) :=
  ⟨h.os, h.tape, h.output, by have := h.size; simp; omega, fun k hk hn => (Below.heap_alloc w o k (by have := h.size; omega)).trans (h.block k hk hn)⟩
theorem But.drewN {hot : Nat → Prop} {a w : World} (h : But hot a w) (n : Nat) : But hot a (w.drewN n) := ⟨h.os, h.tape, h.output, h.size, h.block⟩
theorem But.drew {hot : Nat → Prop} {a w : World} (h : But hot a w) : But hot a w.drew := ⟨h.os, h.tape, h.output, h.size, h.block⟩
theorem But.setCell {hot : Nat → Prop} {a w : World} (h : But hot a w) {p : Addr} (hp : a.heap.size ≤ p.block ∨ hot p.block) (u : Value) : But hot a (w.setCell p u) :=
  ⟨h.os, h.tape, h.output, by have := h.size; simpa using this, fun k hk hn => (Below.heap_setCell w p u k (fun e => by subst e; exact hp.elim (fun h => absurd h (by omega)) (fun h => hn h))).trans (h.block k hk hn)⟩
theorem But.grown {hot : Nat → Prop} {a w w' : World} {row : Option Nat} (h : But hot a w) (hg : w.grownBy w' row) (hr : ∀ k, row = some k → a.heap.size ≤ k ∨ hot k) : But hot a w' :=
  ⟨hg.os.trans h.os, hg.tape.trans h.tape, hg.output.trans h.output, Nat.le_trans h.size hg.size, fun k hk hn => (hg.block k (by have := h.size; omega) (fun e => (hr k e.symm).elim (fun h => absurd h (by omega)) (fun h => hn h))).trans (h.block k hk hn)⟩
theorem But.cell {hot : Nat → Prop} {w w' : World} (h : But hot w w') {p : Addr} (hp : p.block < w.heap.size) (hn : ¬ hot p.block) : w'.cell? p = w.cell? p := World.cell?_of_block (h.block p.block hp hn)
theorem lt_size {w : World} {B : Nat} {o : Obj} (h : w.heap[B]? = some o) : B < w.heap.size := by
  rcases Nat.lt_or_ge B w.heap.size with h' | h'
  · exact h'
  · rw [Array.getElem?_eq_none h'] at h; cases h
theorem block_setCell {w : World} {B j : Nat} {cs : Array Value} {t : TypeId} {fr : Nat × Nat} (h : w.heap[B]? = some (.cells cs t fr)) (u : Value) :
    (w.setCell ⟨B, j, none⟩ u).heap[B]? = some (.cells (cs.setIfInBounds j u) t fr) := by
  simp [World.setCell, Array.getElem?_modify, h]
theorem free_of_block {w : World} {B j : Nat} {cs : Array Value} {t : TypeId} (h : w.heap[B]? = some (.cells cs t (0, 0))) : w.frozen? ⟨B, j, none⟩ = false := by
  simp [World.frozen?, h]

/-! ### What lies in memory -/
/-- From ⟨b, off⟩ on lie the cells cs. -/
def CellsAt (w : World) (b off : Nat) (cs : List Value) : Prop := ∀ j u, cs[j]? = some u → w.cell? ⟨b, off + j, none⟩ = some u
theorem CellsAt.but {hot : Nat → Prop} {w w' : World} {b off : Nat} {cs : List Value} (h : CellsAt w b off cs) (hb : But hot w w') (hlt : b < w.heap.size) (hn : ¬ hot b) : CellsAt w' b off cs := fun j u hu => by
  rw [hb.cell (p := ⟨b, off + j, none⟩) hlt hn]; exact h j u hu
theorem CellsAt.of_block {w : World} {b : Nat} {cs : Array Value} {t : TypeId} {fr : Nat × Nat} (h : w.heap[b]? = some (.cells cs t fr)) : CellsAt w b 0 cs.toList := fun j u hu => by
  rw [cell_of_row w b _ _ _ _ h, Nat.zero_add]; simpa using hu

/-- v is a slice of the strings ss. -/
def StrRow (hot : Nat → Prop) (w : World) (v : Value) (ss : List ByteArray) : Prop :=
  ∃ a c, v = .slice a ss.length c ∧ ss.length ≤ c ∧ c ≤ maxLen ∧ (0 < ss.length → ∃ b off, a = some ⟨b, off, none⟩ ∧ b < w.heap.size ∧ ¬ hot b ∧ ∀ k, k < ss.length → w.cell? ⟨b, off + k, none⟩ = some (.string (ss.getD k ByteArray.empty)))
theorem StrRow.but {hot : Nat → Prop} {w w' : World} {v : Value} {ss : List ByteArray} (h : StrRow hot w v ss) (hb : But hot w w') : StrRow hot w' v ss := by
  obtain ⟨a, c, hv, hlc, hcm, hr⟩ := h
  refine ⟨a, c, hv, hlc, hcm, fun hp => ?_⟩
  obtain ⟨b, off, ha, hlt, hn, hc⟩ := hr hp
  exact ⟨b, off, ha, Nat.lt_of_lt_of_le hlt hb.size, hn, fun k hk => by rw [hb.cell (p := ⟨b, off + k, none⟩) hlt hn]; exact hc k hk⟩
theorem StrRow.warm {hot hot' : Nat → Prop} {w : World} {v : Value} {ss : List ByteArray} (h : StrRow hot w v ss) (hh : ∀ k, k < w.heap.size → hot' k → hot k) : StrRow hot' w v ss := by
  obtain ⟨a, c, hv, hlc, hcm, hr⟩ := h
  refine ⟨a, c, hv, hlc, hcm, fun hp => ?_⟩
  obtain ⟨b, off, ha, hlt, hn, hc⟩ := hr hp
  exact ⟨b, off, ha, hlt, fun e => hn (hh b hlt e), hc⟩
theorem StrRow.nil (hot : Nat → Prop) (w : World) : StrRow hot w (.slice none 0 0) [] := ⟨none, 0, rfl, Nat.le_refl _, Nat.zero_le _, fun h => by simp at h⟩
theorem StrRow.cells {hot : Nat → Prop} {w : World} {a : Option Addr} {n c : Nat} {ss : List ByteArray} (h : StrRow hot w (.slice a n c) ss) : n = ss.length ∧ n ≤ c ∧ c ≤ maxLen ∧
    (0 < ss.length → ∃ b off, a = some ⟨b, off, none⟩ ∧ b < w.heap.size ∧ ¬ hot b ∧ ∀ k, k < ss.length → w.cell? ⟨b, off + k, none⟩ = some (.string (ss.getD k ByteArray.empty))) := by
  obtain ⟨a', c', hv, hlc, hcm, hr⟩ := h
  injection hv with e1 e2 e3
  subst e3
  exact ⟨e2, by rw [e2]; exact hlc, hcm, by rw [e1]; exact hr⟩
theorem StrRow.form {hot : Nat → Prop} {w : World} {v : Value} {ss : List ByteArray} (h : StrRow hot w v ss) : ∃ a c, v = .slice a ss.length c ∧ StrRow hot w (.slice a ss.length c) ss := by
  obtain ⟨a, c, rfl, h'⟩ := h
  exact ⟨a, c, rfl, a, c, rfl, h'⟩
def strs (ss : List ByteArray) : List Value := ss.map Value.string
theorem strs_length (ss : List ByteArray) : (strs ss).length = ss.length := by simp [strs]
theorem strs_append (ss ts : List ByteArray) : strs (ss ++ ts) = strs ss ++ strs ts := by simp [strs]
theorem strs_at {ss : List ByteArray} {j : Nat} {u : Value} (h : (strs ss)[j]? = some u) : j < ss.length ∧ u = .string (ss.getD j ByteArray.empty) := by
  simp [strs] at h
  obtain ⟨s, hs, rfl⟩ := h
  exact ⟨(List.getElem?_eq_some_iff.1 hs).1, by simp [hs]⟩
theorem strs_one (ss : List ByteArray) : ∀ u ∈ strs ss, u.oneCell' = true := by
  intro u hu
  obtain ⟨s, _, rfl⟩ := List.mem_map.1 hu
  rfl
theorem StrRow.olds {hot : Nat → Prop} {w w' : World} {a : Option Addr} {n c : Nat} {ss : List ByteArray} (h : StrRow hot w (.slice a n c) ss) (hb : Below w.heap.size w w') :
    (a = none → n = 0) ∧ ∀ b, a = some b → ∀ j u, (strs ss)[j]? = some u → w'.cell? (b.add j) = some u := by
  obtain ⟨hn, _, _, hr⟩ := h.cells
  refine ⟨fun e => ?_, fun b hb' j u hu => ?_⟩
  · rcases Nat.eq_zero_or_pos ss.length with h0 | hp
    · omega
    · obtain ⟨b, off, e', _⟩ := hr hp
      rw [e] at e'; cases e'
  · obtain ⟨hj, rfl⟩ := strs_at hu
    obtain ⟨b0, off, e', hlt, _, hc⟩ := hr (by omega)
    rw [hb'] at e'
    injection e' with e'
    subst e'
    have hadd : (⟨b0, off, none⟩ : Addr).add j = ⟨b0, off + j, none⟩ := by unfold Addr.add; split <;> simp_all
    rw [hadd, hb.cell (p := ⟨b0, off + j, none⟩) hlt]
    exact hc j hj
theorem strRow_of_owns {hot : Nat → Prop} {w : World} {lo : Nat} {v : Value} {ss : List ByteArray} (h : w.ownsRow lo 9 1 v ss.length (strs ss)) (hh : ∀ k, hot k → k < lo) : StrRow hot w v ss := by
  have hf := h
  rcases h.2 with ⟨hv, h0⟩ | ⟨g, cap, cur, hv, hlo, hg, hnc, hcm, hs, ht⟩
  · have : ss = [] := List.eq_nil_of_length_eq_zero h0
    subst this
    rw [hv]
    exact StrRow.nil hot w
  · refine ⟨_, cap, hv, hnc, hcm, fun hp => ⟨g, 0, rfl, lt_size hg, fun e => by have := hh g e; omega, fun k hk => ?_⟩⟩
    have hc := hf.cells (g := g) (by rw [hv]; rfl)
    have hadd : ∀ j, (⟨g, 0, none⟩ : Addr).add j = ⟨g, 0 + j, none⟩ := fun j => by unfold Addr.add; split <;> simp_all
    rw [← hadd]
    exact hc k _ (by simp [strs, List.getElem?_eq_getElem hk])

/-- An option: what the wire and the placement hold of a node. -/
structure Opt where
  name : ByteArray
  addr : ByteArray
  speed : Nat
  cores : Int
  load : Int
  fits : Bool
/-- .. as the wire has it: Name, Addr, Speed, Cores, Load, Fits. -/
def inCells (o : Opt) : List Value := [.string o.name, .string o.addr, .float .f64 o.speed, .int .i64 o.cores, .int .i64 o.load, .bool o.fits]
/-- .. as the placement has it: Node, Name, Speed, Cores, Load, Fits. -/
def outCells (o : Opt) : List Value := [.string o.name, .string o.name, .float .f64 o.speed, .int .i64 o.cores, .int .i64 o.load, .bool o.fits]

/-- v is a slice of the options os, laid as f says. -/
def OptRow (hot : Nat → Prop) (w : World) (f : Opt → List Value) (v : Value) (os : List Opt) : Prop :=
  ∃ a c, v = .slice a os.length c ∧ (0 < os.length → ∃ b off, a = some ⟨b, off, none⟩ ∧ b < w.heap.size ∧ ¬ hot b ∧ ∀ k o, os[k]? = some o → CellsAt w b (off + k * 6) (f o))
theorem OptRow.but {hot : Nat → Prop} {w w' : World} {f : Opt → List Value} {v : Value} {os : List Opt} (h : OptRow hot w f v os) (hb : But hot w w') : OptRow hot w' f v os := by
  obtain ⟨a, c, hv, hr⟩ := h
  refine ⟨a, c, hv, fun hp => ?_⟩
  obtain ⟨b, off, ha, hlt, hn, hc⟩ := hr hp
  exact ⟨b, off, ha, Nat.lt_of_lt_of_le hlt hb.size, hn, fun k o hk => (hc k o hk).but hb hlt hn⟩
theorem OptRow.warm {hot hot' : Nat → Prop} {w : World} {f : Opt → List Value} {v : Value} {os : List Opt} (h : OptRow hot w f v os) (hh : ∀ k, k < w.heap.size → hot' k → hot k) : OptRow hot' w f v os := by
  obtain ⟨a, c, hv, hr⟩ := h
  refine ⟨a, c, hv, fun hp => ?_⟩
  obtain ⟨b, off, ha, hlt, hn, hc⟩ := hr hp
  exact ⟨b, off, ha, hlt, fun e => hn (hh b hlt e), hc⟩
theorem OptRow.nil (hot : Nat → Prop) (w : World) (f : Opt → List Value) : OptRow hot w f (.slice none 0 0) [] := ⟨none, 0, rfl, fun h => by simp at h⟩
theorem OptRow.cells {hot : Nat → Prop} {w : World} {f : Opt → List Value} {a : Option Addr} {n c : Nat} {os : List Opt} (h : OptRow hot w f (.slice a n c) os) : n = os.length ∧
    (0 < os.length → ∃ b off, a = some ⟨b, off, none⟩ ∧ b < w.heap.size ∧ ¬ hot b ∧ ∀ k o, os[k]? = some o → CellsAt w b (off + k * 6) (f o)) := by
  obtain ⟨a', c', hv, hr⟩ := h
  injection hv with e1 e2 _
  exact ⟨e2, by rw [e1]; exact hr⟩

/-- p points to an option, or is nil. -/
def BestAt (hot : Nat → Prop) (w : World) (f : Opt → List Value) (p : Value) : Option Opt → Prop
  | none => p = .pointer none
  | some o => ∃ b off, p = .pointer (some ⟨b, off, none⟩) ∧ b < w.heap.size ∧ ¬ hot b ∧ CellsAt w b off (f o)
theorem BestAt.but {hot : Nat → Prop} {w w' : World} {f : Opt → List Value} {p : Value} {x : Option Opt} (h : BestAt hot w f p x) (hb : But hot w w') : BestAt hot w' f p x := by
  cases x with
  | none => exact h
  | some o =>
    obtain ⟨b, off, hp, hlt, hn, hc⟩ := h
    exact ⟨b, off, hp, Nat.lt_of_lt_of_le hlt hb.size, hn, hc.but hb hlt hn⟩
theorem BestAt.warm {hot hot' : Nat → Prop} {w : World} {f : Opt → List Value} {p : Value} {x : Option Opt} (h : BestAt hot w f p x) (hh : ∀ k, k < w.heap.size → hot' k → hot k) : BestAt hot' w f p x := by
  cases x with
  | none => exact h
  | some o =>
    obtain ⟨b, off, hp, hlt, hn, hc⟩ := h
    exact ⟨b, off, hp, hlt, fun e => hn (hh b hlt e), hc⟩

/-- A way as the wire carries it. -/
structure WIn where
  best : Option Opt
  rem : List Opt
  frm : List ByteArray
  reached : List ByteArray
  tried : List ByteArray
  busy : List ByteArray
  unfit : List ByteArray
  jumps : Int
/-- A walk as the wire carries it. -/
structure KIn where
  visited : List ByteArray
  ahead : List ByteArray

def WayAt (w : World) (p : Value) : Option WIn → Prop
  | none => p = .pointer none
  | some x => ∃ b off c0 c1 c2 c3 c4 c5 c6, p = .pointer (some ⟨b, off, none⟩) ∧ b < w.heap.size ∧ CellsAt w b off [c0, c1, c2, c3, c4, c5, c6, .int .i64 x.jumps] ∧ BestAt cold w inCells c0 x.best ∧ OptRow cold w inCells c1 x.rem ∧
      StrRow cold w c2 x.frm ∧ StrRow cold w c3 x.reached ∧ StrRow cold w c4 x.tried ∧ StrRow cold w c5 x.busy ∧ StrRow cold w c6 x.unfit
def WalkAt (w : World) (p : Value) : Option KIn → Prop
  | none => p = .pointer none
  | some y => ∃ b off c0 c1, p = .pointer (some ⟨b, off, none⟩) ∧ b < w.heap.size ∧ CellsAt w b off [c0, c1] ∧ StrRow cold w c0 y.visited ∧ StrRow cold w c1 y.ahead
theorem WayAt.but {w w' : World} {p : Value} {x : Option WIn} (h : WayAt w p x) (hb : But cold w w') : WayAt w' p x := by
  cases x with
  | none => exact h
  | some x =>
    obtain ⟨b, off, c0, c1, c2, c3, c4, c5, c6, hp, hlt, hc, h0, h1, h2, h3, h4, h5, h6⟩ := h
    exact ⟨b, off, c0, c1, c2, c3, c4, c5, c6, hp, Nat.lt_of_lt_of_le hlt hb.size, hc.but hb hlt (fun e => e), h0.but hb, h1.but hb, h2.but hb, h3.but hb, h4.but hb, h5.but hb, h6.but hb⟩
theorem WalkAt.but {w w' : World} {p : Value} {y : Option KIn} (h : WalkAt w p y) (hb : But cold w w') : WalkAt w' p y := by
  cases y with
  | none => exact h
  | some y =>
    obtain ⟨b, off, c0, c1, hp, hlt, hc, h0, h1⟩ := h
    exact ⟨b, off, c0, c1, hp, Nat.lt_of_lt_of_le hlt hb.size, hc.but hb hlt (fun e => e), h0.but hb, h1.but hb⟩
/-- A job, as far as asWay reads it. -/
def JobAt (w : World) (p : Value) (x : Option WIn) (y : Option KIn) (us : List ByteArray) : Prop :=
  ∃ J pk pw u, p = .pointer (some ⟨J, 0, none⟩) ∧ J < w.heap.size ∧ w.cell? ⟨J, 5, none⟩ = some pk ∧ w.cell? ⟨J, 6, none⟩ = some pw ∧ w.cell? ⟨J, 8, none⟩ = some u ∧ WalkAt w pk y ∧ WayAt w pw x ∧ StrRow cold w u us

/-! ### The plain function -/
/-- A way as the placement has it. 'walk': the names that were put into Visited, in order, and Ahead. -/
structure Out where
  best : Option Opt
  rem : List Opt
  frm : List ByteArray
  reached : List ByteArray
  tried : List ByteArray
  busy : List ByteArray
  unfit : List ByteArray
  jumps : Int
  walk : Option (List ByteArray × List ByteArray)
  unr : List ByteArray
def start (x : Option WIn) (y : Option KIn) : Out :=
  match x with
  | none => ⟨none, [], [], [], [], [], [], 0, none, []⟩
  | some x => ⟨x.best, x.rem, x.frm, x.reached, x.tried, x.busy, x.unfit, x.jumps, y.map (fun k => (k.visited, k.ahead)), []⟩
def dropBest (n : ByteArray) : Option Opt → Option Opt
  | none => none
  | some o => if o.name = n then none else some o
/-- Is the name on the list? -/
def inS (n : ByteArray) (l : List ByteArray) : Bool := l.any (fun s => decide (s = n))
theorem inS_iff {n : ByteArray} {l : List ByteArray} : inS n l = true ↔ n ∈ l := by simp [inS]
theorem inS_false {n : ByteArray} {l : List ByteArray} : inS n l = false ↔ ¬ n ∈ l := by rw [← inS_iff]; simp
def goOn (s : Out) (n : ByteArray) : Out :=
  if inS n s.unr = true then s else { s with best := dropBest n s.best, rem := s.rem.filter (fun o => decide (o.name ≠ n)), walk := s.walk.map (fun q => (q.1 ++ [n], q.2)), unr := s.unr ++ [n] }
def final (x : Option WIn) (y : Option KIn) (us : List ByteArray) : Out := us.foldl goOn (start x y)
def addNew (l : List ByteArray) (n : ByteArray) : List ByteArray := if inS n l = true then l else l ++ [n]
def dedup (us : List ByteArray) : List ByteArray := us.foldl addNew []

theorem goOn_of_mem {s : Out} {n : ByteArray} (h : n ∈ s.unr) : goOn s n = s := if_pos (inS_iff.2 h)
theorem goOn_unr (s : Out) (n : ByteArray) : (goOn s n).unr = addNew s.unr n := by
  unfold goOn addNew; split <;> rfl
theorem goOn_mem (s : Out) (n : ByteArray) : n ∈ (goOn s n).unr := by
  rw [goOn_unr]; unfold addNew; split
  · rename_i h; exact inS_iff.1 h
  · simp
theorem goOn_keeps {s : Out} {m : ByteArray} (n : ByteArray) (h : m ∈ s.unr) : m ∈ (goOn s n).unr := by
  rw [goOn_unr]; unfold addNew; split
  · exact h
  · simp [h]
theorem fold_keeps (us : List ByteArray) : ∀ (s : Out) (m : ByteArray), m ∈ s.unr → m ∈ (us.foldl goOn s).unr := by
  induction us with
  | nil => exact fun s m h => h
  | cons u us ih => exact fun s m h => ih _ m (goOn_keeps u h)
theorem fold_mem (us : List ByteArray) : ∀ (s : Out) (m : ByteArray), m ∈ us → m ∈ (us.foldl goOn s).unr := by
  induction us with
  | nil => intro s m h; cases h
  | cons u us ih =>
    intro s m h
    rcases List.mem_cons.1 h with rfl | h
    · exact fold_keeps us _ _ (goOn_mem s _)
    · exact ih _ m h
theorem fold_still (us : List ByteArray) : ∀ (s : Out), (∀ m ∈ us, m ∈ s.unr) → us.foldl goOn s = s := by
  induction us with
  | nil => exact fun s _ => rfl
  | cons u us ih =>
    intro s h
    rw [List.foldl_cons, goOn_of_mem (h u (by simp))]
    exact ih s (fun m hm => h m (by simp [hm]))
/-- THE PLAIN LAW: the same names once more change nothing. -/
theorem final_twice (x : Option WIn) (y : Option KIn) (us : List ByteArray) : final x y (us ++ us) = final x y us := by
  unfold final
  rw [List.foldl_append]
  exact fold_still us _ (fold_mem us _)
theorem fold_unr (us : List ByteArray) : ∀ (s : Out), (us.foldl goOn s).unr = us.foldl addNew s.unr := by
  induction us with
  | nil => exact fun s => rfl
  | cons u us ih => intro s; rw [List.foldl_cons, List.foldl_cons, ih, goOn_unr]
theorem start_unr (x : Option WIn) (y : Option KIn) : (start x y).unr = [] := by cases x <;> rfl
theorem final_unr (x : Option WIn) (y : Option KIn) (us : List ByteArray) : (final x y us).unr = dedup us := by
  unfold final dedup; rw [fold_unr, start_unr]
theorem goOn_frm (s : Out) (n : ByteArray) : (goOn s n).frm = s.frm := by unfold goOn; split <;> rfl
theorem final_frm (x : WIn) (y : Option KIn) (us : List ByteArray) : (final (some x) y us).frm = x.frm := by
  have : ∀ (us : List ByteArray) (s : Out), (us.foldl goOn s).frm = s.frm := by
    intro us
    induction us with
    | nil => exact fun s => rfl
    | cons u us ih => intro s; rw [List.foldl_cons, ih, goOn_frm]
  exact this us _
end Go.Proofs.Qxb6615722a.AsWay
