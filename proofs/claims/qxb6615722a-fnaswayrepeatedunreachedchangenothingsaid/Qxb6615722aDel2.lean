/-
  THE WALK OF slices.DeleteFunc (22) AT OPTIONS, on a clone. By an AI agent, Nov 2026.
-/
import Derived.Test.Qxb6615722aDel
import Derived.Lib.SliceRun
namespace Go.Proofs.Qxb6615722a.AsWay
open Go.RowKit
set_option linter.unusedVariables false
attribute [local go_sem] run_store_float

theorem zero45 (w : World) : (zeroValue 45).run Try.prog w = .ok (.agg #[.string ⟨#[]⟩, .string ⟨#[]⟩, .float .f64 0, .int .i64 0, .int .i64 0, .bool false]) w := by kernel_rfl
def z6 : Array Value := #[.string ⟨#[]⟩, .string ⟨#[]⟩, .float .f64 0, .int .i64 0, .int .i64 0, .bool false]
theorem z6_one (n : Nat) : ∀ u ∈ (Builtin.zeroCells z6 n).toList, u.oneCell' = true := by
  intro u hu
  simp only [Builtin.zeroCells] at hu
  simp at hu
  obtain ⟨i, hi, e⟩ := hu
  have hlt : i % 6 = 0 ∨ i % 6 = 1 ∨ i % 6 = 2 ∨ i % 6 = 3 ∨ i % 6 = 4 ∨ i % 6 = 5 := by omega
  have e' : z6[i % 6]! = u := e
  rcases hlt with h | h | h | h | h | h <;> (rw [h] at e'; rw [← e']; rfl)
theorem clear45 (w : World) (ty : TypeId) (b o n c : Nat) (hn : 0 < n) (hc : ∀ j, j < n * 6 → (w.cell? ⟨b, o + j, none⟩).isSome = true) (hf : ∀ j, j < n * 6 → w.frozen? ⟨b, o + j, none⟩ = false) :
    (Builtin.clear_ #[27] ty #[.slice (some ⟨b, o, none⟩) n c]).run Try.prog w = .ok (.tuple #[]) (w.setCells b o (Builtin.zeroCells z6 n).toList) := by
  have hl : (Builtin.zeroCells z6 n).toList.length = n * 6 := by simp [size_zeroCells, z6]
  have hst := run_storeCells_cells (P := Try.prog) b o (Builtin.zeroCells z6 n).toList 0 w (by rw [hl]; simpa using hc) (by rw [hl]; simpa using hf) (z6_one n)
  simp only [Nat.add_zero] at hst
  obtain ⟨m, rfl⟩ : ∃ m, n = m + 1 := ⟨n - 1, by omega⟩
  have hzc : (Value.agg #[.string ⟨#[]⟩, .string ⟨#[]⟩, .float .f64 0, .int .i64 0, .int .i64 0, .bool false]).cells = z6 := rfl
  simp [Builtin.clear_, run_underlying Try.underlying27, hzc, hst]

/-- The options that are kept. -/
def keep (x : ByteArray) (os : List Opt) : List Opt := os.filter (fun o => decide (o.name ≠ x))
theorem keep_take_drop {x : ByteArray} {os : List Opt} {t : Nat} {o : Opt} (h : os[t]? = some o) (hx : o.name = x) : keep x (os.take (t + 1)) = keep x (os.take t) := by
  obtain ⟨hl, e⟩ := List.getElem?_eq_some_iff.1 h
  rw [List.take_succ_eq_append_getElem hl, e]
  simp [keep, hx]
theorem keep_take_keep {x : ByteArray} {os : List Opt} {t : Nat} {o : Opt} (h : os[t]? = some o) (hx : ¬ o.name = x) : keep x (os.take (t + 1)) = keep x (os.take t) ++ [o] := by
  obtain ⟨hl, e⟩ := List.getElem?_eq_some_iff.1 h
  rw [List.take_succ_eq_append_getElem hl, e]
  simp [keep, hx]
theorem keep_len (x : ByteArray) (os : List Opt) (t : Nat) (h : t ≤ os.length) : (keep x (os.take t)).length ≤ t := by
  have := List.length_filter_le (fun o : Opt => decide (o.name ≠ x)) (os.take t)
  have h2 : (os.take t).length = t := by simp; omega
  unfold keep; omega
theorem keep_all (x : ByteArray) (os : List Opt) (h : ∀ o ∈ os, o.name ≠ x) : keep x os = os := by
  unfold keep; rw [List.filter_eq_self]; intro o ho; simpa using h o ho
theorem keep_first (x : ByteArray) (os : List Opt) (k : Nat) (hk : k ≤ os.length) (h : ∀ t o', t < k → os[t]? = some o' → o'.name ≠ x) : keep x (os.take k) = os.take k := by
  refine keep_all x _ (fun o ho => ?_)
  obtain ⟨j, hj, e⟩ := List.getElem_of_mem ho
  simp at hj
  refine h j o (by omega) ?_
  rw [← e]; simp

theorem Below.setCells {lo : Nat} {w : World} {b : Nat} (hb : lo ≤ b) : ∀ (vs : List Value) (o : Nat) (w' : World), Below lo w w' → Below lo w (w'.setCells b o vs)
  | [], _, _, h => h
  | v :: r, o, w', h => Below.setCells hb r (o + 1) _ (h.setCell (p := ⟨b, o, none⟩) hb v)
theorem size_setCells (b : Nat) : ∀ (vs : List Value) (o : Nat) (w' : World), (w'.setCells b o vs).heap.size = w'.heap.size
  | [], _, _ => rfl
  | v :: r, o, w' => by rw [World.setCells, size_setCells b r]; simp

structure DelInv (os : List Opt) (x : ByteArray) (g lo : Nat) (w : World) (m t : Nat) (wr : World) : Prop where
  ht : t ≤ os.length
  hmt : m < t
  hm : m = (keep x (os.take t)).length
  kept : ∀ q o, (keep x (os.take t))[q]? = some o → CellsAt wr g (q * 6) (outCells o)
  rest : ∀ q o, t ≤ q → os[q]? = some o → CellsAt wr g (q * 6) (outCells o)
  all : ∀ p, p < os.length * 6 → (wr.cell? ⟨g, p, none⟩).isSome = true
  free : ∀ p, wr.frozen? ⟨g, p, none⟩ = false
  below : Below lo w wr
  lt : g < wr.heap.size
theorem CellsAt.below {w w' : World} {b off : Nat} {cs : List Value} (h : CellsAt w b off cs) (hb : Below w.heap.size w w') (hlt : b < w.heap.size) : CellsAt w' b off cs := fun j u hu => by
  rw [hb.cell (p := ⟨b, off + j, none⟩) hlt]; exact h j u hu
theorem DelInv.later {os : List Opt} {x : ByteArray} {g lo : Nat} {w : World} {m t : Nat} {wr W : World} (h : DelInv os x g lo w m t wr) (hl : lo ≤ wr.heap.size) (hb : Below wr.heap.size wr W) : DelInv os x g lo w m t W :=
  ⟨h.ht, h.hmt, h.hm, fun q o hq => (h.kept q o hq).below hb h.lt, fun q o hq ho => (h.rest q o hq ho).below hb h.lt, fun p hp => by rw [hb.cell (p := ⟨g, p, none⟩) h.lt]; exact h.all p hp,
    fun p => by rw [hb.frozen (p := ⟨g, p, none⟩) h.lt]; exact h.free p, h.below.trans (hb.mono hl), Nat.lt_of_lt_of_le h.lt hb.size⟩
theorem DelInv.drop {os : List Opt} {x : ByteArray} {g lo : Nat} {w : World} {m t : Nat} {wr : World} (h : DelInv os x g lo w m t wr) {o : Opt} (ho : os[t]? = some o) (hx : o.name = x) : DelInv os x g lo w m (t + 1) wr := by
  have hl := (List.getElem?_eq_some_iff.1 ho).1
  refine ⟨hl, by have := h.hmt; omega, ?_, ?_, fun q o hq => h.rest q o (by omega), h.all, h.free, h.below, h.lt⟩
  · rw [keep_take_drop ho hx]; exact h.hm
  · rw [keep_take_drop ho hx]; exact h.kept
theorem outCells_length (o : Opt) : (outCells o).length = 6 := rfl
theorem DelInv.keep {os : List Opt} {x : ByteArray} {g lo : Nat} {w : World} {m t : Nat} {wr : World} (h : DelInv os x g lo w m t wr) (hg : lo ≤ g) {o : Opt} (ho : os[t]? = some o) (hx : ¬ o.name = x) :
    DelInv os x g lo w (m + 1) (t + 1) (wr.setCells g (m * 6) (outCells o)) := by
  have hl := (List.getElem?_eq_some_iff.1 ho).1
  have hmt := h.hmt
  have hm := h.hm
  have hout : ∀ q o', q ≠ m → CellsAt wr g (q * 6) (outCells o') → CellsAt (wr.setCells g (m * 6) (outCells o)) g (q * 6) (outCells o') := fun q o' hq hc j u hu => by
    have hj := outCells_lt hu
    rw [World.cell?_setCells_out g _ _ _ _ (fun _ _ => by rw [outCells_length]; show q * 6 + j < m * 6 ∨ m * 6 + 6 ≤ q * 6 + j; omega)]
    exact hc j u hu
  refine ⟨hl, by omega, ?_, ?_, fun q o' hq ho' => hout q o' (by omega) (h.rest q o' (by omega) ho'), fun p hp => ?_, fun p => ?_, Below.setCells hg _ _ _ h.below, by rw [size_setCells]; exact h.lt⟩
  · rw [keep_take_keep ho hx]; simp; exact hm
  · rw [keep_take_keep ho hx]
    intro q o' hq
    rcases Nat.lt_or_ge q m with hqm | hqm
    · rw [List.getElem?_append_left (by omega)] at hq
      exact hout q o' (by omega) (h.kept q o' hq)
    · rw [List.getElem?_append_right (by omega)] at hq
      have hqe : q = m := by
        have := (List.getElem?_eq_some_iff.1 hq).1
        simp at this; omega
      subst hqe
      rw [← hm, Nat.sub_self] at hq
      simp at hq
      subst hq
      intro j u hu
      have hj : j < (outCells o).length := outCells_lt hu
      rw [World.cell?_setCells_in g _ _ _ (fun i hi => h.all _ (by rw [outCells_length] at hi; omega)) j hj]
      rw [List.getElem?_eq_getElem hj] at hu
      exact hu
  · rcases Nat.lt_or_ge p (m * 6) with hp1 | hp1
    · rw [World.cell?_setCells_out g _ _ _ _ (fun _ _ => .inl hp1)]; exact h.all p hp
    · rcases Nat.lt_or_ge p (m * 6 + 6) with hp2 | hp2
      · have := World.cell?_setCells_in g (outCells o) (m * 6) wr (fun i hi => h.all _ (by rw [outCells_length] at hi; omega)) (p - m * 6) (by rw [outCells_length]; omega)
        rw [show m * 6 + (p - m * 6) = p by omega] at this
        rw [this]; rfl
      · rw [World.cell?_setCells_out g _ _ _ _ (fun _ _ => .inr (by rw [outCells_length]; exact hp2))]; exact h.all p hp
  · rw [World.frozen?_setCells]; exact h.free p
/-- The end: what is kept lies ahead; the rest is cleared. -/
theorem DelInv.done {hot : Nat → Prop} {os : List Opt} {x : ByteArray} {g lo : Nat} {w : World} {m : Nat} {wr : World} {cap : Nat} (h : DelInv os x g lo w m os.length wr) (hg : lo ≤ g) (hh : ∀ k, hot k → k < lo) (vs : List Value) :
    OptRow hot (wr.setCells g (m * 6) vs) outCells (.slice (some ⟨g, 0, none⟩) m cap) (AsWay.keep x os) ∧ Below lo w (wr.setCells g (m * 6) vs) := by
  have hk := h.kept
  have hm := h.hm
  rw [List.take_length] at hk hm
  refine ⟨⟨_, cap, by rw [hm], fun _ => ⟨g, 0, rfl, by rw [size_setCells]; exact h.lt, fun e => by have := hh g e; omega, fun q o hq j u hu => ?_⟩⟩, Below.setCells hg _ _ _ h.below⟩
  have hqm : q < m := by rw [hm]; exact (List.getElem?_eq_some_iff.1 hq).1
  have hj := outCells_lt hu
  rw [World.cell?_setCells_out g _ _ _ _ (fun _ _ => by show 0 + q * 6 + j < m * 6 ∨ _; omega), Nat.zero_add]
  exact hk q o hq j u hu

/-- The loop's start. -/
theorem DelInv.first {os : List Opt} {x : ByteArray} {g lo cap : Nat} {w wr : World} {k : Nat} {o : Opt} (hown : w.ownsRow lo 45 6 (.slice (some ⟨g, 0, none⟩) os.length cap) os.length (flatO os)) (hb : Below w.heap.size w wr) (hlo : lo ≤ w.heap.size)
    (hk : os[k]? = some o) (hx : o.name = x) (hbef : ∀ t o', t < k → os[t]? = some o' → o'.name ≠ x) : DelInv os x g lo w k (k + 1) wr := by
  have hl := (List.getElem?_eq_some_iff.1 hk).1
  have hg : g < w.heap.size := (hown.lt g rfl).2
  have hc := fun q o' ho' => (optCells_of_owns hown q o' ho').below hb hg
  have hkt : AsWay.keep x (os.take (k + 1)) = os.take k := by rw [keep_take_drop hk hx, keep_first x os k (by omega) hbef]
  refine ⟨hl, Nat.lt_succ_self k, ?_, ?_, fun q o' _ ho' => hc q o' ho', fun p hp => ?_, fun p => ?_, hb.mono hlo, Nat.lt_of_lt_of_le hg hb.size⟩
  · rw [hkt]; simp; omega
  · rw [hkt]
    intro q o' hq
    refine hc q o' ?_
    have := (List.getElem?_eq_some_iff.1 hq).1
    simp at this
    rw [List.getElem?_take_of_lt (by omega)] at hq
    exact hq
  · have hpl : p / 6 < os.length := by omega
    have := hc (p / 6) _ (List.getElem?_eq_getElem hpl) (p % 6) _ (List.getElem?_eq_getElem (show p % 6 < (outCells os[p / 6]).length by rw [outCells_length]; omega))
    rw [show p / 6 * 6 + p % 6 = p by omega] at this
    rw [this]; rfl
  · rw [hb.frozen (p := ⟨g, p, none⟩) hg]
    rcases hown.2 with ⟨hv, _⟩ | ⟨g', cap', cur, hv, _, hblk, _⟩
    · cases hv
    · injection hv with e _ _
      injection e with e
      injection e with e _ _
      subst e
      exact free_of_block hblk

/-- The option that was put into a box of its own, and what the store may write to, behind the closure's call. -/
theorem box6 {wr w2 : World} {o : Opt} (hb : Below (wr.alloc (.cells (outCells o).toArray 45)).heap.size (wr.alloc (.cells (outCells o).toArray 45)) w2) : CellsAt w2 wr.heap.size 0 (outCells o) := fun j u hu => by
  rw [hb.cell (p := ⟨wr.heap.size, 0 + j, none⟩) (by simp), Nat.zero_add, World.cell?_alloc_new]
  simpa using hu
theorem DelInv.six {os : List Opt} {x : ByteArray} {g lo : Nat} {w : World} {m t : Nat} {wr : World} (h : DelInv os x g lo w m t wr) : ∃ u0 u1 u2 u3 u4 u5, wr.cell? ⟨g, m * 6, none⟩ = some u0 ∧ wr.cell? ⟨g, m * 6 + 1, none⟩ = some u1 ∧ wr.cell? ⟨g, m * 6 + 2, none⟩ = some u2 ∧
    wr.cell? ⟨g, m * 6 + 3, none⟩ = some u3 ∧ wr.cell? ⟨g, m * 6 + 4, none⟩ = some u4 ∧ wr.cell? ⟨g, m * 6 + 5, none⟩ = some u5 := by
  have h1 := h.hmt
  have h2 := h.ht
  obtain ⟨u0, s0⟩ := Option.isSome_iff_exists.1 (h.all (m * 6) (by omega))
  obtain ⟨u1, s1⟩ := Option.isSome_iff_exists.1 (h.all (m * 6 + 1) (by omega))
  obtain ⟨u2, s2⟩ := Option.isSome_iff_exists.1 (h.all (m * 6 + 2) (by omega))
  obtain ⟨u3, s3⟩ := Option.isSome_iff_exists.1 (h.all (m * 6 + 3) (by omega))
  obtain ⟨u4, s4⟩ := Option.isSome_iff_exists.1 (h.all (m * 6 + 4) (by omega))
  obtain ⟨u5, s5⟩ := Option.isSome_iff_exists.1 (h.all (m * 6 + 5) (by omega))
  exact ⟨u0, u1, u2, u3, u4, u5, s0, s1, s2, s3, s4, s5⟩

set_option maxRecDepth 100000 in
set_option maxHeartbeats 4000000 in
theorem delFunc_any {hot : Nat → Prop} (lo : Nat) (v : Value) (os : List Opt) (ad : Addr) (x : ByteArray) (w : World) (hown : w.ownsRow lo 45 6 v os.length (flatO os)) (hlo : lo ≤ w.heap.size) (hm : os.length ≤ 1000000) (had : w.cell? ad = some (.string x)) (hlt : ad.block < lo) (hh : ∀ k, hot k → k < lo) :
    Calls Try.prog 22 #[v, .func (.func 24) #[] #[.pointer (some ad)]] w fun e w' => ∃ v', e = .returned v' ∧ OptRow hot w' outCells v' (keep x os) ∧ Below lo w w' := by
  have HH : Hid (∀ k, hot k → k < lo) := hh
  have HROW : Hid (OptRow hot w outCells v os) := optRow_of_owns hown hh
  have HOWN : Hid (w.ownsRow lo 45 6 v os.length (flatO os)) := hown
  obtain ⟨a, n, c, rfl, hn⟩ : ∃ a n c, v = .slice a n c ∧ n = os.length := by
    obtain ⟨a, c, e, _⟩ := HROW.out
    exact ⟨a, _, c, e, rfl⟩
  subst hn
  have HA : Hid (w.cell? ad = some (.string x)) := had
  clear hh hown had
  go_enter Try.func22, Try.ntmps22
  go_wp2_with fail
  refine (idxFunc_any a os.length c os ad x w HROW.out hm HA.out (by omega)).mono ?_
  rintro e w1 ⟨q, rfl, hb1, hq⟩
  rcases hq with ⟨rfl, hall⟩ | ⟨k, o, rfl, hk, hx, hbef⟩
  · have R : Hid (OptRow hot w1 outCells (.slice a os.length c) (keep x os) ∧ Below lo w w1) := ⟨by rw [keep_all x os hall]; exact HROW.out.but (But.of_below hb1), hb1.mono hlo⟩
    clear hall hb1
    go_wp2
    go_ret
    exact ⟨_, rfl, R.out.1, R.out.2⟩
  · have hkl := (List.getElem?_eq_some_iff.1 hk).1
    obtain ⟨g, cap, hv, hlg, hg⟩ := HOWN.out.form (by omega)
    injection hv with e1 _ e3
    subst e1
    subst e3
    have hnc : os.length ≤ c ∧ c ≤ maxLen := by
      rcases HOWN.out.2 with ⟨hv, _⟩ | ⟨g', cap', cur, hv, _, _, h1, h2, _⟩
      · cases hv
      · injection hv with _ _ e
        subst e
        exact ⟨h1, h2⟩
    obtain ⟨hnc, hcm⟩ := hnc
    have HI : Hid (DelInv os x g lo w k (k + 1) w1) := DelInv.first HOWN.out hb1 hlo hk hx hbef
    clear hk hx hbef hb1 HOWN HROW
    have i1 : ((k : Int) == -1) = false := by simp
    go_wp2
    go_loopw [5, 6] (fun i j wr => ∃ m t : Nat, i = .int .i64 m ∧ j = .int .i64 t ∧ DelInv os x g lo w m t wr) (fun _ j _ => os.length - (intOf j).toNat)
    case atStart => exact ⟨k, k + 1, rfl, by go_num, HI.out⟩
    case round =>
      obtain ⟨m, t, rfl, rfl, hinv⟩ := hrel
      have hmt := hinv.hmt
      have htl := hinv.ht
      have HV : Hid (DelInv os x g lo w m t wr) := hinv
      have hgl := hinv.lt
      have hlw : lo ≤ wr.heap.size := Nat.le_trans hlo hinv.below.size
      have HA' : Hid (∀ o, (wr.alloc o).cell? ad = some (.string x)) := fun o => by
        rw [World.cell?_of_block (w' := wr.alloc o) (w := wr) (Below.heap_alloc wr o _ (by omega)), hinv.below.cell (p := ad) hlt]; exact HA.out
      clear hinv HI
      by_cases htk : t < os.length
      · obtain ⟨o, ho⟩ : ∃ o, os[t]? = some o := ⟨os[t], List.getElem?_eq_getElem htk⟩
        have HC : Hid (CellsAt wr g (t * 6) (outCells o)) := HV.out.rest t o (Nat.le_refl _) ho
        have g0 : wr.cell? ⟨g, t * 6, none⟩ = some (.string o.name) := HC.out.at 0 rfl
        have g1 : wr.cell? ⟨g, t * 6 + 1, none⟩ = some (.string o.name) := HC.out.at 1 rfl
        have g2 : wr.cell? ⟨g, t * 6 + 2, none⟩ = some (.float .f64 o.speed) := HC.out.at 2 rfl
        have g3 : wr.cell? ⟨g, t * 6 + 3, none⟩ = some (.int .i64 o.cores) := HC.out.at 3 rfl
        have g4 : wr.cell? ⟨g, t * 6 + 4, none⟩ = some (.int .i64 o.load) := HC.out.at 4 rfl
        have g5 : wr.cell? ⟨g, t * 6 + 5, none⟩ = some (.bool o.fits) := HC.out.at 5 rfl
        clear HC
        by_cases hx : o.name = x
        · have hd : decide (o.name = x) = true := decide_eq_true hx
          have HD : Hid (DelInv os x g lo w m (t + 1) wr) := HV.out.drop ho hx
          clear hx ho HV
          go_wp2_with (go_at_call 24; refine (closure_any o ad x _ (by exact HA'.out _) (by simp; omega)).mono ?_; rintro e w2 ⟨rfl, hb2⟩)
          go_roundw
          case rel => exact ⟨m, t + 1, rfl, by go_num, HD.out.later hlw (((Below.refl _ wr).alloc (Nat.le_refl _) _).trans (hb2.mono (by simp)))⟩
          case measure => simp [intOf]; omega
        · have hd : decide (o.name = x) = false := decide_eq_false hx
          have HO : Hid (os[t]? = some o ∧ ¬ o.name = x) := ⟨ho, hx⟩
          clear hx ho
          go_wp2_with (go_at_call 24; refine (closure_any o ad x _ (by exact HA'.out _) (by simp; omega)).mono ?_; rintro e w2 ⟨rfl, hb2⟩; have HB : Hid (CellsAt w2 wr.heap.size 0 (outCells o)) := (by exact box6 hb2); have HD : Hid (DelInv os x g lo w m t w2) := HV.out.later hlw (((Below.refl _ wr).alloc (Nat.le_refl _) _).trans (hb2.mono (by simp))); clear hb2 HV; have b0 : w2.cell? ⟨wr.heap.size, 0, none⟩ = some (.string o.name) := HB.out.at 0 rfl; have b1 : w2.cell? ⟨wr.heap.size, 1, none⟩ = some (.string o.name) := HB.out.at 1 rfl; have b2 : w2.cell? ⟨wr.heap.size, 2, none⟩ = some (.float .f64 o.speed) := HB.out.at 2 rfl; have b3 : w2.cell? ⟨wr.heap.size, 3, none⟩ = some (.int .i64 o.cores) := HB.out.at 3 rfl; have b4 : w2.cell? ⟨wr.heap.size, 4, none⟩ = some (.int .i64 o.load) := HB.out.at 4 rfl; have b5 : w2.cell? ⟨wr.heap.size, 5, none⟩ = some (.bool o.fits) := HB.out.at 5 rfl; clear HB; obtain ⟨u0, u1, u2, u3, u4, u5, s0, s1, s2, s3, s4, s5⟩ := HD.out.six; have fz : ∀ p, w2.frozen? ⟨g, p, none⟩ = false := HD.out.free; have HK : Hid (DelInv os x g lo w (m + 1) (t + 1) (w2.setCells g (m * 6) (outCells o))) := HD.out.keep hlg HO.out.1 HO.out.2; clear HD)
          go_roundw
          case rel => exact ⟨m + 1, t + 1, by go_num, by go_num, HK.out⟩
          case measure => simp [intOf]; omega
      · have htn : t = os.length := by omega
        subst htn
        have hcl : ∀ ty c, (Builtin.clear_ #[27] ty #[.slice (some ⟨g, m * 6, none⟩) (os.length - m) c]).run Try.prog wr = .ok (.tuple #[]) (wr.setCells g (m * 6) (Builtin.zeroCells z6 (os.length - m)).toList) :=
          fun ty c => clear45 wr ty g (m * 6) (os.length - m) c (by omega) (fun j hj => HV.out.all _ (by omega)) (fun j hj => HV.out.free _)
        have R : Hid (∀ vs, OptRow hot (wr.setCells g (m * 6) vs) outCells (.slice (some ⟨g, 0, none⟩) m c) (keep x os) ∧ Below lo w (wr.setCells g (m * 6) vs)) := fun vs => HV.out.done hlg HH.out vs
        clear HV
        have i2 : m < c := by omega
        have i3 : m ≤ c := by omega
        unfold maxLen at hcm
        go_wp2_with (simp only [hcl])
        go_ret
        exact ⟨_, rfl, (R.out _).1, (R.out _).2⟩
end Go.Proofs.Qxb6615722a.AsWay
