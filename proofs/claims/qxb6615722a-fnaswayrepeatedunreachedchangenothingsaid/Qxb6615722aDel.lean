/-
  THE WALKS OF slices.IndexFunc (28), slices.Clone (23), slices.DeleteFunc (22) AT OPTIONS, the test being GoOnWithout's closure. By an AI agent, Nov 2026.
-/
import Derived.Test.Qxb6615722aRows
import Derived.Test.Qxb6615722aBase
import Derived.Test.Qxb6615722aOpts
import Derived.WalkKit
import Derived.WalkSpells
import Derived.WalkSmall
import Derived.Lib.SlicesS
import Derived.Laws.IdiomCopy
import Derived.Deep.AppendLies
namespace Go.Proofs.Qxb6615722a.AsWay
open Go.RowKit
set_option linter.unusedVariables false
attribute [local go_sem] run_store_float

theorem Try.info45 : (Try.prog.info? 45).map (fun i => (i.zero, i.size, i.bytes)) = some (some (.agg #[.string ⟨#[]⟩, .string ⟨#[]⟩, .float .f64 0, .int .i64 0, .int .i64 0, .bool false]), 6, 64) := by kernel_rfl

set_option maxRecDepth 100000 in
set_option maxHeartbeats 1000000 in
theorem idxFunc_any {hot : Nat → Prop} (a : Option Addr) (n c : Nat) (os : List Opt) (ad : Addr) (x : ByteArray) (w : World) (h : OptRow hot w outCells (.slice a n c) os) (hm : n ≤ 1000000) (had : w.cell? ad = some (.string x)) (hlt : ad.block < w.heap.size) :
    Calls Try.prog 28 #[.slice a n c, .func (.func 24) #[] #[.pointer (some ad)]] w fun e w' => ∃ q : Int, e = .returned (.int .i64 q) ∧ Below w.heap.size w w' ∧
      ((q = -1 ∧ ∀ o ∈ os, o.name ≠ x) ∨ ∃ (k : Nat) (o : Opt), q = k ∧ os[k]? = some o ∧ o.name = x ∧ ∀ t o', t < k → os[t]? = some o' → o'.name ≠ x) := by
  obtain ⟨hn, hr⟩ := h.cells
  have HR : Hid (0 < os.length → ∃ b off, a = some ⟨b, off, none⟩ ∧ b < w.heap.size ∧ ¬ hot b ∧ ∀ k o, os[k]? = some o → CellsAt w b (off + k * 6) (outCells o)) := hr
  have HA : Hid (w.cell? ad = some (.string x)) := had
  clear h hr had
  subst hn
  go_enter Try.func28, Try.ntmps28
  go_wp2
  go_loopw [8] (fun i wr => ∃ k : Nat, k ≤ os.length ∧ i = .int .i64 k ∧ Below w.heap.size w wr ∧ ∀ t o', t < k → os[t]? = some o' → o'.name ≠ x) (fun i _ => os.length - (intOf i).toNat)
  case atStart => exact ⟨0, Nat.zero_le _, rfl, Below.refl _ _, fun t o' ht => by omega⟩
  case round =>
    obtain ⟨k, hk, rfl, hbel, hne⟩ := hrel
    have HN : Hid (∀ t o', t < k → os[t]? = some o' → o'.name ≠ x) := hne
    have HL : Hid (Below w.heap.size w wr) := hbel
    clear hne hbel
    by_cases hkl : k < os.length
    · obtain ⟨b, off, rfl, hb, _, hc⟩ := HR.out (by omega)
      obtain ⟨o, ho⟩ : ∃ o, os[k]? = some o := ⟨os[k], List.getElem?_eq_getElem hkl⟩
      have HC : Hid (CellsAt wr b (off + k * 6) (outCells o)) := fun j u hu => (HL.out.cell (p := ⟨b, off + k * 6 + j, none⟩) hb).trans (hc k o ho j u hu)
      have g0 : wr.cell? ⟨b, off + k * 6, none⟩ = some (.string o.name) := HC.out.at 0 rfl
      have g1 : wr.cell? ⟨b, off + k * 6 + 1, none⟩ = some (.string o.name) := HC.out.at 1 rfl
      have g2 : wr.cell? ⟨b, off + k * 6 + 2, none⟩ = some (.float .f64 o.speed) := HC.out.at 2 rfl
      have g3 : wr.cell? ⟨b, off + k * 6 + 3, none⟩ = some (.int .i64 o.cores) := HC.out.at 3 rfl
      have g4 : wr.cell? ⟨b, off + k * 6 + 4, none⟩ = some (.int .i64 o.load) := HC.out.at 4 rfl
      have g5 : wr.cell? ⟨b, off + k * 6 + 5, none⟩ = some (.bool o.fits) := HC.out.at 5 rfl
      have HO : Hid (os[k]? = some o) := ho
      have hsz := HL.out.size
      have HA' : Hid (wr.cell? ad = some (.string x)) := (HL.out.cell (p := ad) hlt).trans HA.out
      clear hc ho HC HR HA
      by_cases hx : o.name = x
      · have hd : decide (o.name = x) = true := decide_eq_true hx
        have HX : Hid (o.name = x) := hx
        clear hx
        go_wp2_with (go_at_call 24; refine (closure_any o ad x _ HA'.out (by omega)).mono ?_; rintro e w1 ⟨rfl, hb1⟩)
        go_ret
        exact ⟨_, rfl, HL.out.trans (hb1.mono hsz), .inr ⟨k, o, rfl, HO.out, HX.out, HN.out⟩⟩
      · have hd : decide (o.name = x) = false := decide_eq_false hx
        have HX : Hid (∀ t o', t < k + 1 → os[t]? = some o' → o'.name ≠ x) := fun t o' ht ho' => by
          rcases Nat.lt_succ_iff_lt_or_eq.1 ht with h | h
          · exact HN.out t o' h ho'
          · subst h; rw [HO.out] at ho'; injection ho' with ho'; subst ho'; exact hx
        clear hx
        go_wp2_with (go_at_call 24; refine (closure_any o ad x _ HA'.out (by omega)).mono ?_; rintro e w1 ⟨rfl, hb1⟩)
        go_roundw
        case rel => exact ⟨k + 1, by omega, by go_num, HL.out.trans (hb1.mono hsz), HX.out⟩
        case measure => simp [intOf]; omega
    · have hkn : k = os.length := by omega
      subst hkn
      go_wp2
      go_ret
      refine ⟨_, rfl, HL.out, .inl ⟨rfl, fun o ho => ?_⟩⟩
      obtain ⟨t, ht, e⟩ := List.getElem_of_mem ho
      exact HN.out t o ht (by rw [List.getElem?_eq_getElem ht, e])

/-! ### The options laid flat -/
def flatO (os : List Opt) : List Value := os.flatMap outCells
theorem flatO_append (L M : List Opt) : flatO (L ++ M) = flatO L ++ flatO M := by simp [flatO]
theorem flatO_length (L : List Opt) : (flatO L).length = L.length * 6 := by
  induction L with
  | nil => rfl
  | cons t L ih =>
    have e : flatO (t :: L) = outCells t ++ flatO L := by simp [flatO]
    rw [e, List.length_append, ih]
    simp [outCells]
    omega
theorem flatO_one (os : List Opt) : ∀ u ∈ flatO os, u.oneCell' = true := by
  intro u hu
  obtain ⟨o, _, ho⟩ := List.mem_flatMap.1 hu
  simp [outCells] at ho
  rcases ho with rfl | rfl | rfl | rfl | rfl <;> rfl
theorem flatO_at (L : List Opt) (k : Nat) (t : Opt) (h : L[k]? = some t) (j : Nat) (hj : j < 6) : (flatO L)[k * 6 + j]? = (outCells t)[j]? := by
  induction L generalizing k with
  | nil => simp at h
  | cons s L ih =>
    have e : flatO (s :: L) = outCells s ++ flatO L := by simp [flatO]
    rw [e]
    cases k with
    | zero =>
      simp at h; subst h
      rw [Nat.zero_mul, Nat.zero_add, List.getElem?_append_left (by simp [outCells]; omega)]
    | succ k =>
      simp at h
      rw [List.getElem?_append_right (by simp [outCells]; omega)]
      have : (k + 1) * 6 + j - (outCells s).length = k * 6 + j := by simp [outCells]; omega
      rw [this]
      exact ih k h
theorem outCells_lt {o : Opt} {j : Nat} {u : Value} (h : (outCells o)[j]? = some u) : j < 6 := by
  rcases Nat.lt_or_ge j 6 with h' | h'
  · exact h'
  · rw [List.getElem?_eq_none (by simpa [outCells] using h')] at h; cases h
/-- A flat cell is some option's. -/
theorem flatO_back (L : List Opt) (j : Nat) (u : Value) (h : (flatO L)[j]? = some u) : ∃ k t i, L[k]? = some t ∧ j = k * 6 + i ∧ (outCells t)[i]? = some u := by
  have hj : j < L.length * 6 := by
    rw [← flatO_length]
    exact (List.getElem?_eq_some_iff.1 h).1
  refine ⟨j / 6, L[j / 6]'(by omega), j % 6, List.getElem?_eq_getElem _, by omega, ?_⟩
  rw [← flatO_at L (j / 6) _ (List.getElem?_eq_getElem (by omega)) (j % 6) (by omega)]
  rw [show j / 6 * 6 + j % 6 = j by omega]
  exact h
/-- The options' cells, read out of a row that is owned. -/
theorem optCells_of_owns {w : World} {lo g n cap : Nat} {os : List Opt} (h : w.ownsRow lo 45 6 (.slice (some ⟨g, 0, none⟩) n cap) n (flatO os)) : ∀ k o, os[k]? = some o → CellsAt w g (k * 6) (outCells o) := fun k o hk j u hu => by
  have hc := h.cells (g := g) rfl
  have hadd : ∀ j, (⟨g, 0, none⟩ : Addr).add j = ⟨g, j, none⟩ := fun j => by unfold Addr.add; split <;> simp_all
  rw [← hadd]
  exact hc _ u (by rw [flatO_at os k o hk j (outCells_lt hu)]; exact hu)
theorem optRow_of_owns {hot : Nat → Prop} {w : World} {lo : Nat} {v : Value} {os : List Opt} (h : w.ownsRow lo 45 6 v os.length (flatO os)) (hh : ∀ k, hot k → k < lo) : OptRow hot w outCells v os := by
  rcases Nat.eq_zero_or_pos os.length with h0 | hp
  · rcases h.2 with ⟨hv, _⟩ | ⟨g, cap, cur, hv, _⟩
    · exact ⟨none, 0, by rw [hv, h0], fun hp => by omega⟩
    · exact ⟨_, cap, hv, fun hp => by omega⟩
  · obtain ⟨g, cap, hv, hlo, hg⟩ := h.form hp
    subst hv
    exact ⟨_, cap, rfl, fun _ => ⟨g, 0, rfl, hg, fun e => by have := hh g e; omega, fun k o hk => by rw [Nat.zero_add]; exact optCells_of_owns h k o hk⟩⟩
theorem OptRow.olds {hot : Nat → Prop} {w w' : World} {a : Option Addr} {n c : Nat} {os : List Opt} (h : OptRow hot w outCells (.slice a n c) os) (hb : Below w.heap.size w w') :
    (a = none → n = 0) ∧ ∀ b, a = some b → ∀ j u, (flatO os)[j]? = some u → w'.cell? (b.add j) = some u := by
  obtain ⟨hn, hr⟩ := h.cells
  refine ⟨fun e => ?_, fun b hb' j u hu => ?_⟩
  · rcases Nat.eq_zero_or_pos os.length with h0 | hp
    · omega
    · obtain ⟨b, off, e', _⟩ := hr hp
      rw [e] at e'; cases e'
  · obtain ⟨k, t, i, hk, rfl, hi⟩ := flatO_back os j u hu
    have hkl := (List.getElem?_eq_some_iff.1 hk).1
    obtain ⟨b0, off, e', hlt, _, hc⟩ := hr (by omega)
    rw [hb'] at e'
    injection e' with e'
    subst e'
    have hadd : (⟨b0, off, none⟩ : Addr).add (k * 6 + i) = ⟨b0, off + k * 6 + i, none⟩ := by unfold Addr.add; split <;> simp_all [Nat.add_assoc]
    rw [hadd, hb.cell (p := ⟨b0, off + k * 6 + i, none⟩) hlt]
    exact hc k t hk i u hi

theorem made_own (g : Nat) (k : Nat) (h : (Value.slice (some ⟨g, 0, none⟩) 0 0).ownBlock = some k) : g ≤ k := by
  simp [Value.ownBlock] at h
  omega

set_option maxRecDepth 100000 in
set_option maxHeartbeats 1000000 in
theorem cloneO_any {hot : Nat → Prop} (a : Option Addr) (n c : Nat) (os : List Opt) (w : World) (h : OptRow hot w outCells (.slice a n c) os) (hm : n ≤ 1000000) :
    Calls Try.prog 23 #[.slice a n c] w fun e w' => ∃ v', e = .returned v' ∧ w'.ownsRow w.heap.size 45 6 v' os.length (flatO os) ∧ Below w.heap.size w w' := by
  obtain ⟨i0, hi0, hz0, hz1, hz2⟩ := info_parts Try.info45
  obtain ⟨hn, hr⟩ := h.cells
  have H : Hid (OptRow hot w outCells (.slice a n c) os) := h
  have HO : Hid (a = none → n = 0) := (h.olds (Below.refl _ _)).1
  clear h hr
  have hq := fun (w : World) (a : Option Addr) (l c : Nat) => Lib.run_eql_slice_nil (P := Try.prog) w 27 45 a l c 0 0 Try.underlying27
  cases a with
  | none =>
    have e := HO.out rfl
    have e' : os = [] := List.eq_nil_of_length_eq_zero (by omega)
    clear hn H HO
    subst e'
    subst e
    go_enter Try.func23, Try.ntmps23
    go_wp2
    go_ret
    exact ⟨_, rfl, World.ownsRow_nil _ _ _ _, Below.refl _ _⟩
  | some x =>
    clear HO
    have HN : Hid (n = os.length) := hn
    clear hn
    go_enter Try.func23, Try.ntmps23
    go_wp2_with (at_builtin; go_loud (refine wpList_append_own _ rfl (.tmp 5) (.tmp 6) 27 rfl w.heap.size 45 i0 _ 6 64 Try.underlying27 hi0 hz0 hz1 hz2 rfl (by decide) _ 0 [] rfl (by exact World.ownsRow_made w #[] 0 (Nat.le_refl _) (Nat.zero_le _) rfl) x n c (flatO os) rfl (by rw [flatO_length, HN.out]) (by exact (H.out.olds ((Below.refl _ _).alloc (Nat.le_refl _) _)).2 x rfl) (flatO_one os) (by unfold maxLen; omega) (by omega) (by simp) ?_; intro v2 w2 hown hgrow hne; have R : Hid (w2.ownsRow w.heap.size 45 6 v2 os.length (flatO os) ∧ Below w.heap.size w w2) := ⟨by rw [← HN.out]; simpa using hown, ((Below.refl _ w).alloc (Nat.le_refl _) _).grown hgrow (by simp) (by exact made_own w.heap.size)⟩; clear hown hgrow hne))
    go_ret
    exact ⟨_, rfl, R.out.1, R.out.2⟩
end Go.Proofs.Qxb6615722a.AsWay
