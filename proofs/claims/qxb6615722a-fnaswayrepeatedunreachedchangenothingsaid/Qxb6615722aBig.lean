/-
  THE WALKS OF zzAddLen (17), zzAddOption (12), zzAddStrings (11), zzWayTooBig (5). By an AI agent, Nov 2026.
-/
import Derived.Test.Qxb6615722aLeaf2
import Derived.Test.Qxb6615722aOpts
import Derived.Deep.DeepCutAuto
import Derived.Deep.Cut
namespace Go.Proofs.Qxb6615722a.AsWay
open Go.RowKit
set_option linter.unusedVariables false
attribute [local go_sem] run_store_float

set_option maxHeartbeats 400000 in
theorem addLen_any (s n : Int) (w : World) (hs : 0 ≤ s) (hs2 : s ≤ 2097152) (hn : 0 ≤ n) : Calls Try.prog 17 #[.int .i64 s, .int .i64 n] w fun e w' => ∃ r : Int, e = .returned (.int .i64 r) ∧ 0 ≤ r ∧ r ≤ 2097152 ∧ w' = w := by
  by_cases h1 : n ≤ 1048576
  · by_cases h2 : s ≤ 1048576
    · have i1 : decide (1048576 < n) = false := decide_eq_false (by omega)
      have i2 : decide (1048576 < s) = false := decide_eq_false (by omega)
      go_enter Try.func17, Try.ntmps17
      go_wp2
      go_ret
      exact ⟨s + n, by go_num, by omega, by omega, rfl⟩
    · have i1 : decide (1048576 < n) = false := decide_eq_false (by omega)
      have i2 : decide (1048576 < s) = true := decide_eq_true (by omega)
      go_enter Try.func17, Try.ntmps17
      go_wp2
      go_ret
      exact ⟨_, rfl, by omega, by omega, rfl⟩
  · have i1 : decide (1048576 < n) = true := decide_eq_true (by omega)
    go_enter Try.func17, Try.ntmps17
    go_wp2
    go_ret
    exact ⟨_, rfl, by omega, by omega, rfl⟩

set_option maxHeartbeats 1000000 in
theorem addOption_any (s : Int) (o : Opt) (w : World) (hs : 0 ≤ s) (hs2 : s ≤ 2097152) : Calls Try.prog 12 #[.int .i64 s, inV o] w fun e w' => ∃ r : Int, e = .returned (.int .i64 r) ∧ 0 ≤ r ∧ r ≤ 2097152 ∧ Below w.heap.size w w' := by
  obtain ⟨name, addr, speed, cores, load, fits⟩ := o
  unfold inV
  go_enter Try.func12, Try.ntmps12
  go_wp2_with fail
  refine (addLen_any s 48 _ hs hs2 (by omega)).mono ?_
  rintro e w1 ⟨r1, rfl, h1, h1', hw1⟩
  subst hw1
  go_wp2_with fail
  refine (addLen_any r1 _ _ h1 h1' (by omega)).mono ?_
  rintro e w1 ⟨r2, rfl, h2, h2', hw1⟩
  subst hw1
  go_wp2_with fail
  refine (addLen_any r2 _ _ h2 h2' (by omega)).mono ?_
  rintro e w1 ⟨r3, rfl, h3, h3', hw1⟩
  subst hw1
  go_wp2
  go_ret
  exact ⟨_, rfl, h3, h3', (Below.refl _ _).alloc (Nat.le_refl _) _⟩

set_option maxHeartbeats 1000000 in
theorem addStrings_any {hot : Nat → Prop} (s : Int) (a : Option Addr) (n c : Nat) (ss : List ByteArray) (w : World) (hs : 0 ≤ s) (hs2 : s ≤ 2097152) (h : StrRow hot w (.slice a n c) ss) (hn : n ≤ maxLen) :
    Calls Try.prog 11 #[.int .i64 s, .slice a n c] w fun e w' => ∃ r : Int, e = .returned (.int .i64 r) ∧ 0 ≤ r ∧ r ≤ 2097152 ∧ (r ≤ 1048576 → n ≤ 65536) ∧ w' = w := by
  obtain ⟨hn', _, _, hr⟩ := h.cells
  have HR : Hid (0 < ss.length → ∃ b off, a = some ⟨b, off, none⟩ ∧ b < w.heap.size ∧ ¬ hot b ∧ ∀ k, k < ss.length → w.cell? ⟨b, off + k, none⟩ = some (.string (ss.getD k ByteArray.empty))) := hr
  clear h hr
  subst hn'
  by_cases hbig : 65536 < ss.length
  · have i1 : decide ((65536 : Int) < (ss.length : Int)) = true := decide_eq_true (by omega)
    go_enter Try.func11, Try.ntmps11
    go_wp2
    go_ret
    exact ⟨_, rfl, by omega, by omega, fun h => absurd h (by omega), rfl⟩
  · have i1 : decide ((65536 : Int) < (ss.length : Int)) = false := decide_eq_false (by omega)
    go_enter Try.func11, Try.ntmps11
    go_wp2_with fail
    refine (addLen_any s _ _ hs hs2 (by omega)).mono ?_
    rintro e w1 ⟨r1, rfl, h1, h1', hw1⟩
    subst hw1
    go_wp2
    go_loop [0, 5] (fun z i => ∃ (k : Nat) (r : Int), k ≤ ss.length ∧ i = .int .i64 k ∧ z = .int .i64 r ∧ 0 ≤ r ∧ r ≤ 2097152) (fun _ i => ss.length - (intOf i).toNat)
    case atStart => exact ⟨0, r1, Nat.zero_le _, rfl, rfl, h1, h1'⟩
    case round =>
      obtain ⟨k, r, hk, rfl, rfl, hr0, hr1⟩ := hrel
      by_cases hkl : k < ss.length
      · obtain ⟨b, off, rfl, _, _, hc⟩ := HR.out (by omega)
        have g0 := hc k hkl
        generalize ss.getD k ByteArray.empty = x at *
        clear hc HR
        by_cases hr2 : 1048576 < r
        · have i2 : decide (1048576 < r) = true := decide_eq_true hr2
          go_wp2
          go_ret
          exact ⟨_, rfl, hr0, hr1, fun h => by omega, rfl⟩
        · have i2 : decide (1048576 < r) = false := decide_eq_false hr2
          go_wp2_with fail
          refine (addLen_any r _ _ hr0 hr1 (by omega)).mono ?_
          rintro e w1 ⟨r2, rfl, h2, h2', hw1⟩
          subst hw1
          go_wp2
          go_round
          case rel => exact ⟨k + 1, r2, by omega, by go_num, rfl, h2, h2'⟩
          case measure => simp [intOf]; omega
      · have hkn : k = ss.length := by omega
        subst hkn
        go_wp2
        go_ret
        exact ⟨_, rfl, hr0, hr1, fun _ => by omega, rfl⟩

def LenW (x : WIn) : Prop := x.rem.length ≤ 65536 ∧ x.frm.length ≤ 65536 ∧ x.reached.length ≤ 65536 ∧ x.tried.length ≤ 65536 ∧ x.busy.length ≤ 65536 ∧ x.unfit.length ≤ 65536
def LenK (y : KIn) : Prop := y.visited.length ≤ 65536 ∧ y.ahead.length ≤ 65536

set_option maxRecDepth 100000 in
set_option maxHeartbeats 4000000 in
theorem tooBig_any (pw pk : Value) (x : Option WIn) (y : Option KIn) (au : Option Addr) (nu cu : Nat) (us : List ByteArray) (w : World) (hx : WayAt w pw x) (hy : WalkAt w pk y) (hu : StrRow cold w (.slice au nu cu) us) (hlr : ∀ z, x = some z → z.rem.length ≤ maxLen) :
    Calls Try.prog 5 #[pw, pk, .slice au nu cu] w fun e w' => ∃ b, e = .returned (.bool b) ∧ Below w.heap.size w w' ∧ (b = false → (∀ z, x = some z → LenW z) ∧ (∀ z, y = some z → LenK z)) := by
  have HX : Hid (WayAt w pw x) := hx
  have HY : Hid (WalkAt w pk y) := hy
  have HU : Hid (StrRow cold w (.slice au nu cu) us) := hu
  have HLR : Hid (∀ z, x = some z → z.rem.length ≤ maxLen) := hlr
  have hnu : nu ≤ maxLen := by obtain ⟨_, h1, h2, _⟩ := hu.cells; omega
  obtain ⟨aw, hpw⟩ : ∃ a, pw = .pointer a := by
    cases x with
    | none => exact ⟨none, hx⟩
    | some x =>
      obtain ⟨b, off, c0, c1, c2, c3, c4, c5, c6, e, _⟩ := hx
      exact ⟨_, e⟩
  obtain ⟨ak, hpk⟩ : ∃ a, pk = .pointer a := by
    cases y with
    | none => exact ⟨none, hy⟩
    | some y =>
      obtain ⟨b, off, c0, c1, e, _⟩ := hy
      exact ⟨_, e⟩
  subst hpw
  subst hpk
  clear hx hy hu hlr
  go_enter Try.func5, Try.ntmps5
  go_wp2_with fail
  refine (addStrings_any 0 au nu cu us w (by omega) (by omega) HU.out hnu).mono ?_
  rintro e w1 ⟨r1, rfl, h1, h1', _, hw1⟩
  subst hw1
  by_cases hr1 : 1048576 < r1
  · have i1 : decide (1048576 < r1) = true := decide_eq_true hr1
    go_wp2
    go_ret
    exact ⟨_, rfl, Below.refl _ _, fun h => by cases h⟩
  have i1 : decide (1048576 < r1) = false := decide_eq_false hr1
  go_upto_if 14 with fail
  go_cut [7] (fun z wx => ∃ r : Int, z = .int .i64 r ∧ 0 ≤ r ∧ r ≤ 2097152 ∧ Below w1.heap.size w1 wx ∧ ∀ z, x = some z → LenW z)
  case first =>
    cases x with
    | none =>
      have e : Value.pointer aw = .pointer none := HX.out
      injection e with e
      subst e
      go_wp2
      go_meet
      exact ⟨r1, rfl, h1, h1', Below.refl _ _, fun z h => by cases h⟩
    | some x =>
      obtain ⟨b, off, c0, c1, c2, c3, c4, c5, c6, e, hb, hc, hbest, hrem, hfrm, hrea, htri, hbus, hunf⟩ := HX.out
      injection e with e
      subst e
      obtain ⟨q1, e1, rfl, hrem⟩ : ∃ a d, c1 = .slice a x.rem.length d ∧ OptRow cold w1 inCells (.slice a x.rem.length d) x.rem := by
        obtain ⟨a, c, rfl, h'⟩ := hrem
        exact ⟨a, c, rfl, a, c, rfl, h'⟩
      obtain ⟨q2, e2, rfl, hfrm⟩ := hfrm.form
      obtain ⟨q3, e3, rfl, hrea⟩ := hrea.form
      obtain ⟨q4, e4, rfl, htri⟩ := htri.form
      obtain ⟨q5, e5, rfl, hbus⟩ := hbus.form
      obtain ⟨q6, e6, rfl, hunf⟩ := hunf.form
      obtain ⟨q0, hc0⟩ : ∃ a, c0 = .pointer a := by
        revert hbest
        cases x.best with
        | none => exact fun e => ⟨none, e⟩
        | some o => exact fun ⟨_, _, e, _⟩ => ⟨_, e⟩
      subst hc0
      have HC : Hid (CellsAt w1 b off [.pointer q0, .slice q1 x.rem.length e1, .slice q2 x.frm.length e2, .slice q3 x.reached.length e3, .slice q4 x.tried.length e4, .slice q5 x.busy.length e5, .slice q6 x.unfit.length e6, .int .i64 x.jumps]) := hc
      have HROWS : Hid (BestAt cold w1 inCells (.pointer q0) x.best ∧ OptRow cold w1 inCells (.slice q1 x.rem.length e1) x.rem ∧ StrRow cold w1 (.slice q2 x.frm.length e2) x.frm ∧ StrRow cold w1 (.slice q3 x.reached.length e3) x.reached ∧ StrRow cold w1 (.slice q4 x.tried.length e4) x.tried ∧ StrRow cold w1 (.slice q5 x.busy.length e5) x.busy ∧ StrRow cold w1 (.slice q6 x.unfit.length e6) x.unfit) := ⟨hbest, hrem, hfrm, hrea, htri, hbus, hunf⟩
      have hml : x.frm.length ≤ maxLen ∧ x.reached.length ≤ maxLen ∧ x.tried.length ≤ maxLen ∧ x.busy.length ≤ maxLen ∧ x.unfit.length ≤ maxLen := by
        refine ⟨?_, ?_, ?_, ?_, ?_⟩
        · obtain ⟨_, h1, h2, _⟩ := hfrm.cells; omega
        · obtain ⟨_, h1, h2, _⟩ := hrea.cells; omega
        · obtain ⟨_, h1, h2, _⟩ := htri.cells; omega
        · obtain ⟨_, h1, h2, _⟩ := hbus.cells; omega
        · obtain ⟨_, h1, h2, _⟩ := hunf.cells; omega
      obtain ⟨m2, m3, m4, m5, m6⟩ := hml
      have m1 := HLR.out x rfl
      have t0 : w1.cell? ⟨b, off, none⟩ = some (.pointer q0) := HC.out.at 0 rfl
      clear hc hbest hrem hfrm hrea htri hbus hunf HX HLR
      go_upto_if 19 with fail
      go_cut [7] (fun z wx => ∃ r : Int, z = .int .i64 r ∧ 0 ≤ r ∧ r ≤ 2097152 ∧ Below w1.heap.size w1 wx)
      case first =>
        obtain ⟨bo, hbo⟩ : ∃ bo, x.best = bo := ⟨_, rfl⟩
        have hbest : BestAt cold w1 inCells (.pointer q0) bo := by rw [← hbo]; exact HROWS.out.1
        clear hbo
        cases bo with
        | none =>
          have e : Value.pointer q0 = .pointer none := hbest
          injection e with e
          subst e
          clear hbest
          go_wp2
          go_meet
          exact ⟨r1, rfl, h1, h1', Below.refl _ _⟩
        | some o =>
          obtain ⟨bb, bof, e, hbb, _, hcells⟩ := hbest
          injection e with e
          subst e
          have s0 : w1.cell? ⟨bb, bof, none⟩ = some (.string o.name) := hcells.at 0 rfl
          have s1 : w1.cell? ⟨bb, bof + 1, none⟩ = some (.string o.addr) := hcells.at 1 rfl
          have s2 : w1.cell? ⟨bb, bof + 2, none⟩ = some (.float .f64 o.speed) := hcells.at 2 rfl
          have s3 : w1.cell? ⟨bb, bof + 3, none⟩ = some (.int .i64 o.cores) := hcells.at 3 rfl
          have s4 : w1.cell? ⟨bb, bof + 4, none⟩ = some (.int .i64 o.load) := hcells.at 4 rfl
          have s5 : w1.cell? ⟨bb, bof + 5, none⟩ = some (.bool o.fits) := hcells.at 5 rfl
          clear hcells
          go_wp2_with fail
          refine (addOption_any r1 o w1 h1 h1').mono ?_
          rintro e w2 ⟨r2, rfl, h2, h2', hb2⟩
          by_cases hr2 : 1048576 < r2
          · have i2 : decide (1048576 < r2) = true := decide_eq_true hr2
            go_wp2
            go_ret
            exact ⟨_, rfl, hb2, fun h => by cases h⟩
          · have i2 : decide (1048576 < r2) = false := decide_eq_false hr2
            go_wp2
            go_meet
            exact ⟨r2, rfl, h2, h2', hb2⟩
      case rest =>
        obtain ⟨r2, rfl, h2, h2', hb2⟩ := hcut
        have HB2 : Hid (Below w1.heap.size w1 wc) := hb2
        have t1 : wc.cell? ⟨b, off + 1, none⟩ = some (.slice q1 x.rem.length e1) := (hb2.cell (p := ⟨b, off + 1, none⟩) hb).trans (HC.out.at 1 rfl)
        clear hb2
        by_cases hl1 : 65536 < x.rem.length
        · have i2 : decide ((65536 : Int) < (x.rem.length : Int)) = true := decide_eq_true (by omega)
          go_wp2
          go_ret
          exact ⟨_, rfl, HB2.out, fun h => by cases h⟩
        have i2 : decide ((65536 : Int) < (x.rem.length : Int)) = false := decide_eq_false (by omega)
        go_wp2
        go_loopw [7, 8] (fun z i wr => ∃ (k : Nat) (r : Int), k ≤ x.rem.length ∧ i = .int .i64 k ∧ z = .int .i64 r ∧ 0 ≤ r ∧ r ≤ 2097152 ∧ Below w1.heap.size w1 wr) (fun _ i _ => x.rem.length - (intOf i).toNat)
        case atStart => exact ⟨0, r2, Nat.zero_le _, rfl, rfl, h2, h2', HB2.out⟩
        case round =>
          obtain ⟨k, r, hk, rfl, rfl, hr0, hr9, hbr⟩ := hrel
          have HBR : Hid (Below w1.heap.size w1 wr) := hbr
          have hszr := hbr.size
          have HCR : Hid (CellsAt wr b off [.pointer q0, .slice q1 x.rem.length e1, .slice q2 x.frm.length e2, .slice q3 x.reached.length e3, .slice q4 x.tried.length e4, .slice q5 x.busy.length e5, .slice q6 x.unfit.length e6, .int .i64 x.jumps]) := HC.out.but (hot := cold) (But.of_below hbr) hb (fun e => e)
          have t1' : wr.cell? ⟨b, off + 1, none⟩ = some (.slice q1 x.rem.length e1) := HCR.out.at 1 rfl
          clear hbr t1 HB2
          by_cases hkl : k < x.rem.length
          · obtain ⟨o, ho⟩ : ∃ o, x.rem[k]? = some o := ⟨x.rem[k], List.getElem?_eq_getElem hkl⟩
            obtain ⟨_, hr⟩ := HROWS.out.2.1.cells
            obtain ⟨br, offr, rfl, hbr, _, hcr⟩ := hr (by omega)
            have HCO : Hid (CellsAt wr br (offr + k * 6) (inCells o)) := fun j u hu => (HBR.out.cell (p := ⟨br, offr + k * 6 + j, none⟩) hbr).trans (hcr k o ho j u hu)
            have s0 : wr.cell? ⟨br, offr + k * 6, none⟩ = some (.string o.name) := HCO.out.at 0 rfl
            have s1 : wr.cell? ⟨br, offr + k * 6 + 1, none⟩ = some (.string o.addr) := HCO.out.at 1 rfl
            have s2 : wr.cell? ⟨br, offr + k * 6 + 2, none⟩ = some (.float .f64 o.speed) := HCO.out.at 2 rfl
            have s3 : wr.cell? ⟨br, offr + k * 6 + 3, none⟩ = some (.int .i64 o.cores) := HCO.out.at 3 rfl
            have s4 : wr.cell? ⟨br, offr + k * 6 + 4, none⟩ = some (.int .i64 o.load) := HCO.out.at 4 rfl
            have s5 : wr.cell? ⟨br, offr + k * 6 + 5, none⟩ = some (.bool o.fits) := HCO.out.at 5 rfl
            clear hr hcr ho HCO
            go_wp2_with fail
            refine (addOption_any r o wr hr0 hr9).mono ?_
            rintro e w2 ⟨r3, rfl, h3, h3', hb3⟩
            have hB3 : Below w1.heap.size w1 w2 := HBR.out.trans (hb3.mono hszr)
            by_cases hr2 : 1048576 < r3
            · have i3 : decide (1048576 < r3) = true := decide_eq_true hr2
              go_wp2
              go_ret
              exact ⟨_, rfl, hB3, fun h => by cases h⟩
            · have i3 : decide (1048576 < r3) = false := decide_eq_false hr2
              go_wp2
              go_roundw
              case rel => exact ⟨k + 1, r3, by omega, by go_num, rfl, h3, h3', hB3⟩
              case measure => simp [intOf]; omega
          · have hkn : k = x.rem.length := by omega
            subst hkn
            have s2 : wr.cell? ⟨b, off + 2, none⟩ = some (.slice q2 x.frm.length e2) := HCR.out.at 2 rfl
            have s3 : wr.cell? ⟨b, off + 3, none⟩ = some (.slice q3 x.reached.length e3) := HCR.out.at 3 rfl
            have s4 : wr.cell? ⟨b, off + 4, none⟩ = some (.slice q4 x.tried.length e4) := HCR.out.at 4 rfl
            have s5 : wr.cell? ⟨b, off + 5, none⟩ = some (.slice q5 x.busy.length e5) := HCR.out.at 5 rfl
            have s6 : wr.cell? ⟨b, off + 6, none⟩ = some (.slice q6 x.unfit.length e6) := HCR.out.at 6 rfl
            have hbt : But cold w1 wr := But.of_below HBR.out
            have A2 : Hid (StrRow cold wr (.slice q2 x.frm.length e2) x.frm) := HROWS.out.2.2.1.but hbt
            have A3 : Hid (StrRow cold wr (.slice q3 x.reached.length e3) x.reached) := HROWS.out.2.2.2.1.but hbt
            have A4 : Hid (StrRow cold wr (.slice q4 x.tried.length e4) x.tried) := HROWS.out.2.2.2.2.1.but hbt
            have A5 : Hid (StrRow cold wr (.slice q5 x.busy.length e5) x.busy) := HROWS.out.2.2.2.2.2.1.but hbt
            have A6 : Hid (StrRow cold wr (.slice q6 x.unfit.length e6) x.unfit) := HROWS.out.2.2.2.2.2.2.but hbt
            clear hbt HCR HROWS HC hk
            go_wp2_with fail
            refine (addStrings_any r q2 x.frm.length e2 x.frm wr hr0 hr9 A2.out m2).mono ?_
            rintro e w2 ⟨p2, rfl, g2, g2', b2, hw⟩
            have hw' := hw.symm
            subst hw'
            clear hw
            by_cases hp2 : 1048576 < p2
            · have j2 : decide (1048576 < p2) = true := decide_eq_true hp2
              go_wp2
              go_ret
              exact ⟨_, rfl, HBR.out, fun h => by cases h⟩
            have j2 : decide (1048576 < p2) = false := decide_eq_false hp2
            go_wp2_with fail
            refine (addStrings_any p2 q3 x.reached.length e3 x.reached wr g2 g2' A3.out m3).mono ?_
            rintro e w3 ⟨p3, rfl, g3, g3', b3, hw⟩
            have hw' := hw.symm
            subst hw'
            clear hw
            by_cases hp3 : 1048576 < p3
            · have j3 : decide (1048576 < p3) = true := decide_eq_true hp3
              go_wp2
              go_ret
              exact ⟨_, rfl, HBR.out, fun h => by cases h⟩
            have j3 : decide (1048576 < p3) = false := decide_eq_false hp3
            go_wp2_with fail
            refine (addStrings_any p3 q4 x.tried.length e4 x.tried wr g3 g3' A4.out m4).mono ?_
            rintro e w4 ⟨p4, rfl, g4, g4', b4, hw⟩
            have hw' := hw.symm
            subst hw'
            clear hw
            by_cases hp4 : 1048576 < p4
            · have j4 : decide (1048576 < p4) = true := decide_eq_true hp4
              go_wp2
              go_ret
              exact ⟨_, rfl, HBR.out, fun h => by cases h⟩
            have j4 : decide (1048576 < p4) = false := decide_eq_false hp4
            go_wp2_with fail
            refine (addStrings_any p4 q5 x.busy.length e5 x.busy wr g4 g4' A5.out m5).mono ?_
            rintro e w5 ⟨p5, rfl, g5, g5', b5, hw⟩
            have hw' := hw.symm
            subst hw'
            clear hw
            by_cases hp5 : 1048576 < p5
            · have j5 : decide (1048576 < p5) = true := decide_eq_true hp5
              go_wp2
              go_ret
              exact ⟨_, rfl, HBR.out, fun h => by cases h⟩
            have j5 : decide (1048576 < p5) = false := decide_eq_false hp5
            go_wp2_with fail
            refine (addStrings_any p5 q6 x.unfit.length e6 x.unfit wr g5 g5' A6.out m6).mono ?_
            rintro e w6 ⟨p6, rfl, g6, g6', b6, hw⟩
            have hw' := hw.symm
            subst hw'
            clear hw
            by_cases hp6 : 1048576 < p6
            · have j6 : decide (1048576 < p6) = true := decide_eq_true hp6
              go_wp2
              go_ret
              exact ⟨_, rfl, HBR.out, fun h => by cases h⟩
            have j6 : decide (1048576 < p6) = false := decide_eq_false hp6
            go_wp2
            go_meet
            exact ⟨_, rfl, g6, g6', HBR.out, fun z h => by injection h with h; subst h; exact ⟨by omega, b2 (by omega), b3 (by omega), b4 (by omega), b5 (by omega), b6 (by omega)⟩⟩
  case rest =>
    obtain ⟨r2, rfl, h2, h2', hb2, hlw⟩ := hcut
    have HB2 : Hid (Below w1.heap.size w1 wc) := hb2
    have HLW : Hid (∀ z, x = some z → LenW z) := hlw
    clear hb2 hlw HX
    cases y with
    | none =>
      have e : Value.pointer ak = .pointer none := HY.out
      injection e with e
      subst e
      go_wp2
      go_ret
      exact ⟨_, rfl, HB2.out, fun _ => ⟨HLW.out, fun z h => by cases h⟩⟩
    | some y =>
      obtain ⟨bk, offk, k0, k1, e, hbk, hck, hk0, hk1⟩ := HY.out
      injection e with e
      subst e
      obtain ⟨q7, e7, rfl, hk0⟩ := hk0.form
      obtain ⟨q8, e8, rfl, hk1⟩ := hk1.form
      have m7 : y.visited.length ≤ maxLen := by obtain ⟨_, h1, h2, _⟩ := hk0.cells; omega
      have m8 : y.ahead.length ≤ maxLen := by obtain ⟨_, h1, h2, _⟩ := hk1.cells; omega
      have HCK := hck.but (hot := cold) (But.of_below HB2.out) hbk (fun e => e)
      have s7 : wc.cell? ⟨bk, offk, none⟩ = some (.slice q7 y.visited.length e7) := HCK.at 0 rfl
      have s8 : wc.cell? ⟨bk, offk + 1, none⟩ = some (.slice q8 y.ahead.length e8) := HCK.at 1 rfl
      have A7 : Hid (StrRow cold wc (.slice q7 y.visited.length e7) y.visited) := hk0.but (But.of_below HB2.out)
      have A8 : Hid (StrRow cold wc (.slice q8 y.ahead.length e8) y.ahead) := hk1.but (But.of_below HB2.out)
      clear hck hk0 hk1 HCK HY
      go_wp2_with fail
      refine (addStrings_any r2 q7 y.visited.length e7 y.visited wc h2 h2' A7.out m7).mono ?_
      rintro e w7 ⟨p7, rfl, g7, g7', b7, hw⟩
      subst hw
      by_cases hp7 : 1048576 < p7
      · have j7 : decide (1048576 < p7) = true := decide_eq_true hp7
        go_wp2
        go_ret
        exact ⟨_, rfl, HB2.out, fun h => by cases h⟩
      have j7 : decide (1048576 < p7) = false := decide_eq_false hp7
      go_wp2_with fail
      refine (addStrings_any p7 q8 y.ahead.length e8 y.ahead w7 g7 g7' A8.out m8).mono ?_
      rintro e w8 ⟨p8, rfl, g8, g8', b8, hw⟩
      subst hw
      by_cases hp8 : 1048576 < p8
      · have j8 : decide (1048576 < p8) = true := decide_eq_true hp8
        go_wp2
        go_ret
        exact ⟨_, rfl, HB2.out, fun h => by cases h⟩
      have j8 : decide (1048576 < p8) = false := decide_eq_false hp8
      go_wp2
      go_ret
      exact ⟨_, rfl, HB2.out, fun _ => ⟨HLW.out, fun z h => by injection h with h; subst h; exact ⟨b7 (by omega), b8 (by omega)⟩⟩⟩
end Go.Proofs.Qxb6615722a.AsWay
