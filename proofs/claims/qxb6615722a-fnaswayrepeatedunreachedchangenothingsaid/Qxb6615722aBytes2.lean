/-
  THE WALK OF THE LAW's OWN BOUND zzBytes_.. (4): it returns; nothing is written. By an AI agent, Nov 2026.
-/
import Derived.Test.Qxb6615722aLeaf2
import Derived.Test.Qxb6615722aBytes1
import Derived.Test.Qxb6615722aOpts
import Derived.Deep.DeepCutAuto
import Derived.Deep.Cut
import Derived.Deep.CutRange
namespace Go.Proofs.Qxb6615722a.AsWay
open Go.RowKit
set_option linter.unusedVariables false

set_option maxRecDepth 100000 in
set_option maxHeartbeats 16000000 in
theorem bytes_sn (pw pk : Value) (x : WIn) (au : Option Addr) (nu cu : Nat) (us : List ByteArray) (w : World) (hx : WayAt w pw (some x)) (hy : WalkAt w pk none) (hu : StrRow cold w (.slice au nu cu) us) (hlr : x.rem.length ≤ maxLen) :
    Calls Try.prog 4 #[pw, pk, .slice au nu cu] w fun e w' => Told e ∧ w' = w := by
  have HX : Hid (WayAt w pw (some x)) := hx
  have HY : Hid (WalkAt w pk none) := hy
  have HU : Hid (StrRow cold w (.slice au nu cu) us) := hu
  have HLR : Hid (x.rem.length ≤ maxLen) := hlr
  have hnu : nu = us.length := hu.cells.1
  subst hnu
  obtain ⟨aw, hpw⟩ : ∃ a, pw = .pointer a := by
    obtain ⟨b, off, c0, c1, c2, c3, c4, c5, c6, e, _⟩ := hx
    exact ⟨_, e⟩
  obtain ⟨ak, hpk⟩ : ∃ a, pk = .pointer a := by
    exact ⟨none, hy⟩
  subst hpw
  subst hpk
  clear hx hy hu hlr
  go_enter Try.func4, Try.ntmps4
  have hz0 : (0 : Int) ≤ 0 := by omega
  have hz1 : (0 : Int) ≤ 1048576 := by omega
  obtain ⟨b, off, c0, c1, c2, c3, c4, c5, c6, e, hb, hc, hbest, hrem, hfrm, hrea, htri, hbus, hunf⟩ := HX.out
  injection e with e
  subst e
  obtain ⟨q1, e1, rfl, hrem⟩ : ∃ a d, c1 = .slice a x.rem.length d ∧ OptRow cold w inCells (.slice a x.rem.length d) x.rem := by
    obtain ⟨a, c, rfl, h'⟩ := hrem
    exact ⟨a, c, rfl, a, c, rfl, h'⟩
  obtain ⟨q2, e2, rfl, hfrm⟩ := hfrm.form
  obtain ⟨q3, e3, rfl, hrea⟩ := hrea.form
  obtain ⟨q4, e4, rfl, htri⟩ := htri.form
  obtain ⟨q5, e5, rfl, hbus⟩ := hbus.form
  obtain ⟨q6, e6, rfl, hunf⟩ := hunf.form
  obtain ⟨q0, hc0⟩ : ∃ a, c0 = .pointer a := by
    revert hbest
    cases x.best with
    | none => exact fun e => ⟨none, e⟩
    | some o => exact fun ⟨_, _, e, _⟩ => ⟨_, e⟩
  subst hc0
  have HROWS : Hid (BestAt cold w inCells (.pointer q0) x.best ∧ OptRow cold w inCells (.slice q1 x.rem.length e1) x.rem ∧ StrRow cold w (.slice q2 x.frm.length e2) x.frm ∧ StrRow cold w (.slice q3 x.reached.length e3) x.reached ∧ StrRow cold w (.slice q4 x.tried.length e4) x.tried ∧ StrRow cold w (.slice q5 x.busy.length e5) x.busy ∧ StrRow cold w (.slice q6 x.unfit.length e6) x.unfit) := ⟨hbest, hrem, hfrm, hrea, htri, hbus, hunf⟩
  have t0 : w.cell? ⟨b, off, none⟩ = some (.pointer q0) := hc.at 0 rfl
  have t1 : w.cell? ⟨b, off + 1, none⟩ = some (.slice q1 x.rem.length e1) := hc.at 1 rfl
  have t2 : w.cell? ⟨b, off + 2, none⟩ = some (.slice q2 x.frm.length e2) := hc.at 2 rfl
  have t3 : w.cell? ⟨b, off + 3, none⟩ = some (.slice q3 x.reached.length e3) := hc.at 3 rfl
  have t4 : w.cell? ⟨b, off + 4, none⟩ = some (.slice q4 x.tried.length e4) := hc.at 4 rfl
  have t5 : w.cell? ⟨b, off + 5, none⟩ = some (.slice q5 x.busy.length e5) := hc.at 5 rfl
  have t6 : w.cell? ⟨b, off + 6, none⟩ = some (.slice q6 x.unfit.length e6) := hc.at 6 rfl
  clear hc hbest hrem hfrm hrea htri hbus hunf HX HLR
  go_upto_if 23 with fail
  go_cut [7] from 24 to 65 (fun z wx => ∃ r : Int, z = .int .i64 r ∧ 0 ≤ r ∧ r ≤ 1048576 ∧ wx = w)
  case first =>
    obtain ⟨bo, hbo⟩ : ∃ bo, x.best = bo := ⟨_, rfl⟩
    have hbest : BestAt cold w inCells (.pointer q0) bo := by rw [← hbo]; exact HROWS.out.1
    clear hbo
    cases bo with
    | none =>
      have e : Value.pointer q0 = .pointer none := hbest
      injection e with e
      subst e
      clear hbest
      go_wp2
      go_meet
      exact ⟨0, rfl, by omega, by omega, rfl⟩
    | some o =>
      obtain ⟨bb, bof, e, hbb, _, hcells⟩ := hbest
      injection e with e
      subst e
      have s0 : w.cell? ⟨bb, bof, none⟩ = some (.string o.name) := hcells.at 0 rfl
      have s1 : w.cell? ⟨bb, bof + 1, none⟩ = some (.string o.addr) := hcells.at 1 rfl
      clear hcells
      generalize o.name = sa at *
      generalize o.addr = sb at *
      by_cases ha1 : (1048576 : Int) < (sa.size : Int)
      · have ia1 : decide ((1048576 : Int) < (sa.size : Int)) = true := decide_eq_true ha1
        go_wp2
        go_ret
        exact ⟨⟨_, rfl⟩, rfl⟩
      have ia1 : decide ((1048576 : Int) < (sa.size : Int)) = false := decide_eq_false ha1
      by_cases ha3 : (1048576 : Int) < (sb.size : Int)
      · have ia3 : decide ((1048576 : Int) < (sb.size : Int)) = true := decide_eq_true ha3
        go_wp2
        go_ret
        exact ⟨⟨_, rfl⟩, rfl⟩
      have ia3 : decide ((1048576 : Int) < (sb.size : Int)) = false := decide_eq_false ha3
      by_cases ha4 : (1048576 : Int) < (sa.size : Int) + (sb.size : Int)
      · have ia4 : decide ((1048576 : Int) < (sa.size : Int) + (sb.size : Int)) = true := decide_eq_true ha4
        go_wp2
        go_ret
        exact ⟨⟨_, rfl⟩, rfl⟩
      have ia4 : decide ((1048576 : Int) < (sa.size : Int) + (sb.size : Int)) = false := decide_eq_false ha4
      go_wp2
      go_meet
      exact ⟨(sa.size : Int) + (sb.size : Int), by first | rfl | go_num, by omega, by omega, rfl⟩
  case rest =>
    as_aux_lemma =>
      obtain ⟨r0, rfl, hr0, hr0', hw⟩ := hcut
      have hw' := hw.symm
      subst hw'
      clear hw
      by_cases hl1 : (1048576 : Int) < (x.rem.length : Int)
      · have il1 : decide ((1048576 : Int) < (x.rem.length : Int)) = true := decide_eq_true hl1
        go_wp2
        go_ret
        exact ⟨⟨_, rfl⟩, rfl⟩
      have il1 : decide ((1048576 : Int) < (x.rem.length : Int)) = false := decide_eq_false hl1
      by_cases hm1 : (1048576 : Int) < r0 + (x.rem.length : Int)
      · have im1 : decide ((1048576 : Int) < r0 + (x.rem.length : Int)) = true := decide_eq_true hm1
        go_wp2
        go_ret
        exact ⟨⟨_, rfl⟩, rfl⟩
      have im1 : decide ((1048576 : Int) < r0 + (x.rem.length : Int)) = false := decide_eq_false hm1
      go_wp2
      go_loop [7, 8] (fun z i => ∃ (k : Nat) (r : Int), k ≤ x.rem.length ∧ i = .int .i64 k ∧ z = .int .i64 r ∧ 0 ≤ r ∧ r ≤ 1048576) (fun _ i => x.rem.length - (intOf i).toNat)
      case atStart => exact ⟨0, r0 + (x.rem.length : Int), Nat.zero_le _, rfl, by first | rfl | go_num, by omega, by omega⟩
      case round =>
        as_aux_lemma =>
          obtain ⟨k1, r1, hk1, rfl, rfl, hr1, hr1'⟩ := hrel
          by_cases hkl1 : k1 < x.rem.length
          · obtain ⟨o, ho⟩ : ∃ o, x.rem[k1]? = some o := ⟨x.rem[k1], List.getElem?_eq_getElem hkl1⟩
            obtain ⟨_, hr⟩ := HROWS.out.2.1.cells
            obtain ⟨br, offr, rfl, hbr, _, hcr⟩ := hr (by omega)
            have s0 : w.cell? ⟨br, offr + k1 * 6, none⟩ = some (.string o.name) := (hcr k1 o ho).at 0 rfl
            have s1 : w.cell? ⟨br, offr + k1 * 6 + 1, none⟩ = some (.string o.addr) := (hcr k1 o ho).at 1 rfl
            clear hr hcr ho
            generalize o.name = sa at *
            generalize o.addr = sb at *
            by_cases ha1 : (1048576 : Int) < (sa.size : Int)
            · have ia1 : decide ((1048576 : Int) < (sa.size : Int)) = true := decide_eq_true ha1
              go_wp2
              go_ret
              exact ⟨⟨_, rfl⟩, rfl⟩
            have ia1 : decide ((1048576 : Int) < (sa.size : Int)) = false := decide_eq_false ha1
            by_cases ha2 : (1048576 : Int) < r1 + (sa.size : Int)
            · have ia2 : decide ((1048576 : Int) < r1 + (sa.size : Int)) = true := decide_eq_true ha2
              go_wp2
              go_ret
              exact ⟨⟨_, rfl⟩, rfl⟩
            have ia2 : decide ((1048576 : Int) < r1 + (sa.size : Int)) = false := decide_eq_false ha2
            by_cases ha3 : (1048576 : Int) < (sb.size : Int)
            · have ia3 : decide ((1048576 : Int) < (sb.size : Int)) = true := decide_eq_true ha3
              go_wp2
              go_ret
              exact ⟨⟨_, rfl⟩, rfl⟩
            have ia3 : decide ((1048576 : Int) < (sb.size : Int)) = false := decide_eq_false ha3
            by_cases ha4 : (1048576 : Int) < r1 + (sa.size : Int) + (sb.size : Int)
            · have ia4 : decide ((1048576 : Int) < r1 + (sa.size : Int) + (sb.size : Int)) = true := decide_eq_true ha4
              go_wp2
              go_ret
              exact ⟨⟨_, rfl⟩, rfl⟩
            have ia4 : decide ((1048576 : Int) < r1 + (sa.size : Int) + (sb.size : Int)) = false := decide_eq_false ha4
            go_wp2
            go_round
            case rel => exact ⟨k1 + 1, r1 + (sa.size : Int) + (sb.size : Int), by omega, by go_num, by first | rfl | go_num, by omega, by omega⟩
            case measure => simp [intOf]; omega
          have hkn1 : k1 = x.rem.length := by omega
          subst hkn1
          by_cases hl2 : (1048576 : Int) < (x.frm.length : Int)
          · have il2 : decide ((1048576 : Int) < (x.frm.length : Int)) = true := decide_eq_true hl2
            go_wp2
            go_ret
            exact ⟨⟨_, rfl⟩, rfl⟩
          have il2 : decide ((1048576 : Int) < (x.frm.length : Int)) = false := decide_eq_false hl2
          by_cases hm2 : (1048576 : Int) < r1 + (x.frm.length : Int)
          · have im2 : decide ((1048576 : Int) < r1 + (x.frm.length : Int)) = true := decide_eq_true hm2
            go_wp2
            go_ret
            exact ⟨⟨_, rfl⟩, rfl⟩
          have im2 : decide ((1048576 : Int) < r1 + (x.frm.length : Int)) = false := decide_eq_false hm2
          go_wp2
          go_loop [7, 9] (fun z i => ∃ (k : Nat) (r : Int), k ≤ x.frm.length ∧ i = .int .i64 k ∧ z = .int .i64 r ∧ 0 ≤ r ∧ r ≤ 1048576) (fun _ i => x.frm.length - (intOf i).toNat)
          case atStart => exact ⟨0, r1 + (x.frm.length : Int), Nat.zero_le _, rfl, by first | rfl | go_num, by omega, by omega⟩
          case round =>
            as_aux_lemma =>
              obtain ⟨k2, r2, hk2, rfl, rfl, hr2, hr2'⟩ := hrel
              by_cases hkl2 : k2 < x.frm.length
              · obtain ⟨_, _, _, hr⟩ := HROWS.out.2.2.1.cells
                obtain ⟨br, offr, rfl, hbr, _, hcr⟩ := hr (by omega)
                have s0 := hcr k2 hkl2
                generalize x.frm.getD k2 ByteArray.empty = sa at *
                clear hr hcr
                by_cases ha1 : (1048576 : Int) < (sa.size : Int)
                · have ia1 : decide ((1048576 : Int) < (sa.size : Int)) = true := decide_eq_true ha1
                  go_wp2
                  go_ret
                  exact ⟨⟨_, rfl⟩, rfl⟩
                have ia1 : decide ((1048576 : Int) < (sa.size : Int)) = false := decide_eq_false ha1
                by_cases ha2 : (1048576 : Int) < r2 + (sa.size : Int)
                · have ia2 : decide ((1048576 : Int) < r2 + (sa.size : Int)) = true := decide_eq_true ha2
                  go_wp2
                  go_ret
                  exact ⟨⟨_, rfl⟩, rfl⟩
                have ia2 : decide ((1048576 : Int) < r2 + (sa.size : Int)) = false := decide_eq_false ha2
                go_wp2
                go_round
                case rel => exact ⟨k2 + 1, r2 + (sa.size : Int), by omega, by go_num, by first | rfl | go_num, by omega, by omega⟩
                case measure => simp [intOf]; omega
              have hkn2 : k2 = x.frm.length := by omega
              subst hkn2
              by_cases hl3 : (1048576 : Int) < (x.reached.length : Int)
              · have il3 : decide ((1048576 : Int) < (x.reached.length : Int)) = true := decide_eq_true hl3
                go_wp2
                go_ret
                exact ⟨⟨_, rfl⟩, rfl⟩
              have il3 : decide ((1048576 : Int) < (x.reached.length : Int)) = false := decide_eq_false hl3
              by_cases hm3 : (1048576 : Int) < r2 + (x.reached.length : Int)
              · have im3 : decide ((1048576 : Int) < r2 + (x.reached.length : Int)) = true := decide_eq_true hm3
                go_wp2
                go_ret
                exact ⟨⟨_, rfl⟩, rfl⟩
              have im3 : decide ((1048576 : Int) < r2 + (x.reached.length : Int)) = false := decide_eq_false hm3
              go_wp2
              go_loop [7, 10] (fun z i => ∃ (k : Nat) (r : Int), k ≤ x.reached.length ∧ i = .int .i64 k ∧ z = .int .i64 r ∧ 0 ≤ r ∧ r ≤ 1048576) (fun _ i => x.reached.length - (intOf i).toNat)
              case atStart => exact ⟨0, r2 + (x.reached.length : Int), Nat.zero_le _, rfl, by first | rfl | go_num, by omega, by omega⟩
              case round =>
                as_aux_lemma =>
                  obtain ⟨k3, r3, hk3, rfl, rfl, hr3, hr3'⟩ := hrel
                  by_cases hkl3 : k3 < x.reached.length
                  · obtain ⟨_, _, _, hr⟩ := HROWS.out.2.2.2.1.cells
                    obtain ⟨br, offr, rfl, hbr, _, hcr⟩ := hr (by omega)
                    have s0 := hcr k3 hkl3
                    generalize x.reached.getD k3 ByteArray.empty = sa at *
                    clear hr hcr
                    by_cases ha1 : (1048576 : Int) < (sa.size : Int)
                    · have ia1 : decide ((1048576 : Int) < (sa.size : Int)) = true := decide_eq_true ha1
                      go_wp2
                      go_ret
                      exact ⟨⟨_, rfl⟩, rfl⟩
                    have ia1 : decide ((1048576 : Int) < (sa.size : Int)) = false := decide_eq_false ha1
                    by_cases ha2 : (1048576 : Int) < r3 + (sa.size : Int)
                    · have ia2 : decide ((1048576 : Int) < r3 + (sa.size : Int)) = true := decide_eq_true ha2
                      go_wp2
                      go_ret
                      exact ⟨⟨_, rfl⟩, rfl⟩
                    have ia2 : decide ((1048576 : Int) < r3 + (sa.size : Int)) = false := decide_eq_false ha2
                    go_wp2
                    go_round
                    case rel => exact ⟨k3 + 1, r3 + (sa.size : Int), by omega, by go_num, by first | rfl | go_num, by omega, by omega⟩
                    case measure => simp [intOf]; omega
                  have hkn3 : k3 = x.reached.length := by omega
                  subst hkn3
                  by_cases hl4 : (1048576 : Int) < (x.tried.length : Int)
                  · have il4 : decide ((1048576 : Int) < (x.tried.length : Int)) = true := decide_eq_true hl4
                    go_wp2
                    go_ret
                    exact ⟨⟨_, rfl⟩, rfl⟩
                  have il4 : decide ((1048576 : Int) < (x.tried.length : Int)) = false := decide_eq_false hl4
                  by_cases hm4 : (1048576 : Int) < r3 + (x.tried.length : Int)
                  · have im4 : decide ((1048576 : Int) < r3 + (x.tried.length : Int)) = true := decide_eq_true hm4
                    go_wp2
                    go_ret
                    exact ⟨⟨_, rfl⟩, rfl⟩
                  have im4 : decide ((1048576 : Int) < r3 + (x.tried.length : Int)) = false := decide_eq_false hm4
                  go_wp2
                  go_loop [7, 11] (fun z i => ∃ (k : Nat) (r : Int), k ≤ x.tried.length ∧ i = .int .i64 k ∧ z = .int .i64 r ∧ 0 ≤ r ∧ r ≤ 1048576) (fun _ i => x.tried.length - (intOf i).toNat)
                  case atStart => exact ⟨0, r3 + (x.tried.length : Int), Nat.zero_le _, rfl, by first | rfl | go_num, by omega, by omega⟩
                  case round =>
                    as_aux_lemma =>
                      obtain ⟨k4, r4, hk4, rfl, rfl, hr4, hr4'⟩ := hrel
                      by_cases hkl4 : k4 < x.tried.length
                      · obtain ⟨_, _, _, hr⟩ := HROWS.out.2.2.2.2.1.cells
                        obtain ⟨br, offr, rfl, hbr, _, hcr⟩ := hr (by omega)
                        have s0 := hcr k4 hkl4
                        generalize x.tried.getD k4 ByteArray.empty = sa at *
                        clear hr hcr
                        by_cases ha1 : (1048576 : Int) < (sa.size : Int)
                        · have ia1 : decide ((1048576 : Int) < (sa.size : Int)) = true := decide_eq_true ha1
                          go_wp2
                          go_ret
                          exact ⟨⟨_, rfl⟩, rfl⟩
                        have ia1 : decide ((1048576 : Int) < (sa.size : Int)) = false := decide_eq_false ha1
                        by_cases ha2 : (1048576 : Int) < r4 + (sa.size : Int)
                        · have ia2 : decide ((1048576 : Int) < r4 + (sa.size : Int)) = true := decide_eq_true ha2
                          go_wp2
                          go_ret
                          exact ⟨⟨_, rfl⟩, rfl⟩
                        have ia2 : decide ((1048576 : Int) < r4 + (sa.size : Int)) = false := decide_eq_false ha2
                        go_wp2
                        go_round
                        case rel => exact ⟨k4 + 1, r4 + (sa.size : Int), by omega, by go_num, by first | rfl | go_num, by omega, by omega⟩
                        case measure => simp [intOf]; omega
                      have hkn4 : k4 = x.tried.length := by omega
                      subst hkn4
                      by_cases hl5 : (1048576 : Int) < (x.busy.length : Int)
                      · have il5 : decide ((1048576 : Int) < (x.busy.length : Int)) = true := decide_eq_true hl5
                        go_wp2
                        go_ret
                        exact ⟨⟨_, rfl⟩, rfl⟩
                      have il5 : decide ((1048576 : Int) < (x.busy.length : Int)) = false := decide_eq_false hl5
                      by_cases hm5 : (1048576 : Int) < r4 + (x.busy.length : Int)
                      · have im5 : decide ((1048576 : Int) < r4 + (x.busy.length : Int)) = true := decide_eq_true hm5
                        go_wp2
                        go_ret
                        exact ⟨⟨_, rfl⟩, rfl⟩
                      have im5 : decide ((1048576 : Int) < r4 + (x.busy.length : Int)) = false := decide_eq_false hm5
                      go_wp2
                      go_loop [7, 12] (fun z i => ∃ (k : Nat) (r : Int), k ≤ x.busy.length ∧ i = .int .i64 k ∧ z = .int .i64 r ∧ 0 ≤ r ∧ r ≤ 1048576) (fun _ i => x.busy.length - (intOf i).toNat)
                      case atStart => exact ⟨0, r4 + (x.busy.length : Int), Nat.zero_le _, rfl, by first | rfl | go_num, by omega, by omega⟩
                      case round =>
                        as_aux_lemma =>
                          obtain ⟨k5, r5, hk5, rfl, rfl, hr5, hr5'⟩ := hrel
                          by_cases hkl5 : k5 < x.busy.length
                          · obtain ⟨_, _, _, hr⟩ := HROWS.out.2.2.2.2.2.1.cells
                            obtain ⟨br, offr, rfl, hbr, _, hcr⟩ := hr (by omega)
                            have s0 := hcr k5 hkl5
                            generalize x.busy.getD k5 ByteArray.empty = sa at *
                            clear hr hcr
                            by_cases ha1 : (1048576 : Int) < (sa.size : Int)
                            · have ia1 : decide ((1048576 : Int) < (sa.size : Int)) = true := decide_eq_true ha1
                              go_wp2
                              go_ret
                              exact ⟨⟨_, rfl⟩, rfl⟩
                            have ia1 : decide ((1048576 : Int) < (sa.size : Int)) = false := decide_eq_false ha1
                            by_cases ha2 : (1048576 : Int) < r5 + (sa.size : Int)
                            · have ia2 : decide ((1048576 : Int) < r5 + (sa.size : Int)) = true := decide_eq_true ha2
                              go_wp2
                              go_ret
                              exact ⟨⟨_, rfl⟩, rfl⟩
                            have ia2 : decide ((1048576 : Int) < r5 + (sa.size : Int)) = false := decide_eq_false ha2
                            go_wp2
                            go_round
                            case rel => exact ⟨k5 + 1, r5 + (sa.size : Int), by omega, by go_num, by first | rfl | go_num, by omega, by omega⟩
                            case measure => simp [intOf]; omega
                          have hkn5 : k5 = x.busy.length := by omega
                          subst hkn5
                          by_cases hl6 : (1048576 : Int) < (x.unfit.length : Int)
                          · have il6 : decide ((1048576 : Int) < (x.unfit.length : Int)) = true := decide_eq_true hl6
                            go_wp2
                            go_ret
                            exact ⟨⟨_, rfl⟩, rfl⟩
                          have il6 : decide ((1048576 : Int) < (x.unfit.length : Int)) = false := decide_eq_false hl6
                          by_cases hm6 : (1048576 : Int) < r5 + (x.unfit.length : Int)
                          · have im6 : decide ((1048576 : Int) < r5 + (x.unfit.length : Int)) = true := decide_eq_true hm6
                            go_wp2
                            go_ret
                            exact ⟨⟨_, rfl⟩, rfl⟩
                          have im6 : decide ((1048576 : Int) < r5 + (x.unfit.length : Int)) = false := decide_eq_false hm6
                          go_wp2
                          go_loop [7, 13] (fun z i => ∃ (k : Nat) (r : Int), k ≤ x.unfit.length ∧ i = .int .i64 k ∧ z = .int .i64 r ∧ 0 ≤ r ∧ r ≤ 1048576) (fun _ i => x.unfit.length - (intOf i).toNat)
                          case atStart => exact ⟨0, r5 + (x.unfit.length : Int), Nat.zero_le _, rfl, by first | rfl | go_num, by omega, by omega⟩
                          case round =>
                            as_aux_lemma =>
                              obtain ⟨k6, r6, hk6, rfl, rfl, hr6, hr6'⟩ := hrel
                              by_cases hkl6 : k6 < x.unfit.length
                              · obtain ⟨_, _, _, hr⟩ := HROWS.out.2.2.2.2.2.2.cells
                                obtain ⟨br, offr, rfl, hbr, _, hcr⟩ := hr (by omega)
                                have s0 := hcr k6 hkl6
                                generalize x.unfit.getD k6 ByteArray.empty = sa at *
                                clear hr hcr
                                by_cases ha1 : (1048576 : Int) < (sa.size : Int)
                                · have ia1 : decide ((1048576 : Int) < (sa.size : Int)) = true := decide_eq_true ha1
                                  go_wp2
                                  go_ret
                                  exact ⟨⟨_, rfl⟩, rfl⟩
                                have ia1 : decide ((1048576 : Int) < (sa.size : Int)) = false := decide_eq_false ha1
                                by_cases ha2 : (1048576 : Int) < r6 + (sa.size : Int)
                                · have ia2 : decide ((1048576 : Int) < r6 + (sa.size : Int)) = true := decide_eq_true ha2
                                  go_wp2
                                  go_ret
                                  exact ⟨⟨_, rfl⟩, rfl⟩
                                have ia2 : decide ((1048576 : Int) < r6 + (sa.size : Int)) = false := decide_eq_false ha2
                                go_wp2
                                go_round
                                case rel => exact ⟨k6 + 1, r6 + (sa.size : Int), by omega, by go_num, by first | rfl | go_num, by omega, by omega⟩
                                case measure => simp [intOf]; omega
                              have hkn6 : k6 = x.unfit.length := by omega
                              subst hkn6
                              have e : Value.pointer ak = .pointer none := HY.out
                              injection e with e
                              subst e
                              clear HY
                              by_cases hl9 : (1048576 : Int) < (us.length : Int)
                              · have il9 : decide ((1048576 : Int) < (us.length : Int)) = true := decide_eq_true hl9
                                go_wp2
                                go_ret
                                exact ⟨⟨_, rfl⟩, rfl⟩
                              have il9 : decide ((1048576 : Int) < (us.length : Int)) = false := decide_eq_false hl9
                              by_cases hm9 : (1048576 : Int) < r6 + (us.length : Int)
                              · have im9 : decide ((1048576 : Int) < r6 + (us.length : Int)) = true := decide_eq_true hm9
                                go_wp2
                                go_ret
                                exact ⟨⟨_, rfl⟩, rfl⟩
                              have im9 : decide ((1048576 : Int) < r6 + (us.length : Int)) = false := decide_eq_false hm9
                              go_wp2
                              go_loop [7, 16] (fun z i => ∃ (k : Nat) (r : Int), k ≤ us.length ∧ i = .int .i64 k ∧ z = .int .i64 r ∧ 0 ≤ r ∧ r ≤ 1048576) (fun _ i => us.length - (intOf i).toNat)
                              case atStart => exact ⟨0, r6 + (us.length : Int), Nat.zero_le _, rfl, by first | rfl | go_num, by omega, by omega⟩
                              case round =>
                                as_aux_lemma =>
                                  obtain ⟨k9, r9, hk9, rfl, rfl, hr9, hr9'⟩ := hrel
                                  by_cases hkl9 : k9 < us.length
                                  · obtain ⟨_, _, _, hr⟩ := HU.out.cells
                                    obtain ⟨br, offr, rfl, hbr, _, hcr⟩ := hr (by omega)
                                    have s0 := hcr k9 hkl9
                                    generalize us.getD k9 ByteArray.empty = sa at *
                                    clear hr hcr
                                    by_cases ha1 : (1048576 : Int) < (sa.size : Int)
                                    · have ia1 : decide ((1048576 : Int) < (sa.size : Int)) = true := decide_eq_true ha1
                                      go_wp2
                                      go_ret
                                      exact ⟨⟨_, rfl⟩, rfl⟩
                                    have ia1 : decide ((1048576 : Int) < (sa.size : Int)) = false := decide_eq_false ha1
                                    by_cases ha2 : (1048576 : Int) < r9 + (sa.size : Int)
                                    · have ia2 : decide ((1048576 : Int) < r9 + (sa.size : Int)) = true := decide_eq_true ha2
                                      go_wp2
                                      go_ret
                                      exact ⟨⟨_, rfl⟩, rfl⟩
                                    have ia2 : decide ((1048576 : Int) < r9 + (sa.size : Int)) = false := decide_eq_false ha2
                                    go_wp2
                                    go_round
                                    case rel => exact ⟨k9 + 1, r9 + (sa.size : Int), by omega, by go_num, by first | rfl | go_num, by omega, by omega⟩
                                    case measure => simp [intOf]; omega
                                  have hkn9 : k9 = us.length := by omega
                                  subst hkn9
                                  go_wp2
                                  go_ret
                                  exact ⟨⟨_, rfl⟩, rfl⟩
end Go.Proofs.Qxb6615722a.AsWay
