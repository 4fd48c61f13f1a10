/-
  THE WALK OF THE LAW's OWN BOUND zzBytes_.. (4): it returns; nothing is written. By an AI agent, Nov 2026.
-/
import Derived.Test.Qxb6615722aLeaf2
import Derived.Test.Qxb6615722aOpts
import Derived.Deep.DeepCutAuto
import Derived.Deep.Cut
import Derived.Deep.CutRange
namespace Go.Proofs.Qxb6615722a.AsWay
open Go.RowKit
set_option linter.unusedVariables false

/-- A truth value came back. -/
def Told (e : Ending) : Prop := ∃ b, e = .returned (.bool b)

set_option maxRecDepth 100000 in
set_option maxHeartbeats 16000000 in
theorem bytes_nn (pw pk : Value) (au : Option Addr) (nu cu : Nat) (us : List ByteArray) (w : World) (hx : WayAt w pw none) (hy : WalkAt w pk none) (hu : StrRow cold w (.slice au nu cu) us) (hlr : True) :
    Calls Try.prog 4 #[pw, pk, .slice au nu cu] w fun e w' => Told e ∧ w' = w := by
  have HX : Hid (WayAt w pw none) := hx
  have HY : Hid (WalkAt w pk none) := hy
  have HU : Hid (StrRow cold w (.slice au nu cu) us) := hu
  have HLR : Hid True := hlr
  have hnu : nu = us.length := hu.cells.1
  subst hnu
  obtain ⟨aw, hpw⟩ : ∃ a, pw = .pointer a := by
    exact ⟨none, hx⟩
  obtain ⟨ak, hpk⟩ : ∃ a, pk = .pointer a := by
    exact ⟨none, hy⟩
  subst hpw
  subst hpk
  clear hx hy hu hlr
  go_enter Try.func4, Try.ntmps4
  have hz0 : (0 : Int) ≤ 0 := by omega
  have hz1 : (0 : Int) ≤ 1048576 := by omega
  have e : Value.pointer aw = .pointer none := HX.out
  injection e with e
  subst e
  clear HX HLR
  have e : Value.pointer ak = .pointer none := HY.out
  injection e with e
  subst e
  clear HY
  by_cases hl9 : (1048576 : Int) < (us.length : Int)
  · have il9 : decide ((1048576 : Int) < (us.length : Int)) = true := decide_eq_true hl9
    go_wp2
    go_ret
    exact ⟨⟨_, rfl⟩, rfl⟩
  have il9 : decide ((1048576 : Int) < (us.length : Int)) = false := decide_eq_false hl9
  go_wp2
  go_loop [7, 16] (fun z i => ∃ (k : Nat) (r : Int), k ≤ us.length ∧ i = .int .i64 k ∧ z = .int .i64 r ∧ 0 ≤ r ∧ r ≤ 1048576) (fun _ i => us.length - (intOf i).toNat)
  case atStart => exact ⟨0, (us.length : Int), Nat.zero_le _, rfl, by first | rfl | go_num, by omega, by omega⟩
  case round =>
    obtain ⟨k9, r9, hk9, rfl, rfl, hr9, hr9'⟩ := hrel
    by_cases hkl9 : k9 < us.length
    · obtain ⟨_, _, _, hr⟩ := HU.out.cells
      obtain ⟨br, offr, rfl, hbr, _, hcr⟩ := hr (by omega)
      have s0 := hcr k9 hkl9
      generalize us.getD k9 ByteArray.empty = sa at *
      clear hr hcr
      by_cases ha1 : (1048576 : Int) < (sa.size : Int)
      · have ia1 : decide ((1048576 : Int) < (sa.size : Int)) = true := decide_eq_true ha1
        go_wp2
        go_ret
        exact ⟨⟨_, rfl⟩, rfl⟩
      have ia1 : decide ((1048576 : Int) < (sa.size : Int)) = false := decide_eq_false ha1
      by_cases ha2 : (1048576 : Int) < r9 + (sa.size : Int)
      · have ia2 : decide ((1048576 : Int) < r9 + (sa.size : Int)) = true := decide_eq_true ha2
        go_wp2
        go_ret
        exact ⟨⟨_, rfl⟩, rfl⟩
      have ia2 : decide ((1048576 : Int) < r9 + (sa.size : Int)) = false := decide_eq_false ha2
      go_wp2
      go_round
      case rel => exact ⟨k9 + 1, r9 + (sa.size : Int), by omega, by go_num, by first | rfl | go_num, by omega, by omega⟩
      case measure => simp [intOf]; omega
    have hkn9 : k9 = us.length := by omega
    subst hkn9
    go_wp2
    go_ret
    exact ⟨⟨_, rfl⟩, rfl⟩
set_option maxRecDepth 100000 in
set_option maxHeartbeats 16000000 in
theorem bytes_ns (pw pk : Value) (y : KIn) (au : Option Addr) (nu cu : Nat) (us : List ByteArray) (w : World) (hx : WayAt w pw none) (hy : WalkAt w pk (some y)) (hu : StrRow cold w (.slice au nu cu) us) (hlr : True) :
    Calls Try.prog 4 #[pw, pk, .slice au nu cu] w fun e w' => Told e ∧ w' = w := by
  have HX : Hid (WayAt w pw none) := hx
  have HY : Hid (WalkAt w pk (some y)) := hy
  have HU : Hid (StrRow cold w (.slice au nu cu) us) := hu
  have HLR : Hid True := hlr
  have hnu : nu = us.length := hu.cells.1
  subst hnu
  obtain ⟨aw, hpw⟩ : ∃ a, pw = .pointer a := by
    exact ⟨none, hx⟩
  obtain ⟨ak, hpk⟩ : ∃ a, pk = .pointer a := by
    obtain ⟨b, off, c0, c1, e, _⟩ := hy
    exact ⟨_, e⟩
  subst hpw
  subst hpk
  clear hx hy hu hlr
  go_enter Try.func4, Try.ntmps4
  have hz0 : (0 : Int) ≤ 0 := by omega
  have hz1 : (0 : Int) ≤ 1048576 := by omega
  have e : Value.pointer aw = .pointer none := HX.out
  injection e with e
  subst e
  clear HX HLR
  obtain ⟨bk, offk, k0, k1, e, hbk, hck, hk0, hk1⟩ := HY.out
  injection e with e
  subst e
  obtain ⟨q7, e7, rfl, hk0⟩ := hk0.form
  obtain ⟨q8, e8, rfl, hk1⟩ := hk1.form
  have s7 : w.cell? ⟨bk, offk, none⟩ = some (.slice q7 y.visited.length e7) := hck.at 0 rfl
  have s8 : w.cell? ⟨bk, offk + 1, none⟩ = some (.slice q8 y.ahead.length e8) := hck.at 1 rfl
  have A7 : Hid (StrRow cold w (.slice q7 y.visited.length e7) y.visited) := hk0
  have A8 : Hid (StrRow cold w (.slice q8 y.ahead.length e8) y.ahead) := hk1
  clear hck hk0 hk1 HY
  by_cases hl7 : (1048576 : Int) < (y.visited.length : Int)
  · have il7 : decide ((1048576 : Int) < (y.visited.length : Int)) = true := decide_eq_true hl7
    go_wp2
    go_ret
    exact ⟨⟨_, rfl⟩, rfl⟩
  have il7 : decide ((1048576 : Int) < (y.visited.length : Int)) = false := decide_eq_false hl7
  go_wp2
  go_loop [7, 14] (fun z i => ∃ (k : Nat) (r : Int), k ≤ y.visited.length ∧ i = .int .i64 k ∧ z = .int .i64 r ∧ 0 ≤ r ∧ r ≤ 1048576) (fun _ i => y.visited.length - (intOf i).toNat)
  case atStart => exact ⟨0, (y.visited.length : Int), Nat.zero_le _, rfl, by first | rfl | go_num, by omega, by omega⟩
  case round =>
    obtain ⟨k7, r7, hk7, rfl, rfl, hr7, hr7'⟩ := hrel
    by_cases hkl7 : k7 < y.visited.length
    · obtain ⟨_, _, _, hr⟩ := A7.out.cells
      obtain ⟨br, offr, rfl, hbr, _, hcr⟩ := hr (by omega)
      have s0 := hcr k7 hkl7
      generalize y.visited.getD k7 ByteArray.empty = sa at *
      clear hr hcr
      by_cases ha1 : (1048576 : Int) < (sa.size : Int)
      · have ia1 : decide ((1048576 : Int) < (sa.size : Int)) = true := decide_eq_true ha1
        go_wp2
        go_ret
        exact ⟨⟨_, rfl⟩, rfl⟩
      have ia1 : decide ((1048576 : Int) < (sa.size : Int)) = false := decide_eq_false ha1
      by_cases ha2 : (1048576 : Int) < r7 + (sa.size : Int)
      · have ia2 : decide ((1048576 : Int) < r7 + (sa.size : Int)) = true := decide_eq_true ha2
        go_wp2
        go_ret
        exact ⟨⟨_, rfl⟩, rfl⟩
      have ia2 : decide ((1048576 : Int) < r7 + (sa.size : Int)) = false := decide_eq_false ha2
      go_wp2
      go_round
      case rel => exact ⟨k7 + 1, r7 + (sa.size : Int), by omega, by go_num, by first | rfl | go_num, by omega, by omega⟩
      case measure => simp [intOf]; omega
    have hkn7 : k7 = y.visited.length := by omega
    subst hkn7
    by_cases hl8 : (1048576 : Int) < (y.ahead.length : Int)
    · have il8 : decide ((1048576 : Int) < (y.ahead.length : Int)) = true := decide_eq_true hl8
      go_wp2
      go_ret
      exact ⟨⟨_, rfl⟩, rfl⟩
    have il8 : decide ((1048576 : Int) < (y.ahead.length : Int)) = false := decide_eq_false hl8
    by_cases hm8 : (1048576 : Int) < r7 + (y.ahead.length : Int)
    · have im8 : decide ((1048576 : Int) < r7 + (y.ahead.length : Int)) = true := decide_eq_true hm8
      go_wp2
      go_ret
      exact ⟨⟨_, rfl⟩, rfl⟩
    have im8 : decide ((1048576 : Int) < r7 + (y.ahead.length : Int)) = false := decide_eq_false hm8
    go_wp2
    go_loop [7, 15] (fun z i => ∃ (k : Nat) (r : Int), k ≤ y.ahead.length ∧ i = .int .i64 k ∧ z = .int .i64 r ∧ 0 ≤ r ∧ r ≤ 1048576) (fun _ i => y.ahead.length - (intOf i).toNat)
    case atStart => exact ⟨0, r7 + (y.ahead.length : Int), Nat.zero_le _, rfl, by first | rfl | go_num, by omega, by omega⟩
    case round =>
      obtain ⟨k8, r8, hk8, rfl, rfl, hr8, hr8'⟩ := hrel
      by_cases hkl8 : k8 < y.ahead.length
      · obtain ⟨_, _, _, hr⟩ := A8.out.cells
        obtain ⟨br, offr, rfl, hbr, _, hcr⟩ := hr (by omega)
        have s0 := hcr k8 hkl8
        generalize y.ahead.getD k8 ByteArray.empty = sa at *
        clear hr hcr
        by_cases ha1 : (1048576 : Int) < (sa.size : Int)
        · have ia1 : decide ((1048576 : Int) < (sa.size : Int)) = true := decide_eq_true ha1
          go_wp2
          go_ret
          exact ⟨⟨_, rfl⟩, rfl⟩
        have ia1 : decide ((1048576 : Int) < (sa.size : Int)) = false := decide_eq_false ha1
        by_cases ha2 : (1048576 : Int) < r8 + (sa.size : Int)
        · have ia2 : decide ((1048576 : Int) < r8 + (sa.size : Int)) = true := decide_eq_true ha2
          go_wp2
          go_ret
          exact ⟨⟨_, rfl⟩, rfl⟩
        have ia2 : decide ((1048576 : Int) < r8 + (sa.size : Int)) = false := decide_eq_false ha2
        go_wp2
        go_round
        case rel => exact ⟨k8 + 1, r8 + (sa.size : Int), by omega, by go_num, by first | rfl | go_num, by omega, by omega⟩
        case measure => simp [intOf]; omega
      have hkn8 : k8 = y.ahead.length := by omega
      subst hkn8
      by_cases hl9 : (1048576 : Int) < (us.length : Int)
      · have il9 : decide ((1048576 : Int) < (us.length : Int)) = true := decide_eq_true hl9
        go_wp2
        go_ret
        exact ⟨⟨_, rfl⟩, rfl⟩
      have il9 : decide ((1048576 : Int) < (us.length : Int)) = false := decide_eq_false hl9
      by_cases hm9 : (1048576 : Int) < r8 + (us.length : Int)
      · have im9 : decide ((1048576 : Int) < r8 + (us.length : Int)) = true := decide_eq_true hm9
        go_wp2
        go_ret
        exact ⟨⟨_, rfl⟩, rfl⟩
      have im9 : decide ((1048576 : Int) < r8 + (us.length : Int)) = false := decide_eq_false hm9
      go_wp2
      go_loop [7, 16] (fun z i => ∃ (k : Nat) (r : Int), k ≤ us.length ∧ i = .int .i64 k ∧ z = .int .i64 r ∧ 0 ≤ r ∧ r ≤ 1048576) (fun _ i => us.length - (intOf i).toNat)
      case atStart => exact ⟨0, r8 + (us.length : Int), Nat.zero_le _, rfl, by first | rfl | go_num, by omega, by omega⟩
      case round =>
        obtain ⟨k9, r9, hk9, rfl, rfl, hr9, hr9'⟩ := hrel
        by_cases hkl9 : k9 < us.length
        · obtain ⟨_, _, _, hr⟩ := HU.out.cells
          obtain ⟨br, offr, rfl, hbr, _, hcr⟩ := hr (by omega)
          have s0 := hcr k9 hkl9
          generalize us.getD k9 ByteArray.empty = sa at *
          clear hr hcr
          by_cases ha1 : (1048576 : Int) < (sa.size : Int)
          · have ia1 : decide ((1048576 : Int) < (sa.size : Int)) = true := decide_eq_true ha1
            go_wp2
            go_ret
            exact ⟨⟨_, rfl⟩, rfl⟩
          have ia1 : decide ((1048576 : Int) < (sa.size : Int)) = false := decide_eq_false ha1
          by_cases ha2 : (1048576 : Int) < r9 + (sa.size : Int)
          · have ia2 : decide ((1048576 : Int) < r9 + (sa.size : Int)) = true := decide_eq_true ha2
            go_wp2
            go_ret
            exact ⟨⟨_, rfl⟩, rfl⟩
          have ia2 : decide ((1048576 : Int) < r9 + (sa.size : Int)) = false := decide_eq_false ha2
          go_wp2
          go_round
          case rel => exact ⟨k9 + 1, r9 + (sa.size : Int), by omega, by go_num, by first | rfl | go_num, by omega, by omega⟩
          case measure => simp [intOf]; omega
        have hkn9 : k9 = us.length := by omega
        subst hkn9
        go_wp2
        go_ret
        exact ⟨⟨_, rfl⟩, rfl⟩
end Go.Proofs.Qxb6615722a.AsWay
