/-
  THE LAW (3): it answers true and writes nothing that was there. By an AI agent, Nov 2026.
-/
import Derived.Test.Qxb6615722aZz
import Derived.Test.Qxb6615722aJob
import Derived.Test.Qxb6615722aBig
import Derived.Test.Qxb6615722aTwice
import Derived.Test.Qxb6615722aBytes1
import Derived.Test.Qxb6615722aBytes2
import Derived.Test.Qxb6615722aBytes3
import Derived.Deep.CutRange
namespace Go.Proofs.Qxb6615722a.AsWay
open Go.RowKit
set_option linter.unusedVariables false
attribute [local go_sem] run_store_float

theorem bytes_any (pw pk : Value) (x : Option WIn) (y : Option KIn) (au : Option Addr) (nu cu : Nat) (us : List ByteArray) (w : World) (hx : WayAt w pw x) (hy : WalkAt w pk y) (hu : StrRow cold w (.slice au nu cu) us) (hlr : ∀ z, x = some z → z.rem.length ≤ maxLen) :
    Calls Try.prog 4 #[pw, pk, .slice au nu cu] w fun e w' => Told e ∧ w' = w := by
  cases x with
  | none =>
    cases y with
    | none => exact bytes_nn pw pk au nu cu us w hx hy hu trivial
    | some y => exact bytes_ns pw pk y au nu cu us w hx hy hu trivial
  | some x =>
    cases y with
    | none => exact bytes_sn pw pk x au nu cu us w hx hy hu (hlr x rfl)
    | some y => exact bytes_ss pw pk x y au nu cu us w hx hy hu (hlr x rfl)

/-- The walk's Ahead is never turned. -/
theorem goOn_ahead (s : Out) (n : ByteArray) : (goOn s n).walk.map Prod.snd = s.walk.map Prod.snd := by
  unfold AsWay.goOn; split
  · rfl
  · cases h : s.walk <;> simp
theorem fold_ahead (us : List ByteArray) : ∀ s : Out, (us.foldl goOn s).walk.map Prod.snd = s.walk.map Prod.snd := by
  induction us with
  | nil => exact fun s => rfl
  | cons u us ih => exact fun s => (ih (goOn s u)).trans (goOn_ahead s u)
theorem final_ahead {x : Option WIn} {y : Option KIn} {us : List ByteArray} {q : List ByteArray × List ByteArray} (h : (final x y us).walk = some q) : ∃ z, y = some z ∧ z.ahead = q.2 := by
  have e := fold_ahead us (start x y)
  have e' : (final x y us).walk.map Prod.snd = (start x y).walk.map Prod.snd := e
  rw [h] at e'
  cases x with
  | none => simp [start] at e'
  | some x =>
    cases y with
    | none => simp [start] at e'
    | some y => exact ⟨y, rfl, by simpa [start] using e'.symm⟩

theorem fits_room {x : Option WIn} {y : Option KIn} {us : List ByteArray} (h1 : us.length ≤ 65536) (h2 : ∀ z, x = some z → LenW z) (h3 : ∀ z, y = some z → LenK z) (hs : ∀ s ∈ us, s.size ≤ maxLen) (hv : ∀ z, y = some z → ∀ s ∈ z.visited, s.size ≤ maxLen) : Fits x y us ∧ Room x y us := by
  refine ⟨⟨by omega, fun z hz => ?_, fun z hz => ?_, hs, hv⟩, ⟨by omega, fun z hz => ?_, fun z hz => ?_⟩⟩
  · have := (h2 z hz).1; omega
  · have := (h3 z hz).1; omega
  · obtain ⟨a, b, c, d, e, f⟩ := h2 z hz
    exact ⟨by omega, by omega, by omega, by omega, by omega, by omega⟩
  · obtain ⟨a, b⟩ := h3 z hz
    exact ⟨by omega, by omega⟩
theorem goOn_kept (s : Out) (n : ByteArray) : (goOn s n).frm = s.frm ∧ (goOn s n).reached = s.reached ∧ (goOn s n).tried = s.tried ∧ (goOn s n).busy = s.busy ∧ (goOn s n).unfit = s.unfit := by
  unfold AsWay.goOn; split <;> exact ⟨rfl, rfl, rfl, rfl, rfl⟩
theorem fold_kept (us : List ByteArray) : ∀ s : Out, (us.foldl goOn s).frm = s.frm ∧ (us.foldl goOn s).reached = s.reached ∧ (us.foldl goOn s).tried = s.tried ∧ (us.foldl goOn s).busy = s.busy ∧ (us.foldl goOn s).unfit = s.unfit := by
  induction us with
  | nil => exact fun s => ⟨rfl, rfl, rfl, rfl, rfl⟩
  | cons u us ih =>
    intro s
    obtain ⟨h1, h2, h3, h4, h5⟩ := ih (goOn s u)
    obtain ⟨k1, k2, k3, k4, k5⟩ := goOn_kept s u
    exact ⟨h1.trans k1, h2.trans k2, h3.trans k3, h4.trans k4, h5.trans k5⟩
theorem final_kept (x : Option WIn) (y : Option KIn) (us : List ByteArray) : (final x y us).frm = (start x y).frm ∧ (final x y us).reached = (start x y).reached ∧ (final x y us).tried = (start x y).tried ∧ (final x y us).busy = (start x y).busy ∧ (final x y us).unfit = (start x y).unfit := fold_kept us _
theorem plain_bool {H : Type} {P : Program} {e : TypeId} {v : Value} {z : DataW H × List MemPlace} (he : P.underlying e = some .bool) (h : plainElem P e v = some z) : ∃ b, v = .bool b ∧ z.1 = .lit (.bool b) := by
  unfold plainElem at h
  rw [he] at h
  cases v <;> simp at h
  exact ⟨_, rfl, by rw [← h]⟩
/-- What a look-up in the set answers. -/
noncomputable def seen (names : List ByteArray) (s : ByteArray) : Bool := match (visits names).atKey (keyLit s) (.lit (.bool false)) with
  | .lit (.bool b) => b
  | _ => false
theorem zero4 (w : World) : (zeroValue 4).run Try.prog w = .ok (.bool false) w := by kernel_rfl
theorem look_bool {w : World} {M : Nat} {names : List ByteArray} {s : ByteArray} (h : MapAt w M names) (hs : s.size ≤ maxLen) : (Instr.lookup 46 (.map (some M)) (.string s) false).run Try.prog w = .ok (.bool (seen names s)) w := by
  obtain ⟨v, ps, hrun, hv⟩ := World.ownsMap.lookup h law9 Try.underlying46 (zero4 w) (plainElem_bool Try.underlying4 false) (key_ok hs)
  obtain ⟨b, rfl, hb⟩ := plain_bool Try.underlying4 hv
  have hsb : seen names s = b := by
    unfold seen
    rw [show (visits names).atKey (keyLit s) (.lit (.bool false)) = .lit (.bool b) from hb]
  rw [hrun, hsb]
/-- Both ways lie there, in the blocks A and B. -/
structure Two (w : World) (s : Out) (A B K M K' M' : Nat) (wx : World) : Prop where
  one : ∃ c0 c1 c2 c3 c4 c5 c6 c8 c9, wx.heap[A]? = some (.cells #[c0, c1, c2, c3, c4, c5, c6, .int .i64 s.jumps, c8, c9] 30 (0, 0)) ∧ Row cold K M wx s c0 c1 c2 c3 c4 c5 c6 c8 c9
  two : ∃ c0 c1 c2 c3 c4 c5 c6 c8 c9, wx.heap[B]? = some (.cells #[c0, c1, c2, c3, c4, c5, c6, .int .i64 s.jumps, c8, c9] 30 (0, 0)) ∧ Row cold K' M' wx s c0 c1 c2 c3 c4 c5 c6 c8 c9
  below : Below w.heap.size w wx
theorem Row.later {K M : Nat} {w w' : World} {s : Out} {c0 c1 c2 c3 c4 c5 c6 c8 c9 : Value} (h : Row cold K M w s c0 c1 c2 c3 c4 c5 c6 c8 c9) (hb : Below w.heap.size w w') : Row cold K M w' s c0 c1 c2 c3 c4 c5 c6 c8 c9 := by
  refine h.but (But.of_below hb) (fun hn => ?_)
  have hw := h.walk
  revert hw
  cases hs : s.walk with
  | none => exact absurd hs hn
  | some q => exact fun ⟨_, ca, cu, h1, _, h3⟩ => ⟨hb.block K (lt_size h1), hb.block M h3.lt⟩

set_option maxRecDepth 100000 in
set_option maxHeartbeats 8000000 in
theorem law_any (pw pk : Value) (x : Option WIn) (y : Option KIn) (au : Option Addr) (nu cu : Nat) (us : List ByteArray) (w : World) (hx : WayAt w pw x) (hy : WalkAt w pk y) (hu : StrRow cold w (.slice au nu cu) us) (hlr : ∀ z, x = some z → z.rem.length ≤ maxLen)
    (hs : ∀ s ∈ us, s.size ≤ maxLen) (hv : ∀ z, y = some z → ∀ s ∈ z.visited, s.size ≤ maxLen) :
    Calls Try.prog 3 #[pw, pk, .slice au nu cu] w fun e w' => e = .returned (.bool true) ∧ Below w.heap.size w w' := by
  have HX : Hid (WayAt w pw x) := hx
  have HY : Hid (WalkAt w pk y) := hy
  have HU : Hid (StrRow cold w (.slice au nu cu) us) := hu
  have HLR : Hid (∀ z, x = some z → z.rem.length ≤ maxLen) := hlr
  have HS : Hid (∀ s ∈ us, s.size ≤ maxLen) := hs
  have HV : Hid (∀ z, y = some z → ∀ s ∈ z.visited, s.size ≤ maxLen) := hv
  have hnu : nu = us.length := hu.cells.1
  have hml : us.length ≤ maxLen := by obtain ⟨_, h1, h2, _⟩ := hu.cells; omega
  subst hnu
  obtain ⟨aw, hpw⟩ : ∃ a, pw = .pointer a := by
    cases x with
    | none => exact ⟨none, hx⟩
    | some x =>
      obtain ⟨b, off, c0, c1, c2, c3, c4, c5, c6, e, _⟩ := hx
      exact ⟨_, e⟩
  obtain ⟨ak, hpk⟩ : ∃ a, pk = .pointer a := by
    cases y with
    | none => exact ⟨none, hy⟩
    | some y =>
      obtain ⟨b, off, c0, c1, e, _⟩ := hy
      exact ⟨_, e⟩
  subst hpw
  subst hpk
  clear hx hy hu hlr hs hv
  go_enter Try.func3, Try.ntmps3
  go_wp2_with fail
  refine (bytes_any _ _ x y au us.length cu us w HX.out HY.out HU.out HLR.out).mono ?_
  rintro e w1 ⟨⟨b4, rfl⟩, hw⟩
  have hw' := hw.symm
  subst hw'
  clear hw
  cases b4 with
  | false =>
    go_wp2
    go_ret
    exact ⟨rfl, Below.refl _ _⟩
  | true =>
    by_cases hbig : 32768 < us.length
    · have i1 : decide ((32768 : Int) < (us.length : Int)) = true := decide_eq_true (by omega)
      go_wp2
      go_ret
      exact ⟨rfl, Below.refl _ _⟩
    have i1 : decide ((32768 : Int) < (us.length : Int)) = false := decide_eq_false (by omega)
    go_wp2_with fail
    refine (tooBig_any _ _ x y au us.length cu us w HX.out HY.out HU.out HLR.out).mono ?_
    rintro e w1 ⟨b5, rfl, hb1, hl⟩
    cases b5 with
    | true =>
      go_wp2
      go_ret
      exact ⟨rfl, hb1⟩
    | false =>
      obtain ⟨hlw, hlk⟩ := hl rfl
      have HLW : Hid (∀ z, x = some z → LenW z) := hlw
      have HLK : Hid (∀ z, y = some z → LenK z) := hlk
      have HB1 : Hid (Below w.heap.size w w1) := hb1
      have hsz1 := hb1.size
      obtain ⟨i0, hi0, hz0, hz1, hz2⟩ := info_parts Try.info9
      clear hl hlw hlk hb1
      go_wp2_with (at_make; refine wpList_make_full _ rfl (.tmp 28) (.tmp 28) 24 rfl w1.heap.size 9 i0 (.string ⟨#[]⟩) 1 Try.underlying24 hi0 hz0 hz1 .i64 .i64 _ _ (2 * us.length) rfl rfl (by go_num) (by go_num) (by rw [hz2]; omega) (by unfold maxLen; omega) (by omega) ?_; intro w2 hown2 hgrow2; have HT : Hid (TwInv us w1.heap.size w1 0 w2) := TwInv.made rfl hown2 hgrow2; clear hown2 hgrow2)
      go_loopw [8] (fun i wr => ∃ k : Nat, i = .int .i64 k ∧ TwInv us w1.heap.size w1 k wr) (fun i _ => us.length - (intOf i).toNat)
      case atStart => exact ⟨0, rfl, HT.out⟩
      case round =>
        as_aux_lemma =>
          obtain ⟨k, rfl, ht⟩ := hrel
          have HT1 : Hid (TwInv us w1.heap.size w1 k wr) := ht
          have hle := ht.le
          have HBR : Hid (Below w.heap.size w wr) := HB1.out.trans (ht.below.mono hsz1)
          clear ht HT
          by_cases hkl : k < us.length
          · obtain ⟨_, _, _, hr⟩ := HU.out.cells
            obtain ⟨bu, offu, rfl, hbu, _, hcu⟩ := hr (by omega)
            have g0 := (HBR.out.cell (p := ⟨bu, offu + k, none⟩) hbu).trans (hcu k hkl)
            have g0' : ∀ v, (wr.setCell ⟨w1.heap.size, k, none⟩ v).cell? ⟨bu, offu + k, none⟩ = some (.string (us.getD k ByteArray.empty)) := fun v => by
              rw [World.cell?_of_block (w := wr) (Below.heap_setCell wr ⟨w1.heap.size, k, none⟩ v bu (by show bu ≠ w1.heap.size; omega))]; exact g0
            obtain ⟨u1, c1⟩ := HT1.out.all k (by omega)
            obtain ⟨u2, c2⟩ := HT1.out.all (us.length + k) (by omega)
            have c2' : ∀ v, (wr.setCell ⟨w1.heap.size, k, none⟩ v).cell? ⟨w1.heap.size, us.length + k, none⟩ = some u2 := fun v => by rw [cell_setCell_ne v (by omega)]; exact c2
            have fz : ∀ p, wr.frozen? ⟨w1.heap.size, p, none⟩ = false := HT1.out.free
            have HT2 : Hid (TwInv us w1.heap.size w1 (k + 1) ((wr.setCell ⟨w1.heap.size, k, none⟩ (.string (us.getD k ByteArray.empty))).setCell ⟨w1.heap.size, us.length + k, none⟩ (.string (us.getD k ByteArray.empty)))) := HT1.out.put (Nat.le_refl _) hkl
            have i2 : (k : Int) < 2 * (us.length : Int) := by omega
            have i3 : (us.length : Int) + (k : Int) < 2 * (us.length : Int) := by omega
            generalize us.getD k ByteArray.empty = sx at *
            clear hr hcu HT1 c2
            go_wp2
            go_roundw
            case rel => exact ⟨k + 1, by go_num, HT2.out⟩
            case measure => simp [intOf]; omega
          · have hkn : k = us.length := by omega
            subst hkn
            have HTW : Hid (StrRow cold wr (.slice (some ⟨w1.heap.size, 0, none⟩) (2 * us.length) (2 * us.length)) (us ++ us)) := HT1.out.row (by unfold maxLen; omega)
            have HFR : Hid (Fits x y us ∧ Room x y us) := fits_room (by omega) HLW.out HLK.out HS.out HV.out
            have HFR2 : Hid (Fits x y (us ++ us) ∧ Room x y (us ++ us)) := fits_room (by simp; omega) HLW.out HLK.out (fun s hs => HS.out s (by simpa using hs)) HV.out
            have hszr := HBR.out.size
            clear HT1 HLR HLW HLK
            go_wp2_with fail
            refine (poolJob_any _ _ x y au us.length cu us wr (HX.out.but (But.of_below HBR.out)) (HY.out.but (But.of_below HBR.out)) (HU.out.but (But.of_below HBR.out)) HFR.out.2).mono ?_
            rintro e w2 ⟨p2, rfl, hj2, hb2⟩
            have HJ2 : Hid (JobAt w2 p2 x y us) := hj2
            have HB2 : Hid (Below wr.heap.size wr w2) := hb2
            clear hj2 hb2
            go_wp2_with fail
            refine (zzAsWay_any p2 x y us w2 HJ2.out HFR.out.1).mono ?_
            rintro e w3 ⟨v3, K, M, rfl, hv3, hb3⟩
            have HB3 : Hid (Below wr.heap.size wr w3) := HB2.out.trans (hb3.mono HB2.out.size)
            obtain ⟨c0, c1, c2, c3, c4, c5, c6, c8, c9, rfl, hrow⟩ := hv3
            obtain ⟨sf, hsf⟩ : ∃ sf, final x y us = sf := ⟨_, rfl⟩
            have HSF : Hid (final x y us = sf) := hsf
            rw [hsf] at hrow ⊢
            have HROW : Hid (Row cold K M w3 sf c0 c1 c2 c3 c4 c5 c6 c8 c9) := hrow
            obtain ⟨⟨a0, rfl⟩, ⟨a1, n1, d1, rfl⟩, ⟨a2, n2, d2, rfl⟩, ⟨a3, n3, d3, rfl⟩, ⟨a4, n4, d4, rfl⟩, ⟨a5, n5, d5, rfl⟩, ⟨a6, n6, d6, rfl⟩, ⟨a8, rfl⟩, ⟨a9, n9, d9, rfl⟩⟩ := hrow.forms
            clear hrow hb3 HJ2 HB2 hsf
            go_wp2_with fail
            have HA : Hid ((w3.alloc (.cells #[.pointer a0, .slice a1 n1 d1, .slice a2 n2 d2, .slice a3 n3 d3, .slice a4 n4 d4, .slice a5 n5 d5, .slice a6 n6 d6, .int .i64 sf.jumps, .pointer a8, .slice a9 n9 d9] 30)).heap[w3.heap.size]? = some (.cells #[.pointer a0, .slice a1 n1 d1, .slice a2 n2 d2, .slice a3 n3 d3, .slice a4 n4 d4, .slice a5 n5 d5, .slice a6 n6 d6, .int .i64 sf.jumps, .pointer a8, .slice a9 n9 d9] 30 (0, 0))) := heap_alloc_new _ _
            have HRA : Hid (Row cold K M (w3.alloc (.cells #[.pointer a0, .slice a1 n1 d1, .slice a2 n2 d2, .slice a3 n3 d3, .slice a4 n4 d4, .slice a5 n5 d5, .slice a6 n6 d6, .int .i64 sf.jumps, .pointer a8, .slice a9 n9 d9] 30)) sf (.pointer a0) (.slice a1 n1 d1) (.slice a2 n2 d2) (.slice a3 n3 d3) (.slice a4 n4 d4) (.slice a5 n5 d5) (.slice a6 n6 d6) (.pointer a8) (.slice a9 n9 d9)) := HROW.out.later ((Below.refl _ _).alloc (Nat.le_refl _) _)
            have HB4 : Hid (Below wr.heap.size wr (w3.alloc (.cells #[.pointer a0, .slice a1 n1 d1, .slice a2 n2 d2, .slice a3 n3 d3, .slice a4 n4 d4, .slice a5 n5 d5, .slice a6 n6 d6, .int .i64 sf.jumps, .pointer a8, .slice a9 n9 d9] 30))) := HB3.out.alloc HB3.out.size _
            clear HROW HB3
            generalize w3.alloc (.cells #[.pointer a0, .slice a1 n1 d1, .slice a2 n2 d2, .slice a3 n3 d3, .slice a4 n4 d4, .slice a5 n5 d5, .slice a6 n6 d6, .int .i64 sf.jumps, .pointer a8, .slice a9 n9 d9] 30) = W4 at *
            generalize w3.heap.size = A at *
            have HBW4 : Hid (Below w.heap.size w W4) := HBR.out.trans (HB4.out.mono hszr)
            refine (poolJob_any _ _ x y _ (2 * us.length) (2 * us.length) (us ++ us) W4 (HX.out.but (But.of_below HBW4.out)) (HY.out.but (But.of_below HBW4.out)) (HTW.out.but (But.of_below HB4.out)) HFR2.out.2).mono ?_
            rintro e w5 ⟨p5, rfl, hj5, hb5⟩
            have HJ5 : Hid (JobAt w5 p5 x y (us ++ us)) := hj5
            have HB5 : Hid (Below W4.heap.size W4 w5) := hb5
            clear hj5 hb5
            go_wp2_with fail
            refine (zzAsWay_any p5 x y (us ++ us) w5 HJ5.out HFR2.out.1).mono ?_
            rintro e w6 ⟨v6, K', M', rfl, hv6, hb6⟩
            have HB6 : Hid (Below W4.heap.size W4 w6) := chainB HB5.out hb6
            obtain ⟨g0, g1, g2, g3, g4, g5, g6, g8, g9, rfl, hrow⟩ := hv6
            rw [final_twice, HSF.out] at hrow ⊢
            have HROW : Hid (Row cold K' M' w6 sf g0 g1 g2 g3 g4 g5 g6 g8 g9) := hrow
            obtain ⟨⟨b0, rfl⟩, ⟨b1, m1, f1, rfl⟩, ⟨b2, m2, f2, rfl⟩, ⟨b3, m3, f3, rfl⟩, ⟨b4, m4, f4, rfl⟩, ⟨b5, m5, f5, rfl⟩, ⟨b6, m6, f6, rfl⟩, ⟨b8, rfl⟩, ⟨b9, m9, f9, rfl⟩⟩ := hrow.forms
            clear hrow hb6 HJ5 HB5
            go_upto_region 15 with fail
            have HBB : Hid ((w6.alloc (.cells #[.pointer b0, .slice b1 m1 f1, .slice b2 m2 f2, .slice b3 m3 f3, .slice b4 m4 f4, .slice b5 m5 f5, .slice b6 m6 f6, .int .i64 sf.jumps, .pointer b8, .slice b9 m9 f9] 30)).heap[w6.heap.size]? = some (.cells #[.pointer b0, .slice b1 m1 f1, .slice b2 m2 f2, .slice b3 m3 f3, .slice b4 m4 f4, .slice b5 m5 f5, .slice b6 m6 f6, .int .i64 sf.jumps, .pointer b8, .slice b9 m9 f9] 30 (0, 0))) := heap_alloc_new _ _
            have HRB : Hid (Row cold K' M' (w6.alloc (.cells #[.pointer b0, .slice b1 m1 f1, .slice b2 m2 f2, .slice b3 m3 f3, .slice b4 m4 f4, .slice b5 m5 f5, .slice b6 m6 f6, .int .i64 sf.jumps, .pointer b8, .slice b9 m9 f9] 30)) sf (.pointer b0) (.slice b1 m1 f1) (.slice b2 m2 f2) (.slice b3 m3 f3) (.slice b4 m4 f4) (.slice b5 m5 f5) (.slice b6 m6 f6) (.pointer b8) (.slice b9 m9 f9)) := HROW.out.later ((Below.refl _ _).alloc (Nat.le_refl _) _)
            have HB7 : Hid (Below W4.heap.size W4 (w6.alloc (.cells #[.pointer b0, .slice b1 m1 f1, .slice b2 m2 f2, .slice b3 m3 f3, .slice b4 m4 f4, .slice b5 m5 f5, .slice b6 m6 f6, .int .i64 sf.jumps, .pointer b8, .slice b9 m9 f9] 30))) := HB6.out.alloc HB6.out.size _
            clear HROW HB6
            generalize w6.alloc (.cells #[.pointer b0, .slice b1 m1 f1, .slice b2 m2 f2, .slice b3 m3 f3, .slice b4 m4 f4, .slice b5 m5 f5, .slice b6 m6 f6, .int .i64 sf.jumps, .pointer b8, .slice b9 m9 f9] 30) = W at *
            generalize w6.heap.size = B at *
            have HA' : Hid (W.heap[A]? = some (.cells #[.pointer a0, .slice a1 n1 d1, .slice a2 n2 d2, .slice a3 n3 d3, .slice a4 n4 d4, .slice a5 n5 d5, .slice a6 n6 d6, .int .i64 sf.jumps, .pointer a8, .slice a9 n9 d9] 30 (0, 0))) := (HB7.out.block A (lt_size HA.out)).trans HA.out
            have HRA' : Hid (Row cold K M W sf (.pointer a0) (.slice a1 n1 d1) (.slice a2 n2 d2) (.slice a3 n3 d3) (.slice a4 n4 d4) (.slice a5 n5 d5) (.slice a6 n6 d6) (.pointer a8) (.slice a9 n9 d9)) := HRA.out.later HB7.out
            have HBW : Hid (Below w.heap.size w W) := HBW4.out.trans (HB7.out.mono HBW4.out.size)
            clear HA HRA HB7 HB4 HBW4 HTW HBR
            have HAB : Hid (∀ w2, Below W.heap.size W w2 → w2.heap[A]? = some (.cells #[.pointer a0, .slice a1 n1 d1, .slice a2 n2 d2, .slice a3 n3 d3, .slice a4 n4 d4, .slice a5 n5 d5, .slice a6 n6 d6, .int .i64 sf.jumps, .pointer a8, .slice a9 n9 d9] 30 (0, 0)) ∧ w2.heap[B]? = some (.cells #[.pointer b0, .slice b1 m1 f1, .slice b2 m2 f2, .slice b3 m3 f3, .slice b4 m4 f4, .slice b5 m5 f5, .slice b6 m6 f6, .int .i64 sf.jumps, .pointer b8, .slice b9 m9 f9] 30 (0, 0))) := fun w2 h => ⟨(h.block A (lt_size HA'.out)).trans HA'.out, (h.block B (lt_size HBB.out)).trans HBB.out⟩
            have HLEN : Hid (n9 ≤ 1000000 ∧ m9 ≤ 1000000) := by
              have e1 := HRA'.out.unr.cells.1
              have e2 := HRB.out.unr.cells.1
              have e3 := (upTo_bd HFR.out.1 us.length (Nat.le_refl _)).unr
              rw [upTo_full, HSF.out] at e3
              exact ⟨by omega, by omega⟩
            have HUW : Hid (StrRow cold W (.slice au us.length cu) us) := HU.out.but (But.of_below HBW.out)
            have HDD : Hid (sf.unr = dedup us) := by show _ = _; rw [← HSF.out]; exact final_unr x y us
            have HKEEP : Hid (∀ w2, Below W.heap.size W w2 → w2.cell? ⟨A, 9, none⟩ = some (.slice a9 n9 d9) ∧ w2.cell? ⟨B, 9, none⟩ = some (.slice b9 m9 f9) ∧ Below W.heap.size W w2) := fun w2 h => ⟨cellB (j := 9) (HAB.out w2 h).1 rfl, cellB (j := 9) (HAB.out w2 h).2 rfl, h⟩
            go_cut [76] from 63 to 75 (fun c wx => c = .bool false ∧ Below W.heap.size W wx)
            case first =>
              go_region_held3 (fun w2 => w2.cell? ⟨A, 9, none⟩ = some (.slice a9 n9 d9) ∧ w2.cell? ⟨B, 9, none⟩ = some (.slice b9 m9 f9) ∧ Below W.heap.size W w2)
                (first
                  | exact HKEEP.out _ (by assumption)
                  | exact HKEEP.out _ (Below.drew (Below.refl _ _))
                  | exact HKEEP.out _ (below_drewN (by assumption) _))
                (first
                  | (go_at_call 9; go_split_ands; refine (dedup_any (hot := cold) au us.length cu us _ ?_ ?_).mono ?_; (refine HUW.out.but (But.of_below ?_); assumption); omega; rintro e w8 ⟨v8, rfl, hv8, hb8⟩; obtain ⟨x8, y8, rfl, hv8⟩ := hv8.form; have hB8 : Below W.heap.size W w8 := (by refine chainB ?_ hb8; assumption); have HV8 : Hid (StrRow cold w8 (.slice x8 (dedup us).length y8) (dedup us)) := hv8; clear hv8 hb8)
                  | (go_at_call 8; (with_reducible change Calls Try.prog 8 #[Value.slice a9 n9 d9, Value.slice x8 (dedup us).length y8] _ _); go_split_ands; refine (eq_any (hot := cold) (hot' := cold) a9 x8 n9 d9 (dedup us).length y8 (dedup us) _ ?_ ?_ HLEN.out.1).mono ?_; (rw [← HDD.out]; refine HRA'.out.unr.but (But.of_below ?_); assumption); (exact HV8.out); rintro e w9 ⟨rfl, q9, rfl⟩)
                  | (go_at_call 8; (with_reducible change Calls Try.prog 8 #[Value.slice b9 m9 f9, Value.slice a9 n9 d9] _ _); go_split_ands; refine (eq_any (hot := cold) (hot' := cold) b9 a9 m9 f9 n9 d9 sf.unr _ ?_ ?_ HLEN.out.2).mono ?_; (refine HRB.out.unr.but (But.of_below ?_); assumption); (refine HRA'.out.unr.but (But.of_below ?_); assumption); rintro e w9 ⟨rfl, q9, rfl⟩))
              go_wp2
              go_meet
              exact ⟨rfl, by repeat' (first | exact hB8 | apply below_drewN)⟩
            case rest =>
              as_aux_lemma =>
                obtain ⟨rfl, hbc⟩ := hcut
                have HLS : Hid ((∀ z, x = some z → sf.frm = z.frm) ∧ n2 = sf.frm.length) := ⟨fun z hz => by rw [← HSF.out, hz]; exact final_frm z y us, HRA'.out.frm.cells.1⟩
                clear HKEEP HUW HDD HLEN
                go_upto_region 17 with fail
                go_cut [88] from 77 to 87 (fun c wx => c = .bool false ∧ Below W.heap.size W wx)
                case first =>
                  cases x with
                  | none =>
                    have e : Value.pointer aw = .pointer none := HX.out
                    injection e with e
                    subst e
                    go_quiet (fail)
                    go_wp2
                    go_meet
                    exact ⟨rfl, by repeat' (first | exact hbc | apply below_drewN)⟩
                  | some x =>
                    obtain ⟨b, off, z0, z1, z2, z3, z4, z5, z6, e, hb, hc, _, _, hfrm, _⟩ := HX.out
                    injection e with e
                    subst e
                    obtain ⟨r2, e2, rfl, hfrm⟩ := hfrm.form
                    have hBc : Below w.heap.size w wc := HBW.out.trans (hbc.mono HBW.out.size)
                    have t2 : wc.cell? ⟨b, off + 2, none⟩ = some (.slice r2 x.frm.length e2) := (hBc.cell (p := ⟨b, off + 2, none⟩) hb).trans (hc.at 2 rfl)
                    have HFW : Hid (StrRow cold wc (.slice r2 x.frm.length e2) x.frm) := hfrm.but (But.of_below hBc)
                    have HFA : Hid (StrRow cold wc (.slice a2 n2 d2) x.frm) := by rw [← HLS.out.1 x rfl]; exact HRA'.out.frm.but (But.of_below hbc)
                    have k2 : wc.cell? ⟨A, 2, none⟩ = some (.slice a2 n2 d2) := cellB (j := 2) (HAB.out wc hbc).1 rfl
                    have hl2 : n2 ≤ 1000000 := by have := (HFR.out.2.way x rfl).2.1; have := HLS.out.2; rw [HLS.out.1 x rfl] at this; omega
                    clear hc hfrm hBc
                    have HK17 : Hid (∀ w2, Below wc.heap.size wc w2 → w2.cell? ⟨A, 2, none⟩ = some (.slice a2 n2 d2) ∧ w2.cell? ⟨b, off + 2, none⟩ = some (.slice r2 x.frm.length e2) ∧ Below wc.heap.size wc w2) := fun w2 h => ⟨cellB (j := 2) (HAB.out w2 (chainB hbc h)).1 rfl, (h.cell (p := ⟨b, off + 2, none⟩) (by have := HBW.out.size; have := hbc.size; show b < _; omega)).trans t2, h⟩
                    go_region_held3 (fun w2 => w2.cell? ⟨A, 2, none⟩ = some (.slice a2 n2 d2) ∧ w2.cell? ⟨b, off + 2, none⟩ = some (.slice r2 x.frm.length e2) ∧ Below wc.heap.size wc w2)
                      (first
                        | exact HK17.out _ (by repeat' (first | exact Below.refl _ _ | apply below_drewN | apply Below.drew)))
                      (first
                        | (go_at_call 8; go_split_ands; refine (eq_any (hot := cold) (hot' := cold) a2 r2 n2 d2 x.frm.length e2 x.frm _ ?_ ?_ hl2).mono ?_; (refine HFA.out.but (But.of_below ?_); assumption); (refine HFW.out.but (But.of_below ?_); assumption); rintro e w9 ⟨rfl, q9, rfl⟩))
                    go_wp2
                    go_meet
                    exact ⟨rfl, chainB hbc (by repeat' (first | exact Below.refl _ _ | apply below_drewN | apply Below.drew))⟩
                case rest =>
                  as_aux_lemma =>
                    obtain ⟨rfl, hbd⟩ := hcut
                    have HFL : Hid (n2 ≤ 1000000 ∧ n3 ≤ 1000000 ∧ n4 ≤ 1000000 ∧ n5 ≤ 1000000 ∧ n6 ≤ 1000000) := by
                      have e2 := HRA'.out.frm.cells.1
                      have e3 := HRA'.out.reached.cells.1
                      have e4 := HRA'.out.tried.cells.1
                      have e5 := HRA'.out.busy.cells.1
                      have e6 := HRA'.out.unfit.cells.1
                      have hk := final_kept x y us
                      rw [HSF.out] at hk
                      obtain ⟨h2, h3, h4, h5, h6⟩ := hk
                      rw [h2] at e2; rw [h3] at e3; rw [h4] at e4; rw [h5] at e5; rw [h6] at e6
                      cases x with
                      | none => simp [start] at e2 e3 e4 e5 e6; exact ⟨by omega, by omega, by omega, by omega, by omega⟩
                      | some z =>
                        obtain ⟨l1, l2, l3, l4, l5, l6⟩ := HFR.out.2.way z rfl
                        simp [start] at e2 e3 e4 e5 e6
                        exact ⟨by omega, by omega, by omega, by omega, by omega⟩
                    have HL2 : Hid (n2 ≤ 1000000) := HFL.out.1
                    have HL3 : Hid (n3 ≤ 1000000) := HFL.out.2.1
                    have HL4 : Hid (n4 ≤ 1000000) := HFL.out.2.2.1
                    have HL5 : Hid (n5 ≤ 1000000) := HFL.out.2.2.2.1
                    have HL6 : Hid (n6 ≤ 1000000) := HFL.out.2.2.2.2
                    clear hbc HFL
                    have xa2 := cellB (j := 2) (HAB.out wc hbd).1 rfl
                    have xa3 := cellB (j := 3) (HAB.out wc hbd).1 rfl
                    have xa4 := cellB (j := 4) (HAB.out wc hbd).1 rfl
                    have xa5 := cellB (j := 5) (HAB.out wc hbd).1 rfl
                    have xa6 := cellB (j := 6) (HAB.out wc hbd).1 rfl
                    have xa7 := cellB (j := 7) (HAB.out wc hbd).1 rfl
                    have xb2 := cellB (j := 2) (HAB.out wc hbd).2 rfl
                    have xb3 := cellB (j := 3) (HAB.out wc hbd).2 rfl
                    have xb4 := cellB (j := 4) (HAB.out wc hbd).2 rfl
                    have xb5 := cellB (j := 5) (HAB.out wc hbd).2 rfl
                    have xb6 := cellB (j := 6) (HAB.out wc hbd).2 rfl
                    have xb7 := cellB (j := 7) (HAB.out wc hbd).2 rfl
                    go_upto_region 21 with (first
                      | (go_at_call 8; (with_reducible change Calls Try.prog 8 #[Value.slice a2 n2 d2, Value.slice b2 m2 f2] _ _); refine (eq_any (hot := cold) (hot' := cold) a2 b2 n2 d2 m2 f2 sf.frm _ (HRA'.out.frm.but (But.of_below (by repeat' (first | exact hbd | apply below_drewN)))) (HRB.out.frm.but (But.of_below (by repeat' (first | exact hbd | apply below_drewN)))) HL2.out).mono ?_; rintro e w9 ⟨rfl, q2, rfl⟩)
                      | (go_at_call 8; (with_reducible change Calls Try.prog 8 #[Value.slice a3 n3 d3, Value.slice b3 m3 f3] _ _); refine (eq_any (hot := cold) (hot' := cold) a3 b3 n3 d3 m3 f3 sf.reached _ (HRA'.out.reached.but (But.of_below (by repeat' (first | exact hbd | apply below_drewN)))) (HRB.out.reached.but (But.of_below (by repeat' (first | exact hbd | apply below_drewN)))) HL3.out).mono ?_; rintro e w9 ⟨rfl, q3, rfl⟩)
                      | (go_at_call 8; (with_reducible change Calls Try.prog 8 #[Value.slice a4 n4 d4, Value.slice b4 m4 f4] _ _); refine (eq_any (hot := cold) (hot' := cold) a4 b4 n4 d4 m4 f4 sf.tried _ (HRA'.out.tried.but (But.of_below (by repeat' (first | exact hbd | apply below_drewN)))) (HRB.out.tried.but (But.of_below (by repeat' (first | exact hbd | apply below_drewN)))) HL4.out).mono ?_; rintro e w9 ⟨rfl, q4, rfl⟩)
                      | (go_at_call 8; (with_reducible change Calls Try.prog 8 #[Value.slice a5 n5 d5, Value.slice b5 m5 f5] _ _); refine (eq_any (hot := cold) (hot' := cold) a5 b5 n5 d5 m5 f5 sf.busy _ (HRA'.out.busy.but (But.of_below (by repeat' (first | exact hbd | apply below_drewN)))) (HRB.out.busy.but (But.of_below (by repeat' (first | exact hbd | apply below_drewN)))) HL5.out).mono ?_; rintro e w9 ⟨rfl, q5, rfl⟩)
                      | (go_at_call 8; (with_reducible change Calls Try.prog 8 #[Value.slice a6 n6 d6, Value.slice b6 m6 f6] _ _); refine (eq_any (hot := cold) (hot' := cold) a6 b6 n6 d6 m6 f6 sf.unfit _ (HRA'.out.unfit.but (But.of_below (by repeat' (first | exact hbd | apply below_drewN)))) (HRB.out.unfit.but (But.of_below (by repeat' (first | exact hbd | apply below_drewN)))) HL6.out).mono ?_; rintro e w9 ⟨rfl, q6, rfl⟩))
                    have xa0 := cellB (j := 0) (HAB.out wc hbd).1 rfl
                    have xb0 := cellB (j := 0) (HAB.out wc hbd).2 rfl
                    go_cut [140] from 134 to 139 (fun c wx => c = .bool false ∧ Below W.heap.size W wx)
                    case first =>
                      obtain ⟨bo, hbo⟩ : ∃ bo, sf.best = bo := ⟨_, rfl⟩
                      have ha : BestAt cold W outCells (.pointer a0) bo := by rw [← hbo]; exact HRA'.out.best
                      have hb : BestAt cold W outCells (.pointer b0) bo := by rw [← hbo]; exact HRB.out.best
                      clear hbo
                      cases bo with
                      | none =>
                        have ea : Value.pointer a0 = .pointer none := ha
                        have eb : Value.pointer b0 = .pointer none := hb
                        injection ea with ea
                        injection eb with eb
                        subst ea
                        subst eb
                        go_wp2
                        go_meet
                        exact ⟨rfl, by repeat' (first | exact hbd | apply below_drewN)⟩
                      | some o =>
                        obtain ⟨ba, oa, ea, _⟩ := ha
                        obtain ⟨bb, ob, eb, _⟩ := hb
                        injection ea with ea
                        injection eb with eb
                        subst ea
                        subst eb
                        go_wp2
                        go_meet
                        exact ⟨rfl, by repeat' (first | exact hbd | apply below_drewN)⟩
                    case rest =>
                      as_aux_lemma =>
                        obtain ⟨rfl, hbe⟩ := hcut
                        clear xa0 xb0 xa2 xa3 xa4 xa5 xa6 xa7 xb2 xb3 xb4 xb5 xb6 xb7 hbd HL2 HL3 HL4 HL5 HL6
                        have xa0 := cellB (j := 0) (HAB.out wc hbe).1 rfl
                        have xb0 := cellB (j := 0) (HAB.out wc hbe).2 rfl
                        go_upto_region 23 with fail
                        go_cut [155] from 141 to 154 (fun c wx => c = .bool false ∧ Below W.heap.size W wx)
                        case first =>
                          obtain ⟨bo, hbo⟩ : ∃ bo, sf.best = bo := ⟨_, rfl⟩
                          have ha : BestAt cold W outCells (.pointer a0) bo := by rw [← hbo]; exact HRA'.out.best
                          have hb : BestAt cold W outCells (.pointer b0) bo := by rw [← hbo]; exact HRB.out.best
                          clear hbo
                          cases bo with
                          | none =>
                            have ea : Value.pointer a0 = .pointer none := ha
                            have eb : Value.pointer b0 = .pointer none := hb
                            injection ea with ea
                            injection eb with eb
                            subst ea
                            subst eb
                            go_quiet (fail)
                            go_wp2
                            go_meet
                            exact ⟨rfl, by repeat' (first | exact hbe | apply below_drewN)⟩
                          | some o =>
                            obtain ⟨ba, oa, ea, hla, _, hca⟩ := ha
                            obtain ⟨bb, ob, eb, hlb, _, hcb⟩ := hb
                            injection ea with ea
                            injection eb with eb
                            subst ea
                            subst eb
                            have HK : Hid (∀ w2, Below W.heap.size W w2 → w2.cell? ⟨A, 0, none⟩ = some (.pointer (some ⟨ba, oa, none⟩)) ∧ w2.cell? ⟨B, 0, none⟩ = some (.pointer (some ⟨bb, ob, none⟩)) ∧ w2.cell? ⟨ba, oa, none⟩ = some (.string o.name) ∧ w2.cell? ⟨ba, oa + 1, none⟩ = some (.string o.name) ∧ w2.cell? ⟨ba, oa + 2, none⟩ = some (.float .f64 o.speed) ∧ w2.cell? ⟨ba, oa + 3, none⟩ = some (.int .i64 o.cores) ∧ w2.cell? ⟨ba, oa + 4, none⟩ = some (.int .i64 o.load) ∧ w2.cell? ⟨ba, oa + 5, none⟩ = some (.bool o.fits) ∧ w2.cell? ⟨bb, ob, none⟩ = some (.string o.name) ∧ w2.cell? ⟨bb, ob + 1, none⟩ = some (.string o.name) ∧ w2.cell? ⟨bb, ob + 2, none⟩ = some (.float .f64 o.speed) ∧ w2.cell? ⟨bb, ob + 3, none⟩ = some (.int .i64 o.cores) ∧ w2.cell? ⟨bb, ob + 4, none⟩ = some (.int .i64 o.load) ∧ w2.cell? ⟨bb, ob + 5, none⟩ = some (.bool o.fits) ∧ Below W.heap.size W w2) := fun w2 h =>
                              have pa := hca.below' h hla
                              have pb := hcb.below' h hlb
                              ⟨cellB (j := 0) (HAB.out w2 h).1 rfl, cellB (j := 0) (HAB.out w2 h).2 rfl, pa.at 0 rfl, pa.at 1 rfl, pa.at 2 rfl, pa.at 3 rfl, pa.at 4 rfl, pa.at 5 rfl, pb.at 0 rfl, pb.at 1 rfl, pb.at 2 rfl, pb.at 3 rfl, pb.at 4 rfl, pb.at 5 rfl, h⟩
                            clear hca hcb
                            go_region_held3 (fun w2 => w2.cell? ⟨A, 0, none⟩ = some (.pointer (some ⟨ba, oa, none⟩)) ∧ w2.cell? ⟨B, 0, none⟩ = some (.pointer (some ⟨bb, ob, none⟩)) ∧ w2.cell? ⟨ba, oa, none⟩ = some (.string o.name) ∧ w2.cell? ⟨ba, oa + 1, none⟩ = some (.string o.name) ∧ w2.cell? ⟨ba, oa + 2, none⟩ = some (.float .f64 o.speed) ∧ w2.cell? ⟨ba, oa + 3, none⟩ = some (.int .i64 o.cores) ∧ w2.cell? ⟨ba, oa + 4, none⟩ = some (.int .i64 o.load) ∧ w2.cell? ⟨ba, oa + 5, none⟩ = some (.bool o.fits) ∧ w2.cell? ⟨bb, ob, none⟩ = some (.string o.name) ∧ w2.cell? ⟨bb, ob + 1, none⟩ = some (.string o.name) ∧ w2.cell? ⟨bb, ob + 2, none⟩ = some (.float .f64 o.speed) ∧ w2.cell? ⟨bb, ob + 3, none⟩ = some (.int .i64 o.cores) ∧ w2.cell? ⟨bb, ob + 4, none⟩ = some (.int .i64 o.load) ∧ w2.cell? ⟨bb, ob + 5, none⟩ = some (.bool o.fits) ∧ Below W.heap.size W w2)
                              (first
                                | exact HK.out _ (by repeat' (first | exact hbe | assumption | apply below_drewN | apply Below.drew)))
                              (first
                                | (go_at_call 10; go_split_ands; refine (sameOption_any o _).mono ?_; rintro e w9 ⟨rfl, hb9⟩; have hB9 : Below W.heap.size W w9 := (by refine chainB ?_ hb9; assumption); clear hb9))
                            go_wp2
                            go_meet
                            exact ⟨rfl, hB9⟩
                        case rest =>
                          as_aux_lemma =>
                            obtain ⟨rfl, hbf⟩ := hcut
                            clear xa0 xb0 hbe
                            have hn1 : n1 = sf.rem.length := HRA'.out.rem.cells.1
                            have hm1 : m1 = sf.rem.length := HRB.out.rem.cells.1
                            subst hn1
                            subst hm1
                            have hlr : sf.rem.length ≤ 200000 := by
                              have e3 := (upTo_bd HFR.out.1 us.length (Nat.le_refl _)).rem
                              rw [upTo_full, HSF.out] at e3
                              exact e3
                            have xa1 := cellB (j := 1) (HAB.out wc hbf).1 rfl
                            have xb1 := cellB (j := 1) (HAB.out wc hbf).2 rfl
                            go_wp2
                            go_loopw [11] (fun i wr => ∃ k : Nat, k ≤ sf.rem.length ∧ i = .int .i64 k ∧ Below W.heap.size W wr) (fun i _ => sf.rem.length - (intOf i).toNat)
                            case atStart => exact ⟨0, Nat.zero_le _, rfl, hbf⟩
                            case round =>
                              as_aux_lemma =>
                                obtain ⟨k, hk, rfl, hbg⟩ := hrel
                                clear xa1 xb1 hbf
                                have xa1 := cellB (j := 1) (HAB.out wr hbg).1 rfl
                                have xb1 := cellB (j := 1) (HAB.out wr hbg).2 rfl
                                by_cases hkl : k < sf.rem.length
                                · obtain ⟨o, ho⟩ : ∃ o, sf.rem[k]? = some o := ⟨sf.rem[k], List.getElem?_eq_getElem hkl⟩
                                  obtain ⟨_, hr⟩ := HRA'.out.rem.cells
                                  obtain ⟨ba, oa, rfl, hla, _, hca⟩ := hr (by omega)
                                  obtain ⟨_, hr'⟩ := HRB.out.rem.cells
                                  obtain ⟨bb, ob, rfl, hlb, _, hcb⟩ := hr' (by omega)
                                  have hca := hca k o ho
                                  have hcb := hcb k o ho
                                  have HK : Hid (∀ w2, Below W.heap.size W w2 → w2.cell? ⟨A, 1, none⟩ = some (.slice (some ⟨ba, oa, none⟩) sf.rem.length d1) ∧ w2.cell? ⟨B, 1, none⟩ = some (.slice (some ⟨bb, ob, none⟩) sf.rem.length f1) ∧ w2.cell? ⟨ba, oa + k * 6, none⟩ = some (.string o.name) ∧ w2.cell? ⟨ba, oa + k * 6 + 1, none⟩ = some (.string o.name) ∧ w2.cell? ⟨ba, oa + k * 6 + 2, none⟩ = some (.float .f64 o.speed) ∧ w2.cell? ⟨ba, oa + k * 6 + 3, none⟩ = some (.int .i64 o.cores) ∧ w2.cell? ⟨ba, oa + k * 6 + 4, none⟩ = some (.int .i64 o.load) ∧ w2.cell? ⟨ba, oa + k * 6 + 5, none⟩ = some (.bool o.fits) ∧ w2.cell? ⟨bb, ob + k * 6, none⟩ = some (.string o.name) ∧ w2.cell? ⟨bb, ob + k * 6 + 1, none⟩ = some (.string o.name) ∧ w2.cell? ⟨bb, ob + k * 6 + 2, none⟩ = some (.float .f64 o.speed) ∧ w2.cell? ⟨bb, ob + k * 6 + 3, none⟩ = some (.int .i64 o.cores) ∧ w2.cell? ⟨bb, ob + k * 6 + 4, none⟩ = some (.int .i64 o.load) ∧ w2.cell? ⟨bb, ob + k * 6 + 5, none⟩ = some (.bool o.fits) ∧ Below W.heap.size W w2) := fun w2 h =>
                                    have pa := hca.below' h hla
                                    have pb := hcb.below' h hlb
                                    ⟨cellB (j := 1) (HAB.out w2 h).1 rfl, cellB (j := 1) (HAB.out w2 h).2 rfl, pa.at 0 rfl, pa.at 1 rfl, pa.at 2 rfl, pa.at 3 rfl, pa.at 4 rfl, pa.at 5 rfl, pb.at 0 rfl, pb.at 1 rfl, pb.at 2 rfl, pb.at 3 rfl, pb.at 4 rfl, pb.at 5 rfl, h⟩
                                  have j0 : (0 : Int) ≤ (k : Int) := by omega
                                  have j1 : (k : Int) < (sf.rem.length : Int) := by omega
                                  clear hr hr' hca hcb ho
                                  go_upto_region 30 with fail
                                  go_region_held3 (fun w2 => w2.cell? ⟨A, 1, none⟩ = some (.slice (some ⟨ba, oa, none⟩) sf.rem.length d1) ∧ w2.cell? ⟨B, 1, none⟩ = some (.slice (some ⟨bb, ob, none⟩) sf.rem.length f1) ∧ w2.cell? ⟨ba, oa + k * 6, none⟩ = some (.string o.name) ∧ w2.cell? ⟨ba, oa + k * 6 + 1, none⟩ = some (.string o.name) ∧ w2.cell? ⟨ba, oa + k * 6 + 2, none⟩ = some (.float .f64 o.speed) ∧ w2.cell? ⟨ba, oa + k * 6 + 3, none⟩ = some (.int .i64 o.cores) ∧ w2.cell? ⟨ba, oa + k * 6 + 4, none⟩ = some (.int .i64 o.load) ∧ w2.cell? ⟨ba, oa + k * 6 + 5, none⟩ = some (.bool o.fits) ∧ w2.cell? ⟨bb, ob + k * 6, none⟩ = some (.string o.name) ∧ w2.cell? ⟨bb, ob + k * 6 + 1, none⟩ = some (.string o.name) ∧ w2.cell? ⟨bb, ob + k * 6 + 2, none⟩ = some (.float .f64 o.speed) ∧ w2.cell? ⟨bb, ob + k * 6 + 3, none⟩ = some (.int .i64 o.cores) ∧ w2.cell? ⟨bb, ob + k * 6 + 4, none⟩ = some (.int .i64 o.load) ∧ w2.cell? ⟨bb, ob + k * 6 + 5, none⟩ = some (.bool o.fits) ∧ Below W.heap.size W w2)
                                    (first
                                      | exact HK.out _ (by repeat' (first | exact hbg | assumption | apply below_drewN | apply Below.drew)))
                                    (first
                                      | (go_at_call 10; go_split_ands; refine (sameOption_any o _).mono ?_; rintro e w9 ⟨rfl, hb9⟩; have hB9 : Below W.heap.size W w9 := (by refine chainB ?_ hb9; assumption); clear hb9))
                                  go_wp2
                                  go_roundw
                                  case rel => exact ⟨k + 1, by omega, by go_num, hB9⟩
                                  case measure => simp [intOf]; omega
                                · have hkn : k = sf.rem.length := by omega
                                  subst hkn
                                  go_upto_region 32 with fail
                                  clear xa1 xb1
                                  have xa8 := cellB (j := 8) (HAB.out wr hbg).1 rfl
                                  have xb8 := cellB (j := 8) (HAB.out wr hbg).2 rfl
                                  obtain ⟨wk, hwk⟩ : ∃ wk, sf.walk = wk := ⟨_, rfl⟩
                                  have ha : WalkOut cold W K M (.pointer a8) wk := by rw [← hwk]; exact HRA'.out.walk
                                  have hb : WalkOut cold W K' M' (.pointer b8) wk := by rw [← hwk]; exact HRB.out.walk
                                  have HWK := hid hwk
                                  clear hwk
                                  cases wk with
                                  | none =>
                                    have ea : Value.pointer a8 = .pointer none := ha
                                    have eb : Value.pointer b8 = .pointer none := hb
                                    injection ea with ea
                                    injection eb with eb
                                    subst ea
                                    subst eb
                                    go_wp2
                                    go_ret
                                    exact ⟨rfl, HBW.out.trans (hbg.mono HBW.out.size)⟩
                                  | some q =>
                                    obtain ⟨ea, ca, cu', ha1, ha2, ha3⟩ := ha
                                    obtain ⟨eb, cb, cv, hb1, hb2, hb3⟩ := hb
                                    injection ea with ea
                                    injection eb with eb
                                    subst ea
                                    subst eb
                                    go_upto_region 36 with fail
                                    obtain ⟨pa, ra, rfl, ha2⟩ := ha2.form
                                    obtain ⟨pb, rb, rfl, hb2⟩ := hb2.form
                                    have HM : Hid (MapAt W M q.1) := ha3
                                    have HM' : Hid (MapAt W M' q.1) := hb3
                                    have HW1 : Hid (W.heap[K]? = some (.cells #[.map (some M), .slice pa q.2.length ra, cu'] 48 (0, 0)) ∧ W.heap[K']? = some (.cells #[.map (some M'), .slice pb q.2.length rb, cv] 48 (0, 0)) ∧ StrRow cold W (.slice pa q.2.length ra) q.2 ∧ StrRow cold W (.slice pb q.2.length rb) q.2) := ⟨ha1, hb1, ha2, hb2⟩
                                    have HK : Hid (∀ w2, Below W.heap.size W w2 → w2.cell? ⟨A, 8, none⟩ = some (.pointer (some ⟨K, 0, none⟩)) ∧ w2.cell? ⟨B, 8, none⟩ = some (.pointer (some ⟨K', 0, none⟩)) ∧ w2.cell? ⟨K, 0, none⟩ = some (.map (some M)) ∧ w2.cell? ⟨K', 0, none⟩ = some (.map (some M')) ∧ w2.cell? ⟨K, 1, none⟩ = some (.slice pa q.2.length ra) ∧ w2.cell? ⟨K', 1, none⟩ = some (.slice pb q.2.length rb) ∧ (Builtin.len_ #[46] 3 #[Value.map (some M)]).run Try.prog w2 = .ok (.int .i64 (Maps.size (visits q.1))) w2 ∧ (Builtin.len_ #[46] 3 #[Value.map (some M')]).run Try.prog w2 = .ok (.int .i64 (Maps.size (visits q.1))) w2 ∧ Below W.heap.size W w2) := fun w2 h =>
                                      have k1 := (h.block K (lt_size ha1)).trans ha1
                                      have k2 := (h.block K' (lt_size hb1)).trans hb1
                                      ⟨cellB (j := 8) (HAB.out w2 h).1 rfl, cellB (j := 8) (HAB.out w2 h).2 rfl, cellQ (j := 0) k1 rfl, cellQ (j := 0) k2 rfl, cellQ (j := 1) k1 rfl, cellQ (j := 1) k2 rfl, World.ownsMap.len (HM.out.of_block (h.block M HM.out.lt)) Try.underlying46 3, World.ownsMap.len (HM'.out.of_block (h.block M' HM'.out.lt)) Try.underlying46 3, h⟩
                                    clear ha1 ha2 ha3 hb1 hb2 hb3
                                    have HQL : Hid (q.2.length ≤ 1000000) := by
                                      obtain ⟨z, hz, hzq⟩ := final_ahead (HSF.out.symm ▸ HWK.out : (final x y us).walk = some q)
                                      have h5 := (HFR.out.2.walk z hz).2
                                      rw [hzq] at h5
                                      exact Nat.le_trans h5 (by omega)
                                    go_cut [218] from 192 to 217 (fun c wx => c = .bool false ∧ Below W.heap.size W wx)
                                    case first =>
                                      go_region_held3 (fun w2 => w2.cell? ⟨A, 8, none⟩ = some (.pointer (some ⟨K, 0, none⟩)) ∧ w2.cell? ⟨B, 8, none⟩ = some (.pointer (some ⟨K', 0, none⟩)) ∧ w2.cell? ⟨K, 0, none⟩ = some (.map (some M)) ∧ w2.cell? ⟨K', 0, none⟩ = some (.map (some M')) ∧ w2.cell? ⟨K, 1, none⟩ = some (.slice pa q.2.length ra) ∧ w2.cell? ⟨K', 1, none⟩ = some (.slice pb q.2.length rb) ∧ (Builtin.len_ #[46] 3 #[Value.map (some M)]).run Try.prog w2 = .ok (.int .i64 (Maps.size (visits q.1))) w2 ∧ (Builtin.len_ #[46] 3 #[Value.map (some M')]).run Try.prog w2 = .ok (.int .i64 (Maps.size (visits q.1))) w2 ∧ Below W.heap.size W w2)
                                        (first
                                          | exact HK.out _ (by repeat' (first | exact hbg | assumption | apply below_drewN | apply Below.drew)))
                                        (first
                                          | (go_at_call 8; go_split_ands; refine (eq_any (hot := cold) (hot' := cold) pa pb q.2.length ra q.2.length rb q.2 _ ?_ ?_ ?_).mono ?_; (refine HW1.out.2.2.1.but (But.of_below ?_); assumption); (refine HW1.out.2.2.2.but (But.of_below ?_); assumption); (exact HQL.out); rintro e w9 ⟨rfl, q9, rfl⟩))
                                      go_wp2
                                      go_meet
                                      exact ⟨rfl, by repeat' (first | exact hbg | apply below_drewN | apply Below.drew)⟩
                                    case rest =>
                                      as_aux_lemma =>
                                        obtain ⟨rfl, hbh⟩ := hcut
                                        clear HK HQL hbg
                                        have HK0 : Hid (∀ w2 sx, sx.size ≤ maxLen → Below W.heap.size W w2 → w2.cell? ⟨A, 8, none⟩ = some (.pointer (some ⟨K, 0, none⟩)) ∧ w2.cell? ⟨B, 8, none⟩ = some (.pointer (some ⟨K', 0, none⟩)) ∧ w2.cell? ⟨K, 0, none⟩ = some (.map (some M)) ∧ w2.cell? ⟨K', 0, none⟩ = some (.map (some M')) ∧ (Instr.lookup 46 (.map (some M)) (.string sx) false).run Try.prog w2 = .ok (.bool (seen q.1 sx)) w2 ∧ (Instr.lookup 46 (.map (some M')) (.string sx) false).run Try.prog w2 = .ok (.bool (seen q.1 sx)) w2 ∧ Below W.heap.size W w2) := fun w2 sx hsx h =>
                                          have k1 := (h.block K (lt_size HW1.out.1)).trans HW1.out.1
                                          have k2 := (h.block K' (lt_size HW1.out.2.1)).trans HW1.out.2.1
                                          ⟨cellB (j := 8) (HAB.out w2 h).1 rfl, cellB (j := 8) (HAB.out w2 h).2 rfl, cellQ (j := 0) k1 rfl, cellQ (j := 0) k2 rfl, look_bool (HM.out.of_block (h.block M HM.out.lt)) hsx, look_bool (HM'.out.of_block (h.block M' HM'.out.lt)) hsx, h⟩
                                        go_upto_if 220 with fail
                                        go_cut [12] from 221 to 256 (fun _ wx => Below W.heap.size W wx)
                                        case first =>
                                          cases y with
                                          | none =>
                                            have e : Value.pointer ak = .pointer none := HY.out
                                            injection e with e
                                            subst e
                                            go_wp2
                                            go_meet
                                            exact hbh
                                          | some y =>
                                            obtain ⟨bk, offk, k0, k1, e, hbk, hck, hk0, hk1⟩ := HY.out
                                            injection e with e
                                            subst e
                                            obtain ⟨q7, e7, rfl, hk0⟩ := hk0.form
                                            have HVS := hid (HV.out y rfl)
                                            have hl7 := (HFR.out.2.walk y rfl).1
                                            have hszW := HBW.out.size
                                            have t7 : ∀ w2, Below W.heap.size W w2 → w2.cell? ⟨bk, offk, none⟩ = some (.slice q7 y.visited.length e7) := fun w2 h => ((HBW.out.trans (h.mono hszW)).cell (p := ⟨bk, offk, none⟩) hbk).trans (hck.at 0 rfl)
                                            have T7 := hid t7
                                            have HV7 : Hid (StrRow cold w (.slice q7 y.visited.length e7) y.visited) := hk0
                                            have t70 := t7 wc hbh
                                            clear hck hk0 hk1 t7 HY HV
                                            go_wp2
                                            go_loopw [12] (fun i wr => ∃ k : Nat, k ≤ y.visited.length ∧ i = .int .i64 k ∧ Below W.heap.size W wr) (fun i _ => y.visited.length - (intOf i).toNat)
                                            case atStart => exact ⟨0, Nat.zero_le _, rfl, hbh⟩
                                            case round =>
                                              as_aux_lemma =>
                                                obtain ⟨k, hk, rfl, hbi⟩ := hrel
                                                clear hbh t70
                                                have t70 := T7.out _ hbi
                                                by_cases hkl : k < y.visited.length
                                                · obtain ⟨_, _, _, hr⟩ := HV7.out.cells
                                                  obtain ⟨bv, ov, rfl, hbv, _, hcv⟩ := hr (by omega)
                                                  obtain ⟨sx, hsx⟩ : ∃ sx, y.visited.getD k ByteArray.empty = sx := ⟨_, rfl⟩
                                                  have hss : sx.size ≤ maxLen := by rw [← hsx]; exact getD_short HVS.out hkl
                                                  have hcx := hcv k hkl
                                                  rw [hsx] at hcx
                                                  have HK : Hid (∀ w2, Below W.heap.size W w2 → w2.cell? ⟨A, 8, none⟩ = some (.pointer (some ⟨K, 0, none⟩)) ∧ w2.cell? ⟨B, 8, none⟩ = some (.pointer (some ⟨K', 0, none⟩)) ∧ w2.cell? ⟨K, 0, none⟩ = some (.map (some M)) ∧ w2.cell? ⟨K', 0, none⟩ = some (.map (some M')) ∧ w2.cell? ⟨bk, offk, none⟩ = some (.slice (some ⟨bv, ov, none⟩) y.visited.length e7) ∧ w2.cell? ⟨bv, ov + k, none⟩ = some (.string sx) ∧ (Instr.lookup 46 (.map (some M)) (.string sx) false).run Try.prog w2 = .ok (.bool (seen q.1 sx)) w2 ∧ (Instr.lookup 46 (.map (some M')) (.string sx) false).run Try.prog w2 = .ok (.bool (seen q.1 sx)) w2 ∧ Below W.heap.size W w2) := fun w2 h =>
                                                    have z := HK0.out w2 sx hss h
                                                    ⟨z.1, z.2.1, z.2.2.1, z.2.2.2.1, T7.out w2 h, ((HBW.out.trans (h.mono hszW)).cell (p := ⟨bv, ov + k, none⟩) hbv).trans hcx, z.2.2.2.2.1, z.2.2.2.2.2.1, h⟩
                                                  have j0 : (0 : Int) ≤ (k : Int) := by omega
                                                  have j1 : (k : Int) < (y.visited.length : Int) := by omega
                                                  clear hr hcv hcx hsx
                                                  go_upto_region 42 with fail
                                                  go_region_held3 (fun w2 => w2.cell? ⟨A, 8, none⟩ = some (.pointer (some ⟨K, 0, none⟩)) ∧ w2.cell? ⟨B, 8, none⟩ = some (.pointer (some ⟨K', 0, none⟩)) ∧ w2.cell? ⟨K, 0, none⟩ = some (.map (some M)) ∧ w2.cell? ⟨K', 0, none⟩ = some (.map (some M')) ∧ w2.cell? ⟨bk, offk, none⟩ = some (.slice (some ⟨bv, ov, none⟩) y.visited.length e7) ∧ w2.cell? ⟨bv, ov + k, none⟩ = some (.string sx) ∧ (Instr.lookup 46 (.map (some M)) (.string sx) false).run Try.prog w2 = .ok (.bool (seen q.1 sx)) w2 ∧ (Instr.lookup 46 (.map (some M')) (.string sx) false).run Try.prog w2 = .ok (.bool (seen q.1 sx)) w2 ∧ Below W.heap.size W w2)
                                                    (first
                                                      | exact HK.out _ (by repeat' (first | exact hbi | apply below_drewN | apply Below.drew)))
                                                    (fail)
                                                  go_wp2
                                                  all_goals (go_roundw; (case rel => first | exact ⟨k + 1, by omega, by go_num, by repeat' (first | exact hbi | apply below_drewN | apply Below.drew)⟩ | exact ⟨k + 1, by omega, by omega⟩ | exact ⟨k + 1, by omega, by go_num⟩); (case measure => simp [intOf]; omega))
                                                · have hkn : k = y.visited.length := by omega
                                                  subst hkn
                                                  go_wp2
                                                  go_meet
                                                  exact hbi
                                        case rest =>
                                          as_aux_lemma =>
                                            have hbj := hcut
                                            clear hbh
                                            have hszW := HBW.out.size
                                            go_wp2
                                            go_loopw [13] (fun i wr => ∃ k : Nat, k ≤ us.length ∧ i = .int .i64 k ∧ Below W.heap.size W wr) (fun i _ => us.length - (intOf i).toNat)
                                            case atStart => exact ⟨0, Nat.zero_le _, rfl, hbj⟩
                                            case round =>
                                              as_aux_lemma =>
                                                obtain ⟨k, hk, rfl, hbi⟩ := hrel
                                                by_cases hkl : k < us.length
                                                · obtain ⟨_, _, _, hr⟩ := HU.out.cells
                                                  obtain ⟨bu, ou, rfl, hbu, _, hcv⟩ := hr (by omega)
                                                  obtain ⟨sx, hsx⟩ : ∃ sx, us.getD k ByteArray.empty = sx := ⟨_, rfl⟩
                                                  have hss : sx.size ≤ maxLen := by rw [← hsx]; exact getD_short HS.out hkl
                                                  have hcx := hcv k hkl
                                                  rw [hsx] at hcx
                                                  have HK : Hid (∀ w2, Below W.heap.size W w2 → w2.cell? ⟨A, 8, none⟩ = some (.pointer (some ⟨K, 0, none⟩)) ∧ w2.cell? ⟨B, 8, none⟩ = some (.pointer (some ⟨K', 0, none⟩)) ∧ w2.cell? ⟨K, 0, none⟩ = some (.map (some M)) ∧ w2.cell? ⟨K', 0, none⟩ = some (.map (some M')) ∧ w2.cell? ⟨bu, ou + k, none⟩ = some (.string sx) ∧ (Instr.lookup 46 (.map (some M)) (.string sx) false).run Try.prog w2 = .ok (.bool (seen q.1 sx)) w2 ∧ (Instr.lookup 46 (.map (some M')) (.string sx) false).run Try.prog w2 = .ok (.bool (seen q.1 sx)) w2 ∧ Below W.heap.size W w2) := fun w2 h =>
                                                    have z := HK0.out w2 sx hss h
                                                    ⟨z.1, z.2.1, z.2.2.1, z.2.2.2.1, ((HBW.out.trans (h.mono hszW)).cell (p := ⟨bu, ou + k, none⟩) hbu).trans hcx, z.2.2.2.2.1, z.2.2.2.2.2.1, h⟩
                                                  have j0 : (0 : Int) ≤ (k : Int) := by omega
                                                  have j1 : (k : Int) < (us.length : Int) := by omega
                                                  clear hr hcv hcx hsx hcut hbj
                                                  go_upto_region 47 with fail
                                                  go_region_held3 (fun w2 => w2.cell? ⟨A, 8, none⟩ = some (.pointer (some ⟨K, 0, none⟩)) ∧ w2.cell? ⟨B, 8, none⟩ = some (.pointer (some ⟨K', 0, none⟩)) ∧ w2.cell? ⟨K, 0, none⟩ = some (.map (some M)) ∧ w2.cell? ⟨K', 0, none⟩ = some (.map (some M')) ∧ w2.cell? ⟨bu, ou + k, none⟩ = some (.string sx) ∧ (Instr.lookup 46 (.map (some M)) (.string sx) false).run Try.prog w2 = .ok (.bool (seen q.1 sx)) w2 ∧ (Instr.lookup 46 (.map (some M')) (.string sx) false).run Try.prog w2 = .ok (.bool (seen q.1 sx)) w2 ∧ Below W.heap.size W w2)
                                                    (first
                                                      | exact HK.out _ (by repeat' (first | exact hbi | apply below_drewN | apply Below.drew)))
                                                    (fail)
                                                  go_wp2
                                                  all_goals (go_roundw; (case rel => first | exact ⟨k + 1, by omega, by go_num, by repeat' (first | exact hbi | apply below_drewN | apply Below.drew)⟩ | exact ⟨k + 1, by omega, by omega⟩ | exact ⟨k + 1, by omega, by go_num⟩); (case measure => simp [intOf]; omega))
                                                · have hkn : k = us.length := by omega
                                                  subst hkn
                                                  go_wp2
                                                  go_ret
                                                  exact ⟨rfl, HBW.out.trans (hbi.mono hszW)⟩
end Go.Proofs.Qxb6615722a.AsWay
