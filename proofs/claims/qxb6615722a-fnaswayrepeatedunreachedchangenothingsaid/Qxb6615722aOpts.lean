/-
  THE WALKS OVER OPTIONS: zzSameFloat (16), zzSameOption (10), asOption (18), zzPoolOption (15), the closure of GoOnWithout (24). By an AI agent, Nov 2026.
-/
import Derived.Test.Qxb6615722aRows
import Derived.Test.Qxb6615722aBase
import Derived.WalkKit
import Derived.WalkSpells
import Derived.WalkSmall
import Derived.WalkLawsBesides
import Derived.Lib.SlicesS
import Derived.Deep.QuietTactic
import Derived.BigQuiet
import Derived.Deep.RegionHeld3
namespace Go.Proofs.Qxb6615722a.AsWay
open Go.RowKit
set_option linter.unusedVariables false
attribute [local go_sem] run_store_float

/-- An option as a value, as the wire has it | as the placement has it. -/
def inV (o : Opt) : Value := .agg #[.string o.name, .string o.addr, .float .f64 o.speed, .int .i64 o.cores, .int .i64 o.load, .bool o.fits]
def outV (o : Opt) : Value := .agg #[.string o.name, .string o.name, .float .f64 o.speed, .int .i64 o.cores, .int .i64 o.load, .bool o.fits]
theorem CellsAt.at {w : World} {b off : Nat} {cs : List Value} (h : CellsAt w b off cs) (j : Nat) {u : Value} (hu : cs[j]? = some u) : w.cell? ⟨b, off + j, none⟩ = some u := h j u hu

set_option maxHeartbeats 400000 in
theorem sameFloat_any (f : Nat) (w : World) : Calls Try.prog 16 #[.float .f64 f, .float .f64 f] w fun e w' => e = .returned (.bool true) ∧ w' = w := by
  by_cases h : (FloatKind.f64.format.order f f != some Ordering.eq) = true
  · go_enter Try.func16, Try.ntmps16
    go_wp2
    go_ret
    exact ⟨rfl, rfl⟩
  · have h1 : (FloatKind.f64.format.order f f != some Ordering.eq) = false := by simpa using h
    have h2 : (FloatKind.f64.format.order f f == some Ordering.eq) = true := by simpa [bne] using h1
    clear h
    go_enter Try.func16, Try.ntmps16
    go_wp2
    go_ret
    exact ⟨rfl, rfl⟩

set_option maxHeartbeats 400000 in
theorem closure_any (o : Opt) (ad : Addr) (n : ByteArray) (w : World) (hn : w.cell? ad = some (.string n)) (hlt : ad.block < w.heap.size) :
    Calls Try.prog 24 #[outV o, .pointer (some ad)] w fun e w' => e = .returned (.bool (decide (o.name = n))) ∧ Below w.heap.size w w' := by
  obtain ⟨name, addr, speed, cores, load, fits⟩ := o
  have hn' : ∀ o, (w.alloc o).cell? ad = some (.string n) := fun o => by rw [World.cell?_of_block (w' := w.alloc o) (w := w) (Below.heap_alloc w o _ hlt)]; exact hn
  by_cases hx : name = n
  · subst hx
    clear hn
    unfold outV
    go_enter Try.func24, Try.ntmps24
    go_wp2
    go_ret
    exact ⟨by simp, (Below.refl _ _).alloc (Nat.le_refl _) _⟩
  · have ht : (name.toList == n.toList) = false := (Lib.bytes_beq_false_iff _ _).2 hx
    have HX : Hid (¬ name = n) := hx
    clear hx hn
    unfold outV
    go_enter Try.func24, Try.ntmps24
    go_wp2
    go_ret
    exact ⟨by rw [decide_eq_false HX.out]; rfl, (Below.refl _ _).alloc (Nat.le_refl _) _⟩

set_option maxHeartbeats 1000000 in
theorem asOption_any (b off : Nat) (o : Opt) (w : World) (hc : CellsAt w b off (inCells o)) (hlt : b < w.heap.size) :
    Calls Try.prog 18 #[.pointer (some ⟨b, off, none⟩)] w fun e w' => e = .returned (outV o) ∧ Below w.heap.size w w' := by
  obtain ⟨name, addr, speed, cores, load, fits⟩ := o
  have g0 : w.cell? ⟨b, off, none⟩ = some (.string name) := hc.at 0 rfl
  have g2 : w.cell? ⟨b, off + 2, none⟩ = some (.float .f64 speed) := hc.at 2 rfl
  have g3 : w.cell? ⟨b, off + 3, none⟩ = some (.int .i64 cores) := hc.at 3 rfl
  have g4 : w.cell? ⟨b, off + 4, none⟩ = some (.int .i64 load) := hc.at 4 rfl
  have g5 : w.cell? ⟨b, off + 5, none⟩ = some (.bool fits) := hc.at 5 rfl
  have hne : ¬ b = w.heap.size := by omega
  clear hc
  go_enter Try.func18, Try.ntmps18
  go_wp2
  go_region_held3 (fun w' => w'.cell? ⟨b, off, none⟩ = some (.string name) ∧ w'.cell? ⟨b, off + 2, none⟩ = some (.float .f64 speed) ∧ w'.cell? ⟨b, off + 3, none⟩ = some (.int .i64 cores) ∧ w'.cell? ⟨b, off + 4, none⟩ = some (.int .i64 load) ∧ w'.cell? ⟨b, off + 5, none⟩ = some (.bool fits)) (go_keep) (fail)
  go_wp2
  exact bodyPost_ret (v := .agg #[.string name, .string name, .float .f64 speed, .int .i64 cores, .int .i64 load, .bool fits]) (by simp [results, Try.results18, go_sem]) rfl ⟨rfl, ((Below.refl _ _).alloc (Nat.le_refl _) _).drew⟩

set_option maxHeartbeats 1000000 in
theorem poolOption_any (o : Opt) (w : World) : Calls Try.prog 15 #[inV o] w fun e w' => e = .returned (inV o) ∧ Below w.heap.size w w' := by
  obtain ⟨name, addr, speed, cores, load, fits⟩ := o
  unfold inV
  go_enter Try.func15, Try.ntmps15
  go_wp2
  exact bodyPost_ret (v := .agg #[.string name, .string addr, .float .f64 speed, .int .i64 cores, .int .i64 load, .bool fits]) (by simp [results, Try.results15, go_sem]) rfl ⟨rfl, ((Below.refl _ _).alloc (Nat.le_refl _) _).alloc (by simp) _⟩

set_option maxHeartbeats 1000000 in
theorem sameOption_any (o : Opt) (w : World) : Calls Try.prog 10 #[outV o, outV o] w fun e w' => e = .returned (.bool true) ∧ Below w.heap.size w w' := by
  obtain ⟨name, addr, speed, cores, load, fits⟩ := o
  unfold outV
  go_enter Try.func10, Try.ntmps10
  go_wp2_with (go_at_call 16; refine (sameFloat_any _ _).mono ?_; rintro e w' ⟨rfl, hw⟩; subst hw)
  go_ret
  exact ⟨rfl, ((Below.refl _ _).alloc (Nat.le_refl _) _).alloc (by simp) _⟩
end Go.Proofs.Qxb6615722a.AsWay
