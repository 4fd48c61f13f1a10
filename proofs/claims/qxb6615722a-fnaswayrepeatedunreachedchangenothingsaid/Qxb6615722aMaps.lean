/-
  THE SET OF VISITED NAMES: Visit (25), the wire walk's asWalk (19). By an AI agent, Nov 2026.
-/
import Derived.Test.Qxb6615722aRows
import Derived.Test.Qxb6615722aBase
import Derived.Test.Qxb6615722aLeaf2
import Derived.Test.Qxb6615722aOpts
import Derived.WalkKit
import Derived.WalkSpells
import Derived.WalkSmall
import Derived.Lib.SlicesS
import Derived.Maps.OwnSet
namespace Go.Proofs.Qxb6615722a.AsWay
open Go.RowKit Go.Maps Go.WideMaps
set_option linter.unusedVariables false

def keyLit (s : ByteArray) : Lit := .string s.data.toList
def visits (names : List ByteArray) : DataW Unit := setOf (.lit (.bool true)) (names.map keyLit)
theorem visits_snoc (names : List ByteArray) (x : ByteArray) : visits (names ++ [x]) = (visits names).put (keyLit x) (.lit (.bool true)) := by
  unfold visits; rw [List.map_append]; exact setOf_snoc _ _ _
theorem law9 : Keyed Try.prog 9 := string_keyed Try.underlying9
theorem key_ok {s : ByteArray} (h : s.size ≤ maxLen) : keyOf Try.prog 9 (.string s) = some (keyLit s) := keyOf_string_mk Try.underlying9 h
/-- Block M is the map of the names. -/
def MapAt (w : World) (M : Nat) (names : List ByteArray) : Prop := w.ownsMap Try.prog 9 (plainElem (H := Unit) Try.prog 4) M names.length (visits names)
theorem MapAt.of_block {w w' : World} {M : Nat} {names : List ByteArray} (h : MapAt w M names) (hb : w'.heap[M]? = w.heap[M]?) : MapAt w' M names := by
  obtain ⟨es, clock, h1, h2⟩ := h
  exact ⟨es, clock, hb.trans h1, h2⟩
theorem MapAt.lt {w : World} {M : Nat} {names : List ByteArray} (h : MapAt w M names) : M < w.heap.size := World.ownsMap.lt h
theorem MapAt.made (w : World) : MapAt (w.alloc (.map #[] 0)) w.heap.size [] := World.ownsMap_made w Try.prog 9 _
theorem MapAt.put {w : World} {M : Nat} {names : List ByteArray} {x : ByteArray} (h : w.ownsMap Try.prog 9 (plainElem (H := Unit) Try.prog 4) M (names.length + 1) ((visits names).put (keyLit x) (.lit (.bool true)))) : MapAt w M (names ++ [x]) := by
  unfold MapAt; rw [visits_snoc, List.length_append]; exact h

set_option maxRecDepth 100000 in
set_option maxHeartbeats 400000 in
theorem visit_any (K M : Nat) (ca cu : Value) (names : List ByteArray) (x : ByteArray) (w : World) (hK : w.heap[K]? = some (.cells #[.map (some M), ca, cu] 48 (0, 0))) (hM : MapAt w M names) (hx : x.size ≤ maxLen) (hn : names.length ≤ 1000000) :
    Calls Try.prog 25 #[.pointer (some ⟨K, 0, none⟩), .string x] w fun e w' => e = .returned (.tuple #[]) ∧ MapAt w' M (names ++ [x]) ∧ w.grownBy w' (some M) := by
  have g0 : w.cell? ⟨K, 0, none⟩ = some (.map (some M)) := by rw [cell_of_row w K _ _ _ _ hK]; rfl
  have H : Hid (MapAt w M names) := hM
  clear hK hM
  have hq := fun (w : World) (r : Option Nat) => run_eql_map_nil (P := Try.prog) w 46 9 4 r Try.underlying46
  go_enter Try.func25, Try.ntmps25
  go_wp2_with (at_mapUpdate; refine wpList_mapUpdate_own _ rfl _ _ _ 46 rfl 9 4 law9 Try.underlying46 (plainElem (H := Unit) Try.prog 4) M names.length (visits names) rfl H.out (by unfold maxLen; omega) _ _ _ rfl rfl (key_ok hx) _ [] (plainElem_bool Try.underlying4 true) ?_; intro w1 hown1 hgrow1)
  go_end0
  exact ⟨rfl, MapAt.put hown1, hgrow1⟩

theorem visits_take {ss : List ByteArray} {k : Nat} (h : k < ss.length) : ss.take (k + 1) = ss.take k ++ [ss.getD k ByteArray.empty] := take_succ ss k h
theorem getD_short {ss : List ByteArray} (h : ∀ s ∈ ss, s.size ≤ maxLen) {k : Nat} (hk : k < ss.length) : (ss.getD k ByteArray.empty).size ≤ maxLen := by
  refine h _ (List.mem_of_getElem? (i := k) ?_)
  simp [List.getElem?_eq_getElem hk]

/-- The walk's block and its map, just made. -/
def walkMade (w : World) : World := (w.alloc (.cells #[.map (some (w.heap.size + 1)), .slice none 0 0, .slice none 0 0] 48)).alloc (.map #[] 0)
theorem walk_start (w : World) : (walkMade w).heap[w.heap.size]? = some (.cells #[.map (some (w.heap.size + 1)), .slice none 0 0, .slice none 0 0] 48 (0, 0)) ∧ MapAt (walkMade w) (w.heap.size + 1) [] ∧ Below w.heap.size w (walkMade w) := by
  have hsz : (w.alloc (.cells #[.map (some (w.heap.size + 1)), .slice none 0 0, .slice none 0 0] 48)).heap.size = w.heap.size + 1 := by simp
  refine ⟨?_, ?_, ?_⟩
  · unfold walkMade
    rw [Below.heap_alloc _ _ _ (by omega)]
    exact heap_alloc_new w _
  · have := MapAt.made (w.alloc (.cells #[.map (some (w.heap.size + 1)), .slice none 0 0, .slice none 0 0] 48))
    rw [hsz] at this
    exact this
  · exact ((Below.refl _ w).alloc (Nat.le_refl _) _).alloc (by omega) _

set_option maxRecDepth 100000 in
set_option maxHeartbeats 1000000 in
theorem asWalk_any (b off : Nat) (c0 c1 : Value) (y : KIn) (w : World) (hc : CellsAt w b off [c0, c1]) (hlt : b < w.heap.size) (h0 : StrRow cold w c0 y.visited) (h1 : StrRow cold w c1 y.ahead) (hm : y.visited.length ≤ 1000000) (hs : ∀ s ∈ y.visited, s.size ≤ maxLen) :
    Calls Try.prog 19 #[.pointer (some ⟨b, off, none⟩)] w fun e w' => e = .returned (.pointer (some ⟨w.heap.size, 0, none⟩)) ∧ w'.heap[w.heap.size]? = some (.cells #[.map (some (w.heap.size + 1)), c1, .slice none 0 0] 48 (0, 0)) ∧
      MapAt w' (w.heap.size + 1) y.visited ∧ Below w.heap.size w w' := by
  have g0 : w.cell? ⟨b, off, none⟩ = some c0 := hc.at 0 rfl
  have g1 : w.cell? ⟨b, off + 1, none⟩ = some c1 := hc.at 1 rfl
  obtain ⟨a0, d0, rfl, h0⟩ := h0.form
  obtain ⟨a1, d1, rfl, h1⟩ := h1.form
  obtain ⟨_, _, _, hr⟩ := h0.cells
  have HR : Hid (0 < y.visited.length → ∃ b off, a0 = some ⟨b, off, none⟩ ∧ b < w.heap.size ∧ ¬ cold b ∧ ∀ k, k < y.visited.length → w.cell? ⟨b, off + k, none⟩ = some (.string (y.visited.getD k ByteArray.empty))) := hr
  have HS : Hid (∀ s ∈ y.visited, s.size ≤ maxLen) := hs
  clear hc h0 h1 hr hs
  generalize y.visited = ss at *
  generalize y.ahead = sa at *
  have hne : ¬ b = w.heap.size := by omega
  have hne2 : ¬ b = w.heap.size + 1 := by omega
  have hmm := @run_makeMap Try.prog
  go_enter Try.func19, Try.ntmps19
  go_wp2
  go_loopw [19] (fun i wr => ∃ k : Nat, k ≤ ss.length ∧ i = .int .i64 k ∧ wr.heap[w.heap.size]? = some (.cells #[.map (some (w.heap.size + 1)), .slice none 0 0, .slice none 0 0] 48 (0, 0)) ∧ MapAt wr (w.heap.size + 1) (ss.take k) ∧ Below w.heap.size w wr) (fun i _ => ss.length - (intOf i).toNat)
  case atStart =>
    exact ⟨0, Nat.zero_le _, rfl, (walk_start w).1, (walk_start w).2.1, (walk_start w).2.2⟩
  case round =>
    obtain ⟨k, hk, rfl, hblk, hmap, hbel⟩ := hrel
    have c0 : wr.cell? ⟨w.heap.size, 0, none⟩ = some (.map (some (w.heap.size + 1))) := by rw [cell_of_row wr _ _ _ _ _ hblk]; rfl
    have c1 : wr.cell? ⟨w.heap.size, 1, none⟩ = some (.slice none 0 0) := by rw [cell_of_row wr _ _ _ _ _ hblk]; rfl
    have f1 : wr.frozen? ⟨w.heap.size, 1, none⟩ = false := free_of_block hblk
    have HB : Hid (wr.heap[w.heap.size]? = some (.cells #[.map (some (w.heap.size + 1)), .slice none 0 0, .slice none 0 0] 48 (0, 0))) := hblk
    have HM : Hid (MapAt wr (w.heap.size + 1) (ss.take k)) := hmap
    have HL : Hid (Below w.heap.size w wr) := hbel
    have hsz := hbel.size
    have g1' : wr.cell? ⟨b, off + 1, none⟩ = some (.slice a1 sa.length d1) := (hbel.cell (p := ⟨b, off + 1, none⟩) hlt).trans g1
    clear hblk hmap hbel
    by_cases hkl : k < ss.length
    · obtain ⟨b0, off0, rfl, hb0, _, hc⟩ := HR.out (by omega)
      have g2 := (HL.out.cell (p := ⟨b0, off0 + k, none⟩) hb0).trans (hc k hkl)
      have HKey := getD_short HS.out hkl
      have hlk : (ss.take k).length ≤ 1000000 := by simp; omega
      have HT : Hid (ss.take (k + 1) = ss.take k ++ [ss.getD k ByteArray.empty]) := take_succ ss k hkl
      generalize ss.getD k ByteArray.empty = s at *
      clear hc HR
      go_wp2_with (at_mapUpdate; refine wpList_mapUpdate_own _ rfl _ _ _ 46 rfl 9 4 law9 Try.underlying46 (plainElem (H := Unit) Try.prog 4) (w.heap.size + 1) (ss.take k).length (visits (ss.take k)) rfl HM.out (by unfold maxLen; omega) _ _ _ rfl rfl (key_ok HKey) _ [] (plainElem_bool Try.underlying4 true) ?_; intro w1 hown1 hgrow1)
      go_roundw
      case rel =>
        refine ⟨k + 1, by omega, by go_num, ?_, by rw [HT.out]; exact MapAt.put hown1, HL.out.grown hgrow1 hsz (fun j hj => by cases hj; omega)⟩
        exact (hgrow1.block _ (lt_size HB.out) (by simp)).trans HB.out
      case measure => simp [intOf]; omega
    · have hkn : k = ss.length := by omega
      subst hkn
      have R : Hid ((wr.setCell ⟨w.heap.size, 1, none⟩ (.slice a1 sa.length d1)).heap[w.heap.size]? = some (.cells #[.map (some (w.heap.size + 1)), .slice a1 sa.length d1, .slice none 0 0] 48 (0, 0)) ∧ MapAt (wr.setCell ⟨w.heap.size, 1, none⟩ (.slice a1 sa.length d1)) (w.heap.size + 1) ss ∧ Below w.heap.size w (wr.setCell ⟨w.heap.size, 1, none⟩ (.slice a1 sa.length d1))) := by
        refine ⟨by rw [block_setCell HB.out]; rfl, ?_, HL.out.setCell (p := ⟨w.heap.size, 1, none⟩) (Nat.le_refl _) _⟩
        have := HM.out
        rw [List.take_length] at this
        exact this.of_block (Below.heap_setCell wr ⟨w.heap.size, 1, none⟩ _ _ (by simp))
      clear HB HM HL HR
      go_wp2
      go_ret
      exact ⟨rfl, R.out.1, R.out.2.1, R.out.2.2⟩
end Go.Proofs.Qxb6615722a.AsWay
