/- The law's own walk: what is shared by its ways. -/
import Derived.Test.YbulkdhrwFmtA5
import Derived.Deep.RegionWith
import Derived.Deep.RegionLaw
import Derived.Laws.CopyOwn
namespace Go.Proofs.YbulkdhrwFmt
open Go.RowKit Go.Extern.Stop Go.Stop Go.Extern
set_option linter.unusedSimpArgs false
set_option linter.unusedVariables false

/-- In every later world that has kept what lay below 'w.heap.size', the slice v converts to the string s. -/
def Conv (w : World) (v : Value) (s : ByteArray) : Prop := ∀ w', Below w.heap.size w w' → (convert 22 9 v).run Ybaf.prog w' = .ok (.string s) w'

/-- A slice of bytes that came in: nil, or a row of cells. -/
def IsRow (w : World) (a : Option Addr) (len cap : Nat) (zs : List Int) : Prop :=
  (a = none ∧ len = 0 ∧ cap = 0 ∧ zs = []) ∨
  ∃ x, a = some x ∧ len ≤ cap ∧ cap ≤ maxLen ∧ zs.length = cap ∧ (∀ i, i < zs.length → w.cell? (x.add i) = some (.int .u8 (zs.getD i 0))) ∧ ∀ n ∈ zs, (Lit.int .u8 n).wf = true

theorem addr_add (b o i : Nat) : (⟨b, o, none⟩ : Addr).add i = ⟨b, o + i, none⟩ := by
  unfold Addr.add
  split
  · simp_all
  · rfl

theorem conv_cells (w : World) (x : Addr) (n c : Nat) (zs : List Int) (hz : zs.length = n) (hc : ∀ i, i < n → w.cell? (x.add i) = some (.int .u8 (zs.getD i 0))) :
    (convert 22 9 (.slice (some x) n c)).run Ybaf.prog w = .ok (.string (strOfNums zs)) w := by
  by_cases hn : n = 0
  · subst hn
    obtain rfl : zs = [] := List.eq_nil_of_length_eq_zero hz
    rw [run_convert_bytes_string w 22 9 5 (some x) 0 c Ybaf.underlying22 Ybaf.underlying5 Ybaf.underlying9]
    simp [Conv.bytesToString, loadCells]
    rfl
  · have hs : x.spot = none := by simpa [Addr.add] using World.cell?_spot (hc 0 (by omega))
    obtain ⟨b, off, sp⟩ := x
    subst hs
    exact run_convert_bytes_arg w 22 5 Ybaf.underlying22 Ybaf.underlying5 b off n c zs hz (fun i hi => by rw [← addr_add]; exact hc i hi) 9 Ybaf.underlying9

theorem conv_nil (w : World) (n c : Nat) : (convert 22 9 (.slice none n c)).run Ybaf.prog w = .ok (.string (strOfNums [])) w :=
  run_convert_bytes_nil w 22 5 Ybaf.underlying22 Ybaf.underlying5 n c 9 Ybaf.underlying9

theorem data_conv {w : World} {a : Option Addr} {n c : Nat} {zs : List Int} (h : IsRow w a n c zs) : Conv w (.slice a n c) (strOfNums (zs.take n)) := by
  intro w' hb
  rcases h with ⟨rfl, rfl, rfl, rfl⟩ | ⟨x, rfl, h1, h2, h3, h4, h5⟩
  · exact conv_nil w' 0 0
  · refine conv_cells w' x n c (zs.take n) (by simp; omega) (fun i hi => ?_)
    have hi' : i < zs.length := by omega
    have hlt : (x.add i).block < w.heap.size := World.block_lt_of_cell? w (x.add i) (h4 i hi')
    rw [hb.cell (p := x.add i) hlt, h4 i hi']
    simp [List.getD, List.getElem?_take, hi]

theorem clone_any (a : Option Addr) (n c : Nat) (zs : List Int) (w : World) (h : IsRow w a n c zs) (hn : n ≤ 1048576) :
    Calls Ybaf.prog 5 #[.slice a n c] w fun e w1 => ∃ vo, e = .returned vo ∧ Conv w1 vo (strOfNums (zs.take n)) ∧ Below w.heap.size w w1 := by
  rcases h with ⟨rfl, rfl, rfl, rfl⟩ | ⟨x, rfl, h1, h2, h3, h4, h5⟩
  · refine (clone_nil 0 0 w).mono ?_
    rintro e w1 ⟨rfl, rfl⟩
    exact ⟨_, rfl, fun w' _ => conv_nil w' 0 0, Below.refl _ _⟩
  · have hl : (zs.take n).length = n := by simp; omega
    refine (clone_at x n c (zs.take n) w hl (by omega) (fun i hi => ?_)).mono ?_
    · rw [h4 i (by omega)]
      simp [List.getD, List.getElem?_take, hi]
    · rintro e w1 ⟨vo, rfl, hown, hb⟩
      refine ⟨vo, rfl, fun w' hb' => ?_, hb⟩
      obtain ⟨_, ⟨rfl, rfl⟩ | ⟨g, cap, cur, rfl, hg, hh, hnc, hcm, hcs, ht⟩⟩ := hown
      · rw [List.take_zero]; exact conv_nil w' 0 0
      · refine conv_cells w' ⟨g, 0, none⟩ n cap (zs.take n) hl (fun i hi => ?_)
        have hlt : g < w1.heap.size := by
          rcases Nat.lt_or_ge g w1.heap.size with h | h
          · exact h
          · rw [Array.getElem?_eq_none h] at hh; cases hh
        rw [addr_add, hb'.cell (p := ⟨g, 0 + i, none⟩) hlt]
        have e1 : cur[i]? = some (Value.int .u8 ((zs.take n).getD i 0)) := by
          have e2 : (cur.toList.take (n * 1))[i]? = ((zs.take n).map (Value.int .u8))[i]? := by rw [ht]
          rw [List.getElem?_take, if_pos (by omega), Array.getElem?_toList] at e2
          rw [e2, List.getElem?_map, List.getElem?_eq_getElem (by omega)]
          simp [List.getD, List.getElem?_eq_getElem (show i < (zs.take n).length by omega)]
        simp [World.cell?, hh, e1]

theorem Conv.at {w w' : World} {v : Value} {s : ByteArray} (h : Conv w v s) (hb : Below w.heap.size w w') : (convert 22 9 v).run Ybaf.prog w' = .ok (.string s) w' := h w' hb

set_option maxRecDepth 100000 in
set_option maxHeartbeats 400000 in
theorem law_long (v0 v2 v3 : Value) (a : Option Addr) (n c : Nat) (w : World) (hn : 1048576 < n) (hm : n ≤ maxLen) :
    Calls Ybaf.prog 3 #[v0, .slice a n c, v2, v3] w fun e w' => e = .returned (.bool true) ∧ Below w.heap.size w w' := by
  unfold maxLen at hm
  go_enter Ybaf.func3, Ybaf.ntmps3
  go_wp2
  go_ret
  exact ⟨rfl, Below.refl _ _⟩

/-- 'Below' with the bound that a new block wants. -/
def Bel (B : Nat) (w w' : World) : Prop := Below B w w' ∧ B ≤ w'.heap.size
theorem Bel.alloc {B : Nat} {w w' : World} (h : Bel B w w') (o : Obj) : Bel B w (w'.alloc o) := ⟨h.1.alloc h.2 o, by have := h.2; simp; omega⟩
theorem Bel.drew {B : Nat} {w w' : World} (h : Bel B w w') : Bel B w w'.drew := ⟨h.1.drew, h.2⟩
theorem Bel.of {w w' : World} (h : Below w.heap.size w w') : Bel w.heap.size w w' := ⟨h, h.size⟩
theorem Bel.start (w : World) : Bel w.heap.size w w := ⟨Below.refl _ _, Nat.le_refl _⟩

set_option maxRecDepth 100000 in
set_option maxHeartbeats 1000000 in
theorem law_small (info left : Int) (fail : Bool) (a : Option Addr) (n c : Nat) (zs : List Int) (w : World) (hi0 : 0 ≤ info) (hi : info < 24) (hn : n ≤ 1048576) (hrow : IsRow w a n c zs) :
    Calls Ybaf.prog 3 #[.int .u8 info, .slice a n c, .int .i64 left, .bool fail] w fun e w' => e = .returned (.bool true) ∧ Below w.heap.size w w' := by
  have HC : Hid (Conv w (.slice a n c) (strOfNums (zs.take n))) := data_conv hrow
  have HR : Hid (IsRow w a n c zs) := hrow
  clear hrow
  go_enter Ybaf.func3, Ybaf.ntmps3
  cases fail
  · go_wp2_with (first | (go_at_call 5; refine (clone_any a n c zs _ HR.out hn).mono ?_; rintro e w1 ⟨vo, rfl, hco, hb1⟩; have HO : Hid (Conv w1 vo (strOfNums (zs.take n))) := hco; clear hco) | (go_at_call 7; refine (arg_small _ info _ hi0 hi).mono ?_; rintro e w3 ⟨rfl, rfl⟩) | (go_at_call 8; refine (equal_same _ _ _ _ (HC.out _ (((Bel.of hb1).alloc _).alloc _).1) (HO.out _ (((Bel.start _).alloc _).alloc _).1)).mono ?_; rintro e w4 ⟨rfl, rfl⟩))
    go_ret
    exact ⟨rfl, (((Bel.of hb1).alloc _).alloc _).1⟩
  · go_wp2_with (first | (go_at_call 5; refine (clone_any a n c zs _ HR.out hn).mono ?_; rintro e w1 ⟨vo, rfl, hco, hb1⟩; have HO : Hid (Conv w1 vo (strOfNums (zs.take n))) := hco; clear hco) | (go_at_call 6; refine (new_any _ _).mono ?_; rintro e w2 ⟨rfl, rfl⟩) | (go_at_call 7; refine (arg_small _ info _ hi0 hi).mono ?_; rintro e w3 ⟨rfl, rfl⟩) | (go_at_call 8; refine (equal_same _ _ _ _ (HC.out _ ((((Bel.of hb1).alloc _).alloc _).alloc _).1) (HO.out _ ((((Bel.start _).alloc _).alloc _).alloc _).1)).mono ?_; rintro e w4 ⟨rfl, rfl⟩))
    go_ret
    exact ⟨rfl, ((((Bel.of hb1).alloc _).alloc _).alloc _).1⟩

end Go.Proofs.YbulkdhrwFmt
