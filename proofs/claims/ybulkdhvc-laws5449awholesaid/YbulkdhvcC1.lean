/- LawS5449AWhole: the rows of 4096 octets, and what is written into them. -/
import Derived.Test.YbulkdhvcB1
namespace Go.Proofs.Ybulkdhvc
namespace LawA
open Go.RowKit
open LawB (heap_new addr_add oneInts info5 size5 lt_of_some)
set_option linter.unusedSimpArgs false
set_option linter.unusedVariables false

/-- A row of 4096 octets. -/
def rowL (f : Nat → Int) : List Value := (List.range 4096).map fun o => Value.int .u8 (f o)
def rowA (f : Nat → Int) : Array Value := (rowL f).toArray
theorem rowL_length (f : Nat → Int) : (rowL f).length = 4096 := by unfold rowL; rw [List.length_map, List.length_range]
theorem rowA_size (f : Nat → Int) : (rowA f).size = 4096 := by unfold rowA; rw [List.size_toArray, rowL_length]
theorem rowL_get (f : Nat → Int) (o : Nat) : (rowL f)[o]? = if o < 4096 then some (Value.int .u8 (f o)) else none := by
  unfold rowL
  rw [List.getElem?_map]
  by_cases h : o < 4096
  · rw [List.getElem?_range h, if_pos h]; rfl
  · rw [if_neg h, List.getElem?_eq_none (by rw [List.length_range]; omega)]; rfl
theorem rowA_get (f : Nat → Int) (o : Nat) (h : o < 4096) : (rowA f)[o]? = some (Value.int .u8 (f o)) := by
  unfold rowA
  rw [List.getElem?_toArray, rowL_get, if_pos h]
theorem rowL_ext {l : List Value} {f : Nat → Int} (h : ∀ o : Nat, l[o]? = if o < 4096 then some (Value.int .u8 (f o)) else none) : l = rowL f := by
  apply List.ext_getElem?
  intro o
  rw [h o, rowL_get]
theorem rowA_ext {a : Array Value} {f : Nat → Int} (h : ∀ o : Nat, a[o]? = if o < 4096 then some (Value.int .u8 (f o)) else none) : a = rowA f := by
  apply Array.ext'
  have e : (rowA f).toList = rowL f := by unfold rowA; rw [List.toList_toArray]
  rw [e]
  apply rowL_ext
  intro o
  rw [← h o, Array.getElem?_toList]
theorem rowA_set (f : Nat → Int) (o : Nat) (v : Int) (ho : o < 4096) : (rowA f).setIfInBounds o (.int .u8 v) = rowA (fun o' => if o' = o then v else f o') := by
  apply rowA_ext
  intro k
  rw [Array.getElem?_setIfInBounds, rowA_size]
  by_cases hk : k < 4096
  · by_cases he : o = k
    · subst he; simp [hk]
    · have : k ≠ o := fun h => he h.symm
      rw [if_neg he, rowA_get f k hk, if_pos hk, if_neg this]
  · have hne : o ≠ k := by omega
    rw [if_neg hne, if_neg hk, Array.getElem?_eq_none (by rw [rowA_size]; omega)]
def zrow : Array Value := madeCells #[.int .u8 0] 4096
theorem zrow_eq : zrow = rowA (fun _ => 0) := by
  apply rowA_ext
  intro o
  unfold zrow
  rw [LawB.made_row, List.getElem?_toArray, List.getElem?_replicate]

/-- What stands in the row behind a copy of m octets to place off. -/
theorem rowL_splice (f : Nat → Int) (off m : Nat) (x : Nat → Int) (h : off + m ≤ 4096) :
    (rowL f).take off ++ (List.range m).map (fun i => Value.int .u8 (x i)) ++ (rowL f).drop (off + m) = rowL (fun o => if off ≤ o ∧ o < off + m then x (o - off) else f o) := by
  apply rowL_ext
  intro o
  have h1 : ((rowL f).take off).length = off := by rw [List.length_take, rowL_length]; omega
  have h2 : ((List.range m).map (fun i => Value.int .u8 (x i))).length = m := by rw [List.length_map, List.length_range]
  by_cases ha : o < off
  · rw [List.append_assoc, List.getElem?_append_left (by omega), List.getElem?_take, if_pos ha, rowL_get]
    have : ¬ (off ≤ o ∧ o < off + m) := by omega
    simp only [this, if_false]
  · by_cases hb : o < off + m
    · rw [List.append_assoc, List.getElem?_append_right (by omega), List.getElem?_append_left (by omega), h1, List.getElem?_map, List.getElem?_range (by omega)]
      have : off ≤ o ∧ o < off + m := by omega
      simp only [this, and_self, if_true, Option.map_some]
      rw [if_pos (by omega)]
    · rw [List.getElem?_append_right (by rw [List.length_append]; omega), List.length_append, h1, h2, List.getElem?_drop, rowL_get]
      have : ¬ (off ≤ o ∧ o < off + m) := by omega
      simp only [this, if_false]
      rw [show off + m + (o - (off + m)) = o by omega]

/-- n rows, the j-th in block 'g j'. -/
def Grid (w : World) (g : Nat → Nat) (n : Nat) (C : Nat → Nat → Int) : Prop := ∀ j, j < n → w.heap[g j]? = some (.cells (rowA (C j)) 5 (0, 0))

theorem Grid.of_same {w w' : World} {g : Nat → Nat} {n : Nat} {C : Nat → Nat → Int} (h : Grid w g n C) (hs : ∀ j, j < n → w'.heap[g j]? = w.heap[g j]?) : Grid w' g n C := fun j hj => (hs j hj).trans (h j hj)
theorem Grid.cell {w : World} {g : Nat → Nat} {n : Nat} {C : Nat → Nat → Int} (h : Grid w g n C) {j o : Nat} (hj : j < n) (ho : o < 4096) : w.cell? ⟨g j, o, none⟩ = some (.int .u8 (C j o)) := by
  simp [World.cell?, h j hj, rowA_get _ o ho]
theorem Grid.frozen {w : World} {g : Nat → Nat} {n : Nat} {C : Nat → Nat → Int} (h : Grid w g n C) {j : Nat} (o : Nat) (hj : j < n) : w.frozen? ⟨g j, o, none⟩ = false := by
  simp [World.frozen?, h j hj]
theorem Grid.lt {w : World} {g : Nat → Nat} {n : Nat} {C : Nat → Nat → Int} (h : Grid w g n C) {j : Nat} (hj : j < n) : g j < w.heap.size := lt_of_some (h j hj)

theorem setCell_heap {w : World} {b o : Nat} {A : Array Value} {t : TypeId} {fr : Nat × Nat} (v : Value) (h : w.heap[b]? = some (.cells A t fr)) : (w.setCell ⟨b, o, none⟩ v).heap[b]? = some (.cells (A.setIfInBounds o v) t fr) := by
  simp [World.setCell, Array.getElem?_modify, h]

/-- One octet is stored. -/
theorem Grid.set {w : World} {g : Nat → Nat} {n : Nat} {C : Nat → Nat → Int} (h : Grid w g n C) (hg : ∀ i j, i < n → j < n → g i = g j → i = j) {j0 o : Nat} (hj : j0 < n) (ho : o < 4096) (v : Int) :
    Grid (w.setCell ⟨g j0, o, none⟩ (.int .u8 v)) g n (fun j o' => if j = j0 ∧ o' = o then v else C j o') := by
  intro j hjn
  by_cases he : j = j0
  · subst he
    rw [setCell_heap _ (h j hjn), rowA_set _ _ _ ho]
    simp
  · rw [Below.heap_setCell _ _ _ _ (fun hh => he (hg j j0 hjn hj hh)), h j hjn]
    simp [he]

/-- A row is laid anew. -/
theorem Grid.setRow {w : World} {g : Nat → Nat} {n : Nat} {C : Nat → Nat → Int} (h : Grid w g n C) (hg : ∀ i j, i < n → j < n → g i = g j → i = j) {j0 : Nat} (hj : j0 < n) (f : Nat → Int) :
    Grid (w.setRow (g j0) (rowA f)) g n (fun j o => if j = j0 then f o else C j o) := by
  intro j hjn
  by_cases he : j = j0
  · subst he
    rw [setRow_heap _ _ _ _ _ _ (h j hjn)]
    simp
  · rw [setRow_other _ _ _ _ (fun hh => he (hg j j0 hjn hj (by omega))), h j hjn]
    simp [he]

theorem Grid.congr {w : World} {g : Nat → Nat} {n : Nat} {C D : Nat → Nat → Int} (h : Grid w g n C) (he : ∀ j o, j < n → o < 4096 → C j o = D j o) : Grid w g n D := by
  intro j hj
  rw [h j hj]
  have : rowA (C j) = rowA (D j) := rowA_ext (fun o => by
    by_cases ho : o < 4096
    · rw [rowA_get _ o ho, if_pos ho, he j o hj ho]
    · rw [if_neg ho, Array.getElem?_eq_none (by rw [rowA_size]; omega)])
  rw [this]

/-- The octets from place s on, m of them, are x's; b is the number of the first block. -/
def upd (C : Nat → Nat → Int) (b s m : Nat) (x : Nat → Int) : Nat → Nat → Int :=
  fun j o => if s ≤ (b + j) * 4096 + o ∧ (b + j) * 4096 + o < s + m then x ((b + j) * 4096 + o - s) else C j o

theorem upd_zero (C : Nat → Nat → Int) (b s : Nat) (x : Nat → Int) : upd C b s 0 x = C := by
  funext j o
  unfold upd
  rw [if_neg (by omega)]

/-- One octet more. -/
theorem upd_one (C : Nat → Nat → Int) (b s m : Nat) (x : Nat → Int) (j0 o0 : Nat) (h : (b + j0) * 4096 + o0 = s + m) (ho : o0 < 4096) (j o : Nat) (hob : o < 4096) :
    (if j = j0 ∧ o = o0 then x m else upd C b s m x j o) = upd C b s (m + 1) x j o := by
  unfold upd
  by_cases he : j = j0 ∧ o = o0
  · obtain ⟨rfl, rfl⟩ := he
    rw [if_pos ⟨rfl, rfl⟩, if_pos (by omega), h, Nat.add_sub_cancel_left]
  · rw [if_neg he]
    have hne : (b + j) * 4096 + o ≠ s + m := by omega
    by_cases hs : s ≤ (b + j) * 4096 + o ∧ (b + j) * 4096 + o < s + m
    · rw [if_pos hs, if_pos (by omega)]
    · rw [if_neg hs, if_neg (by omega)]

/-- So many octets more, all in one row. -/
theorem upd_more (C : Nat → Nat → Int) (b s m k : Nat) (x : Nat → Int) (j0 o0 : Nat) (h : (b + j0) * 4096 + o0 = s + m) (ho : o0 + k ≤ 4096) (j o : Nat) (hob : o < 4096) :
    (if j = j0 then (if o0 ≤ o ∧ o < o0 + k then x (m + (o - o0)) else upd C b s m x j0 o) else upd C b s m x j o) = upd C b s (m + k) x j o := by
  by_cases he : j = j0
  · subst he
    rw [if_pos rfl]
    unfold upd
    by_cases hk : o0 ≤ o ∧ o < o0 + k
    · rw [if_pos hk, if_pos (by omega)]
      congr 1
      omega
    · rw [if_neg hk]
      by_cases hs : s ≤ (b + j) * 4096 + o ∧ (b + j) * 4096 + o < s + m
      · rw [if_pos hs, if_pos (by omega)]
      · rw [if_neg hs, if_neg (by omega)]
  · rw [if_neg he]
    unfold upd
    by_cases hs : s ≤ (b + j) * 4096 + o ∧ (b + j) * 4096 + o < s + m
    · rw [if_pos hs, if_pos (by omega)]
    · rw [if_neg hs, if_neg (by omega)]

end LawA
end Go.Proofs.Ybulkdhvc
