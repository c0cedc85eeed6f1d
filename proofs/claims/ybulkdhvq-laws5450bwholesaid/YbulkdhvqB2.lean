/- The law over Message.Param: the rows that it lays. -/
import Derived.Test.YbulkdhvqB1
import Derived.LaidEqlPtr
namespace Go.Proofs.Ybulkdhvq
open Go.RowKit
set_option linter.unusedSimpArgs false
set_option linter.unusedVariables false

theorem info28 : (Yba.prog.info? 28).map (fun i => (i.zero, i.size, i.bytes)) = some (some (.agg #[.int .u16 0, .slice none 0 0]), 2, 32) := by kernel_rfl
/-- A row of n parameters, all zero. -/
def prow (n : Nat) : Array Value := madeCells #[.int .u16 0, .slice none 0 0] (n * 2)
theorem prow_size (n : Nat) : (prow n).size = n * 2 := by unfold prow; rw [size_madeCells]
theorem mk27 (n : Nat) (hn : n ≤ 4194304) (w : World) : (Instr.makeSlice 27 (.int .i64 n) (.int .i64 n)).run Yba.prog w = .ok (.slice (some ⟨w.heap.size, 0, none⟩) n n) (w.alloc (.cells (prow n) 28)) := by
  obtain ⟨i, hi, hz, hs, hb⟩ := info_parts info28
  have h := run_make (P := Yba.prog) w 27 28 i _ Yba.underlying27 hi hz .i64 .i64 n n (by omega) (by omega) (by rw [hb]; omega) (by omega)
  rw [hs] at h
  simpa [prow, Value.cells] using h

/-- The parameters as they came in. -/
structure PS (w : World) (ao : Option Addr) (n : Nat) (T : Nat → Int) (va : Nat → Option Addr) (vl vc : Nat → Nat) (zs : Nat → List Int) : Prop where
  at_ : n = 0 ∨ ∃ bD off, ao = some ⟨bD, off, none⟩ ∧ ∀ j, j < n → w.cell? ⟨bD, off + j * 2, none⟩ = some (.int .u16 (T j)) ∧ w.cell? ⟨bD, off + j * 2 + 1, none⟩ = some (.slice (va j) (vl j) (vc j))
  nil : ao = none → n = 0
  rows : ∀ j, j < n → IsRow w (va j) (vl j) (vc j) (zs j)

/-- The first k parameters have been laid in block g. -/
structure Laid (w : World) (g n k : Nat) (T : Nat → Int) (va : Nat → Option Addr) (vl vc : Nat → Nat) (A : Array Value) : Prop where
  row : w.heap[g]? = some (.cells A 28 (0, 0))
  size : A.size = n * 2
  tag : ∀ j, j < k → A[j * 2]? = some (.int .u16 (T j))
  val : ∀ j, j < k → A[j * 2 + 1]? = some (.slice (va j) (vl j) (vc j))

theorem laid_start (w : World) (n : Nat) (T : Nat → Int) (va : Nat → Option Addr) (vl vc : Nat → Nat) : Laid (w.alloc (.cells (prow n) 28)) w.heap.size n 0 T va vl vc (prow n) :=
  ⟨heap_new _ _, prow_size n, fun j hj => by omega, fun j hj => by omega⟩

theorem set2_get (A : Array Value) (n k : Nat) (hA : A.size = n * 2) (hk : k < n) (x y : Value) (j : Nat) :
    ((A.setIfInBounds (k * 2) x).setIfInBounds (k * 2 + 1) y)[j]? = if j = k * 2 then some x else if j = k * 2 + 1 then some y else A[j]? := by
  rw [Array.getElem?_setIfInBounds, Array.getElem?_setIfInBounds, Array.size_setIfInBounds, hA]
  by_cases h1 : j = k * 2
  · subst h1
    rw [if_neg (by omega), if_pos rfl, if_pos (by omega), if_pos rfl]
  · by_cases h2 : j = k * 2 + 1
    · subst h2
      rw [if_pos rfl, if_pos (by omega), if_neg (by omega), if_pos rfl]
    · rw [if_neg (by omega), if_neg (by omega), if_neg h1, if_neg h2]

theorem set2_heap {w : World} {g k : Nat} {A : Array Value} {t : TypeId} (h : w.heap[g]? = some (.cells A t (0, 0))) (x y : Value) :
    ((w.setCell ⟨g, k * 2, none⟩ x).setCell ⟨g, k * 2 + 1, none⟩ y).heap[g]? = some (.cells ((A.setIfInBounds (k * 2) x).setIfInBounds (k * 2 + 1) y) t (0, 0)) :=
  setCell_heap _ (setCell_heap _ h)

theorem Laid.next {w w' : World} {g n k : Nat} {T : Nat → Int} {va : Nat → Option Addr} {vl vc : Nat → Nat} {A : Array Value} (h : Laid w g n k T va vl vc A) (hk : k < n) :
    Laid ((w.setCell ⟨g, k * 2, none⟩ (.int .u16 (T k))).setCell ⟨g, k * 2 + 1, none⟩ (.slice (va k) (vl k) (vc k))) g n (k + 1) T va vl vc ((A.setIfInBounds (k * 2) (.int .u16 (T k))).setIfInBounds (k * 2 + 1) (.slice (va k) (vl k) (vc k))) := by
  refine ⟨set2_heap h.row _ _, by simp [h.size], fun j hj => ?_, fun j hj => ?_⟩
  · rw [set2_get A n k h.size hk]
    by_cases e : j = k
    · subst e; rw [if_pos rfl]
    · rw [if_neg (by omega), if_neg (by omega)]; exact h.tag j (by omega)
  · rw [set2_get A n k h.size hk]
    by_cases e : j = k
    · subst e; rw [if_neg (by omega), if_pos rfl]
    · rw [if_neg (by omega), if_neg (by omega)]; exact h.val j (by omega)

theorem Laid.of_heap {w w' : World} {g n k : Nat} {T : Nat → Int} {va : Nat → Option Addr} {vl vc : Nat → Nat} {A : Array Value} (h : Laid w g n k T va vl vc A) (hs : w'.heap[g]? = w.heap[g]?) : Laid w' g n k T va vl vc A :=
  ⟨hs.trans h.row, h.size, h.tag, h.val⟩
theorem Laid.ctag {w : World} {g n k : Nat} {T : Nat → Int} {va : Nat → Option Addr} {vl vc : Nat → Nat} {A : Array Value} (h : Laid w g n k T va vl vc A) {j : Nat} (hj : j < k) : w.cell? ⟨g, j * 2, none⟩ = some (.int .u16 (T j)) := (cell_heap h.row).trans (h.tag j hj)
theorem Laid.cval {w : World} {g n k : Nat} {T : Nat → Int} {va : Nat → Option Addr} {vl vc : Nat → Nat} {A : Array Value} (h : Laid w g n k T va vl vc A) {j : Nat} (hj : j < k) : w.cell? ⟨g, j * 2 + 1, none⟩ = some (.slice (va j) (vl j) (vc j)) := (cell_heap h.row).trans (h.val j hj)

/-- The first k parameters have been copied, the values in memory of their own, into block g. -/
structure Copied (w : World) (g n k : Nat) (T : Nat → Int) (va : Nat → Option Addr) (vl : Nat → Nat) (zs : Nat → List Int) (A : Array Value) : Prop where
  row : w.heap[g]? = some (.cells A 28 (0, 0))
  size : A.size = n * 2
  tag : ∀ j, j < k → A[j * 2]? = some (.int .u16 (T j))
  val : ∀ j, j < k → ∃ v, A[j * 2 + 1]? = some v ∧ Cloned w (g + 1) (va j) (vl j) (zs j) v

theorem copied_start (w : World) (n : Nat) (T : Nat → Int) (va : Nat → Option Addr) (vl : Nat → Nat) (zs : Nat → List Int) : Copied (w.alloc (.cells (prow n) 28)) w.heap.size n 0 T va vl zs (prow n) :=
  ⟨heap_new _ _, prow_size n, fun j hj => by omega, fun j hj => by omega⟩

theorem Cloned.of_heap {w w' : World} {B n : Nat} {a : Option Addr} {zs : List Int} {v : Value} (h : Cloned w B a n zs v) (hs : ∀ g, B ≤ g → g < w.heap.size → w'.heap[g]? = w.heap[g]?) : Cloned w' B a n zs v := by
  rcases h with h | ⟨h1, g, h2, h3, h4⟩
  · exact .inl h
  · exact .inr ⟨h1, g, h2, h3, (hs g h2 (lt_of_some h4)).trans h4⟩
theorem Cloned.mono {w : World} {B B' n : Nat} {a : Option Addr} {zs : List Int} {v : Value} (h : Cloned w B a n zs v) (hb : B' ≤ B) : Cloned w B' a n zs v := by
  rcases h with h | ⟨h1, g, h2, h3, h4⟩
  · exact .inl h
  · exact .inr ⟨h1, g, by omega, h3, h4⟩
theorem Copied.below {w w' : World} {g n k : Nat} {T : Nat → Int} {va : Nat → Option Addr} {vl : Nat → Nat} {zs : Nat → List Int} {A : Array Value} (h : Copied w g n k T va vl zs A) (hb : Below w.heap.size w w') : Copied w' g n k T va vl zs A :=
  ⟨(hb.block _ (lt_of_some h.row)).trans h.row, h.size, h.tag, fun j hj => by
    obtain ⟨v, h1, h2⟩ := h.val j hj
    exact ⟨v, h1, h2.of_heap (fun g' _ hlt => hb.block g' hlt)⟩⟩
theorem Copied.next {w w1 w' : World} {g n k : Nat} {T : Nat → Int} {va : Nat → Option Addr} {vl : Nat → Nat} {zs : Nat → List Int} {A : Array Value} {v : Value} (h : Copied w g n k T va vl zs A) (hb : Below w.heap.size w w1) (hv : Cloned w1 w.heap.size (va k) (vl k) (zs k) v) (hk : k < n) :
    Copied ((w1.setCell ⟨g, k * 2, none⟩ (.int .u16 (T k))).setCell ⟨g, k * 2 + 1, none⟩ v) g n (k + 1) T va vl zs ((A.setIfInBounds (k * 2) (.int .u16 (T k))).setIfInBounds (k * 2 + 1) v) := by
  have h1 := h.below hb
  have hlt := lt_of_some h.row
  have oth : ∀ g', g + 1 ≤ g' → ((w1.setCell ⟨g, k * 2, none⟩ (.int .u16 (T k))).setCell ⟨g, k * 2 + 1, none⟩ v).heap[g']? = w1.heap[g']? := fun g' hg => by
    rw [Below.heap_setCell _ _ _ _ (by show g' ≠ g; omega), Below.heap_setCell _ _ _ _ (by show g' ≠ g; omega)]
  refine ⟨set2_heap h1.row _ _, by simp [h.size], fun j hj => ?_, fun j hj => ?_⟩
  · rw [set2_get A n k h.size hk]
    by_cases e : j = k
    · subst e; rw [if_pos rfl]
    · rw [if_neg (by omega), if_neg (by omega)]; exact h.tag j (by omega)
  · rw [set2_get A n k h.size hk]
    by_cases e : j = k
    · subst e
      rw [if_neg (by omega), if_pos rfl]
      exact ⟨v, rfl, (hv.mono (by omega)).of_heap (fun g' hg _ => oth g' hg)⟩
    · rw [if_neg (by omega), if_neg (by omega)]
      obtain ⟨v', h2, h3⟩ := h1.val j (by omega)
      exact ⟨v', h2, h3.of_heap (fun g' hg _ => oth g' hg)⟩

/-- What came in and its copy read alike. -/
theorem alike_clone {w : World} {B n c : Nat} {a : Option Addr} {zs : List Int} {v : Value} (hr : IsRow w a n c zs) (h : Cloned w B a n zs v) :
    ∃ a2 c2, v = .slice a2 n c2 ∧ Alike2 w a a2 n := by
  rcases h with ⟨rfl, rfl⟩ | ⟨h1, g, h2, rfl, h4⟩
  · rcases hr with ⟨_, rfl, _, _⟩ | ⟨x, hx, _⟩
    · exact ⟨none, 0, rfl, rfl, .inl rfl⟩
    · cases hx
  · refine ⟨_, _, rfl, by simpa using h1, ?_⟩
    rcases row_cells hr with hn | ⟨bD, off, rfl, _, hc⟩
    · exact .inl hn
    · refine .inr ⟨bD, off, g, 0, rfl, rfl, fun k hk => ⟨zs.getD k 0, hc k hk, ?_⟩⟩
      rw [cell_heap h4]
      have := row_len hr
      simp [List.getElem?_map, List.getElem?_take, hk, List.getD, List.getElem?_eq_getElem (show k < zs.length by omega)]

theorem alike_self {w : World} {n c : Nat} {a : Option Addr} {zs : List Int} (hr : IsRow w a n c zs) : Alike2 w a a n := by
  refine ⟨rfl, ?_⟩
  rcases row_cells hr with hn | ⟨bD, off, rfl, _, hc⟩
  · exact .inl hn
  · exact .inr ⟨bD, off, bD, off, rfl, rfl, fun k hk => ⟨zs.getD k 0, hc k hk, hc k hk⟩⟩

theorem clone_slice (a : Option Addr) (n c : Nat) (zs : List Int) (w : World) (hrow : IsRow w a n c zs) (hn : n ≤ 4194304) :
    Calls Yba.prog 4 #[.slice a n c] w fun e w' => ∃ a2 c2, e = .returned (.slice a2 n c2) ∧ Cloned w' w.heap.size a n zs (.slice a2 n c2) ∧ Below w.heap.size w w' := by
  refine (clone_any a n c zs w hrow hn).mono ?_
  rintro e w' ⟨v, rfl, hc, hb⟩
  obtain ⟨a2, c2, rfl, _⟩ := alike_clone (hrow.below hb) hc
  exact ⟨a2, c2, rfl, hc, hb⟩

theorem neq_ptr_self (w : World) (a : Addr) : (binOp .neq 36 (.pointer (some a)) (.pointer (some a))).run Yba.prog w = .ok (.bool false) w := by
  have hi : ∃ j, Yba.prog.info? 5 = some j := by
    obtain ⟨j, hj, _⟩ := Option.map_eq_some_iff.1 size5
    exact ⟨j, hj⟩
  obtain ⟨j, hj⟩ := hi
  have h : ∀ d : Nat, (Op.equalIn (d + 1) 36 (.pointer (some a)) (.pointer (some a))).run Yba.prog w = .ok true w := fun d => by
    simp [Op.equalIn, run_underlying Yba.underlying36, sizeOf, typeInfo, hj, run_sameAddr_same]
  simp only [binOp]
  simp [Op.equal, Op.maxDepth, h 9999]

end Go.Proofs.Ybulkdhvq
