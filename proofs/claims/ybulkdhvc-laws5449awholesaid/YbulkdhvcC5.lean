/- The law's own walk. -/
import Derived.Test.YbulkdhvcC4
namespace Go.Proofs.Ybulkdhvc
namespace LawA
open Go.RowKit
open LawB (heap_new addr_add oneInts info5 size5 lt_of_some IsRow row_cells row_len)
set_option linter.unusedSimpArgs false
set_option linter.unusedVariables false

theorem info25 : (Yba.prog.info? 25).map (fun i => (i.zero, i.size, i.bytes)) = some (some (.slice none 0 0), 1, 24) := by kernel_rfl
theorem mk4096 (w : World) : (Instr.makeSlice 25 (.int .i64 4096) (.int .i64 4096)).run Yba.prog w = .ok (.slice (some ⟨w.heap.size, 0, none⟩) 4096 4096) (w.alloc (.cells zrow 5)) :=
  run_make_row' (P := Yba.prog) 25 5 (.int .u8 0) 1 Yba.underlying25 info5 rfl .i64 .i64 4096 (by omega) (by omega) w

/-- The blocks of the rows that the law makes. -/
def gB (H : Nat) (j : Nat) : Nat := H + 2 + 2 * j
def gW (H : Nat) (j : Nat) : Nat := H + 3 + 2 * j
theorem gB_inj (H n : Nat) : ∀ i j, i < n → j < n → gB H i = gB H j → i = j := fun i j _ _ h => by unfold gB at h; omega
theorem gW_inj (H n : Nat) : ∀ i j, i < n → j < n → gW H i = gW H j → i = j := fun i j _ _ h => by unfold gW at h; omega

/-- Behind j rounds of the law's first loop. -/
structure Made (w wr : World) (n j : Nat) (C : Nat → Nat → Int) : Prop where
  rowB : ∃ A, wr.heap[w.heap.size]? = some (.cells A 25 (0, 0)) ∧ A.size = n ∧ ∀ i, i < j → A[i]? = some (.slice (some ⟨gB w.heap.size i, 0, none⟩) 4096 4096)
  rowW : ∃ A, wr.heap[w.heap.size + 1]? = some (.cells A 25 (0, 0)) ∧ A.size = n ∧ ∀ i, i < j → A[i]? = some (.slice (some ⟨gW w.heap.size i, 0, none⟩) 4096 4096)
  gridB : Grid wr (gB w.heap.size) j C
  gridW : Grid wr (gW w.heap.size) j C
  size : wr.heap.size = w.heap.size + 2 + 2 * j
  below : Below w.heap.size w wr

theorem made_start (w : World) (n : Nat) : Made w ((w.alloc (.cells (madeCells #[.slice none 0 0] n) 25)).alloc (.cells (madeCells #[.slice none 0 0] n) 25)) n 0 (fun _ _ => 0) := by
  have e1 : ((w.alloc (.cells (madeCells #[.slice none 0 0] n) 25)).alloc (.cells (madeCells #[.slice none 0 0] n) 25)).heap[w.heap.size]? = some (.cells (madeCells #[.slice none 0 0] n) 25 (0, 0)) := by
    rw [Below.heap_alloc _ _ _ (by simp)]
    exact heap_new _ _
  have e2 := heap_new (w.alloc (.cells (madeCells #[.slice none 0 0] n) 25)) (.cells (madeCells #[.slice none 0 0] n) 25)
  rw [World.size_alloc] at e2
  exact ⟨⟨_, e1, size_madeCells _ _, fun i hi => by omega⟩, ⟨_, e2, size_madeCells _ _, fun i hi => by omega⟩, fun j hj => by omega, fun j hj => by omega, by simp, ((Below.refl _ w).alloc (Nat.le_refl _) _).alloc (by simp) _⟩

/-- Inside the second loop: two rows of one content. -/
structure Fill (wr w2 : World) (f : Nat → Int) : Prop where
  r1 : w2.heap[wr.heap.size]? = some (.cells (rowA f) 5 (0, 0))
  r2 : w2.heap[wr.heap.size + 1]? = some (.cells (rowA f) 5 (0, 0))
  size : w2.heap.size = wr.heap.size + 2
  below : Below wr.heap.size wr w2

theorem fill_start (wr : World) : Fill wr ((wr.alloc (.cells zrow 5)).alloc (.cells zrow 5)) (fun _ => 0) := by
  have e1 : ((wr.alloc (.cells zrow 5)).alloc (.cells zrow 5)).heap[wr.heap.size]? = some (.cells zrow 5 (0, 0)) := by
    rw [Below.heap_alloc _ _ _ (by simp)]
    exact heap_new _ _
  have e2 := heap_new (wr.alloc (.cells zrow 5)) (.cells zrow 5)
  rw [World.size_alloc] at e2
  rw [zrow_eq] at e1 e2
  rw [zrow_eq]
  exact ⟨e1, e2, by simp, ((Below.refl _ wr).alloc (Nat.le_refl _) _).alloc (by simp) _⟩

theorem cell_heap {w : World} {g o : Nat} {A : Array Value} {t : TypeId} {fr : Nat × Nat} (h : w.heap[g]? = some (.cells A t fr)) : w.cell? ⟨g, o, none⟩ = A[o]? := by
  simp [World.cell?, h]
theorem frozen_heap {w : World} {g o : Nat} {A : Array Value} {t : TypeId} (h : w.heap[g]? = some (.cells A t (0, 0))) : w.frozen? ⟨g, o, none⟩ = false := by
  simp [World.frozen?, h]

theorem Fill.set {wr w2 : World} {f : Nat → Int} (h : Fill wr w2 f) {i : Nat} (hi : i < 4096) (v : Int) : Fill wr ((w2.setCell ⟨wr.heap.size, i, none⟩ (.int .u8 v)).setCell ⟨wr.heap.size + 1, i, none⟩ (.int .u8 v)) (fun o => if o = i then v else f o) := by
  refine ⟨?_, ?_, ?_, ?_⟩
  · rw [Below.heap_setCell _ _ _ _ (by show wr.heap.size ≠ wr.heap.size + 1; omega), setCell_heap _ h.r1, rowA_set _ _ _ hi]
  · have : (w2.setCell ⟨wr.heap.size, i, none⟩ (.int .u8 v)).heap[wr.heap.size + 1]? = some (.cells (rowA f) 5 (0, 0)) := by
      rw [Below.heap_setCell _ _ _ _ (by show wr.heap.size + 1 ≠ wr.heap.size; omega)]; exact h.r2
    rw [setCell_heap _ this, rowA_set _ _ _ hi]
  · simp [h.size]
  · exact (h.below.setCell (by show wr.heap.size ≤ wr.heap.size; omega) _).setCell (by show wr.heap.size ≤ wr.heap.size + 1; omega) _

/-- One round of the first loop is over. -/
theorem Made.next {w wr w2 : World} {n j : Nat} {C : Nat → Nat → Int} {f : Nat → Int} (h : Made w wr n j C) (hf : Fill wr w2 f) (hj : j < n) :
    Made w ((w2.setCell ⟨w.heap.size, j, none⟩ (.slice (some ⟨wr.heap.size, 0, none⟩) 4096 4096)).setCell ⟨w.heap.size + 1, j, none⟩ (.slice (some ⟨wr.heap.size + 1, 0, none⟩) 4096 4096)) n (j + 1) (fun j' => if j' = j then f else C j') := by
  have hsz := h.size
  obtain ⟨A, a1, a2, a3⟩ := h.rowB
  obtain ⟨B, b1, b2, b3⟩ := h.rowW
  have a1' : w2.heap[w.heap.size]? = some (.cells A 25 (0, 0)) := (hf.below.block _ (by omega)).trans a1
  have b1' : w2.heap[w.heap.size + 1]? = some (.cells B 25 (0, 0)) := (hf.below.block _ (by omega)).trans b1
  have oth : ∀ k, w.heap.size + 2 ≤ k → ((w2.setCell ⟨w.heap.size, j, none⟩ (.slice (some ⟨wr.heap.size, 0, none⟩) 4096 4096)).setCell ⟨w.heap.size + 1, j, none⟩ (.slice (some ⟨wr.heap.size + 1, 0, none⟩) 4096 4096)).heap[k]? = w2.heap[k]? := fun k hk => by
    rw [Below.heap_setCell _ _ _ _ (by show k ≠ w.heap.size + 1; omega), Below.heap_setCell _ _ _ _ (by show k ≠ w.heap.size; omega)]
  refine ⟨⟨A.setIfInBounds j (.slice (some ⟨wr.heap.size, 0, none⟩) 4096 4096), ?_, by simp [a2], fun i hi => ?_⟩, ⟨B.setIfInBounds j (.slice (some ⟨wr.heap.size + 1, 0, none⟩) 4096 4096), ?_, by simp [b2], fun i hi => ?_⟩, fun i hi => ?_, fun i hi => ?_, ?_, ?_⟩
  · rw [Below.heap_setCell _ _ _ _ (by show w.heap.size ≠ w.heap.size + 1; omega), setCell_heap _ a1']
  · rw [Array.getElem?_setIfInBounds]
    by_cases he : j = i
    · subst he
      rw [if_pos rfl, if_pos (by omega)]
      unfold gB; rw [hsz]
    · rw [if_neg he]; exact a3 i (by omega)
  · have : (w2.setCell ⟨w.heap.size, j, none⟩ (.slice (some ⟨wr.heap.size, 0, none⟩) 4096 4096)).heap[w.heap.size + 1]? = some (.cells B 25 (0, 0)) := by
      rw [Below.heap_setCell _ _ _ _ (by show w.heap.size + 1 ≠ w.heap.size; omega)]; exact b1'
    rw [setCell_heap _ this]
  · rw [Array.getElem?_setIfInBounds]
    by_cases he : j = i
    · subst he
      rw [if_pos rfl, if_pos (by omega)]
      unfold gW; rw [hsz, show w.heap.size + 2 + 2 * j + 1 = w.heap.size + 3 + 2 * j by omega]
    · rw [if_neg he]; exact b3 i (by omega)
  · rw [oth _ (by unfold gB; omega)]
    by_cases he : i = j
    · subst he
      have : gB w.heap.size i = wr.heap.size := by unfold gB; omega
      rw [this, hf.r1]; simp
    · rw [hf.below.block _ (by unfold gB; omega), h.gridB i (by omega)]; simp [he]
  · rw [oth _ (by unfold gW; omega)]
    by_cases he : i = j
    · subst he
      have : gW w.heap.size i = wr.heap.size + 1 := by unfold gW; omega
      rw [this, hf.r2]; simp
    · rw [hf.below.block _ (by unfold gW; omega), h.gridW i (by omega)]; simp [he]
  · simp [hf.size]; omega
  · exact ((h.below.trans (hf.below.mono (by omega))).setCell (by show w.heap.size ≤ w.heap.size; omega) _).setCell (by show w.heap.size ≤ w.heap.size + 1; omega) _

theorem bt_shift (d : Int) (k : Nat) (h0 : 0 ≤ d) (h1 : d < 4294967296) (hk : k < 4) : d / 2 ^ (8 * k) % 256 = bt d k := by
  match k, hk with
  | 0, _ => simp [bt]
  | 1, _ => simp [bt]
  | 2, _ => simp [bt]
  | 3, _ => simp only [bt]; have : (2 : Int) ^ (8 * 3) = 16777216 := by decide
            rw [this]; omega

theorem bt_zero (k : Nat) : bt 0 k = 0 := by
  match k with
  | 0 => rfl
  | 1 => rfl
  | 2 => rfl
  | _ + 3 => rfl

/-- One round of the third loop. -/
theorem round3 {w w3 : World} {H n b s k i off : Nat} {C : Nat → Nat → Int} {x : Nat → Int} (hgr : Grid w3 (gW H) n (upd C b s k x)) (hi : i < n) (ho : off < 4096) (hpl : (b + i) * 4096 + off = s + k) (v : Int) (hv : v = x k) :
    Grid (w3.setCell ⟨gW H i, off, none⟩ (.int .u8 v)) (gW H) n (upd C b s (k + 1) x) := by
  subst hv
  exact (hgr.set (gW_inj H n) hi ho _).congr (fun j o hj hob => upd_one C b s k x i off hpl ho j o hob)

set_option maxHeartbeats 400000 in
theorem equal_same (v1 v2 : Value) (s : ByteArray) (w : World) (h1 : (convert 25 9 v1).run Yba.prog w = .ok (.string s) w) (h2 : (convert 25 9 v2).run Yba.prog w = .ok (.string s) w) :
    Calls Yba.prog 6 #[v1, v2] w fun e w' => e = .returned (.bool true) ∧ w' = w := by
  go_enter Yba.func6, Yba.ntmps6
  go_wp2
  go_ret
  exact ⟨by simp, rfl⟩

theorem conv_row (w : World) (g : Nat) (f : Nat → Int) (h : w.heap[g]? = some (.cells (rowA f) 5 (0, 0))) : (convert 25 9 (.slice (some ⟨g, 0, none⟩) 4096 4096)).run Yba.prog w = .ok (.string (strOfNums ((List.range 4096).map f))) w := by
  refine run_convert_bytes_arg w 25 5 Yba.underlying25 Yba.underlying5 g 0 4096 4096 ((List.range 4096).map f) (by rw [List.length_map, List.length_range]) (fun i hi => ?_) 9 Yba.underlying9
  rw [Nat.zero_add, cell_heap h, rowA_get f i hi]
  have : ((List.range 4096).map f).getD i 0 = f i := by
    rw [List.getD, List.getElem?_map, List.getElem?_range hi]; rfl
  rw [this]

/-- The zero pairing's cells behind its log. -/
def tail58 : List Value := [Value.int .i64 0, Value.int .i64 0, Value.int .u64 0, Value.int .i64 0, Value.pointer none, Value.int .u64 0, Value.int .i64 0, Value.pointer none, Value.int .i64 0, Value.slice none 0 0, Value.slice none 0 0, Value.int .u64 0, Value.slice none 0 0, Value.slice none 0 0, Value.slice none 0 0, Value.slice none 0 0, Value.slice none 0 0, Value.slice none 0 0, Value.slice none 0 0, Value.pointer none, Value.pointer none, Value.int .i64 0, Value.int .i64 0, Value.int .u16 0, Value.bool false, Value.int .u8 0, Value.bool false, Value.bool false, Value.bool false, Value.bool false, Value.bool false, Value.bool false, Value.int .u8 0, Value.int .u16 0, Value.int .u16 0, Value.int .u16 0, Value.int .u16 0, Value.slice none 0 0, Value.slice none 0 0, Value.slice none 0 0, Value.slice none 0 0, Value.slice none 0 0, Value.pointer none, Value.int .u64 0, Value.int .i64 0, Value.pointer none, Value.int .i64 0, Value.slice none 0 0, Value.slice none 0 0, Value.slice none 0 0, Value.slice none 0 0, Value.slice none 0 0, Value.int .u16 0, Value.bool false, Value.int .u8 0, Value.bool false, Value.bool false, Value.bool false, Value.bool false, Value.bool false, Value.bool false, Value.int .u8 0, Value.int .u16 0, Value.int .u16 0, Value.int .u16 0, Value.int .u16 0, Value.slice none 0 0, Value.slice none 0 0, Value.slice none 0 0, Value.slice none 0 0, Value.slice none 0 0, Value.pointer none, Value.int .u64 0, Value.int .i64 0, Value.pointer none, Value.int .i64 0, Value.slice none 0 0, Value.slice none 0 0, Value.slice none 0 0, Value.slice none 0 0, Value.slice none 0 0, Value.slice none 0 0, Value.slice none 0 0]
theorem tail58_rec : tail58[17]? = some (.slice none 0 0) := rfl
theorem zero58 (w : World) : (zeroValue 58).run Yba.prog w = .ok (.agg ((.int .i64 0) :: (.int .i64 0) :: (.slice none 0 0) :: (.int .u64 0) :: (.int .u64 0) :: (.slice none 0 0) :: (.int .i64 0) :: tail58).toArray) w := by kernel_rfl

/-- The two structs that the law lays, as they lie. -/
structure Boxes (w : World) (bP bR H n s : Nat) (links fr lim : Int) : Prop where
  p2 : w.cell? ⟨bP, 2, none⟩ = some (.slice (some ⟨H, 0, none⟩) n n)
  p3 : w.cell? ⟨bP, 3, none⟩ = some (.int .u64 fr)
  p4 : w.cell? ⟨bP, 4, none⟩ = some (.int .u64 lim)
  p5 : w.cell? ⟨bP, 5, none⟩ = some (.slice none 0 0)
  p6 : w.cell? ⟨bP, 6, none⟩ = some (.int .i64 0)
  p24 : w.cell? ⟨bP, 24, none⟩ = some (.slice none 0 0)
  r0 : w.cell? ⟨bR, 0, none⟩ = some (.int .u64 s)
  r2 : w.cell? ⟨bR, 2, none⟩ = some (.int .i64 links)
  r3 : w.cell? ⟨bR, 3, none⟩ = some (.int .i32 0)
  r4 : w.cell? ⟨bR, 4, none⟩ = some (.int .i32 0)

abbrev pBox (H n : Nat) (fr lim : Int) : Obj :=
  .cells ((.int .i64 0) :: (.int .i64 0) :: (.slice (some ⟨H, 0, none⟩) n n) :: (.int .u64 fr) :: (.int .u64 lim) :: (.slice none 0 0) :: (.int .i64 0) :: tail58).toArray 58
abbrev rBox (s : Nat) (links : Int) : Obj :=
  .cells #[.int .u64 s, .int .u8 0, .int .i64 links, .int .i32 0, .int .i32 0, .int .i64 0, .int .i64 0, .int .u64 0, .int .u64 0, .int .i64 0, .int .i64 0] 62

theorem boxes_start (w : World) (H n s : Nat) (links fr lim : Int) : Boxes ((w.alloc (pBox H n fr lim)).alloc (rBox s links)) w.heap.size (w.heap.size + 1) H n s links fr lim := by
  have e1 : ((w.alloc (pBox H n fr lim)).alloc (rBox s links)).heap[w.heap.size]? = some (pBox H n fr lim) := by
    rw [Below.heap_alloc _ _ _ (by simp)]
    exact heap_new _ _
  have e2 := heap_new (w.alloc (pBox H n fr lim)) (rBox s links)
  rw [World.size_alloc] at e2
  exact ⟨by rw [cell_heap e1]; simp, by rw [cell_heap e1]; simp, by rw [cell_heap e1]; simp, by rw [cell_heap e1]; simp, by rw [cell_heap e1]; simp, by rw [cell_heap e1]; simp [tail58_rec],
    by rw [cell_heap e2]; simp, by rw [cell_heap e2]; simp, by rw [cell_heap e2]; simp, by rw [cell_heap e2]; simp⟩

theorem Boxes.kept {w w' : World} {bP bR H n s : Nat} {links fr lim : Int} {g : Nat → Nat} {m : Nat} (h : Boxes w bP bR H n s links fr lim) (hk : Kept w w' g m) (hP : ∀ j, j < m → bP ≠ g j) (hR : ∀ j, j < m → bR ≠ g j) : Boxes w' bP bR H n s links fr lim :=
  ⟨hk.cell hP h.p2, hk.cell hP h.p3, hk.cell hP h.p4, hk.cell hP h.p5, hk.cell hP h.p6, hk.cell hP h.p24, hk.cell hR h.r0, hk.cell hR h.r2, hk.cell hR h.r3, hk.cell hR h.r4⟩
theorem Boxes.below {w w' : World} {bP bR H n s : Nat} {links fr lim : Int} (h : Boxes w bP bR H n s links fr lim) (hb : Below w.heap.size w w') : Boxes w' bP bR H n s links fr lim := by
  have k : ∀ {p : Addr} {v : Value}, w.cell? p = some v → w'.cell? p = some v := fun {p v} hp => (hb.cell (World.block_lt_of_cell? w _ hp)).trans hp
  exact ⟨k h.p2, k h.p3, k h.p4, k h.p5, k h.p6, k h.p24, k h.r0, k h.r2, k h.r3, k h.r4⟩

/-- The rows of the rows, in a later world. -/
theorem Made.cellsB {w wr w3 : World} {n : Nat} {C : Nat → Nat → Int} (h : Made w wr n n C) (hs : w3.heap[w.heap.size]? = wr.heap[w.heap.size]?) (i : Nat) (hi : i < n) : w3.cell? ⟨w.heap.size, i, none⟩ = some (.slice (some ⟨gB w.heap.size i, 0, none⟩) 4096 4096) := by
  obtain ⟨A, a1, _, a3⟩ := h.rowB
  rw [cell_heap (hs.trans a1)]
  exact a3 i hi
theorem Made.cellsW {w wr w3 : World} {n : Nat} {C : Nat → Nat → Int} (h : Made w wr n n C) (hs : w3.heap[w.heap.size + 1]? = wr.heap[w.heap.size + 1]?) (i : Nat) (hi : i < n) : w3.cell? ⟨w.heap.size + 1, i, none⟩ = some (.slice (some ⟨gW w.heap.size i, 0, none⟩) 4096 4096) := by
  obtain ⟨A, a1, _, a3⟩ := h.rowW
  rw [cell_heap (hs.trans a1)]
  exact a3 i hi

theorem queue_start {w W1 w3 : World} {n b : Nat} {C : Nat → Nat → Int} (s : Nat) (links fr lim : Int) (h : Made w W1 n n C) (ha : Aside W1 w3 (gW w.heap.size) n) (hfr0 : 0 ≤ fr) (hfr : fr / 4096 = b) (hb : b ≤ 4294967296) (hn : n ≤ 3) :
    Queue ((w3.alloc (pBox w.heap.size n fr lim)).alloc (rBox s links)) w3.heap.size w.heap.size n b fr (gB w.heap.size) C := by
  have B := boxes_start w3 w.heap.size n s links fr lim
  have hsz := ha.size.trans h.size
  have hbl : Below w3.heap.size w3 ((w3.alloc (pBox w.heap.size n fr lim)).alloc (rBox s links)) := ((Below.refl _ w3).alloc (Nat.le_refl _) _).alloc (by simp) _
  refine ⟨B.p2, B.p3, B.p24, hfr0, hfr, fun j hj => ?_, fun j hj => ?_, gB_inj _ _, fun j hj => ?_, fun j hj => ?_, hb, hn⟩
  · exact h.cellsB ((hbl.block _ (by omega)).trans (ha.block _ (fun q _ => by unfold gW; omega))) j hj
  · rw [hbl.block _ (by unfold gB; omega), ha.block _ (fun q _ => by unfold gW gB; omega)]
    exact h.gridB j hj
  · unfold gB; omega
  · unfold gB; omega

end LawA
end Go.Proofs.Ybulkdhvc
