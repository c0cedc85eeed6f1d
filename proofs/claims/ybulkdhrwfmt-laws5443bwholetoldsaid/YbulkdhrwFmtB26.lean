/- The law at heads that 'argument' reads bytes for (26). -/
import Derived.Test.YbulkdhrwFmtA8
namespace Go.Proofs.YbulkdhrwFmt
open Go.RowKit Go.Extern.Stop Go.Stop Go.Extern
set_option linter.unusedSimpArgs false
set_option linter.unusedVariables false
attribute [local go_sem ↓] Go.wp_at_zero Go.wp_at_succ

set_option maxRecDepth 100000 in
set_option maxHeartbeats 4000000 in
theorem law_26_no (left : Int) (a : Option Addr) (n c : Nat) (zs : List Int) (aT aU aE : Addr) (w : World) (hn : n ≤ 1048576) (hrow : IsRow w a n c zs) (hv : Vars w aT aU aE) (hl : -9223372036854775808 ≤ left) (hl2 : left ≤ 9223372036854775807) :
    Calls Ybaf.prog 3 #[.int .u8 26, .slice a n c, .int .i64 left, .bool false] w fun e w' => e = .returned (.bool true) ∧ Below w.heap.size w w' := by
  have HC : Hid (Conv w (.slice a n c) (strOfNums (zs.take n))) := data_conv hrow
  have HR : Hid (IsRow w a n c zs) := hrow
  have HV : Hid (Vars w aT aU aE) := hv
  have h3 : 3 < w.heap.size := World.block_lt_of_cell? w _ hv.cE
  clear hrow hv
  go_enter Ybaf.func3, Ybaf.ntmps3
  go_wp2_with (go_at_call 5; refine (clone_any a n c zs _ HR.out hn).mono ?_; rintro e w1 ⟨vo, rfl, hco, hb1⟩; have HO : Hid (Conv w1 vo (strOfNums (zs.take n))) := hco; clear hco)
  have hbW := (((Bel.of hb1).alloc (.cells #[.slice a n c, .int .i64 0, .nilIface, .int .i64 0] 29)).alloc (.cells #[.iface 27 (.pointer (some ⟨w1.heap.size, 0, none⟩)), .int .i64 left] 34)).1
  have hvW := HV.out.below hbW
  refine (arg_loop (w1.heap.size) (w1.heap.size + 1) a n c 4 left 26 zs aE aT aU .nilIface (err aU) _ (by simp) (rd_start w1 (.slice a n c) .nilIface left) (by omega) hl hl2 hn (row_len HR.out).1 (row_len HR.out).2.2 (row_cells HR.out hbW _ hb1.size) hvW.cT hvW.cU hvW.cE (Nat.lt_of_lt_of_le h3 hb1.size) (.inl ⟨rfl, hvW.cU⟩)).mono ?_
  rintro e w3 ⟨hend, hb3⟩
  have B3 : Hid (Below w.heap.size w w3) := hbW.trans (hb3.mono hb1.size)
  have k1 := HC.out _ B3.out
  have k2 := HO.out w3 ((((Bel.start w1).alloc _).alloc _).1.trans hb3)
  obtain ⟨cT, cU, _, _, _, _⟩ := HV.out.below B3.out
  have hself := eql_self
  clear hb3 hvW hbW
  rcases hend with ⟨g1, g2, rfl, hrd⟩ | ⟨k, g1, g2, g3, rfl, hrd⟩ | ⟨g1, g2, rfl, hrd⟩
  · obtain ⟨_, r1, _, r3, _, i1, _, _⟩ := hrd
    obtain ⟨bD, off, rfl, hbD, hcz⟩ := (row_cells HR.out B3.out w.heap.size (Nat.le_refl _)).resolve_left (by omega)
    have hbz := (row_len HR.out).2.2
    have hnc := (row_len HR.out).2.1
    have hnz := (row_len HR.out).1
    have cz0 := hcz 0 (by omega)
    have z0 := hbz (zs.getD 0 0) (getD_mem zs 0 (by omega))
    have cz1 := hcz 1 (by omega)
    have z1 := hbz (zs.getD 1 0) (getD_mem zs 1 (by omega))
    have cz2 := hcz 2 (by omega)
    have z2 := hbz (zs.getD 2 0) (getD_mem zs 2 (by omega))
    have cz3 := hcz 3 (by omega)
    have z3 := hbz (zs.getD 3 0) (getD_mem zs 3 (by omega))
    have hsrc : Hid (∀ (o : Obj) j v, ([.int .u8 (zs.getD 0 0), .int .u8 (zs.getD 1 0), .int .u8 (zs.getD 2 0), .int .u8 (zs.getD 3 0)] : List Value)[j]? = some v → (w3.alloc o).drew.cell? ((⟨bD, off, none⟩ : Addr).add j) = some v) := by
      intro o j v hj
      rw [addr_add, World.cell?_drew]
      refine Lib.cell?_alloc_some o ?_
      match j, hj with
      | 0, hj => rw [cz0]; simpa using hj
      | 1, hj => rw [cz1]; simpa using hj
      | 2, hj => rw [cz2]; simpa using hj
      | 3, hj => rw [cz3]; simpa using hj
    have hbe : be (zs.take 4) = be [0, 0, 0, 0, zs.getD 0 0, zs.getD 1 0, zs.getD 2 0, zs.getD 3 0] := by rw [take_succ_getD zs 3 (by omega), take_succ_getD zs 2 (by omega), take_succ_getD zs 1 (by omega), take_succ_getD zs 0 (by omega)]; simp [be]
    rw [hbe]
    clear hbe
    have r1 : w3.cell? ⟨w1.heap.size, 1, none⟩ = some (.int .i64 4) := r1
    have i1 : w3.cell? ⟨w1.heap.size + 1, 1, none⟩ = some (.int .i64 (left - 4)) := i1
    clear hcz hbz
    generalize zs.getD 0 0 = y0 at *
    generalize zs.getD 1 0 = y1 at *
    generalize zs.getD 2 0 = y2 at *
    generalize zs.getD 3 0 = y3 at *
    have hwr : IntKind.i64.wrap 4 = 4 := by decide
    have hwl : IntKind.i64.wrap (left - 4) = left - 4 := wrap_i64 _ (by omega) (by omega)
    have hcS : (4 : Int) ≤ (c : Int) := by omega
    have hgz : Hid (∀ o : Obj, (w3.alloc o).drew.heap[w3.heap.size]? = some o) := fun o => heap_new w3 o
    have hbz : Hid (∀ o : Obj, Below w3.heap.size w3 (w3.alloc o).drew) := fun o => ((Bel.start w3).alloc o).drew.1
    by_cases hm : (n : Int) < left
    all_goals
      go_wp2_with (go_at_call 8; refine (equal_same _ _ _ _ k1 k2).mono ?_; rintro e w3 ⟨rfl, rfl⟩)
      go_region_law (refine step_copy_splice rfl (.tmp 141) (.tmp 144) 22 22 rfl 5 Ybaf.underlying22 size5 (some ⟨w3.heap.size, 4, none⟩) (some ⟨bD, off, none⟩) 4 4 4 c (by simp [Act.eval, Act.put]) (by simp [Act.eval, Act.put]) w3.heap.size 4 [.int .u8 0, .int .u8 0, .int .u8 0, .int .u8 0, .int .u8 0, .int .u8 0, .int .u8 0, .int .u8 0] 39 (hgz.out _) [.int .u8 y0, .int .u8 y1, .int .u8 y2, .int .u8 y3] rfl (fun _ => ⟨rfl, _, rfl, hsrc.out _⟩) (by simp) (by exact oneInts [y0, y1, y2, y3]) w3.heap.size w3 (hbz.out _) (Nat.le_refl _) ?_; intro w5 hg5 hb5)
      have e0 := fun j => cell_of_row (j := j) hg5.out
      have d0 := e0 0
      have d1 := e0 1
      have d2 := e0 2
      have d3 := e0 3
      have d4 := e0 4
      have d5 := e0 5
      have d6 := e0 6
      have d7 := e0 7
      simp only [splice, List.take, List.drop, List.length, List.cons_append, List.nil_append, List.getElem?_cons_zero, List.getElem?_cons_succ, Nat.reduceAdd] at d0 d1 d2 d3 d4 d5 d6 d7
      have r1' := (hb5.cell (p := ⟨w1.heap.size, 1, none⟩) (World.block_lt_of_cell? _ _ r1)).trans r1
      have i1' := (hb5.cell (p := ⟨w1.heap.size + 1, 1, none⟩) (World.block_lt_of_cell? _ _ i1)).trans i1
      clear e0
      have hbv : Hid (Below w.heap.size w w5) := B3.out.trans (hb5.mono B3.out.size)
      have hle : Hid (w.heap.size ≤ w5.heap.size) := hbv.out.size
      go_wp2
      go_region_held3 (fun w' => w'.cell? ⟨w1.heap.size, 1, none⟩ = some (.int .i64 4) ∧ w'.cell? ⟨w1.heap.size + 1, 1, none⟩ = some (.int .i64 (left - 4))) (first | go_keep | exact ⟨(hb6.cell (p := ⟨w1.heap.size, 1, none⟩) (World.block_lt_of_cell? w5 _ r1')).trans r1', (hb6.cell (p := ⟨w1.heap.size + 1, 1, none⟩) (World.block_lt_of_cell? w5 _ i1')).trans i1'⟩) ((go_at_call 9; refine (u64_any w3.heap.size 0 0 0 0 y0 y1 y2 y3 _ (by exact d0) (by exact d1) (by exact d2) (by exact d3) (by exact d4) (by exact d5) (by exact d6) (by exact d7) (by omega) (by omega) (by omega) (by omega) z0 z1 z2 z3).mono ?_; rintro e w6 ⟨rfl, hb6⟩))
      go_wp2
      go_ret
      exact ⟨by simp, hbv.out.trans (Below.mono (w := w5) ⟨hb6.os, hb6.tape, hb6.output, hb6.size, hb6.block⟩ hle.out)⟩
  · obtain ⟨_, r1, _, r3, _, i1, _, _⟩ := hrd
    rcases g3 with rfl | ⟨g3, rfl⟩
    · go_wp2_with (go_at_call 8; refine (equal_same _ _ _ _ k1 k2).mono ?_; rintro e w3 ⟨rfl, rfl⟩)
      go_ret
      exact ⟨rfl, B3.out⟩
    · go_wp2_with (go_at_call 8; refine (equal_same _ _ _ _ k1 k2).mono ?_; rintro e w3 ⟨rfl, rfl⟩)
      go_ret
      exact ⟨rfl, B3.out⟩
  · obtain ⟨_, r1, _, r3, _, i1, _, _⟩ := hrd
    go_wp2_with (go_at_call 8; refine (equal_same _ _ _ _ k1 k2).mono ?_; rintro e w3 ⟨rfl, rfl⟩)
    go_ret
    exact ⟨rfl, B3.out⟩

set_option maxRecDepth 100000 in
set_option maxHeartbeats 4000000 in
theorem law_26_fail (left : Int) (a : Option Addr) (n c : Nat) (zs : List Int) (aT aU aE : Addr) (w : World) (hn : n ≤ 1048576) (hrow : IsRow w a n c zs) (hv : Vars w aT aU aE) (hl : -9223372036854775808 ≤ left) (hl2 : left ≤ 9223372036854775807) :
    Calls Ybaf.prog 3 #[.int .u8 26, .slice a n c, .int .i64 left, .bool true] w fun e w' => e = .returned (.bool true) ∧ Below w.heap.size w w' := by
  have HC : Hid (Conv w (.slice a n c) (strOfNums (zs.take n))) := data_conv hrow
  have HR : Hid (IsRow w a n c zs) := hrow
  have HV : Hid (Vars w aT aU aE) := hv
  have h3 : 3 < w.heap.size := World.block_lt_of_cell? w _ hv.cE
  clear hrow hv
  go_enter Ybaf.func3, Ybaf.ntmps3
  go_wp2_with (first | (go_at_call 5; refine (clone_any a n c zs _ HR.out hn).mono ?_; rintro e w1 ⟨vo, rfl, hco, hb1⟩; have HO : Hid (Conv w1 vo (strOfNums (zs.take n))) := hco; clear hco) | (go_at_call 6; refine (new_any _ _).mono ?_; rintro e w2 ⟨rfl, rfl⟩))
  have hbW := ((((Bel.of hb1).alloc (.cells #[.string ⟨#[122, 122, 115, 53, 52, 52, 51, 98, 58, 32, 114, 101, 97, 100, 101, 114, 32, 102, 97, 105, 108, 101, 100]⟩] 51)).alloc (.cells #[.slice a n c, .int .i64 0, (err ⟨w1.heap.size, 0, none⟩), .int .i64 0] 29)).alloc (.cells #[.iface 27 (.pointer (some ⟨w1.heap.size + 1, 0, none⟩)), .int .i64 left] 34)).1
  have hvW := HV.out.below hbW
  refine (arg_loop (w1.heap.size + 1) (w1.heap.size + 1 + 1) a n c 4 left 26 zs aE aT aU (err ⟨w1.heap.size, 0, none⟩) (err ⟨w1.heap.size, 0, none⟩) _ (by simp) (rd_start' (w1.alloc (.cells #[.string ⟨#[122, 122, 115, 53, 52, 52, 51, 98, 58, 32, 114, 101, 97, 100, 101, 114, 32, 102, 97, 105, 108, 101, 100]⟩] 51)) (w1.heap.size + 1) (by simp) (.slice a n c) (err ⟨w1.heap.size, 0, none⟩) left) (by omega) hl hl2 hn (row_len HR.out).1 (row_len HR.out).2.2 (row_cells HR.out hbW _ (Nat.le_succ_of_le hb1.size)) hvW.cT hvW.cU hvW.cE (Nat.lt_of_lt_of_le h3 (Nat.le_succ_of_le hb1.size)) (end_fail hb1 HV.out.sE.choose_spec _ _ _)).mono ?_
  rintro e w3 ⟨hend, hb3⟩
  have B3 : Hid (Below w.heap.size w w3) := hbW.trans (hb3.mono (Nat.le_succ_of_le hb1.size))
  have k1 := HC.out _ B3.out
  have k2 := HO.out w3 (((((Bel.start w1).alloc _).alloc _).alloc _).1.trans (hb3.mono (Nat.le_succ _)))
  obtain ⟨cT, cU, _, _, _, _⟩ := HV.out.below B3.out
  have hself := eql_self
  clear hb3 hvW hbW
  rcases hend with ⟨g1, g2, rfl, hrd⟩ | ⟨k, g1, g2, g3, rfl, hrd⟩ | ⟨g1, g2, rfl, hrd⟩
  · obtain ⟨_, r1, _, r3, _, i1, _, _⟩ := hrd
    obtain ⟨bD, off, rfl, hbD, hcz⟩ := (row_cells HR.out B3.out w.heap.size (Nat.le_refl _)).resolve_left (by omega)
    have hbz := (row_len HR.out).2.2
    have hnc := (row_len HR.out).2.1
    have hnz := (row_len HR.out).1
    have cz0 := hcz 0 (by omega)
    have z0 := hbz (zs.getD 0 0) (getD_mem zs 0 (by omega))
    have cz1 := hcz 1 (by omega)
    have z1 := hbz (zs.getD 1 0) (getD_mem zs 1 (by omega))
    have cz2 := hcz 2 (by omega)
    have z2 := hbz (zs.getD 2 0) (getD_mem zs 2 (by omega))
    have cz3 := hcz 3 (by omega)
    have z3 := hbz (zs.getD 3 0) (getD_mem zs 3 (by omega))
    have hsrc : Hid (∀ (o : Obj) j v, ([.int .u8 (zs.getD 0 0), .int .u8 (zs.getD 1 0), .int .u8 (zs.getD 2 0), .int .u8 (zs.getD 3 0)] : List Value)[j]? = some v → (w3.alloc o).drew.cell? ((⟨bD, off, none⟩ : Addr).add j) = some v) := by
      intro o j v hj
      rw [addr_add, World.cell?_drew]
      refine Lib.cell?_alloc_some o ?_
      match j, hj with
      | 0, hj => rw [cz0]; simpa using hj
      | 1, hj => rw [cz1]; simpa using hj
      | 2, hj => rw [cz2]; simpa using hj
      | 3, hj => rw [cz3]; simpa using hj
    have hbe : be (zs.take 4) = be [0, 0, 0, 0, zs.getD 0 0, zs.getD 1 0, zs.getD 2 0, zs.getD 3 0] := by rw [take_succ_getD zs 3 (by omega), take_succ_getD zs 2 (by omega), take_succ_getD zs 1 (by omega), take_succ_getD zs 0 (by omega)]; simp [be]
    rw [hbe]
    clear hbe
    have r1 : w3.cell? ⟨w1.heap.size + 1, 1, none⟩ = some (.int .i64 4) := r1
    have i1 : w3.cell? ⟨w1.heap.size + 1 + 1, 1, none⟩ = some (.int .i64 (left - 4)) := i1
    clear hcz hbz
    generalize zs.getD 0 0 = y0 at *
    generalize zs.getD 1 0 = y1 at *
    generalize zs.getD 2 0 = y2 at *
    generalize zs.getD 3 0 = y3 at *
    have hwr : IntKind.i64.wrap 4 = 4 := by decide
    have hwl : IntKind.i64.wrap (left - 4) = left - 4 := wrap_i64 _ (by omega) (by omega)
    have hcS : (4 : Int) ≤ (c : Int) := by omega
    have hgz : Hid (∀ o : Obj, (w3.alloc o).drew.heap[w3.heap.size]? = some o) := fun o => heap_new w3 o
    have hbz : Hid (∀ o : Obj, Below w3.heap.size w3 (w3.alloc o).drew) := fun o => ((Bel.start w3).alloc o).drew.1
    by_cases hm : (n : Int) < left
    all_goals
      go_wp2_with (go_at_call 8; refine (equal_same _ _ _ _ k1 k2).mono ?_; rintro e w3 ⟨rfl, rfl⟩)
      go_region_law (refine step_copy_splice rfl (.tmp 141) (.tmp 144) 22 22 rfl 5 Ybaf.underlying22 size5 (some ⟨w3.heap.size, 4, none⟩) (some ⟨bD, off, none⟩) 4 4 4 c (by simp [Act.eval, Act.put]) (by simp [Act.eval, Act.put]) w3.heap.size 4 [.int .u8 0, .int .u8 0, .int .u8 0, .int .u8 0, .int .u8 0, .int .u8 0, .int .u8 0, .int .u8 0] 39 (hgz.out _) [.int .u8 y0, .int .u8 y1, .int .u8 y2, .int .u8 y3] rfl (fun _ => ⟨rfl, _, rfl, hsrc.out _⟩) (by simp) (by exact oneInts [y0, y1, y2, y3]) w3.heap.size w3 (hbz.out _) (Nat.le_refl _) ?_; intro w5 hg5 hb5)
      have e0 := fun j => cell_of_row (j := j) hg5.out
      have d0 := e0 0
      have d1 := e0 1
      have d2 := e0 2
      have d3 := e0 3
      have d4 := e0 4
      have d5 := e0 5
      have d6 := e0 6
      have d7 := e0 7
      simp only [splice, List.take, List.drop, List.length, List.cons_append, List.nil_append, List.getElem?_cons_zero, List.getElem?_cons_succ, Nat.reduceAdd] at d0 d1 d2 d3 d4 d5 d6 d7
      have r1' := (hb5.cell (p := ⟨w1.heap.size + 1, 1, none⟩) (World.block_lt_of_cell? _ _ r1)).trans r1
      have i1' := (hb5.cell (p := ⟨w1.heap.size + 1 + 1, 1, none⟩) (World.block_lt_of_cell? _ _ i1)).trans i1
      clear e0
      have hbv : Hid (Below w.heap.size w w5) := B3.out.trans (hb5.mono B3.out.size)
      have hle : Hid (w.heap.size ≤ w5.heap.size) := hbv.out.size
      go_wp2
      go_region_held3 (fun w' => w'.cell? ⟨w1.heap.size + 1, 1, none⟩ = some (.int .i64 4) ∧ w'.cell? ⟨w1.heap.size + 1 + 1, 1, none⟩ = some (.int .i64 (left - 4))) (first | go_keep | exact ⟨(hb6.cell (p := ⟨w1.heap.size + 1, 1, none⟩) (World.block_lt_of_cell? w5 _ r1')).trans r1', (hb6.cell (p := ⟨w1.heap.size + 1 + 1, 1, none⟩) (World.block_lt_of_cell? w5 _ i1')).trans i1'⟩) ((go_at_call 9; refine (u64_any w3.heap.size 0 0 0 0 y0 y1 y2 y3 _ (by exact d0) (by exact d1) (by exact d2) (by exact d3) (by exact d4) (by exact d5) (by exact d6) (by exact d7) (by omega) (by omega) (by omega) (by omega) z0 z1 z2 z3).mono ?_; rintro e w6 ⟨rfl, hb6⟩))
      go_wp2
      go_ret
      exact ⟨by simp, hbv.out.trans (Below.mono (w := w5) ⟨hb6.os, hb6.tape, hb6.output, hb6.size, hb6.block⟩ hle.out)⟩
  · obtain ⟨_, r1, _, r3, _, i1, _, _⟩ := hrd
    rcases g3 with rfl | ⟨g3, rfl⟩
    · go_wp2_with (go_at_call 8; refine (equal_same _ _ _ _ k1 k2).mono ?_; rintro e w3 ⟨rfl, rfl⟩)
      go_ret
      exact ⟨rfl, B3.out⟩
    · go_wp2_with (go_at_call 8; refine (equal_same _ _ _ _ k1 k2).mono ?_; rintro e w3 ⟨rfl, rfl⟩)
      go_ret
      exact ⟨rfl, B3.out⟩
  · obtain ⟨_, r1, _, r3, _, i1, _, _⟩ := hrd
    go_wp2_with (go_at_call 8; refine (equal_same _ _ _ _ k1 k2).mono ?_; rintro e w3 ⟨rfl, rfl⟩)
    go_ret
    exact ⟨rfl, B3.out⟩

end Go.Proofs.YbulkdhrwFmt
