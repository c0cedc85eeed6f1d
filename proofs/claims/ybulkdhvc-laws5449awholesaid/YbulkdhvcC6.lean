/- The law's own walk. -/
import Derived.Test.YbulkdhvcC5
namespace Go.Proofs.Ybulkdhvc
namespace LawA
open Go.RowKit
open LawB (heap_new addr_add oneInts info5 size5 lt_of_some IsRow row_cells row_len)
set_option linter.unusedSimpArgs false
set_option linter.unusedVariables false

theorem neq25 (w : World) : (binOp .neq 25 (.slice none 0 0) (.slice none 0 0)).run Yba.prog w = .ok (.bool false) w := by kernel_rfl
theorem neq26 (w : World) : (binOp .neq 26 (.slice none 0 0) (.slice none 0 0)).run Yba.prog w = .ok (.bool false) w := by kernel_rfl

theorem place (b n : Nat) (a1 a3 : Int) (h1 : 0 ≤ a1) (h3 : 0 ≤ a3) (hb : b < 4294967296) (hn1 : 1 ≤ n) (hn3 : n ≤ 3) :
    ∃ s : Nat, IntKind.u64.wrap ((b : Int) * 4096 + a1 % 4000 + a3 % (((b : Int) + (n : Int)) * 4096 - ((b : Int) * 4096 + a1 % 4000) - 8)) = (s : Int) ∧ b * 4096 ≤ s ∧ s + 9 ≤ (b + n) * 4096 := by
  generalize hD : ((b : Int) + (n : Int)) * 4096 - ((b : Int) * 4096 + a1 % 4000) - 8 = D
  have hD0 : 0 < D := by omega
  have hx0 := Int.emod_nonneg a3 (show D ≠ 0 by omega)
  have hx1 := Int.emod_lt_of_pos a3 hD0
  generalize a3 % D = x at *
  refine ⟨((b : Int) * 4096 + a1 % 4000 + x).toNat, ?_, by omega, by omega⟩
  rw [u64_wrap_id _ (by omega) (by omega)]
  omega

set_option maxRecDepth 100000 in
set_option maxHeartbeats 2000000 in
theorem walk_in (b : Nat) (a1 a2 a3 a4 a5 : Int) (a : Option Addr) (len cap : Nat) (zs : List Int) (w : World)
    (h0 : b < 4294967296) (h1 : 0 ≤ a1 ∧ a1 < 65536) (h2 : 0 ≤ a2 ∧ a2 < 256) (h3 : 0 ≤ a3 ∧ a3 < 4294967296) (h4 : -9223372036854775808 ≤ a4 ∧ a4 ≤ 9223372036854775807) (h5 : 0 ≤ a5 ∧ a5 < 18446744073709551616)
    (hrow : IsRow .u8 w a len cap zs) (hl : len ≤ 1048576) :
    Calls Yba.prog 3 #[.int .u32 b, .int .u16 a1, .int .u8 a2, .int .u32 a3, .int .i64 a4, .int .u64 a5, .slice a len cap] w fun e w' => e = .returned (.bool true) ∧ Below w.heap.size w w' := by
  have HR : Hid (IsRow .u8 w a len cap zs) := hrow
  clear hrow
  obtain ⟨n, hn⟩ : ∃ n : Nat, 1 + a2 % 3 = (n : Int) := ⟨(1 + a2 % 3).toNat, by omega⟩
  have hn1 : 1 ≤ n := by omega
  have hn3 : n ≤ 3 := by omega
  obtain ⟨s, hs, hs0, hs1⟩ := place b n a1 a3 h1.1 h3.1 h0 hn1 hn3
  have hmk := run_make_row' (P := Yba.prog) 26 25 (.slice none 0 0) 24 Yba.underlying26 info25 rfl .i64 .i64 n (by omega) (by omega)
  have hmk2 := mk4096
  have hz58 := zero58
  go_enter Yba.func3, Yba.ntmps3
  go_wp2
  go_loopw [24] (fun v wr => ∃ (j : Nat) (C : Nat → Nat → Int), j ≤ n ∧ v = .int .i64 j ∧ Hid (Made w wr n j C)) (fun v _ => n - (intOf v).toNat)
  case atStart => exact ⟨0, _, by omega, rfl, made_start w n⟩
  case round =>
    obtain ⟨j, C, hj, rfl, hmd⟩ := hrel
    obtain ⟨W1, rfl⟩ : ∃ W1, W1 = wr := ⟨_, rfl⟩
    by_cases hjn : j < n
    · go_wp2
      go_loopw [27] (fun v w2 => ∃ (i : Nat) (f : Nat → Int), i ≤ 4096 ∧ v = .int .i64 i ∧ Hid (Fill W1 w2 f)) (fun v _ => 4096 - (intOf v).toNat)
      case atStart => exact ⟨0, _, by omega, rfl, fill_start W1⟩
      case round =>
        obtain ⟨i, f, hi, rfl, hfl⟩ := hrel
        have hbW : Hid (Below w.heap.size w wr) := hmd.out.below.trans (hfl.out.below.mono (by have := hmd.out.size; omega))
        by_cases hin : i < 4096
        · have c1 : wr.cell? ⟨W1.heap.size, i, none⟩ = some (.int .u8 (f i)) := (cell_heap hfl.out.r1).trans (rowA_get f i hin)
          have c2 : wr.cell? ⟨W1.heap.size + 1, i, none⟩ = some (.int .u8 (f i)) := (cell_heap hfl.out.r2).trans (rowA_get f i hin)
          have f1 : wr.frozen? ⟨W1.heap.size, i, none⟩ = false := frozen_heap hfl.out.r1
          have f2 : wr.frozen? ⟨W1.heap.size + 1, i, none⟩ = false := frozen_heap hfl.out.r2
          have hiI : (i : Int) < 4096 := by omega
          by_cases hl0 : 0 < len
          · obtain ⟨bD, off, rfl, hbD, hc⟩ := (row_cells HR.out hbW.out).resolve_left (by omega)
            have hq0 := Int.emod_nonneg ((j : Int) * 4096 + (i : Int)) (show ((len : Nat) : Int) ≠ 0 by omega)
            have hq1 := Int.emod_lt_of_pos ((j : Int) * 4096 + (i : Int)) (show (0 : Int) < ((len : Nat) : Int) by omega)
            obtain ⟨q, hq⟩ : ∃ q : Nat, ((j : Int) * 4096 + (i : Int)) % (len : Int) = q := ⟨_, (Int.toNat_of_nonneg hq0).symm⟩
            have hql : q < len := by omega
            have cq := hc q hql
            have hqI : (q : Int) < (len : Int) := by omega
            have hl0I : (0 : Int) < (len : Int) := by omega
            clear hc hq0 hq1
            generalize zs.getD q 0 = z at *
            go_wp2
            exact ⟨⟨i + 1, _, by omega, by go_num, hfl.out.set hin z⟩, by simp [intOf]; omega⟩
          · obtain rfl : len = 0 := by omega
            go_wp2
            exact ⟨⟨i + 1, _, by omega, by go_num, hfl.out.set hin _⟩, by simp [intOf]; omega⟩
        · obtain rfl : i = 4096 := by omega
          obtain ⟨A, A1, A2, _⟩ := hmd.out.rowB
          obtain ⟨B, B1, B2, _⟩ := hmd.out.rowW
          have A1' := (hfl.out.below.block _ (by have := hmd.out.size; omega)).trans A1
          have B1' := (hfl.out.below.block _ (by have := hmd.out.size; omega)).trans B1
          have c1 : wr.cell? ⟨w.heap.size, j, none⟩ = some A[j] := (cell_heap A1').trans (Array.getElem?_eq_getElem (by omega))
          have c2 : wr.cell? ⟨w.heap.size + 1, j, none⟩ = some B[j] := (cell_heap B1').trans (Array.getElem?_eq_getElem (by omega))
          have f1 : wr.frozen? ⟨w.heap.size, j, none⟩ = false := frozen_heap A1'
          have f2 : wr.frozen? ⟨w.heap.size + 1, j, none⟩ = false := frozen_heap B1'
          have hjI : (j : Int) < (n : Int) := by omega
          clear A1 B1 A1' B1'
          generalize A[j] = va at *
          generalize B[j] = vb at *
          go_wp2
          exact ⟨⟨j + 1, _, by omega, by go_num, hmd.out.next hfl.out hjn⟩, by simp [intOf]; omega⟩
    · obtain rfl : j = n := by omega
      have nn25 : ∀ wx, (binOp .neq 25 (.slice none 0 0) (.slice none 0 0)).run Yba.prog wx = .ok (.bool false) wx := neq25
      have nn26 : ∀ wx, (binOp .neq 26 (.slice none 0 0) (.slice none 0 0)).run Yba.prog wx = .ok (.bool false) wx := neq26
      by_cases e2 : a4 = 2
      · have e2' : (a4 == 2) = true := beq_iff_eq.2 e2
        have HO : Hid (ofs a4 = 5) := by rw [Hid, ofs, if_pos e2]
        clear e2
        by_cases e3 : a5 = 0
        · have e3' : (a5 != 0) = false := by simp [e3]
          have HD : Hid (dl a5 s = 0) := by rw [Hid, dl, if_pos e3]
          clear e3
          go_wp2
          go_loopw [31] (fun v w3 => ∃ k : Nat, k ≤ 4 ∧ v = .int .i64 k ∧ Hid (Grid w3 (gW w.heap.size) j (upd C b (s + ofs a4) k (bt (dl a5 s)))) ∧ Hid (Aside W1 w3 (gW w.heap.size) j)) (fun v _ => 4 - (intOf v).toNat)
          case atStart => exact ⟨0, by omega, rfl, by rw [Hid, upd_zero]; exact hmd.out.gridW, Aside.refl _ _ _⟩
          case round =>
            obtain ⟨k, hk, rfl, hgr, has⟩ := hrel
            by_cases hk4 : k < 4
            · obtain ⟨i, hi⟩ : ∃ i : Nat, ((s : Int) + 5 + (k : Int)) / 4096 - (b : Int) = i := ⟨(s + 5 + k) / 4096 - b, by omega⟩
              obtain ⟨off, hof⟩ : ∃ off : Nat, ((s : Int) + 5 + (k : Int)) % 4096 = off := ⟨(s + 5 + k) % 4096, by omega⟩
              have hij : i < j := by omega
              have hijI : (i : Int) < (j : Int) := by omega
              have ho : off < 4096 := by omega
              have hoI : (off : Int) < 4096 := by omega
              have hpl : (b + i) * 4096 + off = s + 5 + k := by omega
              have c1 := hmd.out.cellsW (w3 := wr) (has.out.block _ (fun q _ => by unfold gW; omega)) i hij
              have c2 := hgr.out.cell hij ho
              have f2 := hgr.out.frozen off hij
              go_wp2
              refine ⟨⟨k + 1, by omega, by go_num, ?_, has.out.setCell hij _ _⟩, by simp [intOf]; omega⟩
              exact round3 (w := w) hgr.out hij ho (by rw [HO.out]; omega) _ (by rw [HD.out]; exact (bt_zero _).symm)
            · obtain rfl : k = 4 := by omega
              have hq := queue_start (b := b) s a4 ((b : Int) * 4096 + a1 % 4000) (((b : Int) + (j : Int)) * 4096) hmd.out has.out (by omega) (by omega) (by omega) hn3
              have hbx := boxes_start wr w.heap.size j s a4 ((b : Int) * 4096 + a1 % 4000) (((b : Int) + (j : Int)) * 4096)
              have hsz := has.out.size.trans hmd.out.size
              have HQ : Hid (Queue ((wr.alloc (pBox w.heap.size j ((b : Int) * 4096 + a1 % 4000) (((b : Int) + (j : Int)) * 4096))).alloc (rBox s a4)) wr.heap.size w.heap.size j b ((b : Int) * 4096 + a1 % 4000) (gB w.heap.size) C) := hq
              have HX : Hid (Boxes ((wr.alloc (pBox w.heap.size j ((b : Int) * 4096 + a1 % 4000) (((b : Int) + (j : Int)) * 4096))).alloc (rBox s a4)) wr.heap.size (wr.heap.size + 1) w.heap.size j s a4 ((b : Int) * 4096 + a1 % 4000) (((b : Int) + (j : Int)) * 4096)) := hbx
              have HSZ : Hid (wr.heap.size = w.heap.size + 2 + 2 * j) := hsz
              clear hq hbx hsz
              go_wp2_with fail
              refine (along wr.heap.size (wr.heap.size + 1) w.heap.size j b s ((b : Int) * 4096 + a1 % 4000) a4 a5 (gB w.heap.size) C _ HQ.out hs0 hs1 h5.1 h5.2 HX.out.r0 HX.out.r2).mono ?_
              rintro e w4 ⟨rfl, hgB, hkp⟩
              have hbl : Below wr.heap.size wr ((wr.alloc (pBox w.heap.size j ((b : Int) * 4096 + a1 % 4000) (((b : Int) + (j : Int)) * 4096))).alloc (rBox s a4)) := ((Below.refl _ wr).alloc (Nat.le_refl _) _).alloc (by simp) _
              have hb4 := HX.out.kept hkp (fun q hq => by have := HSZ.out; unfold gB; omega) (fun q hq => by have := HSZ.out; unfold gB; omega)
              have HGB : Hid (Grid w4 (gB w.heap.size) j (upd C b (s + ofs a4) 4 (bt (dl a5 s)))) := hgB
              have HGW : Hid (Grid w4 (gW w.heap.size) j (upd C b (s + ofs a4) 4 (bt (dl a5 s)))) := hgr.out.of_same (fun q hq => by
                have := HSZ.out
                rw [hkp.block _ (by simp; unfold gW; omega) (fun q' _ => by unfold gW gB; omega), hbl.block _ (by unfold gW; omega)])
              have HCB : Hid (∀ i, i < j → w4.cell? ⟨w.heap.size, i, none⟩ = some (.slice (some ⟨gB w.heap.size i, 0, none⟩) 4096 4096)) := fun i hi => hkp.cell (p := ⟨w.heap.size, i, none⟩) (fun q _ => by show w.heap.size ≠ _; unfold gB; omega) (HQ.out.row i hi)
              have HCW : Hid (∀ i, i < j → w4.cell? ⟨w.heap.size + 1, i, none⟩ = some (.slice (some ⟨gW w.heap.size i, 0, none⟩) 4096 4096)) := fun i hi => by
                have := HSZ.out
                exact hkp.cell (p := ⟨w.heap.size + 1, i, none⟩) (fun q _ => by show w.heap.size + 1 ≠ _; unfold gB; omega) ((hbl.cell (p := ⟨w.heap.size + 1, i, none⟩) (by show w.heap.size + 1 < _; omega)).trans (hmd.out.cellsW (has.out.block _ (fun q _ => by unfold gW; omega)) i hi))
              have HBW : Hid (Below w.heap.size w w4) := by
                have := HSZ.out
                exact ((hmd.out.below.trans (has.out.below (fun q _ => by unfold gW; omega))).trans (hbl.mono (by omega))).trans (hkp.below (fun q _ => by unfold gB; omega) (by simp; omega))
              obtain ⟨p2, p3, p4, p5, p6, p24, r0, r2, r3, r4⟩ := id hb4
              have HB4 : Hid (Boxes w4 wr.heap.size (wr.heap.size + 1) w.heap.size j s a4 ((b : Int) * 4096 + a1 % 4000) (((b : Int) + (j : Int)) * 4096)) := hb4
              clear hb4 hgB hkp hbl
              go_wp2
              go_loopw [36] (fun v w5 => ∃ i : Nat, i ≤ j ∧ v = .int .i64 i ∧ Hid (Below w4.heap.size w4 w5)) (fun v _ => j - (intOf v).toNat)
              case atStart => exact ⟨0, by omega, rfl, Below.refl _ _⟩
              case round =>
                obtain ⟨i, hi, rfl, hb5⟩ := hrel
                by_cases hij : i < j
                · have x1 := (HB4.out.below hb5.out).p2
                  have x2 := (hb5.out.cell (p := ⟨w.heap.size, i, none⟩) (World.block_lt_of_cell? w4 _ (HCB.out i hij))).trans (HCB.out i hij)
                  have x3 := (hb5.out.cell (p := ⟨w.heap.size + 1, i, none⟩) (World.block_lt_of_cell? w4 _ (HCW.out i hij))).trans (HCW.out i hij)
                  have G1 := (hb5.out.block _ (HGB.out.lt hij)).trans (HGB.out i hij)
                  have G2 := (hb5.out.block _ (HGW.out.lt hij)).trans (HGW.out i hij)
                  have hijI : (i : Int) < (j : Int) := by omega
                  have heq : Hid (∀ nq, Calls Yba.prog 6 #[.slice (some ⟨gB w.heap.size i, 0, none⟩) 4096 4096, .slice (some ⟨gW w.heap.size i, 0, none⟩) 4096 4096] (wr.drewN nq) fun e w' => e = .returned (.bool true) ∧ w' = wr.drewN nq) := fun nq =>
                    equal_same _ _ _ _ (conv_row _ _ _ (by exact G1)) (conv_row _ _ _ (by exact G2))
                  clear G1 G2
                  go_wp2
                  go_quiet ((go_at_call 6; exact Calls.quiet_of_same (heq.out _)))
                  go_wp2
                  go_roundw
                  case rel => exact ⟨i + 1, by omega, by go_num, hb5.out.trans (below_drewN (Below.refl _ _) _)⟩
                  case measure => simp [intOf]; omega
                · go_wp2
                  go_ret
                  exact ⟨rfl, HBW.out.trans (hb5.out.mono HBW.out.size)⟩
        · have e3' : (a5 != 0) = true := by simp [e3]
          have HD : Hid (dl a5 s = IntKind.u64.wrap (a5 - (s : Int)) % 4294967296) := by rw [Hid, dl, if_neg e3]
          clear e3
          go_wp2
          go_loopw [31] (fun v w3 => ∃ k : Nat, k ≤ 4 ∧ v = .int .i64 k ∧ Hid (Grid w3 (gW w.heap.size) j (upd C b (s + ofs a4) k (bt (dl a5 s)))) ∧ Hid (Aside W1 w3 (gW w.heap.size) j)) (fun v _ => 4 - (intOf v).toNat)
          case atStart => exact ⟨0, by omega, rfl, by rw [Hid, upd_zero]; exact hmd.out.gridW, Aside.refl _ _ _⟩
          case round =>
            obtain ⟨k, hk, rfl, hgr, has⟩ := hrel
            by_cases hk4 : k < 4
            · obtain ⟨i, hi⟩ : ∃ i : Nat, ((s : Int) + 5 + (k : Int)) / 4096 - (b : Int) = i := ⟨(s + 5 + k) / 4096 - b, by omega⟩
              obtain ⟨off, hof⟩ : ∃ off : Nat, ((s : Int) + 5 + (k : Int)) % 4096 = off := ⟨(s + 5 + k) % 4096, by omega⟩
              have hij : i < j := by omega
              have hijI : (i : Int) < (j : Int) := by omega
              have ho : off < 4096 := by omega
              have hoI : (off : Int) < 4096 := by omega
              have hpl : (b + i) * 4096 + off = s + 5 + k := by omega
              have c1 := hmd.out.cellsW (w3 := wr) (has.out.block _ (fun q _ => by unfold gW; omega)) i hij
              have c2 := hgr.out.cell hij ho
              have f2 := hgr.out.frozen off hij
              go_wp2
              refine ⟨⟨k + 1, by omega, by go_num, ?_, has.out.setCell hij _ _⟩, by simp [intOf]; omega⟩
              exact round3 (w := w) hgr.out hij ho (by rw [HO.out]; omega) _ (by rw [HD.out]; exact bt_shift _ _ (by omega) (by omega) hk4)
            · obtain rfl : k = 4 := by omega
              have hq := queue_start (b := b) s a4 ((b : Int) * 4096 + a1 % 4000) (((b : Int) + (j : Int)) * 4096) hmd.out has.out (by omega) (by omega) (by omega) hn3
              have hbx := boxes_start wr w.heap.size j s a4 ((b : Int) * 4096 + a1 % 4000) (((b : Int) + (j : Int)) * 4096)
              have hsz := has.out.size.trans hmd.out.size
              have HQ : Hid (Queue ((wr.alloc (pBox w.heap.size j ((b : Int) * 4096 + a1 % 4000) (((b : Int) + (j : Int)) * 4096))).alloc (rBox s a4)) wr.heap.size w.heap.size j b ((b : Int) * 4096 + a1 % 4000) (gB w.heap.size) C) := hq
              have HX : Hid (Boxes ((wr.alloc (pBox w.heap.size j ((b : Int) * 4096 + a1 % 4000) (((b : Int) + (j : Int)) * 4096))).alloc (rBox s a4)) wr.heap.size (wr.heap.size + 1) w.heap.size j s a4 ((b : Int) * 4096 + a1 % 4000) (((b : Int) + (j : Int)) * 4096)) := hbx
              have HSZ : Hid (wr.heap.size = w.heap.size + 2 + 2 * j) := hsz
              clear hq hbx hsz
              go_wp2_with fail
              refine (along wr.heap.size (wr.heap.size + 1) w.heap.size j b s ((b : Int) * 4096 + a1 % 4000) a4 a5 (gB w.heap.size) C _ HQ.out hs0 hs1 h5.1 h5.2 HX.out.r0 HX.out.r2).mono ?_
              rintro e w4 ⟨rfl, hgB, hkp⟩
              have hbl : Below wr.heap.size wr ((wr.alloc (pBox w.heap.size j ((b : Int) * 4096 + a1 % 4000) (((b : Int) + (j : Int)) * 4096))).alloc (rBox s a4)) := ((Below.refl _ wr).alloc (Nat.le_refl _) _).alloc (by simp) _
              have hb4 := HX.out.kept hkp (fun q hq => by have := HSZ.out; unfold gB; omega) (fun q hq => by have := HSZ.out; unfold gB; omega)
              have HGB : Hid (Grid w4 (gB w.heap.size) j (upd C b (s + ofs a4) 4 (bt (dl a5 s)))) := hgB
              have HGW : Hid (Grid w4 (gW w.heap.size) j (upd C b (s + ofs a4) 4 (bt (dl a5 s)))) := hgr.out.of_same (fun q hq => by
                have := HSZ.out
                rw [hkp.block _ (by simp; unfold gW; omega) (fun q' _ => by unfold gW gB; omega), hbl.block _ (by unfold gW; omega)])
              have HCB : Hid (∀ i, i < j → w4.cell? ⟨w.heap.size, i, none⟩ = some (.slice (some ⟨gB w.heap.size i, 0, none⟩) 4096 4096)) := fun i hi => hkp.cell (p := ⟨w.heap.size, i, none⟩) (fun q _ => by show w.heap.size ≠ _; unfold gB; omega) (HQ.out.row i hi)
              have HCW : Hid (∀ i, i < j → w4.cell? ⟨w.heap.size + 1, i, none⟩ = some (.slice (some ⟨gW w.heap.size i, 0, none⟩) 4096 4096)) := fun i hi => by
                have := HSZ.out
                exact hkp.cell (p := ⟨w.heap.size + 1, i, none⟩) (fun q _ => by show w.heap.size + 1 ≠ _; unfold gB; omega) ((hbl.cell (p := ⟨w.heap.size + 1, i, none⟩) (by show w.heap.size + 1 < _; omega)).trans (hmd.out.cellsW (has.out.block _ (fun q _ => by unfold gW; omega)) i hi))
              have HBW : Hid (Below w.heap.size w w4) := by
                have := HSZ.out
                exact ((hmd.out.below.trans (has.out.below (fun q _ => by unfold gW; omega))).trans (hbl.mono (by omega))).trans (hkp.below (fun q _ => by unfold gB; omega) (by simp; omega))
              obtain ⟨p2, p3, p4, p5, p6, p24, r0, r2, r3, r4⟩ := id hb4
              have HB4 : Hid (Boxes w4 wr.heap.size (wr.heap.size + 1) w.heap.size j s a4 ((b : Int) * 4096 + a1 % 4000) (((b : Int) + (j : Int)) * 4096)) := hb4
              clear hb4 hgB hkp hbl
              go_wp2
              go_loopw [36] (fun v w5 => ∃ i : Nat, i ≤ j ∧ v = .int .i64 i ∧ Hid (Below w4.heap.size w4 w5)) (fun v _ => j - (intOf v).toNat)
              case atStart => exact ⟨0, by omega, rfl, Below.refl _ _⟩
              case round =>
                obtain ⟨i, hi, rfl, hb5⟩ := hrel
                by_cases hij : i < j
                · have x1 := (HB4.out.below hb5.out).p2
                  have x2 := (hb5.out.cell (p := ⟨w.heap.size, i, none⟩) (World.block_lt_of_cell? w4 _ (HCB.out i hij))).trans (HCB.out i hij)
                  have x3 := (hb5.out.cell (p := ⟨w.heap.size + 1, i, none⟩) (World.block_lt_of_cell? w4 _ (HCW.out i hij))).trans (HCW.out i hij)
                  have G1 := (hb5.out.block _ (HGB.out.lt hij)).trans (HGB.out i hij)
                  have G2 := (hb5.out.block _ (HGW.out.lt hij)).trans (HGW.out i hij)
                  have hijI : (i : Int) < (j : Int) := by omega
                  have heq : Hid (∀ nq, Calls Yba.prog 6 #[.slice (some ⟨gB w.heap.size i, 0, none⟩) 4096 4096, .slice (some ⟨gW w.heap.size i, 0, none⟩) 4096 4096] (wr.drewN nq) fun e w' => e = .returned (.bool true) ∧ w' = wr.drewN nq) := fun nq =>
                    equal_same _ _ _ _ (conv_row _ _ _ (by exact G1)) (conv_row _ _ _ (by exact G2))
                  clear G1 G2
                  go_wp2
                  go_quiet ((go_at_call 6; exact Calls.quiet_of_same (heq.out _)))
                  go_wp2
                  go_roundw
                  case rel => exact ⟨i + 1, by omega, by go_num, hb5.out.trans (below_drewN (Below.refl _ _) _)⟩
                  case measure => simp [intOf]; omega
                · go_wp2
                  go_ret
                  exact ⟨rfl, HBW.out.trans (hb5.out.mono HBW.out.size)⟩
      · have e2' : (a4 == 2) = false := beq_eq_false_iff_ne.2 e2
        have HO : Hid (ofs a4 = 1) := by rw [Hid, ofs, if_neg e2]
        clear e2
        by_cases e3 : a5 = 0
        · have e3' : (a5 != 0) = false := by simp [e3]
          have HD : Hid (dl a5 s = 0) := by rw [Hid, dl, if_pos e3]
          clear e3
          go_wp2
          go_loopw [31] (fun v w3 => ∃ k : Nat, k ≤ 4 ∧ v = .int .i64 k ∧ Hid (Grid w3 (gW w.heap.size) j (upd C b (s + ofs a4) k (bt (dl a5 s)))) ∧ Hid (Aside W1 w3 (gW w.heap.size) j)) (fun v _ => 4 - (intOf v).toNat)
          case atStart => exact ⟨0, by omega, rfl, by rw [Hid, upd_zero]; exact hmd.out.gridW, Aside.refl _ _ _⟩
          case round =>
            obtain ⟨k, hk, rfl, hgr, has⟩ := hrel
            by_cases hk4 : k < 4
            · obtain ⟨i, hi⟩ : ∃ i : Nat, ((s : Int) + 1 + (k : Int)) / 4096 - (b : Int) = i := ⟨(s + 1 + k) / 4096 - b, by omega⟩
              obtain ⟨off, hof⟩ : ∃ off : Nat, ((s : Int) + 1 + (k : Int)) % 4096 = off := ⟨(s + 1 + k) % 4096, by omega⟩
              have hij : i < j := by omega
              have hijI : (i : Int) < (j : Int) := by omega
              have ho : off < 4096 := by omega
              have hoI : (off : Int) < 4096 := by omega
              have hpl : (b + i) * 4096 + off = s + 1 + k := by omega
              have c1 := hmd.out.cellsW (w3 := wr) (has.out.block _ (fun q _ => by unfold gW; omega)) i hij
              have c2 := hgr.out.cell hij ho
              have f2 := hgr.out.frozen off hij
              go_wp2
              refine ⟨⟨k + 1, by omega, by go_num, ?_, has.out.setCell hij _ _⟩, by simp [intOf]; omega⟩
              exact round3 (w := w) hgr.out hij ho (by rw [HO.out]; omega) _ (by rw [HD.out]; exact (bt_zero _).symm)
            · obtain rfl : k = 4 := by omega
              have hq := queue_start (b := b) s a4 ((b : Int) * 4096 + a1 % 4000) (((b : Int) + (j : Int)) * 4096) hmd.out has.out (by omega) (by omega) (by omega) hn3
              have hbx := boxes_start wr w.heap.size j s a4 ((b : Int) * 4096 + a1 % 4000) (((b : Int) + (j : Int)) * 4096)
              have hsz := has.out.size.trans hmd.out.size
              have HQ : Hid (Queue ((wr.alloc (pBox w.heap.size j ((b : Int) * 4096 + a1 % 4000) (((b : Int) + (j : Int)) * 4096))).alloc (rBox s a4)) wr.heap.size w.heap.size j b ((b : Int) * 4096 + a1 % 4000) (gB w.heap.size) C) := hq
              have HX : Hid (Boxes ((wr.alloc (pBox w.heap.size j ((b : Int) * 4096 + a1 % 4000) (((b : Int) + (j : Int)) * 4096))).alloc (rBox s a4)) wr.heap.size (wr.heap.size + 1) w.heap.size j s a4 ((b : Int) * 4096 + a1 % 4000) (((b : Int) + (j : Int)) * 4096)) := hbx
              have HSZ : Hid (wr.heap.size = w.heap.size + 2 + 2 * j) := hsz
              clear hq hbx hsz
              go_wp2_with fail
              refine (along wr.heap.size (wr.heap.size + 1) w.heap.size j b s ((b : Int) * 4096 + a1 % 4000) a4 a5 (gB w.heap.size) C _ HQ.out hs0 hs1 h5.1 h5.2 HX.out.r0 HX.out.r2).mono ?_
              rintro e w4 ⟨rfl, hgB, hkp⟩
              have hbl : Below wr.heap.size wr ((wr.alloc (pBox w.heap.size j ((b : Int) * 4096 + a1 % 4000) (((b : Int) + (j : Int)) * 4096))).alloc (rBox s a4)) := ((Below.refl _ wr).alloc (Nat.le_refl _) _).alloc (by simp) _
              have hb4 := HX.out.kept hkp (fun q hq => by have := HSZ.out; unfold gB; omega) (fun q hq => by have := HSZ.out; unfold gB; omega)
              have HGB : Hid (Grid w4 (gB w.heap.size) j (upd C b (s + ofs a4) 4 (bt (dl a5 s)))) := hgB
              have HGW : Hid (Grid w4 (gW w.heap.size) j (upd C b (s + ofs a4) 4 (bt (dl a5 s)))) := hgr.out.of_same (fun q hq => by
                have := HSZ.out
                rw [hkp.block _ (by simp; unfold gW; omega) (fun q' _ => by unfold gW gB; omega), hbl.block _ (by unfold gW; omega)])
              have HCB : Hid (∀ i, i < j → w4.cell? ⟨w.heap.size, i, none⟩ = some (.slice (some ⟨gB w.heap.size i, 0, none⟩) 4096 4096)) := fun i hi => hkp.cell (p := ⟨w.heap.size, i, none⟩) (fun q _ => by show w.heap.size ≠ _; unfold gB; omega) (HQ.out.row i hi)
              have HCW : Hid (∀ i, i < j → w4.cell? ⟨w.heap.size + 1, i, none⟩ = some (.slice (some ⟨gW w.heap.size i, 0, none⟩) 4096 4096)) := fun i hi => by
                have := HSZ.out
                exact hkp.cell (p := ⟨w.heap.size + 1, i, none⟩) (fun q _ => by show w.heap.size + 1 ≠ _; unfold gB; omega) ((hbl.cell (p := ⟨w.heap.size + 1, i, none⟩) (by show w.heap.size + 1 < _; omega)).trans (hmd.out.cellsW (has.out.block _ (fun q _ => by unfold gW; omega)) i hi))
              have HBW : Hid (Below w.heap.size w w4) := by
                have := HSZ.out
                exact ((hmd.out.below.trans (has.out.below (fun q _ => by unfold gW; omega))).trans (hbl.mono (by omega))).trans (hkp.below (fun q _ => by unfold gB; omega) (by simp; omega))
              obtain ⟨p2, p3, p4, p5, p6, p24, r0, r2, r3, r4⟩ := id hb4
              have HB4 : Hid (Boxes w4 wr.heap.size (wr.heap.size + 1) w.heap.size j s a4 ((b : Int) * 4096 + a1 % 4000) (((b : Int) + (j : Int)) * 4096)) := hb4
              clear hb4 hgB hkp hbl
              go_wp2
              go_loopw [36] (fun v w5 => ∃ i : Nat, i ≤ j ∧ v = .int .i64 i ∧ Hid (Below w4.heap.size w4 w5)) (fun v _ => j - (intOf v).toNat)
              case atStart => exact ⟨0, by omega, rfl, Below.refl _ _⟩
              case round =>
                obtain ⟨i, hi, rfl, hb5⟩ := hrel
                by_cases hij : i < j
                · have x1 := (HB4.out.below hb5.out).p2
                  have x2 := (hb5.out.cell (p := ⟨w.heap.size, i, none⟩) (World.block_lt_of_cell? w4 _ (HCB.out i hij))).trans (HCB.out i hij)
                  have x3 := (hb5.out.cell (p := ⟨w.heap.size + 1, i, none⟩) (World.block_lt_of_cell? w4 _ (HCW.out i hij))).trans (HCW.out i hij)
                  have G1 := (hb5.out.block _ (HGB.out.lt hij)).trans (HGB.out i hij)
                  have G2 := (hb5.out.block _ (HGW.out.lt hij)).trans (HGW.out i hij)
                  have hijI : (i : Int) < (j : Int) := by omega
                  have heq : Hid (∀ nq, Calls Yba.prog 6 #[.slice (some ⟨gB w.heap.size i, 0, none⟩) 4096 4096, .slice (some ⟨gW w.heap.size i, 0, none⟩) 4096 4096] (wr.drewN nq) fun e w' => e = .returned (.bool true) ∧ w' = wr.drewN nq) := fun nq =>
                    equal_same _ _ _ _ (conv_row _ _ _ (by exact G1)) (conv_row _ _ _ (by exact G2))
                  clear G1 G2
                  go_wp2
                  go_quiet ((go_at_call 6; exact Calls.quiet_of_same (heq.out _)))
                  go_wp2
                  go_roundw
                  case rel => exact ⟨i + 1, by omega, by go_num, hb5.out.trans (below_drewN (Below.refl _ _) _)⟩
                  case measure => simp [intOf]; omega
                · go_wp2
                  go_ret
                  exact ⟨rfl, HBW.out.trans (hb5.out.mono HBW.out.size)⟩
        · have e3' : (a5 != 0) = true := by simp [e3]
          have HD : Hid (dl a5 s = IntKind.u64.wrap (a5 - (s : Int)) % 4294967296) := by rw [Hid, dl, if_neg e3]
          clear e3
          go_wp2
          go_loopw [31] (fun v w3 => ∃ k : Nat, k ≤ 4 ∧ v = .int .i64 k ∧ Hid (Grid w3 (gW w.heap.size) j (upd C b (s + ofs a4) k (bt (dl a5 s)))) ∧ Hid (Aside W1 w3 (gW w.heap.size) j)) (fun v _ => 4 - (intOf v).toNat)
          case atStart => exact ⟨0, by omega, rfl, by rw [Hid, upd_zero]; exact hmd.out.gridW, Aside.refl _ _ _⟩
          case round =>
            obtain ⟨k, hk, rfl, hgr, has⟩ := hrel
            by_cases hk4 : k < 4
            · obtain ⟨i, hi⟩ : ∃ i : Nat, ((s : Int) + 1 + (k : Int)) / 4096 - (b : Int) = i := ⟨(s + 1 + k) / 4096 - b, by omega⟩
              obtain ⟨off, hof⟩ : ∃ off : Nat, ((s : Int) + 1 + (k : Int)) % 4096 = off := ⟨(s + 1 + k) % 4096, by omega⟩
              have hij : i < j := by omega
              have hijI : (i : Int) < (j : Int) := by omega
              have ho : off < 4096 := by omega
              have hoI : (off : Int) < 4096 := by omega
              have hpl : (b + i) * 4096 + off = s + 1 + k := by omega
              have c1 := hmd.out.cellsW (w3 := wr) (has.out.block _ (fun q _ => by unfold gW; omega)) i hij
              have c2 := hgr.out.cell hij ho
              have f2 := hgr.out.frozen off hij
              go_wp2
              refine ⟨⟨k + 1, by omega, by go_num, ?_, has.out.setCell hij _ _⟩, by simp [intOf]; omega⟩
              exact round3 (w := w) hgr.out hij ho (by rw [HO.out]; omega) _ (by rw [HD.out]; exact bt_shift _ _ (by omega) (by omega) hk4)
            · obtain rfl : k = 4 := by omega
              have hq := queue_start (b := b) s a4 ((b : Int) * 4096 + a1 % 4000) (((b : Int) + (j : Int)) * 4096) hmd.out has.out (by omega) (by omega) (by omega) hn3
              have hbx := boxes_start wr w.heap.size j s a4 ((b : Int) * 4096 + a1 % 4000) (((b : Int) + (j : Int)) * 4096)
              have hsz := has.out.size.trans hmd.out.size
              have HQ : Hid (Queue ((wr.alloc (pBox w.heap.size j ((b : Int) * 4096 + a1 % 4000) (((b : Int) + (j : Int)) * 4096))).alloc (rBox s a4)) wr.heap.size w.heap.size j b ((b : Int) * 4096 + a1 % 4000) (gB w.heap.size) C) := hq
              have HX : Hid (Boxes ((wr.alloc (pBox w.heap.size j ((b : Int) * 4096 + a1 % 4000) (((b : Int) + (j : Int)) * 4096))).alloc (rBox s a4)) wr.heap.size (wr.heap.size + 1) w.heap.size j s a4 ((b : Int) * 4096 + a1 % 4000) (((b : Int) + (j : Int)) * 4096)) := hbx
              have HSZ : Hid (wr.heap.size = w.heap.size + 2 + 2 * j) := hsz
              clear hq hbx hsz
              go_wp2_with fail
              refine (along wr.heap.size (wr.heap.size + 1) w.heap.size j b s ((b : Int) * 4096 + a1 % 4000) a4 a5 (gB w.heap.size) C _ HQ.out hs0 hs1 h5.1 h5.2 HX.out.r0 HX.out.r2).mono ?_
              rintro e w4 ⟨rfl, hgB, hkp⟩
              have hbl : Below wr.heap.size wr ((wr.alloc (pBox w.heap.size j ((b : Int) * 4096 + a1 % 4000) (((b : Int) + (j : Int)) * 4096))).alloc (rBox s a4)) := ((Below.refl _ wr).alloc (Nat.le_refl _) _).alloc (by simp) _
              have hb4 := HX.out.kept hkp (fun q hq => by have := HSZ.out; unfold gB; omega) (fun q hq => by have := HSZ.out; unfold gB; omega)
              have HGB : Hid (Grid w4 (gB w.heap.size) j (upd C b (s + ofs a4) 4 (bt (dl a5 s)))) := hgB
              have HGW : Hid (Grid w4 (gW w.heap.size) j (upd C b (s + ofs a4) 4 (bt (dl a5 s)))) := hgr.out.of_same (fun q hq => by
                have := HSZ.out
                rw [hkp.block _ (by simp; unfold gW; omega) (fun q' _ => by unfold gW gB; omega), hbl.block _ (by unfold gW; omega)])
              have HCB : Hid (∀ i, i < j → w4.cell? ⟨w.heap.size, i, none⟩ = some (.slice (some ⟨gB w.heap.size i, 0, none⟩) 4096 4096)) := fun i hi => hkp.cell (p := ⟨w.heap.size, i, none⟩) (fun q _ => by show w.heap.size ≠ _; unfold gB; omega) (HQ.out.row i hi)
              have HCW : Hid (∀ i, i < j → w4.cell? ⟨w.heap.size + 1, i, none⟩ = some (.slice (some ⟨gW w.heap.size i, 0, none⟩) 4096 4096)) := fun i hi => by
                have := HSZ.out
                exact hkp.cell (p := ⟨w.heap.size + 1, i, none⟩) (fun q _ => by show w.heap.size + 1 ≠ _; unfold gB; omega) ((hbl.cell (p := ⟨w.heap.size + 1, i, none⟩) (by show w.heap.size + 1 < _; omega)).trans (hmd.out.cellsW (has.out.block _ (fun q _ => by unfold gW; omega)) i hi))
              have HBW : Hid (Below w.heap.size w w4) := by
                have := HSZ.out
                exact ((hmd.out.below.trans (has.out.below (fun q _ => by unfold gW; omega))).trans (hbl.mono (by omega))).trans (hkp.below (fun q _ => by unfold gB; omega) (by simp; omega))
              obtain ⟨p2, p3, p4, p5, p6, p24, r0, r2, r3, r4⟩ := id hb4
              have HB4 : Hid (Boxes w4 wr.heap.size (wr.heap.size + 1) w.heap.size j s a4 ((b : Int) * 4096 + a1 % 4000) (((b : Int) + (j : Int)) * 4096)) := hb4
              clear hb4 hgB hkp hbl
              go_wp2
              go_loopw [36] (fun v w5 => ∃ i : Nat, i ≤ j ∧ v = .int .i64 i ∧ Hid (Below w4.heap.size w4 w5)) (fun v _ => j - (intOf v).toNat)
              case atStart => exact ⟨0, by omega, rfl, Below.refl _ _⟩
              case round =>
                obtain ⟨i, hi, rfl, hb5⟩ := hrel
                by_cases hij : i < j
                · have x1 := (HB4.out.below hb5.out).p2
                  have x2 := (hb5.out.cell (p := ⟨w.heap.size, i, none⟩) (World.block_lt_of_cell? w4 _ (HCB.out i hij))).trans (HCB.out i hij)
                  have x3 := (hb5.out.cell (p := ⟨w.heap.size + 1, i, none⟩) (World.block_lt_of_cell? w4 _ (HCW.out i hij))).trans (HCW.out i hij)
                  have G1 := (hb5.out.block _ (HGB.out.lt hij)).trans (HGB.out i hij)
                  have G2 := (hb5.out.block _ (HGW.out.lt hij)).trans (HGW.out i hij)
                  have hijI : (i : Int) < (j : Int) := by omega
                  have heq : Hid (∀ nq, Calls Yba.prog 6 #[.slice (some ⟨gB w.heap.size i, 0, none⟩) 4096 4096, .slice (some ⟨gW w.heap.size i, 0, none⟩) 4096 4096] (wr.drewN nq) fun e w' => e = .returned (.bool true) ∧ w' = wr.drewN nq) := fun nq =>
                    equal_same _ _ _ _ (conv_row _ _ _ (by exact G1)) (conv_row _ _ _ (by exact G2))
                  clear G1 G2
                  go_wp2
                  go_quiet ((go_at_call 6; exact Calls.quiet_of_same (heq.out _)))
                  go_wp2
                  go_roundw
                  case rel => exact ⟨i + 1, by omega, by go_num, hb5.out.trans (below_drewN (Below.refl _ _) _)⟩
                  case measure => simp [intOf]; omega
                · go_wp2
                  go_ret
                  exact ⟨rfl, HBW.out.trans (hb5.out.mono HBW.out.size)⟩

end LawA
end Go.Proofs.Ybulkdhvc
