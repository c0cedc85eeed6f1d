/- framedLen and the library call under it; the law over it. -/
import Derived.Test.YbulkdhvcRows
import Derived.WalkKit
import Derived.WalkSpells
import Derived.WalkLawsBesides
import Derived.Deep.QuietTactic
import Derived.BigQuiet
import Derived.Lib.EndianBits
import Derived.Laws.CopyOwn
import Derived.Deep.OwnRows
import Derived.OpenShut
namespace Go.Proofs.Ybulkdhvc
namespace LawB
open Go.RowKit
set_option linter.unusedSimpArgs false
set_option linter.unusedVariables false

/-- A slice of bytes that came in: nil, or a row of cells. -/
def IsRow (k : IntKind) (w : World) (a : Option Addr) (len cap : Nat) (zs : List Int) : Prop :=
  (a = none ∧ len = 0 ∧ cap = 0 ∧ zs = []) ∨
  ∃ x, a = some x ∧ len ≤ cap ∧ cap ≤ maxLen ∧ zs.length = cap ∧ (∀ i, i < zs.length → w.cell? (x.add i) = some (.int k (zs.getD i 0))) ∧ ∀ n ∈ zs, (Lit.int k n).wf = true

set_option maxHeartbeats 1000000 in
theorem u16_any (b o n c : Nat) (z0 z1 : Int) (w : World) (hn : 2 ≤ n)
    (c0 : w.cell? ⟨b, o, none⟩ = some (.int .u8 z0)) (c1 : w.cell? ⟨b, o + 1, none⟩ = some (.int .u8 z1))
    (h0 : 0 ≤ z0 ∧ z0 < 256) (h1 : 0 ≤ z1 ∧ z1 < 256) :
    Calls Yba.prog 9 #[.agg #[], .slice (some ⟨b, o, none⟩) n c] w fun e w' => e = .returned (.int .u16 (z0 * 256 + z1)) ∧ Below w.heap.size w w' := by
  have d0 := Lib.cell?_alloc_some (.cells #[] 71) c0
  have d1 := Lib.cell?_alloc_some (.cells #[] 71) c1
  have q0 : 0 < n := by omega
  have q1 : (1 : Int) < (n : Int) := by omega
  go_enter Yba.func9, Yba.ntmps9
  go_wp2
  go_quiet (fail)
  go_wp2
  go_ret
  refine ⟨?_, ((Below.refl _ w).alloc (Nat.le_refl _) _).trans ⟨rfl, rfl, rfl, Nat.le_refl _, fun _ _ => rfl⟩⟩
  rw [show z0 * 256 + z1 = bits .or .u16 z1 (z0 * 256) by rw [u16_or8 _ _ h1.1 h1.2 (by omega) (by omega) (by omega)]; omega]
  rfl

set_option maxHeartbeats 1000000 in
theorem framed_short (a : Option Addr) (n c : Nat) (w : World) (hn : n < 2) :
    Calls Yba.prog 7 #[.slice a n c] w fun e w' => e = .returned (.tuple #[.int .i64 0, .bool false]) ∧ w' = w := by
  go_enter Yba.func7, Yba.ntmps7
  go_wp2
  go_ret2
  exact ⟨rfl, rfl⟩

set_option maxHeartbeats 1000000 in
theorem framed_more (b o n c : Nat) (z0 z1 : Int) (w : World) (hn : 2 ≤ n) (hm : n ≤ 1048576)
    (c0 : w.cell? ⟨b, o, none⟩ = some (.int .u8 z0)) (c1 : w.cell? ⟨b, o + 1, none⟩ = some (.int .u8 z1))
    (h0 : 0 ≤ z0 ∧ z0 < 256) (h1 : 0 ≤ z1 ∧ z1 < 256) :
    Calls Yba.prog 7 #[.slice (some ⟨b, o, none⟩) n c] w fun e w' => e = .returned (.tuple #[.int .i64 (2 + (z0 * 256 + z1)), .bool true]) ∧ Below w.heap.size w w' := by
  go_enter Yba.func7, Yba.ntmps7
  go_wp2_with (go_at_call 9; refine (u16_any b o n c z0 z1 _ hn (by exact c0) (by exact c1) h0 h1).mono ?_; rintro e w1 ⟨rfl, hb⟩)
  go_ret2
  exact ⟨rfl, hb⟩

theorem info5 : (Yba.prog.info? 5).map (fun i => (i.zero, i.size, i.bytes)) = some (some (.int .u8 0), 1, 1) := by kernel_rfl
theorem size5 : (Yba.prog.info? 5).map (·.size) = some 1 := by kernel_rfl
theorem heap_new (w : World) (o : Obj) : (w.alloc o).heap[w.heap.size]? = some o := by
  show (w.heap.push o)[w.heap.size]? = _
  simp
theorem made_row (z : Value) (n : Nat) : madeCells #[z] n = (List.replicate n z).toArray := by
  apply Array.ext'
  rw [toList_madeCells_one]
theorem addr_add (b o i : Nat) : (⟨b, o, none⟩ : Addr).add i = ⟨b, o + i, none⟩ := by
  unfold Addr.add
  split
  · simp_all
  · rfl
theorem oneInts (l : List Int) : ∀ v ∈ l.map (Value.int .u8), v.oneCell' = true := by
  intro v hv
  obtain ⟨z, _, rfl⟩ := List.mem_map.1 hv
  rfl
theorem cell_of_row {w : World} {g : Nat} {l : List Value} {t : TypeId} {fr : Nat × Nat} {j : Nat} (h : w.heap[g]? = some (.cells l.toArray t fr)) : w.cell? ⟨g, j, none⟩ = l[j]? := by
  simp [World.cell?, h]
theorem lt_of_some {w : World} {g : Nat} {o : Obj} (h : w.heap[g]? = some o) : g < w.heap.size := by
  rcases Nat.lt_or_ge g w.heap.size with h' | h'
  · exact h'
  · rw [Array.getElem?_eq_none h'] at h; cases h
theorem getD_mem (l : List Int) (k : Nat) (h : k < l.length) : l.getD k 0 ∈ l := by simp [List.getD, h]
theorem splice_all (n : Nat) (z : Value) (cs : List Value) (h : cs.length = n) : splice (List.replicate n z) 0 cs = cs := by
  simp [splice, ← h]

theorem row_cells {w W : World} {a : Option Addr} {n c : Nat} {zs : List Int} (h : IsRow .u8 w a n c zs) (hb : Below w.heap.size w W) :
    n = 0 ∨ ∃ bD off, a = some ⟨bD, off, none⟩ ∧ bD < w.heap.size ∧ ∀ k, k < n → W.cell? ⟨bD, off + k, none⟩ = some (.int .u8 (zs.getD k 0)) := by
  rcases h with ⟨rfl, rfl, rfl, rfl⟩ | ⟨x, rfl, h1, h2, h3, h4, h5⟩
  · exact .inl rfl
  · by_cases hn : n = 0
    · exact .inl hn
    · have hs : x.spot = none := by simpa [Addr.add] using World.cell?_spot (h4 0 (by omega))
      obtain ⟨b, off, sp⟩ := x
      subst hs
      have h0 := h4 0 (by omega)
      rw [addr_add] at h0
      have hlt : b < w.heap.size := World.block_lt_of_cell? w _ h0
      refine .inr ⟨b, off, rfl, hlt, fun k hk => ?_⟩
      have := h4 k (by omega)
      rw [addr_add] at this
      rw [hb.cell (p := ⟨b, off + k, none⟩) hlt]
      exact this

theorem row_len {w : World} {a : Option Addr} {n c : Nat} {zs : List Int} (h : IsRow .u8 w a n c zs) : n ≤ zs.length ∧ n ≤ maxLen ∧ ∀ z ∈ zs, 0 ≤ z ∧ z < 256 := by
  rcases h with ⟨rfl, rfl, rfl, rfl⟩ | ⟨x, rfl, h1, h2, h3, h4, h5⟩
  · exact ⟨by simp, by simp, by simp⟩
  · exact ⟨by omega, by omega, fun z hz => by have := bounds_u8 (h5 z hz); omega⟩

set_option maxRecDepth 100000 in
set_option maxHeartbeats 1000000 in
theorem walk_long (a : Option Addr) (n c : Nat) (w : World) (hn : 1048576 < n) (hm : n ≤ maxLen) :
    Calls Yba.prog 4 #[.slice a n c] w fun e w' => e = .returned (.bool true) ∧ Below w.heap.size w w' := by
  unfold maxLen at hm
  go_enter Yba.func4, Yba.ntmps4
  go_wp2
  go_ret
  exact ⟨rfl, Below.refl _ _⟩

/-- 'copy' of a slice that came in over a row that the call has just made. -/
theorem copy_in (a : Option Addr) (n c : Nat) (zs : List Int) (w : World) (hrow : IsRow .u8 w a n c zs) :
    ∃ W2, (Builtin.copy_ #[25, 25] 3 #[.slice (some ⟨w.heap.size, 0, none⟩) n n, .slice a n c]).run Yba.prog (w.alloc (.cells (madeCells #[.int .u8 0] n) 5)) = .ok (.int .i64 n) W2 ∧
      W2.heap[w.heap.size]? = some (.cells ((zs.take n).map (Value.int .u8)).toArray 5 (0, 0)) ∧ Below w.heap.size w W2 := by
  have hl : ((zs.take n).map (Value.int .u8)).length = n := by simp; exact Nat.min_eq_left (row_len hrow).1
  have hb : Below w.heap.size w (w.alloc (.cells (madeCells #[.int .u8 0] n) 5)) := (Below.refl _ w).alloc (Nat.le_refl _) _
  have hg := heap_new w (.cells (madeCells #[.int .u8 0] n) 5)
  by_cases hn : n = 0
  · subst hn
    refine ⟨_, run_copy_none (P := Yba.prog) _ 25 25 3 5 _ a 0 0 0 c Yba.underlying25 size5 rfl, ?_, hb⟩
    rw [hg, made_row]; rfl
  · obtain ⟨bD, off, rfl, _, hc⟩ := (row_cells hrow hb).resolve_left hn
    have hr := run_copy_row (P := Yba.prog) (w.alloc (.cells (madeCells #[.int .u8 0] n) 5)) 25 25 3 5 w.heap.size 0 n n ⟨bD, off, none⟩ n c (madeCells #[.int .u8 0] n) 5 ((zs.take n).map (Value.int .u8)) Yba.underlying25 size5 hg (by rw [hl]; simp)
      (fun j v hj => by
        rw [List.getElem?_map] at hj
        have hjn : j < n := by
          have := (List.getElem?_eq_some_iff.1 (Option.map_eq_some_iff.1 hj).choose_spec.1).1
          simp at this
          omega
        rw [addr_add, hc j hjn, ← hj, List.getElem?_take, if_pos hjn]
        have := (row_len hrow).1
        simp [List.getD, List.getElem?_eq_getElem (show j < zs.length by omega)]) (by rw [hl, size_madeCells]; omega) (oneInts _)
    rw [hl] at hr
    refine ⟨_, hr, ?_, below_setRow hb (Nat.le_refl _) _⟩
    rw [setRow_heap _ _ _ _ 5 _ hg, toList_madeCells_one]
    simp

set_option maxRecDepth 100000 in
set_option maxHeartbeats 1000000 in
theorem walk_in (a : Option Addr) (n c : Nat) (zs : List Int) (w : World) (hrow : IsRow .u8 w a n c zs) (hn : n ≤ 1048576) :
    Calls Yba.prog 4 #[.slice a n c] w fun e w' => e = .returned (.bool true) ∧ Below w.heap.size w w' := by
  have HR : Hid (IsRow .u8 w a n c zs) := hrow
  have hmk := run_make_row' (P := Yba.prog) 25 5 (.int .u8 0) 1 Yba.underlying25 info5 rfl .i64 .i64 n (by omega) (by omega)
  obtain ⟨W2, hcp, hg2, hb2⟩ := copy_in a n c zs w hrow
  have HG : Hid (W2.heap[w.heap.size]? = some (.cells ((zs.take n).map (Value.int .u8)).toArray 5 (0, 0))) := hg2
  have HB : Hid (Below w.heap.size w W2) := hb2
  clear hrow hg2 hb2
  by_cases h2 : n < 2
  · go_enter Yba.func4, Yba.ntmps4
    go_wp2_with (go_at_call 7; refine (framed_short a n c _ h2).mono ?_; rintro e w3 ⟨rfl, rfl⟩)
    go_loopw [6] (fun i wr => ∃ k : Nat, k ≤ n ∧ i = .int .i64 k ∧ Hid (Below w3.heap.size w3 wr)) (fun i _ => n - (intOf i).toNat)
    case atStart => exact ⟨0, Nat.zero_le _, rfl, Below.refl _ _⟩
    case round =>
      obtain ⟨k, hk, rfl, hbk⟩ := hrel
      by_cases hlt : k < n
      · obtain ⟨bD, off, rfl, hbD, hc⟩ := (row_cells HR.out (HB.out.trans (hbk.out.mono HB.out.size))).resolve_left (by omega)
        have c1 := hc k hlt
        have c2 : wr.cell? ⟨w.heap.size, k, none⟩ = some (.int .u8 (zs.getD k 0)) := by
          rw [hbk.out.cell (p := ⟨w.heap.size, k, none⟩) (lt_of_some HG.out), cell_of_row HG.out]
          have := (row_len HR.out).1
          simp [List.getElem?_map, List.getElem?_take, hlt, List.getD, List.getElem?_eq_getElem (show k < zs.length by omega)]
        have hki : (k : Int) < (n : Int) := by omega
        clear hc
        generalize zs.getD k 0 = z at *
        go_wp2
        go_quiet (fail)
        go_wp2
        go_roundw
        case rel => exact ⟨k + 1, by omega, by go_num, hbk.out.trans (below_drewN (Below.refl _ _) _)⟩
        case measure => simp [intOf]; omega
      · go_wp2
        go_ret
        exact ⟨by simp, HB.out.trans (hbk.out.mono HB.out.size)⟩
  · obtain ⟨bD, off, rfl, hbD, hc⟩ := (row_cells HR.out HB.out).resolve_left (by omega)
    have hl := (row_len HR.out).1
    have e0 := hc 0 (by omega)
    have e1 := hc 1 (by omega)
    have z0 := (row_len HR.out).2.2 (zs.getD 0 0) (getD_mem zs 0 (by omega))
    have z1 := (row_len HR.out).2.2 (zs.getD 1 0) (getD_mem zs 1 (by omega))
    have f0 : Hid (W2.cell? ⟨w.heap.size, 0, none⟩ = some (.int .u8 (zs.getD 0 0))) := by
      rw [Hid, cell_of_row HG.out]
      simp [List.getElem?_map, List.getElem?_take, List.getD, List.getElem?_eq_getElem (show 0 < zs.length by omega), show 0 < n by omega]
    have f1 : Hid (W2.cell? ⟨w.heap.size, 1, none⟩ = some (.int .u8 (zs.getD 1 0))) := by
      rw [Hid, cell_of_row HG.out]
      simp [List.getElem?_map, List.getElem?_take, List.getD, List.getElem?_eq_getElem (show 1 < zs.length by omega), show 1 < n by omega]
    clear hc
    have hfr := framed_more bD off n c (zs.getD 0 0) (zs.getD 1 0) W2 (by omega) hn (by simpa using e0) e1 z0 z1
    generalize zs.getD 0 0 = y0 at *
    generalize zs.getD 1 0 = y1 at *
    have HF : Hid (Calls Yba.prog 7 #[.slice (some ⟨bD, off, none⟩) n c] W2 fun e w' => e = .returned (.tuple #[.int .i64 (2 + (y0 * 256 + y1)), .bool true]) ∧ Below W2.heap.size W2 w') := hfr
    clear hfr e0 e1
    have q0 : 0 < n := by omega
    have q1 : (1 : Int) < (n : Int) := by omega
    have q2 : ¬ ((n : Int) < 2) := by omega
    go_enter Yba.func4, Yba.ntmps4
    go_wp2_with (go_at_call 7; refine (HF.out).mono ?_; rintro e w3 ⟨rfl, hb3⟩; have HB3 : Hid (Below W2.heap.size W2 w3) := hb3; clear hb3)
    go_loopw [6] (fun i wr => ∃ k : Nat, k ≤ n ∧ i = .int .i64 k ∧ Hid (Below W2.heap.size W2 wr)) (fun i _ => n - (intOf i).toNat)
    case atStart => exact ⟨0, Nat.zero_le _, rfl, HB3⟩
    case round =>
      obtain ⟨k, hk, rfl, hbk⟩ := hrel
      by_cases hlt : k < n
      · obtain ⟨bD', off', hE, _, hc⟩ := (row_cells HR.out (HB.out.trans (hbk.out.mono HB.out.size))).resolve_left (by omega)
        obtain ⟨rfl, rfl⟩ : bD' = bD ∧ off' = off := by simpa [eq_comm] using hE
        have c1 := hc k hlt
        have c2 : wr.cell? ⟨w.heap.size, k, none⟩ = some (.int .u8 (zs.getD k 0)) := by
          rw [hbk.out.cell (p := ⟨w.heap.size, k, none⟩) (lt_of_some HG.out), cell_of_row HG.out]
          simp [List.getElem?_map, List.getElem?_take, hlt, List.getD, List.getElem?_eq_getElem (show k < zs.length by omega)]
        have hki : (k : Int) < (n : Int) := by omega
        clear hc hE
        generalize zs.getD k 0 = z at *
        go_wp2
        go_quiet (fail)
        go_wp2
        go_roundw
        case rel => exact ⟨k + 1, by omega, by go_num, hbk.out.trans (below_drewN (Below.refl _ _) _)⟩
        case measure => simp [intOf]; omega
      · have c0 := (hbk.out.cell (p := ⟨w.heap.size, 0, none⟩) (lt_of_some HG.out)).trans f0.out
        have c1 := (hbk.out.cell (p := ⟨w.heap.size, 1, none⟩) (lt_of_some HG.out)).trans f1.out
        go_wp2
        go_quiet (fail)
        go_wp2
        go_ret
        refine ⟨?_, HB.out.trans ((hbk.out.trans (below_drewN (Below.refl _ _) _)).mono HB.out.size)⟩
        have e : (2 + (y0 * 256 + y1) == 2 + y0 * 256 + y1) = true := by rw [beq_iff_eq]; omega
        rw [← e]
        rfl

theorem walk (a0 : Option Addr) (len0 cap0 : Nat) (z0 : List Int) (w : World) (w0 : IsRow .u8 w a0 len0 cap0 z0) :
    Calls Yba.prog 4 #[.slice a0 len0 cap0] w fun e w' => e = .returned (.bool true) ∧ Below w.heap.size w w' := by
  by_cases h : len0 ≤ 1048576
  · exact walk_in a0 len0 cap0 z0 w w0 h
  · exact walk_long a0 len0 cap0 w (by omega) (row_len w0).2.1

end LawB
end Go.Proofs.Ybulkdhvc
