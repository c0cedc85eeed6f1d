/- same, clone, Param. -/
import Derived.Test.YbulkdhvqRows
import Derived.WalkKit
import Derived.WalkSpells
import Derived.WalkLawsBesides
import Derived.Deep.QuietTactic
import Derived.BigQuiet
import Derived.Laws.CopyOwn
import Derived.Deep.OwnRows
import Derived.OpenShut
namespace Go.Proofs.Ybulkdhvq
open Go.RowKit
set_option linter.unusedSimpArgs false
set_option linter.unusedVariables false

theorem heap_new (w : World) (o : Obj) : (w.alloc o).heap[w.heap.size]? = some o := by
  show (w.heap.push o)[w.heap.size]? = _
  simp
theorem addr_add (b o i : Nat) : (⟨b, o, none⟩ : Addr).add i = ⟨b, o + i, none⟩ := by
  unfold Addr.add
  split
  · simp_all
  · rfl
theorem lt_of_some {w : World} {g : Nat} {o : Obj} (h : w.heap[g]? = some o) : g < w.heap.size := by
  rcases Nat.lt_or_ge g w.heap.size with h' | h'
  · exact h'
  · rw [Array.getElem?_eq_none h'] at h; cases h
theorem cell_heap {w : World} {g o : Nat} {A : Array Value} {t : TypeId} {fr : Nat × Nat} (h : w.heap[g]? = some (.cells A t fr)) : w.cell? ⟨g, o, none⟩ = A[o]? := by
  simp [World.cell?, h]
theorem frozen_heap {w : World} {g o : Nat} {A : Array Value} {t : TypeId} (h : w.heap[g]? = some (.cells A t (0, 0))) : w.frozen? ⟨g, o, none⟩ = false := by
  simp [World.frozen?, h]
theorem setCell_heap {w : World} {b o : Nat} {A : Array Value} {t : TypeId} {fr : Nat × Nat} (v : Value) (h : w.heap[b]? = some (.cells A t fr)) : (w.setCell ⟨b, o, none⟩ v).heap[b]? = some (.cells (A.setIfInBounds o v) t fr) := by
  simp [World.setCell, Array.getElem?_modify, h]
theorem cell_below {w w' : World} {p : Addr} {v : Value} (hb : Below w.heap.size w w') (hp : w.cell? p = some v) : w'.cell? p = some v := (hb.cell (World.block_lt_of_cell? w _ hp)).trans hp

theorem q24 (w : World) (a : Option Addr) (n c n' c' : Nat) : (binOp .eql 24 (.slice a n c) (.slice none n' c')).run Yba.prog w = .ok (.bool a.isNone) w :=
  Lib.run_eql_slice_nil w _ _ a n c n' c' Yba.underlying24
theorem q27 (w : World) (a : Option Addr) (n c n' c' : Nat) : (binOp .eql 27 (.slice a n c) (.slice none n' c')).run Yba.prog w = .ok (.bool a.isNone) w :=
  Lib.run_eql_slice_nil w _ _ a n c n' c' Yba.underlying27
theorem q22 (w : World) (a : Option Addr) (n c n' c' : Nat) : (binOp .eql 22 (.slice a n c) (.slice none n' c')).run Yba.prog w = .ok (.bool a.isNone) w :=
  Lib.run_eql_slice_nil w _ _ a n c n' c' Yba.underlying22

/-- Two slices that read alike: both nil or neither; the same octets. -/
def Alike2 (w : World) (a1 a2 : Option Addr) (n : Nat) : Prop :=
  a1.isNone = a2.isNone ∧ (n = 0 ∨ ∃ b1 o1 b2 o2, a1 = some ⟨b1, o1, none⟩ ∧ a2 = some ⟨b2, o2, none⟩ ∧ ∀ k, k < n → ∃ z : Int, w.cell? ⟨b1, o1 + k, none⟩ = some (.int .u8 z) ∧ w.cell? ⟨b2, o2 + k, none⟩ = some (.int .u8 z))

set_option maxRecDepth 100000 in
set_option maxHeartbeats 1000000 in
theorem same_any (a1 a2 : Option Addr) (n c1 c2 : Nat) (w : World) (h : Alike2 w a1 a2 n) (hn : n ≤ 4194304) :
    Calls Yba.prog 6 #[.slice a1 n c1, .slice a2 n c2] w fun e w' => e = .returned (.bool true) ∧ ∃ k, w' = w.drewN k := by
  obtain ⟨h1, h2⟩ := h
  have q := q24
  have H2 : Hid (n = 0 ∨ ∃ b1 o1 b2 o2, a1 = some ⟨b1, o1, none⟩ ∧ a2 = some ⟨b2, o2, none⟩ ∧ ∀ k, k < n → ∃ z : Int, w.cell? ⟨b1, o1 + k, none⟩ = some (.int .u8 z) ∧ w.cell? ⟨b2, o2 + k, none⟩ = some (.int .u8 z)) := h2
  clear h2
  go_enter Yba.func6, Yba.ntmps6
  go_wp2
  go_loopw [5] (fun v wr => ∃ k : Nat, k ≤ n ∧ v = .int .i64 k ∧ Hid (∃ q, wr = w.drewN q)) (fun v _ => n - (intOf v).toNat)
  case atStart => exact ⟨0, by omega, rfl, 0, rfl⟩
  case round =>
    obtain ⟨k, hk, rfl, hw⟩ := hrel
    obtain ⟨qd, rfl⟩ := hw.out
    by_cases hkn : k < n
    · obtain ⟨b1, o1, b2, o2, rfl, rfl, hc⟩ := H2.out.resolve_left (by omega)
      obtain ⟨z, z1, z2⟩ := hc k hkn
      have hkI : (k : Int) < (n : Int) := by omega
      clear hc hw
      go_wp2
      go_quiet (fail)
      go_wp2
      go_roundw
      case rel => exact ⟨k + 1, by omega, by go_num, _, rfl⟩
      case measure => simp [intOf]; omega
    · go_wp2
      go_ret
      exact ⟨rfl, _, rfl⟩

/-- A slice of octets that came in: nil, or a row of cells. -/
def IsRow (w : World) (a : Option Addr) (len cap : Nat) (zs : List Int) : Prop :=
  (a = none ∧ len = 0 ∧ cap = 0 ∧ zs = []) ∨
  ∃ x, a = some x ∧ len ≤ cap ∧ cap ≤ maxLen ∧ zs.length = cap ∧ (∀ i, i < zs.length → w.cell? (x.add i) = some (.int .u8 (zs.getD i 0))) ∧ ∀ n ∈ zs, (Lit.int .u8 n).wf = true

theorem IsRow.below {w w' : World} {a : Option Addr} {len cap : Nat} {zs : List Int} (h : IsRow w a len cap zs) (hb : Below w.heap.size w w') : IsRow w' a len cap zs := by
  rcases h with h | ⟨x, h1, h2, h3, h4, h5, h6⟩
  · exact .inl h
  · exact .inr ⟨x, h1, h2, h3, h4, fun i hi => cell_below hb (h5 i hi), h6⟩
theorem row_len {w : World} {a : Option Addr} {n c : Nat} {zs : List Int} (h : IsRow w a n c zs) : n ≤ zs.length := by
  rcases h with ⟨rfl, rfl, rfl, rfl⟩ | ⟨x, rfl, h1, h2, h3, h4, h5⟩
  · simp
  · omega
theorem row_cells {w : World} {a : Option Addr} {n c : Nat} {zs : List Int} (h : IsRow w a n c zs) :
    n = 0 ∨ ∃ bD off, a = some ⟨bD, off, none⟩ ∧ bD < w.heap.size ∧ ∀ k, k < n → w.cell? ⟨bD, off + k, none⟩ = some (.int .u8 (zs.getD k 0)) := by
  rcases h with ⟨rfl, rfl, rfl, rfl⟩ | ⟨x, rfl, h1, h2, h3, h4, h5⟩
  · exact .inl rfl
  · by_cases hn : n = 0
    · exact .inl hn
    · have hs : x.spot = none := by simpa [Addr.add] using World.cell?_spot (h4 0 (by omega))
      obtain ⟨b, off, sp⟩ := x
      subst hs
      have h0 := h4 0 (by omega)
      rw [addr_add] at h0
      have hlt : b < w.heap.size := World.block_lt_of_cell? w _ h0
      refine .inr ⟨b, off, rfl, hlt, fun k hk => ?_⟩
      have := h4 k (by omega)
      rw [addr_add] at this
      exact this

theorem info5 : (Yba.prog.info? 5).map (fun i => (i.zero, i.size, i.bytes)) = some (some (.int .u8 0), 1, 1) := by kernel_rfl
theorem size5 : (Yba.prog.info? 5).map (·.size) = some 1 := by kernel_rfl
theorem made_row (z : Value) (n : Nat) : madeCells #[z] n = (List.replicate n z).toArray := by
  apply Array.ext'
  rw [toList_madeCells_one]
theorem oneInts (l : List Int) : ∀ v ∈ l.map (Value.int .u8), v.oneCell' = true := by
  intro v hv
  obtain ⟨z, _, rfl⟩ := List.mem_map.1 hv
  rfl

/-- 'copy' of a slice that came in over a row that the call has just made. -/
theorem copy_in (a : Option Addr) (n c : Nat) (zs : List Int) (w : World) (hrow : IsRow w a n c zs) :
    ∃ W2, (Builtin.copy_ #[24, 24] 3 #[.slice (some ⟨w.heap.size, 0, none⟩) n n, .slice a n c]).run Yba.prog (w.alloc (.cells (madeCells #[.int .u8 0] n) 5)) = .ok (.int .i64 n) W2 ∧
      W2.heap[w.heap.size]? = some (.cells ((zs.take n).map (Value.int .u8)).toArray 5 (0, 0)) ∧ Below w.heap.size w W2 := by
  have hl : ((zs.take n).map (Value.int .u8)).length = n := by simp; exact Nat.min_eq_left (row_len hrow)
  have hb : Below w.heap.size w (w.alloc (.cells (madeCells #[.int .u8 0] n) 5)) := (Below.refl _ w).alloc (Nat.le_refl _) _
  have hg := heap_new w (.cells (madeCells #[.int .u8 0] n) 5)
  by_cases hn : n = 0
  · subst hn
    refine ⟨_, run_copy_none (P := Yba.prog) _ 24 24 3 5 _ a 0 0 0 c Yba.underlying24 size5 rfl, ?_, hb⟩
    rw [hg, made_row]; rfl
  · obtain ⟨bD, off, rfl, _, hc⟩ := (row_cells hrow).resolve_left hn
    have hr := run_copy_row (P := Yba.prog) (w.alloc (.cells (madeCells #[.int .u8 0] n) 5)) 24 24 3 5 w.heap.size 0 n n ⟨bD, off, none⟩ n c (madeCells #[.int .u8 0] n) 5 ((zs.take n).map (Value.int .u8)) Yba.underlying24 size5 hg (by rw [hl]; simp)
      (fun j v hj => by
        rw [List.getElem?_map] at hj
        have hjn : j < n := by
          have := (List.getElem?_eq_some_iff.1 (Option.map_eq_some_iff.1 hj).choose_spec.1).1
          simp at this
          omega
        rw [addr_add, cell_below hb (hc j hjn), ← hj, List.getElem?_take, if_pos hjn]
        have := row_len hrow
        simp [List.getD, List.getElem?_eq_getElem (show j < zs.length by omega)]) (by rw [hl, size_madeCells]; omega) (oneInts _)
    rw [hl] at hr
    refine ⟨_, hr, ?_, below_setRow hb (Nat.le_refl _) _⟩
    rw [setRow_heap _ _ _ _ 5 _ hg, toList_madeCells_one]
    simp

/-- A copy of a slice that came in, in memory of the call's own. -/
def Cloned (w : World) (B : Nat) (a : Option Addr) (n : Nat) (zs : List Int) (v : Value) : Prop :=
  (a = none ∧ v = .slice none 0 0) ∨ (a.isNone = false ∧ ∃ g, B ≤ g ∧ v = .slice (some ⟨g, 0, none⟩) n n ∧ w.heap[g]? = some (.cells ((zs.take n).map (Value.int .u8)).toArray 5 (0, 0)))

set_option maxHeartbeats 1000000 in
theorem clone_nil (n c : Nat) (w : World) :
    Calls Yba.prog 4 #[.slice none n c] w fun e w' => e = .returned (.slice none 0 0) ∧ w' = w := by
  have q := q24
  go_enter Yba.func4, Yba.ntmps4
  go_wp2
  go_ret
  exact ⟨rfl, rfl⟩

set_option maxHeartbeats 1000000 in
theorem clone_any (a : Option Addr) (n c : Nat) (zs : List Int) (w : World) (hrow : IsRow w a n c zs) (hn : n ≤ 4194304) :
    Calls Yba.prog 4 #[.slice a n c] w fun e w' => ∃ v, e = .returned v ∧ Cloned w' w.heap.size a n zs v ∧ Below w.heap.size w w' := by
  cases a with
  | none =>
    refine (clone_nil n c w).mono ?_
    rintro e w' ⟨rfl, rfl⟩
    exact ⟨_, rfl, .inl ⟨rfl, rfl⟩, Below.refl _ _⟩
  | some x =>
    have q := q24
    have hmk := run_make_row' (P := Yba.prog) 24 5 (.int .u8 0) 1 Yba.underlying24 info5 rfl .i64 .i64 n (by omega) (by omega)
    obtain ⟨W2, hcp, hg2, hb2⟩ := copy_in (some x) n c zs w hrow
    have HG : Hid (W2.heap[w.heap.size]? = some (.cells ((zs.take n).map (Value.int .u8)).toArray 5 (0, 0))) := hg2
    have HB : Hid (Below w.heap.size w W2) := hb2
    clear hrow hg2 hb2
    go_enter Yba.func4, Yba.ntmps4
    go_wp2
    go_ret
    exact ⟨_, rfl, .inr ⟨rfl, _, Nat.le_refl _, rfl, HG.out⟩, HB.out⟩

set_option maxRecDepth 100000 in
set_option maxHeartbeats 1000000 in
theorem param_any (HM HP n c : Nat) (ap : Option Addr) (tag : Int) (T : Nat → Int) (va : Nat → Option Addr) (vl vc : Nat → Nat) (w : World)
    (cm : w.cell? ⟨HM, 2, none⟩ = some (.slice ap n c)) (hn : n ≤ 4194304) (hap : n = 0 ∨ ap = some ⟨HP, 0, none⟩)
    (ht : ∀ j, j < n → w.cell? ⟨HP, j * 2, none⟩ = some (.int .u16 (T j))) (hv : ∀ j, j < n → w.cell? ⟨HP, j * 2 + 1, none⟩ = some (.slice (va j) (vl j) (vc j))) :
    Calls Yba.prog 5 #[.pointer (some ⟨HM, 0, none⟩), .int .u16 tag] w fun e w' => ((∃ j, j < n ∧ T j = tag ∧ (∀ i, i < j → T i ≠ tag) ∧ e = .returned (.tuple #[.slice (va j) (vl j) (vc j), .bool true])) ∨ ((∀ i, i < n → T i ≠ tag) ∧ e = .returned (.tuple #[.slice none 0 0, .bool false]))) ∧ Below w.heap.size w w' := by
  have HAP : Hid (n = 0 ∨ ap = some ⟨HP, 0, none⟩) := hap
  have HT : Hid (∀ j, j < n → w.cell? ⟨HP, j * 2, none⟩ = some (.int .u16 (T j))) := ht
  have HV : Hid (∀ j, j < n → w.cell? ⟨HP, j * 2 + 1, none⟩ = some (.slice (va j) (vl j) (vc j))) := hv
  clear hap ht hv
  go_enter Yba.func5, Yba.ntmps5
  go_wp2
  go_loopw [13] (fun v wr => ∃ k : Nat, k ≤ n ∧ v = .int .i64 k ∧ Hid (∀ i, i < k → T i ≠ tag) ∧ Hid (Below w.heap.size w wr)) (fun v _ => n - (intOf v).toNat)
  case atStart => exact ⟨0, by omega, rfl, fun i hi => by omega, Below.refl _ _⟩
  case round =>
    obtain ⟨k, hk, rfl, hne, hbk⟩ := hrel
    by_cases hkn : k < n
    · obtain rfl := HAP.out.resolve_left (by omega)
      have c1 := cell_below hbk.out (HT.out k hkn)
      have c2 := cell_below hbk.out (HV.out k hkn)
      have hkI : (k : Int) < (n : Int) := by omega
      by_cases htg : T k = tag
      · have hq : (T k == tag) = true := beq_iff_eq.2 htg
        have HTG : Hid (T k = tag) := htg
        clear htg
        go_wp2
        go_ret2
        exact ⟨.inl ⟨k, hkn, HTG.out, hne.out, rfl⟩, (hbk.out.alloc hbk.out.size _)⟩
      · have hq : (T k == tag) = false := beq_eq_false_iff_ne.2 htg
        have HTG : Hid (T k ≠ tag) := htg
        clear htg
        go_wp2
        go_roundw
        case rel => exact ⟨k + 1, by omega, by go_num, fun i hi => by
          by_cases h : i = k
          · subst h; exact HTG.out
          · exact hne.out i (by omega), hbk.out.alloc hbk.out.size _⟩
        case measure => simp [intOf]; omega
    · go_wp2
      go_ret2
      exact ⟨.inr ⟨fun i hi => hne.out i (by omega), rfl⟩, hbk.out⟩

end Go.Proofs.Ybulkdhvq
