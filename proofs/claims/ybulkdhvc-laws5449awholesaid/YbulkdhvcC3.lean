/- write, setLink, setAlong. -/
import Derived.Test.YbulkdhvcC2
import Derived.Deep.RegionHeld3
import Derived.Deep.DrawnRows
namespace Go.Proofs.Ybulkdhvc
namespace LawA
open Go.RowKit
open LawB (heap_new addr_add oneInts info5 size5 lt_of_some)
set_option linter.unusedSimpArgs false
set_option linter.unusedVariables false

theorem locate_nat (bP oP s i off : Nat) (fr : Int) (w : World) (h1 : s ≤ 1000000000000000) (h2 : 0 ≤ fr) (hi : (s : Int) / 4096 - fr / 4096 = i) (ho : s % 4096 = off) (c1 : w.cell? ⟨bP, oP + 1, none⟩ = some (.int .u64 fr)) :
    Calls Yba.prog 12 #[.pointer (some ⟨bP, oP, none⟩), .int .u64 s] w fun e w' => e = .returned (.tuple #[.int .i64 i, .int .i64 off]) ∧ w' = w := by
  have h := locate_any bP oP s fr w (by omega) (by omega) h2 (by omega) c1
  rw [hi, show (s : Int) % 4096 = (off : Int) by omega] at h
  exact h

/-- 'copy(q.blocks[i][off:], src)'. -/
theorem copy_row (w : World) (g : Nat → Nat) (n i off m cc gS : Nat) (C : Nat → Nat → Int) (x : Nat → Int) (hG : Grid w g n C) (hi : i < n) (ho : off < 4096) (hm : m < 4)
    (hx : ∀ i, i < 4 → w.cell? ⟨gS, i, none⟩ = some (.int .u8 (x i))) :
    (Builtin.copy_ #[25, 25] 3 #[.slice (some ⟨g i, off, none⟩) (4096 - off) (4096 - off), .slice (some ⟨gS, m, none⟩) (4 - m) cc]).run Yba.prog w =
      .ok (.int .i64 (min (4 - m) (4096 - off) : Nat)) (w.setRow (g i) (rowA (fun o => if off ≤ o ∧ o < off + min (4 - m) (4096 - off) then x (m + (o - off)) else C i o))) := by
  have hl : ((List.range (min (4 - m) (4096 - off))).map (fun j => Value.int .u8 (x (m + j)))).length = min (4 - m) (4096 - off) := by rw [List.length_map, List.length_range]
  have hr := run_copy_row (P := Yba.prog) w 25 25 3 5 (g i) off (4096 - off) (4096 - off) ⟨gS, m, none⟩ (4 - m) cc (rowA (C i)) 5 ((List.range (min (4 - m) (4096 - off))).map (fun j => Value.int .u8 (x (m + j)))) Yba.underlying25 size5 (hG i hi) hl
    (fun j v hj => by
      rw [List.getElem?_map] at hj
      obtain ⟨j', hj1, hj2⟩ := Option.map_eq_some_iff.1 hj
      have hlt := (List.getElem?_eq_some_iff.1 hj1).1
      rw [List.length_range] at hlt
      rw [List.getElem?_range hlt] at hj1
      obtain rfl : j = j' := by simpa using hj1
      rw [addr_add, hx (m + j) (by omega), hj2])
    (by rw [hl, rowA_size]; omega)
    (by
      intro v hv
      obtain ⟨z, _, rfl⟩ := List.mem_map.1 hv
      rfl)
  rw [hl] at hr
  have e : (rowA (C i)).toList = rowL (C i) := by unfold rowA; rw [List.toList_toArray]
  rw [hr, e, rowL_splice (C i) off _ (fun j => x (m + j)) (by omega)]
  rfl

set_option maxRecDepth 100000 in
set_option maxHeartbeats 1000000 in
theorem write_any (bP oP H n b s gS cS : Nat) (fr : Int) (g : Nat → Nat) (C : Nat → Nat → Int) (x : Nat → Int) (w : World)
    (c0 : w.cell? ⟨bP, oP, none⟩ = some (.slice (some ⟨H, 0, none⟩) n n)) (c1 : w.cell? ⟨bP, oP + 1, none⟩ = some (.int .u64 fr)) (hfr0 : 0 ≤ fr) (hfr : fr / 4096 = b)
    (hrow : ∀ j, j < n → w.cell? ⟨H, j, none⟩ = some (.slice (some ⟨g j, 0, none⟩) 4096 4096))
    (hG : Grid w g n C) (hinj : ∀ i j, i < n → j < n → g i = g j → i = j)
    (hx : ∀ i, i < 4 → w.cell? ⟨gS, i, none⟩ = some (.int .u8 (x i)))
    (hP : ∀ j, j < n → bP ≠ g j) (hH : ∀ j, j < n → H ≠ g j) (hS : ∀ j, j < n → gS ≠ g j)
    (hs0 : b * 4096 ≤ s) (hs1 : s + 4 ≤ (b + n) * 4096) (hb : b ≤ 4294967296) (hn : n ≤ 3) (hcS : 4 ≤ cS) (hcM : cS ≤ maxLen) :
    Calls Yba.prog 10 #[.pointer (some ⟨bP, oP, none⟩), .int .u64 s, .slice (some ⟨gS, 0, none⟩) 4 cS] w fun e w' => e = .returned (.tuple #[]) ∧ Grid w' g n (upd C b s 4 x) ∧ Aside w w' g n := by
  unfold maxLen at hcM
  have HR : Hid (∀ j, j < n → w.cell? ⟨H, j, none⟩ = some (.slice (some ⟨g j, 0, none⟩) 4096 4096)) := hrow
  have HG : Hid (Grid w g n C) := hG
  have HI : Hid (∀ i j, i < n → j < n → g i = g j → i = j) := hinj
  have HX : Hid (∀ i, i < 4 → w.cell? ⟨gS, i, none⟩ = some (.int .u8 (x i))) := hx
  have HP : Hid (∀ j, j < n → bP ≠ g j) := hP
  have HH : Hid (∀ j, j < n → H ≠ g j) := hH
  have HS : Hid (∀ j, j < n → gS ≠ g j) := hS
  have HF : Hid (fr / 4096 = b) := hfr
  have C0 : Hid (w.cell? ⟨bP, oP, none⟩ = some (.slice (some ⟨H, 0, none⟩) n n)) := c0
  have C1 : Hid (w.cell? ⟨bP, oP + 1, none⟩ = some (.int .u64 fr)) := c1
  clear hrow hG hinj hx hP hH hS hfr c0 c1
  go_enter Yba.func10, Yba.ntmps10
  go_wp2
  go_loopw [1, 2] (fun a v wr => ∃ (m : Nat) (ao : Option Addr) (cc : Nat), m ≤ 4 ∧ a = .int .u64 ((s + m : Nat) : Int) ∧ v = .slice ao (4 - m) cc ∧ Hid (m < 4 → ao = some ⟨gS, m, none⟩ ∧ cc = cS - m) ∧ Hid (Grid wr g n (upd C b s m x)) ∧ Hid (Aside w wr g n)) (fun _ v _ => match v with | .slice _ l _ => l | _ => 0)
  case atStart => exact ⟨0, _, _, by omega, rfl, rfl, fun _ => ⟨rfl, by omega⟩, by rw [Hid, upd_zero]; exact HG, Aside.refl _ _ _⟩
  case round =>
    obtain ⟨m, ao, cc, hm4, rfl, rfl, hao, hgr, has⟩ := hrel
    by_cases hm : m < 4
    · obtain ⟨rfl, rfl⟩ := hao.out hm
      obtain ⟨i, hi⟩ : ∃ i : Nat, ((s + m : Nat) : Int) / 4096 - fr / 4096 = i := ⟨(s + m) / 4096 - b, by have := HF.out; omega⟩
      obtain ⟨off, hof⟩ : ∃ off : Nat, (s + m) % 4096 = off := ⟨_, rfl⟩
      have hin : i < n := by have := HF.out; omega
      have hpl : (b + i) * 4096 + off = s + m := by have := HF.out; omega
      have ho : off < 4096 := by omega
      have hlc := locate_nat bP oP (s + m) i off fr wr (by omega) hfr0 hi hof ((has.out.cell (p := ⟨bP, oP + 1, none⟩) HP.out).trans C1.out)
      have d0 := (has.out.cell (p := ⟨bP, oP, none⟩) HP.out).trans C0.out
      have dr := (has.out.cell (p := ⟨H, i, none⟩) HH.out).trans (HR.out i hin)
      have hcp := copy_row wr g n i off m (cS - m) gS (upd C b s m x) x hgr.out hin ho hm (fun j hj => (has.out.cell (p := ⟨gS, j, none⟩) HS.out).trans (HX.out j hj))
      have HL : Hid (Calls Yba.prog 12 #[.pointer (some ⟨bP, oP, none⟩), .int .u64 ((s + m : Nat) : Int)] wr fun e w' => e = .returned (.tuple #[.int .i64 i, .int .i64 off]) ∧ w' = wr) := hlc
      have hiI : (i : Int) < (n : Int) := by omega
      have hoI : (off : Int) < 4096 := by omega
      clear hlc hi hof
      go_wp2_with (go_at_call 12; refine HL.out.mono ?_; rintro e w1 ⟨rfl, rfl⟩)
      refine ⟨⟨m + min (4 - m) (4096 - off), _, _, by omega, ?_, by rw [show 4 - (m + min (4 - m) (4096 - off)) = 4 - m - min (4 - m) (4096 - off) by omega], ?_, ?_, ?_⟩, ?_⟩
      · go_num
      · intro h
        rw [if_neg (by omega)]
        exact ⟨rfl, by omega⟩
      · refine (hgr.out.setRow HI.out hin _).congr (fun j o hj hob => ?_)
        exact upd_more C b s m _ x i off hpl (by omega) j o hob
      · exact has.out.setRow hin _
      · show 4 - m - min (4 - m) (4096 - off) < 4 - m
        omega
    · obtain rfl : m = 4 := by omega
      go_wp2
      go_end0
      exact ⟨rfl, hgr.out, has.out⟩

/-- Of what was there nothing but the rows has turned. -/
structure Kept (w w' : World) (g : Nat → Nat) (n : Nat) : Prop where
  os : w'.os = w.os
  tape : w'.tape = w.tape
  output : w'.output = w.output
  size : w.heap.size ≤ w'.heap.size
  block : ∀ k, k < w.heap.size → (∀ j, j < n → k ≠ g j) → w'.heap[k]? = w.heap[k]?

theorem Kept.of {w w1 w' : World} {g : Nat → Nat} {n : Nat} (hb : Below w.heap.size w w1) (ha : Aside w1 w' g n) : Kept w w' g n :=
  ⟨ha.os.trans hb.os, ha.tape.trans hb.tape, ha.output.trans hb.output, by rw [ha.size]; exact hb.size, fun k hk hj => (ha.block k hj).trans (hb.block k hk)⟩
theorem Kept.cell {w w' : World} {g : Nat → Nat} {n : Nat} (h : Kept w w' g n) {p : Addr} {v : Value} (hp : ∀ j, j < n → p.block ≠ g j) (hv : w.cell? p = some v) : w'.cell? p = some v :=
  (World.cell?_of_block (h.block p.block (World.block_lt_of_cell? w _ hv) hp)).trans hv
theorem Kept.below {w w' : World} {g : Nat → Nat} {n B : Nat} (h : Kept w w' g n) (hB : ∀ j, j < n → B ≤ g j) (hw : B ≤ w.heap.size) : Below B w w' :=
  ⟨h.os, h.tape, h.output, h.size, fun k hk => h.block k (by omega) (fun j hj e => by have := hB j hj; omega)⟩

/-- The queue of a pairing, as the law lays it. -/
structure Queue (w : World) (bP H n b : Nat) (fr : Int) (g : Nat → Nat) (C : Nat → Nat → Int) : Prop where
  c0 : w.cell? ⟨bP, 2, none⟩ = some (.slice (some ⟨H, 0, none⟩) n n)
  c1 : w.cell? ⟨bP, 3, none⟩ = some (.int .u64 fr)
  crec : w.cell? ⟨bP, 24, none⟩ = some (.slice none 0 0)
  fr0 : 0 ≤ fr
  frb : fr / 4096 = b
  row : ∀ j, j < n → w.cell? ⟨H, j, none⟩ = some (.slice (some ⟨g j, 0, none⟩) 4096 4096)
  grid : Grid w g n C
  inj : ∀ i j, i < n → j < n → g i = g j → i = j
  hP : ∀ j, j < n → bP ≠ g j
  hH : ∀ j, j < n → H ≠ g j
  hb : b ≤ 4294967296
  hn : n ≤ 3

theorem Queue.below {w w' : World} {bP H n b : Nat} {fr : Int} {g : Nat → Nat} {C : Nat → Nat → Int} (h : Queue w bP H n b fr g C) (hb : Below w.heap.size w w') : Queue w' bP H n b fr g C := by
  have k : ∀ {p : Addr} {v : Value}, w.cell? p = some v → w'.cell? p = some v := fun {p v} hp => (hb.cell (World.block_lt_of_cell? w _ hp)).trans hp
  exact { h with c0 := k h.c0, c1 := k h.c1, crec := k h.crec, row := fun j hj => k (h.row j hj), grid := h.grid.of_same (fun j hj => hb.block _ (h.grid.lt hj)) }

theorem queue_write (bP H n b s gS cS : Nat) (fr : Int) (g : Nat → Nat) (C : Nat → Nat → Int) (x : Nat → Int) (w : World) (q : Queue w bP H n b fr g C)
    (hx : ∀ i, i < 4 → w.cell? ⟨gS, i, none⟩ = some (.int .u8 (x i))) (hS : ∀ j, j < n → gS ≠ g j)
    (hs0 : b * 4096 ≤ s) (hs1 : s + 4 ≤ (b + n) * 4096) (hcS : 4 ≤ cS) (hcM : cS ≤ maxLen) :
    Calls Yba.prog 10 #[.pointer (some ⟨bP, 2, none⟩), .int .u64 s, .slice (some ⟨gS, 0, none⟩) 4 cS] w fun e w' => e = .returned (.tuple #[]) ∧ Grid w' g n (upd C b s 4 x) ∧ Aside w w' g n :=
  write_any bP 2 H n b s gS cS fr g C x w q.c0 q.c1 q.fr0 q.frb q.row q.grid q.inj hx q.hP q.hH hS hs0 hs1 q.hb q.hn hcS hcM

set_option maxRecDepth 100000 in
set_option maxHeartbeats 1000000 in
theorem link_any (bP H n b s : Nat) (fr v : Int) (g : Nat → Nat) (C : Nat → Nat → Int) (w : World) (q : Queue w bP H n b fr g C)
    (hs0 : b * 4096 ≤ s) (hs1 : s + 4 ≤ (b + n) * 4096) (h0 : 0 ≤ v) (h1 : v < 4294967296) :
    Calls Yba.prog 8 #[.pointer (some ⟨bP, 0, none⟩), .int .u64 s, .int .u32 v] w fun e w' => e = .returned (.tuple #[]) ∧ Grid w' g n (upd C b s 4 (bt v)) ∧ Kept w w' g n := by
  have Q : Hid (Queue w bP H n b fr g C) := q
  have c24 := q.crec
  clear q
  go_enter Yba.func8, Yba.ntmps8
  go_wp2
  go_region_with (first | (go_at_call 11; refine (app_any v _ h0 h1).mono ?_; rintro e w1 ⟨gS, cS, rfl, hc4, hcM, hg, hx, hb⟩; have HX : Hid (∀ i, i < 4 → w1.cell? ⟨gS, i, none⟩ = some (.int .u8 (bt v i))) := hx; have HB : Hid (Below w.heap.size w w1) := ⟨hb.os, hb.tape, hb.output, hb.size, hb.block⟩; clear hx hb) | (go_at_call 10; refine (queue_write bP H n b s gS cS fr g C (bt v) _ (Q.out.below HB.out) HX.out (fun j hj e => by have := Q.out.grid.lt hj; have : w.heap.size ≤ gS := hg; omega) hs0 hs1 hc4 hcM).mono ?_; rintro e w2 ⟨rfl, hgr, has⟩))
  all_goals
    go_wp2
    go_end0
    exact ⟨rfl, hgr, Kept.of HB.out has⟩

end LawA
end Go.Proofs.Ybulkdhvc
