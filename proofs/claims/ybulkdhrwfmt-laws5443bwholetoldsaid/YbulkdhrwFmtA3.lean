/- byte. -/
import Derived.Test.YbulkdhrwFmtA2
import Derived.LaidEql
namespace Go.Proofs.YbulkdhrwFmt
open Go.RowKit
set_option linter.unusedSimpArgs false
set_option linter.unusedVariables false

/-- An error of errors.New's make at an address. -/
abbrev err (a : Addr) : Value := .iface 49 (.pointer (some a))

/-- Two pointers into different blocks, the first one's block the call's own: they are not equal. -/
theorem sameAddr_fresh {P : Program} {w : World} {a b : Addr} {ca cb : Array Value} {ta tb : TypeId} {fr : Nat × Nat} (hne : a.block ≠ b.block) (ha : w.heap[a.block]? = some (.cells ca ta (0, 0))) (hb : w.heap[b.block]? = some (.cells cb tb fr)) (hz : cb.size ≠ 0) :
    (sameAddr a b).run P w = .ok false w := by
  obtain ⟨lo, hi⟩ := fr
  have hz' : cb ≠ #[] := fun h => hz (by simp [h])
  simp [sameAddr, hne, World.frozen?, ha, hb, noView, viewAt, World.shape?, mayBeOne, stringish, hz, hz']

theorem info49 : ∃ i, Ybaf.prog.info? 49 = some i ∧ i.comparable = true := by
  obtain ⟨i, hi, h⟩ := Option.map_eq_some_iff.1 (show (Ybaf.prog.info? 49).map (·.comparable) = some true by kernel_rfl)
  exact ⟨i, hi, h⟩
theorem info51 : ∃ i, Ybaf.prog.info? 51 = some i ∧ i.size = 1 := by
  obtain ⟨i, hi, h⟩ := Option.map_eq_some_iff.1 (show (Ybaf.prog.info? 51).map (·.size) = some 1 by kernel_rfl)
  exact ⟨i, hi, h⟩

theorem eql_fresh (w : World) {a b : Addr} {ca cb : Array Value} {ta tb : TypeId} {fr : Nat × Nat} (hne : a.block ≠ b.block) (ha : w.heap[a.block]? = some (.cells ca ta (0, 0))) (hb : w.heap[b.block]? = some (.cells cb tb fr)) (hz : cb.size ≠ 0) :
    (binOp .eql 25 (err a) (err b)).run Ybaf.prog w = .ok (.bool false) w := by
  obtain ⟨i, hi, hc⟩ := info49
  obtain ⟨j, hj, hs⟩ := info51
  have h : ∀ d : Nat, (Op.equalIn (d + 2) 25 (.iface 49 (.pointer (some a))) (.iface 49 (.pointer (some b)))).run Ybaf.prog w = .ok false w := fun d => by
    simp [Op.equalIn, run_underlying Ybaf.underlying25, run_underlying Ybaf.underlying49, typeInfo, hi, hc, hj, hs, sizeOf, sameAddr_fresh hne ha hb hz]
  simp only [binOp]
  simp [Op.equal, Op.maxDepth, h 9998]

theorem eql_self (w : World) (a : Addr) : (binOp .eql 25 (err a) (err a)).run Ybaf.prog w = .ok (.bool true) w := by
  obtain ⟨i, hi, hc⟩ := info49
  obtain ⟨j, hj, _⟩ := info51
  exact run_eql_iface_ptr_same w a Ybaf.underlying25 Ybaf.underlying49 hi hc hj

theorem read_method (a : Addr) (w : World) : (method 196 27 (.pointer (some a)) "ReadByte").run Ybaf.prog w = .ok (41, .pointer (some a)) w := by kernel_rfl

set_option maxHeartbeats 1000000 in
theorem byte_large (bR bI : Nat) (dat fv : Value) (pos left : Int) (vt : Value) (w : World) (hl : left < 1) (hr : Rd w bR bI dat fv pos left) (hg : w.cell? ⟨0, 0, none⟩ = some vt) :
    Calls Ybaf.prog 12 #[.pointer (some ⟨bI, 0, none⟩)] w fun e w' => e = .returned (.tuple #[.int .u8 0, vt]) ∧ Rd w' bR bI dat fv pos left ∧ Below bR w w' := by
  obtain ⟨_, _, _, _, c0, c1, _, _⟩ := id hr
  have HR : Hid (Rd w bR bI dat fv pos left) := hr
  clear hr
  go_enter Ybaf.func12, Ybaf.ntmps12
  go_wp2
  go_quiet (fail)
  go_wp2
  go_ret2
  exact ⟨rfl, HR.out.drewN _, below_drewN' _ _ _⟩

theorem eql_nil (w : World) (a : Addr) : (binOp .eql 25 .nilIface (err a)).run Ybaf.prog w = .ok (.bool false) w := run_eql_iface_nil_left w 49 _ Ybaf.underlying25

set_option maxHeartbeats 1000000 in
theorem byte_more (bR bI bD off : Nat) (n c : Nat) (pos : Nat) (left : Int) (z : Int) (fv : Value) (aE : Addr) (w : World)
    (hr : Rd w bR bI (.slice (some ⟨bD, off, none⟩) n c) fv pos left) (hne : bR < bI) (hl : 1 ≤ left) (hl2 : left ≤ 9223372036854775807)
    (hlt : pos < n) (hn : n ≤ 1048576) (cz : w.cell? ⟨bD, off + pos, none⟩ = some (.int .u8 z)) (he : w.cell? ⟨3, 0, none⟩ = some (err aE)) (h3 : 3 < bR) :
    Calls Ybaf.prog 12 #[.pointer (some ⟨bI, 0, none⟩)] w fun e w' => e = .returned (.tuple #[.int .u8 z, .nilIface]) ∧ Rd w' bR bI (.slice (some ⟨bD, off, none⟩) n c) fv ((pos + 1 : Nat) : Int) (left - 1) ∧ Below bR w w' := by
  obtain ⟨_, _, _, _, c0, c1, _, _⟩ := id hr
  have HR : Hid (Rd w bR bI (.slice (some ⟨bD, off, none⟩) n c) fv pos left) := hr
  clear hr
  have hm := read_method
  have hnil := eql_nil
  go_enter Ybaf.func12, Ybaf.ntmps12
  go_wp2_with (go_at_call 41; refine (readByte_more bR bI bD off n c pos left z fv _ HR.out hne hlt hn cz).mono ?_; rintro e w1 ⟨rfl, hr1, hb1⟩; have he1 := (hb1.cell (p := ⟨3, 0, none⟩) h3).trans he; obtain ⟨_, _, _, _, d0, d1, _, g1⟩ := id hr1; have HR1 : Hid (Rd w1 bR bI (.slice (some ⟨bD, off, none⟩) n c) fv ((pos + 1 : Nat) : Int) left) := hr1; clear hr1)
  go_ret2
  exact ⟨rfl, HR1.out.setLeft hne _, hb1.setCell (by show bR ≤ bI; omega) _⟩

set_option maxHeartbeats 1000000 in
theorem byte_fail (bR bI : Nat) (ao : Option Addr) (n c : Nat) (pos : Nat) (left : Int) (aF aE : Addr) (w : World)
    (hr : Rd w bR bI (.slice ao n c) (err aF) pos left) (hne : bR < bI) (hl : 1 ≤ left)
    (hge : n ≤ pos) (he : w.cell? ⟨3, 0, none⟩ = some (err aE)) (h3 : 3 < bR) (hq : ∀ w', Below bR w w' → (binOp .eql 25 (err aF) (err aE)).run Ybaf.prog w' = .ok (.bool false) w') :
    Calls Ybaf.prog 12 #[.pointer (some ⟨bI, 0, none⟩)] w fun e w' => e = .returned (.tuple #[.int .u8 0, err aF]) ∧ Rd w' bR bI (.slice ao n c) (err aF) pos left ∧ Below bR w w' := by
  obtain ⟨_, _, _, _, c0, c1, _, _⟩ := id hr
  have HR : Hid (Rd w bR bI (.slice ao n c) (err aF) pos left) := hr
  have HQ : Hid (∀ w', Below bR w w' → (binOp .eql 25 (err aF) (err aE)).run Ybaf.prog w' = .ok (.bool false) w') := hq
  clear hr hq
  have hm := read_method
  go_enter Ybaf.func12, Ybaf.ntmps12
  go_wp2_with (go_at_call 41; refine (readByte_fail bR bI ao n c pos left 49 (.pointer (some aF)) _ HR.out hge).mono ?_; rintro e w1 ⟨rfl, hr1, hb1⟩; have he1 := (hb1.cell (p := ⟨3, 0, none⟩) h3).trans he; have hq1 := HQ.out w1 hb1; have HR1 : Hid (Rd w1 bR bI (.slice ao n c) (err aF) pos left) := hr1; clear hr1)
  go_ret2
  exact ⟨rfl, HR1.out, hb1⟩

set_option maxHeartbeats 1000000 in
theorem byte_eof (bR bI : Nat) (ao : Option Addr) (n c : Nat) (pos : Nat) (left : Int) (aE : Addr) (vu : Value) (w : World)
    (hr : Rd w bR bI (.slice ao n c) .nilIface pos left) (hne : bR < bI) (hl : 1 ≤ left)
    (hge : n ≤ pos) (he : w.cell? ⟨3, 0, none⟩ = some (err aE)) (hu : w.cell? ⟨1, 0, none⟩ = some vu) (h3 : 3 < bR) :
    Calls Ybaf.prog 12 #[.pointer (some ⟨bI, 0, none⟩)] w fun e w' => e = .returned (.tuple #[.int .u8 0, vu]) ∧ Rd w' bR bI (.slice ao n c) .nilIface pos left ∧ Below bR w w' := by
  obtain ⟨_, _, _, _, c0, c1, _, _⟩ := id hr
  have HR : Hid (Rd w bR bI (.slice ao n c) .nilIface pos left) := hr
  clear hr
  have hm := read_method
  have hself := eql_self
  go_enter Ybaf.func12, Ybaf.ntmps12
  go_wp2_with (go_at_call 41; refine (readByte_eof bR bI ao n c pos left (err aE) _ HR.out he hge).mono ?_; rintro e w1 ⟨rfl, hr1, hb1⟩; have he1 := (hb1.cell (p := ⟨3, 0, none⟩) h3).trans he; have hu1 := (hb1.cell (p := ⟨1, 0, none⟩) (by show 1 < bR; omega)).trans hu; have HR1 : Hid (Rd w1 bR bI (.slice ao n c) .nilIface pos left) := hr1; clear hr1)
  go_quiet (fail)
  go_wp2
  go_ret2
  exact ⟨rfl, HR1.out.drewN _, hb1.trans (below_drewN' _ _ _)⟩
end Go.Proofs.YbulkdhrwFmt
