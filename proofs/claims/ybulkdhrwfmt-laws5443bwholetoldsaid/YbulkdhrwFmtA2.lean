/- ReadByte and byte. -/
import Derived.Test.YbulkdhrwFmtA1
namespace Go.Proofs.YbulkdhrwFmt
open Go.RowKit
set_option linter.unusedSimpArgs false
set_option linter.unusedVariables false

/-- The two structs of the law's own, the reader's and the item reader's, as they lie. -/
structure Rd (w : World) (bR bI : Nat) (dat fv : Value) (pos left : Int) : Prop where
  r0 : w.cell? ⟨bR, 0, none⟩ = some dat
  r1 : w.cell? ⟨bR, 1, none⟩ = some (.int .i64 pos)
  r2 : w.cell? ⟨bR, 2, none⟩ = some fv
  r3 : w.cell? ⟨bR, 3, none⟩ = some (.int .i64 0)
  i0 : w.cell? ⟨bI, 0, none⟩ = some (.iface 27 (.pointer (some ⟨bR, 0, none⟩)))
  i1 : w.cell? ⟨bI, 1, none⟩ = some (.int .i64 left)
  fR : w.frozen? ⟨bR, 1, none⟩ = false
  fI : w.frozen? ⟨bI, 1, none⟩ = false

theorem Rd.drewN {w : World} {bR bI : Nat} {dat fv : Value} {pos left : Int} (h : Rd w bR bI dat fv pos left) (k : Nat) : Rd (w.drewN k) bR bI dat fv pos left := by
  obtain ⟨a, b, c, d, e, f, g, i⟩ := h
  exact ⟨by simpa using a, by simpa using b, by simpa using c, by simpa using d, by simpa using e, by simpa using f, by simpa using g, by simpa using i⟩

theorem cell_oth {w : World} {p a : Addr} {u v : Value} (h : w.cell? a = some u) (hne : p ≠ a) : (w.setCell p v).cell? a = some u := (World.cell?_setCell_other w p a v hne).trans h

theorem Rd.setPos {w : World} {bR bI : Nat} {dat fv : Value} {pos left : Int} (h : Rd w bR bI dat fv pos left) (hne : bR < bI) (p : Int) : Rd (w.setCell ⟨bR, 1, none⟩ (.int .i64 p)) bR bI dat fv p left := by
  obtain ⟨a, b, c, d, e, f, g, i⟩ := h
  have hn : bR ≠ bI := by omega
  exact ⟨cell_oth a (by simp), World.cell?_setCell_same w _ _ b, cell_oth c (by simp), cell_oth d (by simp), cell_oth e (by simp), cell_oth f (by simp [hn]), by simp [g], by simp [i]⟩

theorem Rd.setLeft {w : World} {bR bI : Nat} {dat fv : Value} {pos left : Int} (h : Rd w bR bI dat fv pos left) (hne : bR < bI) (p : Int) : Rd (w.setCell ⟨bI, 1, none⟩ (.int .i64 p)) bR bI dat fv pos p := by
  obtain ⟨a, b, c, d, e, f, g, i⟩ := h
  have hn : bI ≠ bR := by omega
  exact ⟨cell_oth a (by simp), cell_oth b (by simp [hn]), cell_oth c (by simp), cell_oth d (by simp), cell_oth e (by simp), World.cell?_setCell_same w _ _ f, by simp [g], by simp [i]⟩

theorem below_drewN' (B : Nat) (w : World) (k : Nat) : Below B w (w.drewN k) := below_drewN (Below.refl _ _) k

set_option maxHeartbeats 1000000 in
theorem readByte_more (bR bI bD off : Nat) (n c : Nat) (pos : Nat) (left : Int) (z : Int) (fv : Value) (w : World)
    (hr : Rd w bR bI (.slice (some ⟨bD, off, none⟩) n c) fv pos left) (hne : bR < bI)
    (hlt : pos < n) (hn : n ≤ 1048576) (cz : w.cell? ⟨bD, off + pos, none⟩ = some (.int .u8 z)) :
    Calls Ybaf.prog 41 #[.pointer (some ⟨bR, 0, none⟩)] w fun e w' => e = .returned (.tuple #[.int .u8 z, .nilIface]) ∧ Rd w' bR bI (.slice (some ⟨bD, off, none⟩) n c) fv ((pos + 1 : Nat) : Int) left ∧ Below bR w w' := by
  have hp : (pos : Int) < (n : Int) := by omega
  obtain ⟨c0, c1, _, _, _, _, f1, _⟩ := id hr
  have HR : Hid (Rd w bR bI (.slice (some ⟨bD, off, none⟩) n c) fv pos left) := hr
  clear hr
  go_enter Ybaf.func41, Ybaf.ntmps41
  go_wp2
  go_quiet (fail)
  go_wp2
  go_quiet (fail)
  go_wp2
  go_ret2
  refine ⟨rfl, ?_, ?_⟩
  · exact (HR.out.drewN _).setPos hne _
  · exact (below_drewN' _ _ _).setCell (p := ⟨bR, 1, none⟩) (Nat.le_refl _) _

set_option maxHeartbeats 1000000 in
theorem readByte_fail (bR bI : Nat) (ao : Option Addr) (n c : Nat) (pos : Nat) (left : Int) (t : TypeId) (x : Value) (w : World)
    (hr : Rd w bR bI (.slice ao n c) (.iface t x) pos left)
    (hge : n ≤ pos) :
    Calls Ybaf.prog 41 #[.pointer (some ⟨bR, 0, none⟩)] w fun e w' => e = .returned (.tuple #[.int .u8 0, .iface t x]) ∧ Rd w' bR bI (.slice ao n c) (.iface t x) pos left ∧ Below bR w w' := by
  obtain ⟨c0, c1, c2, _, _, _, f1, _⟩ := id hr
  have HR : Hid (Rd w bR bI (.slice ao n c) (.iface t x) pos left) := hr
  clear hr
  go_enter Ybaf.func41, Ybaf.ntmps41
  go_wp2
  go_quiet (fail)
  go_wp2
  go_quiet (fail)
  go_wp2
  go_ret2
  refine ⟨rfl, ?_, ?_⟩
  · exact (HR.out.drewN _).drewN _
  · exact (below_drewN' _ _ _).trans (below_drewN' _ _ _)

set_option maxHeartbeats 1000000 in
theorem readByte_eof (bR bI : Nat) (ao : Option Addr) (n c : Nat) (pos : Nat) (left : Int) (ve : Value) (w : World)
    (hr : Rd w bR bI (.slice ao n c) .nilIface pos left)
    (he : w.cell? ⟨3, 0, none⟩ = some ve)
    (hge : n ≤ pos) :
    Calls Ybaf.prog 41 #[.pointer (some ⟨bR, 0, none⟩)] w fun e w' => e = .returned (.tuple #[.int .u8 0, ve]) ∧ Rd w' bR bI (.slice ao n c) .nilIface pos left ∧ Below bR w w' := by
  obtain ⟨c0, c1, c2, _, _, _, f1, _⟩ := id hr
  have HR : Hid (Rd w bR bI (.slice ao n c) .nilIface pos left) := hr
  clear hr
  go_enter Ybaf.func41, Ybaf.ntmps41
  go_wp2
  go_quiet (fail)
  go_wp2
  go_quiet (fail)
  go_wp2
  go_ret2
  refine ⟨rfl, ?_, ?_⟩
  · exact (HR.out.drewN _).drewN _
  · exact (below_drewN' _ _ _).trans (below_drewN' _ _ _)
end Go.Proofs.YbulkdhrwFmt
