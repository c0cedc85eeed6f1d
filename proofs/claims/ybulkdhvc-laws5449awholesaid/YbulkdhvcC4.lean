/- setAlong. -/
import Derived.Test.YbulkdhvcC3
namespace Go.Proofs.Ybulkdhvc
namespace LawA
open Go.RowKit
open LawB (heap_new addr_add oneInts info5 size5 lt_of_some)
set_option linter.unusedSimpArgs false
set_option linter.unusedVariables false

/-- Where the along link stands in a record, and what it holds. -/
def ofs (links : Int) : Nat := if links = 2 then 5 else 1
def dl (to_ : Int) (s : Nat) : Int := if to_ = 0 then 0 else IntKind.u64.wrap (to_ - (s : Int)) % 4294967296
theorem dl_bd (to_ : Int) (s : Nat) : 0 ≤ dl to_ s ∧ dl to_ s < 4294967296 := by
  unfold dl
  split
  · omega
  · omega

theorem link_int (bP H n b s : Nat) (at_ fr v : Int) (g : Nat → Nat) (C : Nat → Nat → Int) (w : World) (q : Queue w bP H n b fr g C) (hat : at_ = (s : Int))
    (hs0 : b * 4096 ≤ s) (hs1 : s + 4 ≤ (b + n) * 4096) (h0 : 0 ≤ v) (h1 : v < 4294967296) :
    Calls Yba.prog 8 #[.pointer (some ⟨bP, 0, none⟩), .int .u64 at_, .int .u32 v] w fun e w' => e = .returned (.tuple #[]) ∧ Grid w' g n (upd C b s 4 (bt v)) ∧ Kept w w' g n := by
  subst hat
  exact link_any bP H n b s fr v g C w q hs0 hs1 h0 h1

set_option maxRecDepth 100000 in
set_option maxHeartbeats 1000000 in
theorem along (bP bR H n b s : Nat) (fr links to_ : Int) (g : Nat → Nat) (C : Nat → Nat → Int) (w : World) (q : Queue w bP H n b fr g C)
    (hs0 : b * 4096 ≤ s) (hs1 : s + 9 ≤ (b + n) * 4096) (h0 : 0 ≤ to_) (h1 : to_ < 18446744073709551616)
    (ca : w.cell? ⟨bR, 0, none⟩ = some (.int .u64 s)) (cl : w.cell? ⟨bR, 2, none⟩ = some (.int .i64 links)) :
    Calls Yba.prog 5 #[.pointer (some ⟨bP, 0, none⟩), .pointer (some ⟨bR, 0, none⟩), .int .u64 to_] w fun e w' => e = .returned (.tuple #[]) ∧ Grid w' g n (upd C b (s + ofs links) 4 (bt (dl to_ s))) ∧ Kept w w' g n := by
  have Q : Hid (Queue w bP H n b fr g C) := q
  have hsb : s ≤ 1000000000000000 := by have := q.hb; have := q.hn; omega
  have hd := dl_bd to_ s
  clear q
  by_cases h2 : links = 2
  · have e2 : (links == 2) = true := beq_iff_eq.2 h2
    have HO : Hid (ofs links = 5) := by rw [Hid, ofs, if_pos h2]
    have HL : Hid (links = 2) := h2
    clear h2
    by_cases h3 : to_ = 0
    · have e3 : (to_ != 0) = false := by simp [h3]
      have HD : Hid (dl to_ s = 0) := by rw [Hid, dl, if_pos h3]
      clear h3 hd
      go_enter Yba.func5, Yba.ntmps5
      go_wp2_with (go_at_call 8; refine (link_int bP H n b (s + 5) _ fr 0 g C _ Q.out (by omega) (by omega) (by omega) (by omega) (by omega)).mono ?_; rintro e w1 ⟨rfl, hg, hk⟩)
      go_end0
      rw [HO.out, HD.out]
      exact ⟨rfl, hg, hk⟩
    · have e3 : (to_ != 0) = true := by simp [h3]
      have HD : Hid (dl to_ s = IntKind.u64.wrap (to_ - (s : Int)) % 4294967296) := by rw [Hid, dl, if_neg h3]
      clear h3
      go_enter Yba.func5, Yba.ntmps5
      go_wp2_with (go_at_call 8; refine (link_int bP H n b (s + 5) _ fr (IntKind.u64.wrap (to_ - (s : Int)) % 4294967296) g C _ Q.out (by omega) (by omega) (by omega) (by omega) (by omega)).mono ?_; rintro e w1 ⟨rfl, hg, hk⟩)
      go_end0
      rw [HO.out, HD.out]
      exact ⟨rfl, hg, hk⟩
  · have e2 : (links == 2) = false := beq_eq_false_iff_ne.2 h2
    have HO : Hid (ofs links = 1) := by rw [Hid, ofs, if_neg h2]
    clear h2
    by_cases h3 : to_ = 0
    · have e3 : (to_ != 0) = false := by simp [h3]
      have HD : Hid (dl to_ s = 0) := by rw [Hid, dl, if_pos h3]
      clear h3 hd
      go_enter Yba.func5, Yba.ntmps5
      go_wp2_with (go_at_call 8; refine (link_int bP H n b (s + 1) _ fr 0 g C _ Q.out (by omega) (by omega) (by omega) (by omega) (by omega)).mono ?_; rintro e w1 ⟨rfl, hg, hk⟩)
      go_end0
      rw [HO.out, HD.out]
      exact ⟨rfl, hg, hk⟩
    · have e3 : (to_ != 0) = true := by simp [h3]
      have HD : Hid (dl to_ s = IntKind.u64.wrap (to_ - (s : Int)) % 4294967296) := by rw [Hid, dl, if_neg h3]
      clear h3
      go_enter Yba.func5, Yba.ntmps5
      go_wp2_with (go_at_call 8; refine (link_int bP H n b (s + 1) _ fr (IntKind.u64.wrap (to_ - (s : Int)) % 4294967296) g C _ Q.out (by omega) (by omega) (by omega) (by omega) (by omega)).mono ?_; rintro e w1 ⟨rfl, hg, hk⟩)
      go_end0
      rw [HO.out, HD.out]
      exact ⟨rfl, hg, hk⟩

end LawA
end Go.Proofs.Ybulkdhvc
