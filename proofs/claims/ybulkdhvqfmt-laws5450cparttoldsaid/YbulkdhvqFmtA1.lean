/- (ManagementType).String and the law over it. -/
import Derived.Test.YbulkdhvqFmtRows
import Derived.WalkKit
import Derived.WalkSpells
import Derived.WalkLawsBesides
import Derived.Stop.CallBack
import Derived.Stop.IfaceNil
namespace Go.Proofs.YbulkdhvqFmt
open Go.RowKit Go.Extern.Stop Go.Stop Go.Extern
set_option linter.unusedSimpArgs false
set_option linter.unusedVariables false

theorem call31 (args : Array Value) (w : World) : (callFunc 31 args).run Ybaf.prog w = ((FmtStop.sprintf #[9, 92] #[9] args).run Ybaf.prog w).andThen fun v w' => .ok (.value v) w' :=
  run_callFunc_extern Ybaf.func31 (by kernel_rfl) (by kernel_rfl) (by kernel_rfl) (by kernel_rfl) args w
theorem fguard (name : String) (w : World) : (FmtStop.guard name).run Ybaf.prog w = .ok () w := by kernel_rfl
theorem fmt0 : FmtStop.printed? ⟨#[77, 97, 110, 97, 103, 101, 109, 101, 110, 116, 84, 121, 112, 101, 40, 48, 120, 37, 48, 50, 120, 41]⟩ 1 = some [(0, 120, false)] := by kernel_rfl
theorem fmt0r (w : World) : (FmtDoors.printed ⟨#[77, 97, 110, 97, 103, 101, 109, 101, 110, 116, 84, 121, 112, 101, 40, 48, 120, 37, 48, 50, 120, 41]⟩ 1).run Ybaf.prog w = .ok [(0, 120, false)] w := by kernel_rfl
def shape5 : List UInt8 := FmtStop.intCode .u8 :: FmtStop.pack "uint8".toUTF8.data.toList
theorem op5 (name : String) (x : Int) (w : World) : (FmtStop.operand name false 120 false (.iface 5 (.int .u8 x))).run Ybaf.prog w = .ok (shape5, digits 8 (x % 2 ^ 64).toNat) w := by kernel_rfl

/-- The names, as the variable holds them. -/
def names : Array Value := #[.string ⟨#[]⟩, .string ⟨#[83, 83, 65]⟩, .string ⟨#[83, 83, 80]⟩, .string ⟨#[83, 83, 84]⟩, .string ⟨#[83, 79, 82]⟩, .string ⟨#[83, 79, 71]⟩, .string ⟨#[83, 83, 67]⟩]

set_option maxHeartbeats 1000000 in
theorem str_other (F : Interp) (x : Int) (w : World) (hF : F.answers w.tape) (h7 : 7 ≤ x) (h255 : x ≤ 255) :
    Calls Ybaf.prog 14 #[.int .u8 x] w fun e w' => (∃ s, e = .returned (.string s)) ∧ Below w.heap.size w w' := by
  have hF' := answers_open hF
  have x1 := call31
  have x2 := fguard
  have x3 := fmt0
  have x4 := fmt0r
  have x5 := op5
  go_enter Ybaf.func14, Ybaf.ntmps14
  go_wp2
  go_ret
  exact ⟨⟨_, rfl⟩, ((Below.refl _ w).alloc (Nat.le_refl _) _).drew⟩

set_option maxHeartbeats 1000000 in
theorem str_zero (F : Interp) (w : World) (hF : F.answers w.tape) (c0 : w.cell? ⟨1, 0, none⟩ = some (.string ⟨#[]⟩)) :
    Calls Ybaf.prog 14 #[.int .u8 0] w fun e w' => (∃ s, e = .returned (.string s)) ∧ Below w.heap.size w w' := by
  have hF' := answers_open hF
  have x1 := call31
  have x2 := fguard
  have x3 := fmt0
  have x4 := fmt0r
  have x5 := op5
  go_enter Ybaf.func14, Ybaf.ntmps14
  go_wp2
  go_ret
  exact ⟨⟨_, rfl⟩, ((Below.refl _ w).alloc (Nat.le_refl _) _).drew⟩

set_option maxHeartbeats 1000000 in
theorem str_1 (w : World) (c : w.cell? ⟨1, 1, none⟩ = some (.string ⟨#[83, 83, 65]⟩)) :
    Calls Ybaf.prog 14 #[.int .u8 1] w fun e w' => e = .returned (.string ⟨#[83, 83, 65]⟩) ∧ w' = w := by
  go_enter Ybaf.func14, Ybaf.ntmps14
  go_wp2
  go_ret
  exact ⟨rfl, rfl⟩

set_option maxHeartbeats 1000000 in
theorem name_1 (w : World) :
    Calls Ybaf.prog 15 #[.int .u8 1] w fun e w' => e = .returned (.tuple #[.string ⟨#[83, 83, 65]⟩, .bool true]) ∧ w' = w := by
  go_enter Ybaf.func15, Ybaf.ntmps15
  go_wp2
  go_ret2
  exact ⟨rfl, rfl⟩

set_option maxHeartbeats 1000000 in
theorem law_1 (w : World) (c : w.cell? ⟨1, 1, none⟩ = some (.string ⟨#[83, 83, 65]⟩)) :
    Calls Ybaf.prog 4 #[.int .u8 1] w fun e w' => e = .returned (.bool true) ∧ Below w.heap.size w w' := by
  go_enter Ybaf.func4, Ybaf.ntmps4
  go_wp2_with (first | (go_at_call 14; refine (str_1 _ c).mono ?_; rintro e w1 ⟨rfl, rfl⟩) | (go_at_call 15; refine (name_1 _).mono ?_; rintro e w1 ⟨rfl, rfl⟩))
  go_ret
  exact ⟨rfl, Below.refl _ _⟩

set_option maxHeartbeats 1000000 in
theorem str_2 (w : World) (c : w.cell? ⟨1, 2, none⟩ = some (.string ⟨#[83, 83, 80]⟩)) :
    Calls Ybaf.prog 14 #[.int .u8 2] w fun e w' => e = .returned (.string ⟨#[83, 83, 80]⟩) ∧ w' = w := by
  go_enter Ybaf.func14, Ybaf.ntmps14
  go_wp2
  go_ret
  exact ⟨rfl, rfl⟩

set_option maxHeartbeats 1000000 in
theorem name_2 (w : World) :
    Calls Ybaf.prog 15 #[.int .u8 2] w fun e w' => e = .returned (.tuple #[.string ⟨#[83, 83, 80]⟩, .bool true]) ∧ w' = w := by
  go_enter Ybaf.func15, Ybaf.ntmps15
  go_wp2
  go_ret2
  exact ⟨rfl, rfl⟩

set_option maxHeartbeats 1000000 in
theorem law_2 (w : World) (c : w.cell? ⟨1, 2, none⟩ = some (.string ⟨#[83, 83, 80]⟩)) :
    Calls Ybaf.prog 4 #[.int .u8 2] w fun e w' => e = .returned (.bool true) ∧ Below w.heap.size w w' := by
  go_enter Ybaf.func4, Ybaf.ntmps4
  go_wp2_with (first | (go_at_call 14; refine (str_2 _ c).mono ?_; rintro e w1 ⟨rfl, rfl⟩) | (go_at_call 15; refine (name_2 _).mono ?_; rintro e w1 ⟨rfl, rfl⟩))
  go_ret
  exact ⟨rfl, Below.refl _ _⟩

set_option maxHeartbeats 1000000 in
theorem str_3 (w : World) (c : w.cell? ⟨1, 3, none⟩ = some (.string ⟨#[83, 83, 84]⟩)) :
    Calls Ybaf.prog 14 #[.int .u8 3] w fun e w' => e = .returned (.string ⟨#[83, 83, 84]⟩) ∧ w' = w := by
  go_enter Ybaf.func14, Ybaf.ntmps14
  go_wp2
  go_ret
  exact ⟨rfl, rfl⟩

set_option maxHeartbeats 1000000 in
theorem name_3 (w : World) :
    Calls Ybaf.prog 15 #[.int .u8 3] w fun e w' => e = .returned (.tuple #[.string ⟨#[83, 83, 84]⟩, .bool true]) ∧ w' = w := by
  go_enter Ybaf.func15, Ybaf.ntmps15
  go_wp2
  go_ret2
  exact ⟨rfl, rfl⟩

set_option maxHeartbeats 1000000 in
theorem law_3 (w : World) (c : w.cell? ⟨1, 3, none⟩ = some (.string ⟨#[83, 83, 84]⟩)) :
    Calls Ybaf.prog 4 #[.int .u8 3] w fun e w' => e = .returned (.bool true) ∧ Below w.heap.size w w' := by
  go_enter Ybaf.func4, Ybaf.ntmps4
  go_wp2_with (first | (go_at_call 14; refine (str_3 _ c).mono ?_; rintro e w1 ⟨rfl, rfl⟩) | (go_at_call 15; refine (name_3 _).mono ?_; rintro e w1 ⟨rfl, rfl⟩))
  go_ret
  exact ⟨rfl, Below.refl _ _⟩

set_option maxHeartbeats 1000000 in
theorem str_4 (w : World) (c : w.cell? ⟨1, 4, none⟩ = some (.string ⟨#[83, 79, 82]⟩)) :
    Calls Ybaf.prog 14 #[.int .u8 4] w fun e w' => e = .returned (.string ⟨#[83, 79, 82]⟩) ∧ w' = w := by
  go_enter Ybaf.func14, Ybaf.ntmps14
  go_wp2
  go_ret
  exact ⟨rfl, rfl⟩

set_option maxHeartbeats 1000000 in
theorem name_4 (w : World) :
    Calls Ybaf.prog 15 #[.int .u8 4] w fun e w' => e = .returned (.tuple #[.string ⟨#[83, 79, 82]⟩, .bool true]) ∧ w' = w := by
  go_enter Ybaf.func15, Ybaf.ntmps15
  go_wp2
  go_ret2
  exact ⟨rfl, rfl⟩

set_option maxHeartbeats 1000000 in
theorem law_4 (w : World) (c : w.cell? ⟨1, 4, none⟩ = some (.string ⟨#[83, 79, 82]⟩)) :
    Calls Ybaf.prog 4 #[.int .u8 4] w fun e w' => e = .returned (.bool true) ∧ Below w.heap.size w w' := by
  go_enter Ybaf.func4, Ybaf.ntmps4
  go_wp2_with (first | (go_at_call 14; refine (str_4 _ c).mono ?_; rintro e w1 ⟨rfl, rfl⟩) | (go_at_call 15; refine (name_4 _).mono ?_; rintro e w1 ⟨rfl, rfl⟩))
  go_ret
  exact ⟨rfl, Below.refl _ _⟩

set_option maxHeartbeats 1000000 in
theorem str_5 (w : World) (c : w.cell? ⟨1, 5, none⟩ = some (.string ⟨#[83, 79, 71]⟩)) :
    Calls Ybaf.prog 14 #[.int .u8 5] w fun e w' => e = .returned (.string ⟨#[83, 79, 71]⟩) ∧ w' = w := by
  go_enter Ybaf.func14, Ybaf.ntmps14
  go_wp2
  go_ret
  exact ⟨rfl, rfl⟩

set_option maxHeartbeats 1000000 in
theorem name_5 (w : World) :
    Calls Ybaf.prog 15 #[.int .u8 5] w fun e w' => e = .returned (.tuple #[.string ⟨#[83, 79, 71]⟩, .bool true]) ∧ w' = w := by
  go_enter Ybaf.func15, Ybaf.ntmps15
  go_wp2
  go_ret2
  exact ⟨rfl, rfl⟩

set_option maxHeartbeats 1000000 in
theorem law_5 (w : World) (c : w.cell? ⟨1, 5, none⟩ = some (.string ⟨#[83, 79, 71]⟩)) :
    Calls Ybaf.prog 4 #[.int .u8 5] w fun e w' => e = .returned (.bool true) ∧ Below w.heap.size w w' := by
  go_enter Ybaf.func4, Ybaf.ntmps4
  go_wp2_with (first | (go_at_call 14; refine (str_5 _ c).mono ?_; rintro e w1 ⟨rfl, rfl⟩) | (go_at_call 15; refine (name_5 _).mono ?_; rintro e w1 ⟨rfl, rfl⟩))
  go_ret
  exact ⟨rfl, Below.refl _ _⟩

set_option maxHeartbeats 1000000 in
theorem str_6 (w : World) (c : w.cell? ⟨1, 6, none⟩ = some (.string ⟨#[83, 83, 67]⟩)) :
    Calls Ybaf.prog 14 #[.int .u8 6] w fun e w' => e = .returned (.string ⟨#[83, 83, 67]⟩) ∧ w' = w := by
  go_enter Ybaf.func14, Ybaf.ntmps14
  go_wp2
  go_ret
  exact ⟨rfl, rfl⟩

set_option maxHeartbeats 1000000 in
theorem name_6 (w : World) :
    Calls Ybaf.prog 15 #[.int .u8 6] w fun e w' => e = .returned (.tuple #[.string ⟨#[83, 83, 67]⟩, .bool true]) ∧ w' = w := by
  go_enter Ybaf.func15, Ybaf.ntmps15
  go_wp2
  go_ret2
  exact ⟨rfl, rfl⟩

set_option maxHeartbeats 1000000 in
theorem law_6 (w : World) (c : w.cell? ⟨1, 6, none⟩ = some (.string ⟨#[83, 83, 67]⟩)) :
    Calls Ybaf.prog 4 #[.int .u8 6] w fun e w' => e = .returned (.bool true) ∧ Below w.heap.size w w' := by
  go_enter Ybaf.func4, Ybaf.ntmps4
  go_wp2_with (first | (go_at_call 14; refine (str_6 _ c).mono ?_; rintro e w1 ⟨rfl, rfl⟩) | (go_at_call 15; refine (name_6 _).mono ?_; rintro e w1 ⟨rfl, rfl⟩))
  go_ret
  exact ⟨rfl, Below.refl _ _⟩

set_option maxHeartbeats 1000000 in
theorem name_other (x : Int) (w : World) (h : x = 0 ∨ 7 ≤ x) :
    Calls Ybaf.prog 15 #[.int .u8 x] w fun e w' => e = .returned (.tuple #[.string ⟨#[]⟩, .bool false]) ∧ w' = w := by
  have h1 : (x == 1) = false := beq_eq_false_iff_ne.2 (by omega)
  have h2 : (x == 2) = false := beq_eq_false_iff_ne.2 (by omega)
  have h3 : (x == 3) = false := beq_eq_false_iff_ne.2 (by omega)
  have h4 : (x == 4) = false := beq_eq_false_iff_ne.2 (by omega)
  have h5 : (x == 5) = false := beq_eq_false_iff_ne.2 (by omega)
  have h6 : (x == 6) = false := beq_eq_false_iff_ne.2 (by omega)
  clear h
  go_enter Ybaf.func15, Ybaf.ntmps15
  go_wp2
  go_ret2
  exact ⟨rfl, rfl⟩

set_option maxHeartbeats 1000000 in
theorem law_other (F : Interp) (x : Int) (w : World) (hF : F.answers w.tape) (h : x = 0 ∨ 7 ≤ x) (h255 : x ≤ 255) (c0 : w.cell? ⟨1, 0, none⟩ = some (.string ⟨#[]⟩)) :
    Calls Ybaf.prog 4 #[.int .u8 x] w fun e w' => e = .returned (.bool true) ∧ Below w.heap.size w w' := by
  have hs : Calls Ybaf.prog 14 #[.int .u8 x] w fun e w' => (∃ s, e = .returned (.string s)) ∧ Below w.heap.size w w' := by
    rcases h with rfl | h
    · exact str_zero F w hF c0
    · exact str_other F x w hF h h255
  have HS : Hid (Calls Ybaf.prog 14 #[.int .u8 x] w fun e w' => (∃ s, e = .returned (.string s)) ∧ Below w.heap.size w w') := hs
  have HX : Hid (x = 0 ∨ 7 ≤ x) := h
  clear hs h hF
  go_enter Ybaf.func4, Ybaf.ntmps4
  go_wp2_with (first | (go_at_call 14; refine HS.out.mono ?_; rintro e w1 ⟨⟨s, rfl⟩, hb⟩; have HB : Hid (Below w.heap.size w w1) := hb; clear hb) | (go_at_call 15; refine (name_other x _ HX.out).mono ?_; rintro e w2 ⟨rfl, rfl⟩))
  go_ret
  exact ⟨rfl, HB.out⟩

theorem whole (F : Interp) (x : Int) (w : World) (hF : F.answers w.tape) (h0 : 0 ≤ x) (h255 : x ≤ 255) (hc : ∀ i, i < 7 → w.cell? ⟨1, i, none⟩ = names[i]?) :
    Calls Ybaf.prog 4 #[.int .u8 x] w fun e w' => e = .returned (.bool true) ∧ Below w.heap.size w w' := by
  by_cases h : x = 0 ∨ 7 ≤ x
  · exact law_other F x w hF h h255 (hc 0 (by omega))
  · have h' : x = 1 ∨ x = 2 ∨ x = 3 ∨ x = 4 ∨ x = 5 ∨ x = 6 := by omega
    rcases h' with rfl | rfl | rfl | rfl | rfl | rfl
    · exact law_1 w (hc 1 (by omega))
    · exact law_2 w (hc 2 (by omega))
    · exact law_3 w (hc 3 (by omega))
    · exact law_4 w (hc 4 (by omega))
    · exact law_5 w (hc 5 (by omega))
    · exact law_6 w (hc 6 (by omega))

end Go.Proofs.YbulkdhvqFmt
