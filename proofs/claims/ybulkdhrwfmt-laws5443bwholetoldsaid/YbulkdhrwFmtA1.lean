/- The small library walks: errors.New, bytes.Clone, bytes.Equal, bigEndian.Uint64. -/
import Derived.Test.YbulkdhrwFmtRows
import Derived.WalkKit
import Derived.WalkSpells
import Derived.WalkLawsBesides
import Derived.Deep.QuietTactic
import Derived.BigQuiet
import Derived.Lib.EndianBits
namespace Go.Proofs.YbulkdhrwFmt
open Go.RowKit

set_option maxHeartbeats 400000 in
theorem new_any (s : ByteArray) (w : World) :
    Calls Ybaf.prog 6 #[.string s] w fun e w' => e = .returned (.iface 49 (.pointer (some ⟨w.heap.size, 0, none⟩))) ∧ w' = w.alloc (.cells #[.string s] 51) := by
  go_enter Ybaf.func6, Ybaf.ntmps6
  go_wp2
  go_ret
  exact ⟨rfl, rfl⟩

theorem q22 (w : World) (a : Option Addr) (n c n' c' : Nat) : (binOp .eql 22 (.slice a n c) (.slice none n' c')).run Ybaf.prog w = .ok (.bool a.isNone) w :=
  Lib.run_eql_slice_nil w _ _ a n c n' c' Ybaf.underlying22

set_option maxHeartbeats 400000 in
theorem clone_nil (n c : Nat) (w : World) :
    Calls Ybaf.prog 5 #[.slice none n c] w fun e w' => e = .returned (.slice none 0 0) ∧ w' = w := by
  have q := q22
  go_enter Ybaf.func5, Ybaf.ntmps5
  go_wp2
  go_ret
  exact ⟨rfl, rfl⟩

theorem info5 : (Ybaf.prog.info? 5).map (fun i => (i.zero, i.size, i.bytes)) = some (some (.int .u8 0), 1, 1) := by kernel_rfl

set_option maxHeartbeats 1000000 in
theorem clone_at (a : Addr) (n c : Nat) (xs : List Int) (w : World) (hx : xs.length = n) (hbig : n ≤ 140737488355328) (hc : ∀ i, i < n → w.cell? (a.add i) = some (.int .u8 (xs.getD i 0))) :
    Calls Ybaf.prog 5 #[.slice (some a) n c] w fun e w' => ∃ v', e = .returned v' ∧ w'.ownsRow w.heap.size 5 1 v' n (xs.map (Value.int .u8)) ∧ Below w.heap.size w w' := by
  have q := q22
  obtain ⟨i0, hi, hz0, hz1, hz2⟩ := info_parts info5
  have A : Hid (∀ i, i < n → w.cell? (a.add i) = some (.int .u8 (xs.getD i 0))) := hc
  clear hc
  go_enter Ybaf.func5, Ybaf.ntmps5
  go_wp2_with (at_builtin; refine wpList_append_own _ rfl _ _ 22 rfl w.heap.size 5 i0 (.int .u8 0) 1 1 Ybaf.underlying22 hi hz0 hz1 hz2 rfl (by decide) _ _ _ rfl (World.ownsRow_made w #[] 0 (Nat.le_refl _) (Nat.zero_le _) rfl) a n c (xs.map (Value.int .u8)) rfl ?qc1 ?qc2 ?qc3 ?qc4 ?qc5 ?qc6 ?_)
  case qc1 => simp; omega
  case qc2 =>
    intro j u hj
    have hjn : j < n := by
      have := (List.getElem?_eq_some_iff.1 hj).1
      simp at this
      omega
    refine Lib.cell?_alloc_some _ ?_
    rw [A.out j hjn]
    have e : (xs.map (Value.int .u8))[j]? = some (Value.int .u8 (xs.getD j 0)) := by simp [List.getD, List.getElem?_eq_getElem (show j < xs.length by omega)]
    rw [e] at hj
    exact hj
  case qc3 => intro u hu; obtain ⟨x, _, rfl⟩ := List.mem_map.1 hu; rfl
  case qc4 => unfold maxLen; omega
  case qc5 => omega
  case qc6 => simp
  intro v' w1 hown hgrow hnil
  go_wp2
  go_ret
  refine ⟨v', rfl, by simpa using hown, ?_⟩
  exact ((Below.refl _ w).alloc (Nat.le_refl _) _).grown hgrow (by simp) (by intro k hk; simp [Value.ownBlock] at hk; omega)

set_option maxHeartbeats 400000 in
theorem equal_same (v1 v2 : Value) (s : ByteArray) (w : World) (h1 : (convert 22 9 v1).run Ybaf.prog w = .ok (.string s) w) (h2 : (convert 22 9 v2).run Ybaf.prog w = .ok (.string s) w) :
    Calls Ybaf.prog 8 #[v1, v2] w fun e w' => e = .returned (.bool true) ∧ w' = w := by
  go_enter Ybaf.func8, Ybaf.ntmps8
  go_wp2
  go_ret
  exact ⟨by simp, rfl⟩

/-- The number that bytes spell, the greatest first. -/
def be (l : List Int) : Int := l.foldl (fun a b => a * 256 + b) 0

set_option maxHeartbeats 4000000 in
set_option maxRecDepth 100000 in
theorem u64_any (g : Nat) (b0 b1 b2 b3 b4 b5 b6 b7 : Int) (w : World)
    (c0 : w.cell? ⟨g, 0, none⟩ = some (.int .u8 b0)) (c1 : w.cell? ⟨g, 1, none⟩ = some (.int .u8 b1)) (c2 : w.cell? ⟨g, 2, none⟩ = some (.int .u8 b2)) (c3 : w.cell? ⟨g, 3, none⟩ = some (.int .u8 b3)) (c4 : w.cell? ⟨g, 4, none⟩ = some (.int .u8 b4)) (c5 : w.cell? ⟨g, 5, none⟩ = some (.int .u8 b5)) (c6 : w.cell? ⟨g, 6, none⟩ = some (.int .u8 b6)) (c7 : w.cell? ⟨g, 7, none⟩ = some (.int .u8 b7))
    (h0 : 0 ≤ b0 ∧ b0 < 256) (h1 : 0 ≤ b1 ∧ b1 < 256) (h2 : 0 ≤ b2 ∧ b2 < 256) (h3 : 0 ≤ b3 ∧ b3 < 256) (h4 : 0 ≤ b4 ∧ b4 < 256) (h5 : 0 ≤ b5 ∧ b5 < 256) (h6 : 0 ≤ b6 ∧ b6 < 256) (h7 : 0 ≤ b7 ∧ b7 < 256) :
    Calls Ybaf.prog 9 #[.agg #[], .slice (some ⟨g, 0, none⟩) 8 8] w fun e w' => e = .returned (.int .u64 (be [b0, b1, b2, b3, b4, b5, b6, b7])) ∧ Below w.heap.size w w' := by
  have d0 := Lib.cell?_alloc_some (.cells #[] 41) c0
  have d1 := Lib.cell?_alloc_some (.cells #[] 41) c1
  have d2 := Lib.cell?_alloc_some (.cells #[] 41) c2
  have d3 := Lib.cell?_alloc_some (.cells #[] 41) c3
  have d4 := Lib.cell?_alloc_some (.cells #[] 41) c4
  have d5 := Lib.cell?_alloc_some (.cells #[] 41) c5
  have d6 := Lib.cell?_alloc_some (.cells #[] 41) c6
  have d7 := Lib.cell?_alloc_some (.cells #[] 41) c7
  go_enter Ybaf.func9, Ybaf.ntmps9
  go_wp2
  go_quiet (fail)
  go_wp2
  go_ret
  refine ⟨?_, ((Below.refl _ w).alloc (Nat.le_refl _) _).trans ⟨rfl, rfl, rfl, Nat.le_refl _, fun _ _ => rfl⟩⟩
  simp (disch := omega) only [u64_or8, u64_or16, u64_or24, u64_or32, u64_or40, u64_or48, u64_or56]
  have hv : be [b0, b1, b2, b3, b4, b5, b6, b7] = b7 + b6 * 256 + b5 * 65536 + b4 * 16777216 + b3 * 4294967296 + b2 * 1099511627776 + b1 * 281474976710656 + b0 * 72057594037927936 := by
    simp only [be, List.foldl]
    omega
  rw [hv]
  rfl

end Go.Proofs.YbulkdhrwFmt
