/- locate, AppendUint32. -/
import Derived.Test.YbulkdhvcC1
import Derived.Deep.AppendLies
namespace Go.Proofs.Ybulkdhvc
namespace LawA
open Go.RowKit
open LawB (heap_new addr_add oneInts info5 size5 lt_of_some)
set_option linter.unusedSimpArgs false
set_option linter.unusedVariables false

set_option maxHeartbeats 1000000 in
theorem locate_any (bP oP : Nat) (at_ fr : Int) (w : World) (h0 : 0 ≤ at_) (h1 : at_ ≤ 1000000000000000) (h2 : 0 ≤ fr) (h3 : fr / 4096 ≤ at_ / 4096) (c1 : w.cell? ⟨bP, oP + 1, none⟩ = some (.int .u64 fr)) :
    Calls Yba.prog 12 #[.pointer (some ⟨bP, oP, none⟩), .int .u64 at_] w fun e w' => e = .returned (.tuple #[.int .i64 (at_ / 4096 - fr / 4096), .int .i64 (at_ % 4096)]) ∧ w' = w := by
  have h4 : 0 ≤ fr / 4096 := by omega
  have h5 : 0 ≤ at_ / 4096 - fr / 4096 := by omega
  have h6 : 0 ≤ at_ % 4096 := by omega
  have h7 : at_ % 4096 < 4096 := by omega
  go_enter Yba.func12, Yba.ntmps12
  go_wp2
  go_ret2

  exact ⟨rfl, rfl⟩

/-- The octets of a link, the least first. -/
def bt (v : Int) : Nat → Int
  | 0 => v % 256
  | 1 => v / 256 % 256
  | 2 => v / 65536 % 256
  | _ => v / 16777216

theorem row_four {w : World} {o0 o1 : Obj} {a b c d : Value} (j : Nat) (u : Value) (h : ([a, b, c, d] : List Value)[j]? = some u) :
    ((w.alloc o0).alloc (.cells #[a, b, c, d] 5)).cell? ((⟨w.heap.size + 1, 0, none⟩ : Addr).add j) = some u := by
  have e := World.cell?_alloc_new (w.alloc o0) #[a, b, c, d] 5 j
  rw [World.size_alloc] at e
  rw [addr_add, Nat.zero_add, e, ← h]
  simp

set_option maxHeartbeats 1000000 in
theorem app_any (v : Int) (w : World) (h0 : 0 ≤ v) (h1 : v < 4294967296) :
    Calls Yba.prog 11 #[.agg #[], .slice none 0 0, .int .u32 v] w fun e w' => ∃ gS cS, e = .returned (.slice (some ⟨gS, 0, none⟩) 4 cS) ∧ 4 ≤ cS ∧ cS ≤ maxLen ∧ w.heap.size ≤ gS ∧ (∀ i, i < 4 → w'.cell? ⟨gS, i, none⟩ = some (.int .u8 (bt v i))) ∧ Below w.heap.size w w' := by
  obtain ⟨i0, hi, hz0, hz1, hz2⟩ := info_parts info5
  go_enter Yba.func11, Yba.ntmps11
  go_wp2_with (at_builtin; refine wpList_append_own _ rfl _ _ 25 rfl w.heap.size 5 i0 (.int .u8 0) 1 1 Yba.underlying25 hi hz0 hz1 hz2 rfl (by decide) (.slice none 0 0) 0 [] (by rfl) (World.ownsRow_nil _ _ _ _) ⟨w.heap.size + 1, 0, none⟩ 4 4 [.int .u8 (v % 256), .int .u8 (v / 256 % 256), .int .u8 (v / 65536 % 256), .int .u8 (v / 16777216)] (by rfl) ?q1 ?q2 ?q3 ?q4 ?q5 ?q6 ?_)
  case q1 => rfl
  case q2 => exact fun j u h => row_four (o1 := .cells #[] 5) j u h
  case q3 => exact oneInts [_, _, _, _]
  case q4 => unfold maxLen; omega
  case q5 => omega
  case q6 => simp; omega
  intro v' w1 hown hgrow hnil
  have hB : Below w.heap.size w w1 := (((Below.refl _ w).alloc (Nat.le_refl _) _).alloc (by simp) _).grown hgrow (by simp; omega) (by intro k hk; simp [Value.ownBlock] at hk)
  obtain ⟨_, ⟨rfl, h4⟩ | ⟨g, cap, cur, rfl, hg, hh, hnc, hcm, hcs, ht⟩⟩ := hown
  · exact absurd h4 (by simp)
  · have HB : Hid (Below w.heap.size w w1) := hB
    have HC : Hid (∀ i, i < 4 → w1.cell? ⟨g, i, none⟩ = some (.int .u8 (bt v i))) := by
      intro i hi4
      have e2 : (cur.toList.take (4 * 1))[i]? = ([.int .u8 (v % 256), .int .u8 (v / 256 % 256), .int .u8 (v / 65536 % 256), .int .u8 (v / 16777216)] : List Value)[i]? := by
        rw [← ht]
      rw [List.getElem?_take, if_pos (by omega), Array.getElem?_toList] at e2
      have e3 : w1.cell? ⟨g, i, none⟩ = cur[i]? := by simp [World.cell?, hh]
      rw [e3, e2]
      match i, hi4 with
      | 0, _ => rfl
      | 1, _ => rfl
      | 2, _ => rfl
      | 3, _ => rfl
    have HM : Hid (4 ≤ cap ∧ cap ≤ maxLen ∧ w.heap.size ≤ g) := ⟨by omega, hcm, hg⟩
    clear ht hh hB hgrow hcs hnil
    go_wp2
    go_ret
    exact ⟨g, cap, rfl, HM.out.1, HM.out.2.1, HM.out.2.2, HC.out, HB.out⟩

/-- Nothing but the rows has turned. -/
structure Aside (w w' : World) (g : Nat → Nat) (n : Nat) : Prop where
  os : w'.os = w.os
  tape : w'.tape = w.tape
  output : w'.output = w.output
  size : w'.heap.size = w.heap.size
  block : ∀ k, (∀ j, j < n → k ≠ g j) → w'.heap[k]? = w.heap[k]?

theorem Aside.refl (w : World) (g : Nat → Nat) (n : Nat) : Aside w w g n := ⟨rfl, rfl, rfl, rfl, fun _ _ => rfl⟩
theorem Aside.trans {a b c : World} {g : Nat → Nat} {n : Nat} (h : Aside a b g n) (k : Aside b c g n) : Aside a c g n :=
  ⟨k.os.trans h.os, k.tape.trans h.tape, k.output.trans h.output, k.size.trans h.size, fun i hi => (k.block i hi).trans (h.block i hi)⟩
theorem Aside.setCell {a w : World} {g : Nat → Nat} {n : Nat} (h : Aside a w g n) {j : Nat} (hj : j < n) (o : Nat) (v : Value) : Aside a (w.setCell ⟨g j, o, none⟩ v) g n :=
  h.trans ⟨rfl, rfl, rfl, by simp [World.setCell], fun k hk => Below.heap_setCell _ _ _ _ (hk j hj)⟩
theorem Aside.setRow {a w : World} {g : Nat → Nat} {n : Nat} (h : Aside a w g n) {j : Nat} (hj : j < n) (A : Array Value) : Aside a (w.setRow (g j) A) g n :=
  h.trans ⟨rfl, rfl, rfl, by simp [World.setRow], fun k hk => setRow_other _ _ _ _ (hk j hj)⟩
theorem Aside.cell {w w' : World} {g : Nat → Nat} {n : Nat} (h : Aside w w' g n) {p : Addr} (hp : ∀ j, j < n → p.block ≠ g j) : w'.cell? p = w.cell? p := World.cell?_of_block (h.block p.block hp)
theorem Aside.frozen {w w' : World} {g : Nat → Nat} {n : Nat} (h : Aside w w' g n) {p : Addr} (hp : ∀ j, j < n → p.block ≠ g j) : w'.frozen? p = w.frozen? p := World.frozen?_of_block (h.block p.block hp)
theorem Aside.below {w w' : World} {g : Nat → Nat} {n B : Nat} (h : Aside w w' g n) (hB : ∀ j, j < n → B ≤ g j) : Below B w w' :=
  ⟨h.os, h.tape, h.output, Nat.le_of_eq h.size.symm, fun k hk => h.block k (fun j hj e => by have := hB j hj; omega)⟩

end LawA
end Go.Proofs.Ybulkdhvc
