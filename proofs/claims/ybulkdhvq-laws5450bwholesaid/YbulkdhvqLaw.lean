/- LawS5450BWhole: the row's step. -/
import Derived.Test.YbulkdhvqB4
import Derived.ProofKit
import Derived.OpenShut
import Derived.ShutString
import Derived.ChangeOld
import Derived.Below
import Derived.SizedLaws
import Derived.Deep.SlicePairs
namespace Go.Proofs.Ybulkdhvq
open Go.ChangeShapes Go.WideShapes Go.ChangeAt Go.RowKit
open Go.ChangeMaps (open_string shut_string)
set_option linter.unusedVariables false
set_option linter.unusedSimpArgs false

theorem own : ownKnob Yba.prog.godebug = none := by kernel_rfl
theorem laidOut : laidOutB Yba.prog = true := by kernel_rfl
theorem cells26 : Yba.prog.cellsOf 26 = 2 := by kernel_rfl
theorem cells23 : Yba.prog.cellsOf 23 = 1 := by kernel_rfl
theorem cells24 : Yba.prog.cellsOf 24 = 1 := by kernel_rfl
theorem cells5 : Yba.prog.cellsOf 5 = 1 := by kernel_rfl
theorem bytes26 : Yba.prog.bytesOf 26 = 32 := by kernel_rfl
theorem bytes5 : Yba.prog.bytesOf 5 = 1 := by kernel_rfl

theorem weightsAll_mem {H : Type} {P : Program} {e : TypeId} : ∀ {l : List (DataW H)} {d : DataW H} {n : Nat}, d ∈ l → n ∈ d.weights P e → n ∈ DataW.weightsAll P e l
  | [], _, _, h, _ => by cases h
  | x :: r, d, n, h, hn => by
    simp only [DataW.weightsAll, List.mem_append]
    rcases List.mem_cons.1 h with rfl | h
    · exact .inl hn
    · exact .inr (weightsAll_mem h hn)

theorem walk (cl ty tag : Int) (a : Option Addr) (n c : Nat) (T : Nat → Int) (va : Nat → Option Addr) (vl vc : Nat → Nat) (zs : Nat → List Int) (w : World)
    (ps : PS w a n T va vl vc zs) (hn : n ≤ 140737488355328) (hvl : ∀ j, j < n → vl j ≤ 140737488355328) :
    Calls Yba.prog 3 #[.int .u8 cl, .int .u8 ty, .slice a n c, .int .u16 tag] w fun e w' => e = .returned (.bool true) ∧ Below w.heap.size w w' := by
  cases a with
  | none =>
    obtain rfl := ps.nil rfl
    exact walk_nil cl ty tag c w
  | some x => exact walk_some cl ty tag x n c T va vl vc zs w ps hn hvl

set_option maxRecDepth 100000 in
theorem lifted (os : Os) (started : os.Started) (H : Type) (enc : TypeId × Value → H) :
    ReturnsInHanded {} Yba.checked os 3 .any (Rows.lawS5450BWholeSpec.pre6 enc Yba.prog Yba.f3 Rows.lawS5450BWholeRow.domain false) (Rows.lawS5450BWholeSpec.post enc Yba.prog Yba.f3 false true false false) := by
  refine returnsInHanded_of_change_sized (C := Yba.checked) own started (by kernel_rfl) Yba.func3
    (ChangeSpec.witness6 (enc := enc) (C := Yba.checked) false ⟨#[], #[.int .u8 0, .int .u8 0, .slice none 0 0, .int .u16 0], []⟩ 8 (by kernel_rfl) (by kernel_rfl) (by kernel_rfl) (by kernel_rfl)) ?_
  intro W base args ds gs before hval0 hW hcnd hsz _
  have hval : ∀ (j : Nat) t v, Yba.f3.params[j]? = some t → args[j]? = some v → Value.okWide Yba.prog W .any base t v := hval0
  have hW' := hW
  obtain ⟨p, q, hA0, hV, rfl, hfz, hnd⟩ := hW
  have hA : DataW.TrodAll enc Yba.prog W 0 (fun _ => true) true Yba.f3.params.toList args.toList ds p := hA0
  rw [Yba.params3] at hA hval
  obtain ⟨v0, vs0, d0, ds0, p0, q0, hargs, rfl, rfl, h0, r0⟩ := trodAll_cons hA
  obtain ⟨v1, vs1, d1, ds1, p1, q1, rfl, rfl, rfl, h1, r1⟩ := trodAll_cons r0
  obtain ⟨v2, vs2, d2, ds2, p2, q2, rfl, rfl, rfl, h2, r2⟩ := trodAll_cons r1
  obtain ⟨v3, vs3, d3, ds3, p3, q3, rfl, rfl, rfl, h3, r3⟩ := trodAll_cons r2
  obtain ⟨rfl, rfl, rfl⟩ := trodAll_nil r3
  obtain rfl : args = #[v0, v1, v2, v3] := by cases args; simp_all
  obtain ⟨rfl, rfl⟩ := trodVars_none hV
  obtain ⟨a0, rfl, rfl, rfl, w0⟩ := open_int Yba.underlying5 (hval 0 5 v0 rfl rfl) h0
  obtain ⟨a1, rfl, rfl, rfl, w1⟩ := open_int Yba.underlying5 (hval 1 5 v1 rfl rfl) h1
  obtain ⟨a3, rfl, rfl, rfl, w3⟩ := open_int Yba.underlying23 (hval 3 23 v3 rfl rfl) h3
  obtain ⟨a2, len2, cap2, rfl⟩ := okWide_slice Yba.underlying22 (hval 2 22 v2 rfl rfl)
  have k2 := h2
  have lt2 : ∀ x ∈ p2, x.block < W.heap.size := by obtain ⟨m, hm⟩ := k2; exact DataW.trod_lt m _ _ _ hm
  obtain ⟨T, va, vl, vc, zs, hps, hn, hvl⟩ : ∃ T va vl vc zs, PS W a2 len2 T va vl vc zs ∧ len2 ≤ 140737488355328 ∧ ∀ j, j < len2 → vl j ≤ 140737488355328 := by
    obtain ⟨fuel, hf⟩ := h2
    have hre := reachBytes_lt
    rcases Deep.open_slice_pairs Yba.underlying22 Yba.underlying26 cells26 rfl rfl cells23 cells24 hf with ⟨hcs, _⟩ | ⟨a, len, cap, m, nn, V0, V1, D0, D1, P0, P1, hcs, _, hl, hm, hmm, hx, hc⟩
    · simp [Value.cells] at hcs
      obtain ⟨rfl, rfl, rfl⟩ := hcs
      exact ⟨fun _ => 0, fun _ => none, fun _ => 0, fun _ => 0, fun _ => [], ⟨.inl rfl, fun _ => rfl, fun j hj => by omega⟩, by omega, fun j hj => by omega⟩
    · simp [Value.cells] at hcs
      obtain ⟨rfl, rfl, rfl⟩ := hcs
      have hmc : m = cap2 := by simpa using hmm
      simp only [Prod.mk.injEq] at hx
      have hsl := sized_slice hsz (j := 2) (t := 22) (e := 26) rfl (by rw [hx.1]; rfl) Yba.underlying22
      have hlen : len2 ≤ 140737488355328 := by
        rw [show Yba.checked.prog.bytesOf 26 = 32 from bytes26] at hsl
        simp at hsl
        omega
      obtain ⟨f, hfq⟩ := Deep.choose_lt (α := Int × Option Addr × Nat × Nat × List Int) (n := len2) (p := fun i q => W.cell? (a.add (i * 2)) = some (.int .u16 q.1) ∧ W.cell? (a.add (i * 2 + 1)) = some (.slice q.2.1 q.2.2.1 q.2.2.2.1) ∧ IsRow W q.2.1 q.2.2.1 q.2.2.2.1 q.2.2.2.2 ∧ q.2.2.1 ≤ 140737488355328) (fun i hi => by
        obtain ⟨e0, e1, t0, t1⟩ := hc i (by omega)
        obtain ⟨x, ex, _, _⟩ := DataW.trod_int Yba.underlying23 t0
        simp at ex
        rw [ex] at e0
        rcases open_ints Yba.underlying24 Yba.underlying5 cells5 t1 with ⟨hcs, hdd⟩ | ⟨y, l, c', zz, hcs, _, hl', hm', hz', hdd, hcell, hwz⟩
        · simp at hcs
          rw [hcs] at e1
          exact ⟨(x, none, 0, 0, []), e0, e1, .inl ⟨rfl, rfl, rfl, rfl⟩, by simp⟩
        · simp at hcs
          rw [hcs] at e1
          refine ⟨(x, some y, l, c', zz), e0, e1, .inr ⟨y, rfl, hl', hm', by simpa using hz', hcell, hwz⟩, ?_⟩
          have hin : ((lits (H := H) .u8 (zz.take l)).length + (lits (H := H) .u8 (zz.drop l)).length) * Yba.prog.bytesOf 5 ∈ DataW.weights Yba.prog 24 (D1 i) := by
            simp only [Prod.mk.injEq] at hdd
            rw [hdd.1]
            simp only [DataW.weights, Yba.underlying24]
            exact List.mem_cons_self
          have hagg : ((lits (H := H) .u8 (zz.take l)).length + (lits (H := H) .u8 (zz.drop l)).length) * Yba.prog.bytesOf 5 ∈ DataW.weights Yba.prog 26 (.agg [D0 i, D1 i]) := by
            simp only [DataW.weights, Yba.underlying26, DataW.weightsEach, List.map, List.mem_append]
            exact .inr (.inl hin)
          have hall : ((lits (H := H) .u8 (zz.take l)).length + (lits (H := H) .u8 (zz.drop l)).length) * Yba.prog.bytesOf 5 ∈ DataW.weights Yba.prog 22 d2 := by
            rw [hx.1]
            simp only [DataW.weights, Yba.underlying22]
            exact List.mem_cons_of_mem _ (List.mem_append_left _ (weightsAll_mem (List.mem_map.2 ⟨i, List.mem_range.2 hi, rfl⟩) hagg))
          have hle := List.all_eq_true.1 hsz _ (DataW.weights_mem_each (j := 2) (t := 22) (d := d2) rfl rfl _ hall)
          rw [bytes5] at hle
          have hle' : (lits (H := H) .u8 (zz.take l)).length + (lits (H := H) .u8 (zz.drop l)).length ≤ reachBytes := by simpa using hle
          have h1 : (lits (H := H) .u8 (zz.take l)).length = l := by
            have hz2 : zz.length = c' := by simpa using hz'
            simp [lits, hz2]; omega
          show l ≤ 140737488355328
          omega)
      refine ⟨fun i => (f i).1, fun i => (f i).2.1, fun i => (f i).2.2.1, fun i => (f i).2.2.2.1, fun i => (f i).2.2.2.2, ⟨?_, ?_, fun j hj => (hfq j hj).2.2.1⟩, hlen, fun j hj => (hfq j hj).2.2.2⟩
      · by_cases hn0 : len2 = 0
        · exact .inl hn0
        · have hs : a.spot = none := by simpa [Addr.add] using World.cell?_spot (hfq 0 (by omega)).1
          obtain ⟨b, off, sp⟩ := a
          subst hs
          refine .inr ⟨b, off, rfl, fun j hj => ?_⟩
          have h1 := (hfq j hj).1
          have h2 := (hfq j hj).2.1
          rw [addr_add] at h1 h2
          exact ⟨h1, h2⟩
      · intro h; cases h
  clear hA0 hval0
  refine (walk a0 a1 a3 a2 len2 cap2 T va vl vc zs W hps hn hvl).mono fun e W' ⟨he, bel⟩ => ?_
  subst he
  exact ⟨_, rfl, _, _, _, [], _, [], hW', trodAll_mk1 (shut_bool Yba.underlying4 _), (trodAll_cons_mk (shut_int Yba.underlying5 w0) (trodAll_cons_mk (shut_int Yba.underlying5 w1) (trodAll_cons_mk (Below.trod laidOut (by kernel_rfl) (of_decide_eq_true (by kernel_rfl)) k2 bel lt2) (trodAll_cons_mk (shut_int Yba.underlying23 w3) trodAll_mk0)))), rfl, bel.frame _, fun h => by cases h⟩

theorem over : Rows.lawS5450BWholeRow.holds Yba.pinned (OpenSpec.ofChange Rows.lawS5450BWholeSpec) :=
  OpenClaim.holds_of_wide 3 Yba.f3 rfl rfl rfl rfl rfl rfl rfl ⟨rfl, rfl, rfl, rfl, rfl⟩ rfl rfl rfl rfl rfl (by kernel_rfl) Yba.func3 (by kernel_rfl)
    (of_decide_eq_true (by kernel_rfl)) (by unfold Func.isWrapper; first | (rw [if_pos (by decide +kernel)]; kernel_rfl) | (rw [if_neg (by decide +kernel)]; exact ⟨rfl, rfl⟩))
    (fun os started H enc _ => lifted os started H enc)

/-- The statement. -/
theorem lawS5450BWhole : Rows.LawS5450BWholeSaid := over

end Go.Proofs.Ybulkdhvq
