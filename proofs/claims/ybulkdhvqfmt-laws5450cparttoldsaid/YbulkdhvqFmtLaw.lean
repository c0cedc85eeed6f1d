/- The card of sccp.LawS5450CPart. -/
import Derived.Test.YbulkdhvqFmtA1
import Derived.Test.YbulkdhvqFmtTie
import Derived.Test.YbulkdhvqFmtCards
import Derived.ProofKit
import Derived.OpenShut
import Derived.ShutString
import Derived.ChangeOld
import Derived.Below
import Derived.Stop.JoinedAt
import Derived.Stop.JoinedTold
import Derived.Stop.LaidErr
import Derived.SevenTiedAt
import Derived.SevenToldRow
import Derived.Lay
namespace Go.Proofs.YbulkdhvqFmt
open Go.ChangeShapes Go.WideShapes Go.ChangeAt Go.RowKit Go.Kit
open Go.Extern.Stop Go.Stop Go.Extern
open Go.ChangeMaps (open_string shut_string)
set_option linter.unusedVariables false
set_option linter.unusedSimpArgs false

theorem own : ownKnob Ybaf.prog.godebug = none := by kernel_rfl
theorem laidOut : laidOutB Ybaf.pinned.checked.prog = true := by kernel_rfl
theorem stops : Rows.lawS5450CPartRow.stops = Ybaf.pinned.checked.prog.stops := by kernel_rfl
theorem stopKnobs : Ybaf.pinned.checked.prog.stopKnobs = [] := by kernel_rfl
theorem quiet (os : Os) : Stop.quiet Ybaf.pinned.checked.prog os := by
  intro k hk
  rw [stopKnobs] at hk
  cases hk

/-- The listed variable's name, as the row lists it. -/
def nmN : String := (Rows.lawS5450CPartRow.laid.map (·.1)).getD 0 ""
theorem gN : Ybaf.prog.globalNamed nmN = some 1 := by kernel_rfl
theorem gNType : (Ybaf.prog.globals[1]?).map (·.type) = some 82 := by kernel_rfl
theorem cells82 : Ybaf.prog.cellsOf 82 = 7 := by kernel_rfl
theorem cells9 : Ybaf.prog.cellsOf 9 = 1 := by kernel_rfl

theorem str_of_trod {H : Type} {enc : TypeId × Value → H} {w : World} {base : Nat} {sp : Nat → Bool} {held : Bool} {fuel : Nat} {c : Value} {y : DataW H × List MemPlace}
    (h : DataW.trod enc Ybaf.prog w base sp held fuel 9 [c] = some y) : ∃ s : ByteArray, c = .string s ∧ y = (.lit (.string s.data.toList), []) := by
  obtain ⟨s, hc, hy, _⟩ := DataW.trod_string Ybaf.underlying9 h
  simp only [List.cons.injEq, and_true] at hc
  exact ⟨s, hc, hy⟩
theorem ba_of_list {s : ByteArray} {l : List UInt8} (h : s.data.toList = l) : s = ⟨l.toArray⟩ := by
  obtain ⟨⟨d⟩⟩ := s
  simp at h
  rw [h]

theorem names_of_laid {W : World} (h : laidMet Ybaf.prog Rows.lawS5450CPartRow.laid W) : W.var? Ybaf.prog nmN = some names := by
  obtain ⟨ps, ⟨g, t, cs, fuel, p, q, hg, ht, hvar, hd, _, _⟩, _⟩ := h
  obtain rfl := Option.some.inj (gN.symm.trans hg)
  obtain rfl := Option.some.inj (gNType.symm.trans ht)
  refine Eq.trans hvar ?_
  congr 1
  obtain ⟨l⟩ := cs
  cases fuel with
  | zero => simp [DataW.trod] at hd
  | succ fuel =>
    simp only [DataW.trod, Ybaf.underlying82, cells82, cells9] at hd
    split at hd
    · rename_i hl
      obtain ⟨c0, c1, c2, c3, c4, c5, c6, rfl⟩ : ∃ c0 c1 c2 c3 c4 c5 c6, l = [c0, c1, c2, c3, c4, c5, c6] := by
        match l, hl with
        | [a, b, c, d, e, f, g], _ => exact ⟨a, b, c, d, e, f, g, rfl⟩
      have e : List.range 7 = [0, 1, 2, 3, 4, 5, 6] := rfl
      rw [e] at hd
      simp only [Option.map_eq_some_iff, List.mapM_cons, List.mapM_nil, Option.bind_eq_bind, Option.bind_eq_some_iff, Option.pure_def, Option.some.injEq] at hd
      obtain ⟨xs, ⟨y0, h0, _, ⟨y1, h1, _, ⟨y2, h2, _, ⟨y3, h3, _, ⟨y4, h4, _, ⟨y5, h5, _, ⟨y6, h6, _, rfl, rfl⟩, rfl⟩, rfl⟩, rfl⟩, rfl⟩, rfl⟩, rfl⟩, hx⟩ := hd
      obtain ⟨n0, rfl, rfl⟩ := str_of_trod h0
      obtain ⟨n1, rfl, rfl⟩ := str_of_trod h1
      obtain ⟨n2, rfl, rfl⟩ := str_of_trod h2
      obtain ⟨n3, rfl, rfl⟩ := str_of_trod h3
      obtain ⟨n4, rfl, rfl⟩ := str_of_trod h4
      obtain ⟨n5, rfl, rfl⟩ := str_of_trod h5
      obtain ⟨n6, rfl, rfl⟩ := str_of_trod h6
      simp [Rows.laid_example_com_pointcode_pointcode_sccp_managementNames] at hx
      obtain ⟨⟨e0, e1, e2, e3, e4, e5, e6⟩, _⟩ := hx
      rw [ba_of_list (s := n0) (l := []) (by rw [e0]), ba_of_list e1, ba_of_list e2, ba_of_list e3, ba_of_list e4, ba_of_list e5, ba_of_list e6]
      rfl
    · cases hd

/-- The places of the variable. -/
def placesN : List MemPlace := MemPlace.row ⟨1, 0, none⟩ 7
/-- The variable read, in whatever world holds it so. -/
theorem vars_read {H : Type} (enc : TypeId × Value → H) {W : World} (h : W.var? Ybaf.prog nmN = some names) (sp : Nat → Bool) :
    DataW.TrodVars enc Ybaf.prog W sp [nmN] [Rows.laid_example_com_pointcode_pointcode_sccp_managementNames] placesN := by
  have rd : DataW.trod enc Ybaf.prog W 0 sp true 2 82 names.toList = some (Rows.laid_example_com_pointcode_pointcode_sccp_managementNames, []) := by
    simp only [DataW.trod, Ybaf.underlying82, Ybaf.underlying9, cells82, cells9]
    rfl
  exact ⟨1, 82, names, 2, [], [], gN, gNType, h, rd, rfl, rfl⟩

abbrev spec : OpenSpec := OpenSpec.ofChange Rows.lawS5450CPartSpec

theorem laid_met (os : Os) (args : Array Value) : laidMet Ybaf.prog Rows.lawS5450CPartRow.laid ((World.laidAll Ybaf.prog os Rows.lawS5450CPartRow.laid).forCall (fun _ _ => 0) ⟨#[], args, []⟩).memory :=
  laidMet_laidAll args (by kernel_rfl) (by kernel_rfl)

set_option maxRecDepth 100000 in
theorem lifted (os : Os) (started : os.Started) (H : Type) (enc : TypeId × Value → H) :
    ReturnsInTold none {} Ybaf.checked os 4 .any Input.okWide (spec.preRow enc Ybaf.prog Ybaf.f4 [] false Rows.lawS5450CPartRow.laid) (fun F => (spec.at F).post enc Ybaf.prog Ybaf.f4 false true false false) (aloneAtReturn Ybaf.prog) nothingAlways := by
  refine returnsInTold_of_row (C := Ybaf.checked) (s := spec) (by kernel_rfl) own started (by kernel_rfl) Ybaf.func4
    (OpenSpec.witness_stopped_at (enc := enc) (C := Ybaf.checked) false (World.laidAll Ybaf.prog os Rows.lawS5450CPartRow.laid) #[.int .u8 0] (World.laidAll_os _ _ _) (by kernel_rfl) (by kernel_rfl) (by kernel_rfl)
      (OpenSpec.preRow_of_B rfl 8 (by kernel_rfl) (by kernel_rfl) (laid_met os _))) ?_
  intro F W base args ds gs before _ hF hval0 hW hcnd _ _ hL _
  have hval : ∀ (j : Nat) t v, Ybaf.f4.params[j]? = some t → args[j]? = some v → Value.okWide Ybaf.prog W .any base t v := hval0
  have hW' := hW
  obtain ⟨p, q, hA0, hV0, rfl, hfz, hnd⟩ := hW
  have hA : DataW.TrodAll enc Ybaf.prog W 0 (fun _ => true) true Ybaf.f4.params.toList args.toList ds p := hA0
  have hV : DataW.TrodVars enc Ybaf.prog W (fun _ => true) [nmN] gs q := hV0
  rw [Ybaf.params4] at hA hval
  have hvN := names_of_laid hL
  obtain ⟨rfl, rfl⟩ := hV.unique (vars_read enc hvN _)
  obtain ⟨v0, vs0, d0, ds0, p0, q0, hargs, rfl, rfl, h0, r0⟩ := trodAll_cons hA
  obtain ⟨rfl, rfl, rfl⟩ := trodAll_nil r0
  obtain rfl : args = #[v0] := by cases args; simp_all
  obtain ⟨a0, rfl, rfl, rfl, w0⟩ := open_int Ybaf.underlying5 (hval 0 5 v0 rfl rfl) h0
  have b0 := bounds_u8 w0
  have hlt : 1 < W.heap.size := by
    have hc := World.var?_cell gN hvN 0
    exact World.block_lt_of_cell? W _ hc
  clear hA0 hval0 hV0
  refine (whole F.told a0 W hF b0.1 b0.2 (fun i _ => World.var?_cell gN hvN i)).mono fun e W' ⟨he, bel⟩ => ?_
  subst he
  exact ⟨_, rfl, _, _, _, [], _, placesN, hW', trodAll_mk1 (shut_bool Ybaf.underlying4 _), trodAll_cons_mk (shut_int Ybaf.underlying5 w0) trodAll_mk0, vars_read enc (var?_below bel gN hlt hvN) _, bel.frame _, fun h => by cases h⟩

/-- The card. -/
theorem lawS5450CPartTold : Rows.LawS5450CPartToldSaid :=
  Claim7.holds_of_told_tied_any_at .later 4 Ybaf.f4 "fmt.Sprintf" Rows.lawS5450CPartRow.stops.tail [] _ _ _ _ _ (by kernel_rfl) rfl rfl rfl laidOut (by kernel_rfl) rfl ⟨rfl, rfl, rfl, rfl, rfl, rfl, rfl⟩ rfl rfl (by kernel_rfl) (by kernel_rfl) Ybaf.func4 (by kernel_rfl)
    (of_decide_eq_true (by kernel_rfl)) (of_decide_eq_true (by kernel_rfl)) stops rfl stopKnobs.symm (by kernel_rfl)
    (by kernel_rfl) (by kernel_rfl) (by kernel_rfl) (by kernel_rfl) (by kernel_rfl) (by kernel_rfl) (by kernel_rfl) (by kernel_rfl) (by kernel_rfl) rfl (by kernel_rfl) rfl rfl
    rfl rfl
    rfl (by kernel_rfl) (by kernel_rfl) (by kernel_rfl) (by decide) (by kernel_rfl) lawS5450CPart_row_tie
    (OpenClaim.moreEntering_of (by kernel_rfl) (by kernel_rfl) (by kernel_rfl) (by kernel_rfl) (by kernel_rfl) (by kernel_rfl) (by kernel_rfl) (by kernel_rfl) (by kernel_rfl) (by kernel_rfl))
    ⟨_, WideRow.started_initial, quiet _⟩
    (fun os started _ H enc _ => lifted os started H enc)

end Go.Proofs.YbulkdhvqFmt
