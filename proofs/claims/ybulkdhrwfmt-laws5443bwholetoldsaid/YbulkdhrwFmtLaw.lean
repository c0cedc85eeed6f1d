/- The card of cbor.LawS5443BWhole. -/
import Derived.Test.YbulkdhrwFmtB24
import Derived.Test.YbulkdhrwFmtB25
import Derived.Test.YbulkdhrwFmtB26
import Derived.Test.YbulkdhrwFmtB27
import Derived.Test.YbulkdhrwFmtTie
import Derived.Test.YbulkdhrwFmtCards
import Derived.ProofKit
import Derived.OpenShut
import Derived.ShutString
import Derived.ChangeOld
import Derived.Below
import Derived.Stop.JoinedAt
import Derived.Stop.JoinedTold
import Derived.Stop.LaidErr
import Derived.SevenTiedAt
import Derived.SevenToldRow
import Derived.Lay
namespace Go.Proofs.YbulkdhrwFmt
open Go.ChangeShapes Go.WideShapes Go.ChangeAt Go.RowKit Go.Kit
open Go.Extern.Stop Go.Stop Go.Extern
open Go.ChangeMaps (open_string shut_string)
set_option linter.unusedVariables false
set_option linter.unusedSimpArgs false

theorem own : ownKnob Ybaf.prog.godebug = none := by kernel_rfl
theorem laidOut : laidOutB Ybaf.pinned.checked.prog = true := by kernel_rfl
theorem stops : Ybaf.pinned.checked.prog.stops = ["fmt.errorf", "fmt.Sprintf"] := by kernel_rfl
theorem stopKnobs : Ybaf.pinned.checked.prog.stopKnobs = [] := by kernel_rfl
theorem quiet (os : Os) : Stop.quiet Ybaf.pinned.checked.prog os := by
  intro k hk
  rw [stopKnobs] at hk
  cases hk

/-- The listed variables' names, as the row lists them. -/
def nmE : String := (Rows.lawS5443BWholeRow.laid.map (·.1)).getD 0 ""
def nmU : String := (Rows.lawS5443BWholeRow.laid.map (·.1)).getD 1 ""
def nmT : String := (Rows.lawS5443BWholeRow.laid.map (·.1)).getD 2 ""
theorem gT : Ybaf.prog.globalNamed nmT = some 0 := by kernel_rfl
theorem gTType : (Ybaf.prog.globals[0]?).map (·.type) = some 25 := by kernel_rfl
theorem gU : Ybaf.prog.globalNamed nmU = some 1 := by kernel_rfl
theorem gUType : (Ybaf.prog.globals[1]?).map (·.type) = some 25 := by kernel_rfl
theorem gE : Ybaf.prog.globalNamed nmE = some 3 := by kernel_rfl
theorem gEType : (Ybaf.prog.globals[3]?).map (·.type) = some 25 := by kernel_rfl
theorem cells51 : Ybaf.prog.cellsOf 51 = 1 := by kernel_rfl
theorem cells9 : Ybaf.prog.cellsOf 9 = 1 := by kernel_rfl
/-- The name of the one type of the sentinels, as the row spells it. -/
def nmI : DataW Unit → String
  | .iface n _ => n
  | _ => ""
def nmS : String := nmI Rows.laid_io_EOF
def onlyRow (nm : String) : Prop := ((List.range Ybaf.prog.types.size).all fun u => Ybaf.prog.typeName? 3 u != some nm || u == 49) = true
theorem onlyS : onlyRow nmS := by unfold onlyRow; kernel_rfl
theorem row49 (u : TypeId) (h : Ybaf.prog.typeName? 3 u = some nmS) : u = 49 :=
  typeName_ptr_named (nm := "errors.errorString") (Eq.mp (congrArg onlyRow (by decide)) onlyS) (by kernel_rfl) (by decide) u (h.trans (congrArg some (by decide)))

theorem whole (F : Interp) (info left : Int) (fail : Bool) (a : Option Addr) (n c : Nat) (zs : List Int) (aT aU aE : Addr) (w : World) (hF : F.answers w.tape) (hi0 : 0 ≤ info) (hi : info ≤ 255) (hm : n ≤ maxLen) (hrow : IsRow w a n c zs) (hv : Vars w aT aU aE) (hl : -9223372036854775808 ≤ left) (hl2 : left ≤ 9223372036854775807) :
    Calls Ybaf.prog 3 #[.int .u8 info, .slice a n c, .int .i64 left, .bool fail] w fun e w' => e = .returned (.bool true) ∧ Below w.heap.size w w' := by
  by_cases hn : n ≤ 1048576
  · by_cases h1 : info < 24
    · exact law_small info left fail a n c zs w hi0 h1 hn hrow
    · by_cases h2 : 28 ≤ info
      · exact law_new F info left fail a n c zs aT aU aE w hF h2 hi hn hrow hv
      · have h3 : info = 24 ∨ info = 25 ∨ info = 26 ∨ info = 27 := by omega
        rcases h3 with rfl | rfl | rfl | rfl
        · cases fail
          · exact law_24_no left a n c zs aT aU aE w hn hrow hv hl hl2
          · exact law_24_fail left a n c zs aT aU aE w hn hrow hv hl hl2
        · cases fail
          · exact law_25_no left a n c zs aT aU aE w hn hrow hv hl hl2
          · exact law_25_fail left a n c zs aT aU aE w hn hrow hv hl hl2
        · cases fail
          · exact law_26_no left a n c zs aT aU aE w hn hrow hv hl hl2
          · exact law_26_fail left a n c zs aT aU aE w hn hrow hv hl hl2
        · cases fail
          · exact law_27_no left a n c zs aT aU aE w hn hrow hv hl hl2
          · exact law_27_fail left a n c zs aT aU aE w hn hrow hv hl hl2
  · exact law_long _ _ _ a n c w (by omega) hm

abbrev spec : OpenSpec := OpenSpec.ofChange Rows.lawS5443BWholeSpec

theorem laid_met (os : Os) (args : Array Value) : laidMet Ybaf.prog Rows.lawS5443BWholeRow.laid ((World.laidAll Ybaf.prog os Rows.lawS5443BWholeRow.laid).forCall (fun _ _ => 0) ⟨#[], args, []⟩).memory :=
  laidMet_laidAll args (by kernel_rfl) (by kernel_rfl)

set_option maxRecDepth 100000 in
theorem lifted (os : Os) (started : os.Started) (H : Type) (enc : TypeId × Value → H) :
    ReturnsInTold none {} Ybaf.checked os 3 .any Input.okWide (spec.preRow enc Ybaf.prog Ybaf.f3 [] false Rows.lawS5443BWholeRow.laid) (fun F => (spec.at F).post enc Ybaf.prog Ybaf.f3 false true false false) (aloneAtReturn Ybaf.prog) nothingAlways := by
  refine returnsInTold_of_row (C := Ybaf.checked) (s := spec) (by kernel_rfl) own started (by kernel_rfl) Ybaf.func3
    (OpenSpec.witness_stopped_at (enc := enc) (C := Ybaf.checked) false (World.laidAll Ybaf.prog os Rows.lawS5443BWholeRow.laid) #[.int .u8 0, .slice none 0 0, .int .i64 0, .bool false] (World.laidAll_os _ _ _) (by kernel_rfl) (by kernel_rfl) (by kernel_rfl)
      (OpenSpec.preRow_of_B rfl 8 (by kernel_rfl) (by kernel_rfl) (laid_met os _))) ?_
  intro F W base args ds gs before _ hF hval0 hW hcnd _ _ hL _
  have hval : ∀ (j : Nat) t v, Ybaf.f3.params[j]? = some t → args[j]? = some v → Value.okWide Ybaf.prog W .any base t v := hval0
  have hW' := hW
  obtain ⟨p, q, hA0, hV0, rfl, hfz, hnd⟩ := hW
  have hA : DataW.TrodAll enc Ybaf.prog W 0 (fun _ => true) true Ybaf.f3.params.toList args.toList ds p := hA0
  have hV : DataW.TrodVars enc Ybaf.prog W (fun _ => true) [nmT] gs q := hV0
  rw [Ybaf.params3] at hA hval
  obtain ⟨aE, sE, hvE, hcE, _, _⟩ := laid_sentinel hL gE gEType Ybaf.underlying25 row49 Ybaf.underlying49 Ybaf.underlying51 rfl rfl Ybaf.underlying9 cells51 cells9
  obtain ⟨aU, sU, hvU, hcU, _, _⟩ := laid_sentinel (laidMet.tail hL) gU gUType Ybaf.underlying25 row49 Ybaf.underlying49 Ybaf.underlying51 rfl rfl Ybaf.underlying9 cells51 cells9
  obtain ⟨aT, sT, hvT, hcT, _, _⟩ := laid_sentinel (laidMet.tail (laidMet.tail hL)) gT gTType Ybaf.underlying25 row49 Ybaf.underlying49 Ybaf.underlying51 rfl rfl Ybaf.underlying9 cells51 cells9
  obtain ⟨rfl, rfl⟩ := hV.unique (vars_read1 enc gT gTType Ybaf.underlying25 hvT trivial _)
  have hvars : Vars W aT aU aE := ⟨by simpa using World.var?_cell gT hvT 0, by simpa using World.var?_cell gU hvU 0, by simpa using World.var?_cell gE hvE 0, ⟨_, hcT⟩, ⟨_, hcU⟩, ⟨_, hcE⟩⟩
  obtain ⟨v0, vs0, d0, ds0, p0, q0, hargs, rfl, rfl, h0, r0⟩ := trodAll_cons hA
  obtain ⟨v1, vs1, d1, ds1, p1, q1, rfl, rfl, rfl, h1, r1⟩ := trodAll_cons r0
  obtain ⟨v2, vs2, d2, ds2, p2, q2, rfl, rfl, rfl, h2, r2⟩ := trodAll_cons r1
  obtain ⟨v3, vs3, d3, ds3, p3, q3, rfl, rfl, rfl, h3, r3⟩ := trodAll_cons r2
  obtain ⟨rfl, rfl, rfl⟩ := trodAll_nil r3
  obtain rfl : args = #[v0, v1, v2, v3] := by cases args; simp_all
  obtain ⟨a0, rfl, rfl, rfl, w0⟩ := open_int Ybaf.underlying5 (hval 0 5 v0 rfl rfl) h0
  obtain ⟨a2, rfl, rfl, rfl, w2⟩ := open_int Ybaf.underlying3 (hval 2 3 v2 rfl rfl) h2
  obtain ⟨a3, rfl, rfl, rfl⟩ := open_bool Ybaf.underlying4 (hval 3 4 v3 rfl rfl) h3
  obtain ⟨a1, len1, cap1, rfl⟩ := okWide_slice Ybaf.underlying22 (hval 1 22 v1 rfl rfl)
  have k1 := h1
  have lt1 : ∀ x ∈ p1, x.block < W.heap.size := by obtain ⟨m, hm⟩ := k1; exact DataW.trod_lt m _ _ _ hm
  obtain ⟨z1, hm1, w1⟩ : ∃ zs, len1 ≤ maxLen ∧ IsRow W a1 len1 cap1 zs := by
    obtain ⟨fuel, hf⟩ := h1
    rcases open_ints Ybaf.underlying22 Ybaf.underlying5 (by kernel_rfl) hf with ⟨hcs, _⟩ | ⟨x, l, c, zs, hcs, _, hl, hm, hz, _, hcell, hwz⟩
    · simp [Value.cells] at hcs
      obtain ⟨rfl, rfl, rfl⟩ := hcs
      exact ⟨[], by simp, .inl ⟨rfl, rfl, rfl, rfl⟩⟩
    · simp [Value.cells] at hcs
      obtain ⟨rfl, rfl, rfl⟩ := hcs
      exact ⟨zs, by omega, .inr ⟨_, rfl, hl, hm, by simpa using hz, hcell, hwz⟩⟩
  have b0 := bounds_u8 w0
  have b2 := bounds_i64 w2
  clear hA0 hval0 hV0
  refine (whole F.told a0 a2 a3 a1 len1 cap1 z1 aT aU aE W hF b0.1 b0.2 hm1 w1 hvars b2.1 b2.2).mono fun e W' ⟨he, bel⟩ => ?_
  subst he
  exact ⟨_, rfl, _, _, _, [], _, [.cell 0 0], hW', trodAll_mk1 (shut_bool Ybaf.underlying4 _), (trodAll_cons_mk (shut_int Ybaf.underlying5 w0) (trodAll_cons_mk (Below.trod laidOut (by kernel_rfl) (of_decide_eq_true (by kernel_rfl)) k1 bel lt1) (trodAll_cons_mk (shut_int Ybaf.underlying3 w2) (trodAll_cons_mk (shut_bool Ybaf.underlying4 _) trodAll_mk0)))), vars_read1 enc gT gTType Ybaf.underlying25 (var?_below bel gT (Nat.lt_of_le_of_lt (Nat.zero_le _) (World.block_lt_of_cell? W _ hcT)) hvT) trivial _, bel.frame _, fun h => by cases h⟩

/-- The card. -/
theorem lawS5443BWholeTold : Rows.LawS5443BWholeToldSaid :=
  Claim7.holds_of_told_tied_any_at .later 3 Ybaf.f3 "fmt.errorf" ["fmt.Sprintf"] [] _ _ _ _ _ (by kernel_rfl) rfl rfl rfl laidOut (by kernel_rfl) rfl ⟨rfl, rfl, rfl, rfl, rfl, rfl, rfl⟩ rfl rfl (by kernel_rfl) (by kernel_rfl) Ybaf.func3 (by kernel_rfl)
    (of_decide_eq_true (by kernel_rfl)) (of_decide_eq_true (by kernel_rfl)) stops.symm rfl stopKnobs.symm (by kernel_rfl)
    (by kernel_rfl) (by kernel_rfl) (by kernel_rfl) (by kernel_rfl) (by kernel_rfl) (by kernel_rfl) (by kernel_rfl) (by kernel_rfl) (by kernel_rfl) rfl (by kernel_rfl) rfl rfl
    rfl rfl
    rfl (by kernel_rfl) (by kernel_rfl) (by kernel_rfl) (by decide) (by kernel_rfl) lawS5443BWhole_row_tie
    (OpenClaim.moreEntering_of (by kernel_rfl) (by kernel_rfl) (by kernel_rfl) (by kernel_rfl) (by kernel_rfl) (by kernel_rfl) (by kernel_rfl) (by kernel_rfl) (by kernel_rfl) (by kernel_rfl))
    ⟨_, WideRow.started_initial, quiet _⟩
    (fun os started _ H enc _ => lifted os started H enc)

end Go.Proofs.YbulkdhrwFmt
