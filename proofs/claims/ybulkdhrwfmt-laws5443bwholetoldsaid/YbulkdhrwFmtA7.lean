/- The law's way where 'argument' refuses the head itself. -/
import Derived.Test.YbulkdhrwFmtA6
namespace Go.Proofs.YbulkdhrwFmt
open Go.RowKit Go.Extern.Stop Go.Stop Go.Extern
set_option linter.unusedSimpArgs false
set_option linter.unusedVariables false

theorem neq_fresh (w : World) {a b : Addr} {ca cb : Array Value} {ta tb : TypeId} {fr : Nat × Nat} (hne : a.block ≠ b.block) (ha : w.heap[a.block]? = some (.cells ca ta (0, 0))) (hb : w.heap[b.block]? = some (.cells cb tb fr)) (hz : cb.size ≠ 0) :
    (binOp .neq 25 (err a) (err b)).run Ybaf.prog w = .ok (.bool true) w := by
  have h := eql_fresh w hne ha hb hz
  simp only [binOp] at h ⊢
  obtain ⟨i, hi, hc⟩ := info49
  obtain ⟨j, hj, hs⟩ := info51
  have h : ∀ d : Nat, (Op.equalIn (d + 2) 25 (.iface 49 (.pointer (some a))) (.iface 49 (.pointer (some b)))).run Ybaf.prog w = .ok false w := fun d => by
    simp [Op.equalIn, run_underlying Ybaf.underlying25, run_underlying Ybaf.underlying49, typeInfo, hi, hc, hj, hs, sizeOf, sameAddr_fresh hne ha hb hz]
  simp [Op.equal, Op.maxDepth, h 9998]

theorem block_of_cell {w : World} {a : Addr} {v : Value} (h : w.cell? a = some v) : ∃ cb tb fr, w.heap[a.block]? = some (.cells cb tb fr) ∧ cb.size ≠ 0 := by
  unfold World.cell? at h
  split at h
  · rename_i c t fr heq
    refine ⟨c, t, fr, heq, ?_⟩
    split at h
    · cases h
    · have := (Array.getElem?_eq_some_iff.1 h).1; omega
  · cases h

theorem Rd.of_below {w w' : World} {bR bI : Nat} {dat fv : Value} {pos left : Int} (h : Rd w bR bI dat fv pos left) (hb : Below w.heap.size w w') : Rd w' bR bI dat fv pos left := by
  obtain ⟨a, b, c, d, e, f, g, i⟩ := h
  have hR := World.block_lt_of_cell? w _ a
  have hI := World.block_lt_of_cell? w _ e
  exact ⟨(hb.cell (p := ⟨bR, 0, none⟩) hR).trans a, (hb.cell (p := ⟨bR, 1, none⟩) hR).trans b, (hb.cell (p := ⟨bR, 2, none⟩) hR).trans c, (hb.cell (p := ⟨bR, 3, none⟩) hR).trans d, (hb.cell (p := ⟨bI, 0, none⟩) hI).trans e, (hb.cell (p := ⟨bI, 1, none⟩) hI).trans f,
    (hb.frozen (p := ⟨bR, 1, none⟩) hR).trans g, (hb.frozen (p := ⟨bI, 1, none⟩) hI).trans i⟩

theorem rd_start (w : World) (dat fv : Value) (left : Int) :
    Rd ((w.alloc (.cells #[dat, .int .i64 0, fv, .int .i64 0] 29)).alloc (.cells #[.iface 27 (.pointer (some ⟨w.heap.size, 0, none⟩)), .int .i64 left] 34)) w.heap.size (w.heap.size + 1) dat fv 0 left := by
  have hs : (w.alloc (.cells #[dat, .int .i64 0, fv, .int .i64 0] 29)).heap.size = w.heap.size + 1 := by simp
  have hne : w.heap.size ≠ (w.alloc (.cells #[dat, .int .i64 0, fv, .int .i64 0] 29)).heap.size := by omega
  have hc := fun i => World.cell?_alloc_new w #[dat, .int .i64 0, fv, .int .i64 0] 29 i
  have hf := World.frozen?_alloc_new w #[dat, .int .i64 0, fv, .int .i64 0] 29 1
  rw [← hs]
  exact ⟨Lib.cell?_alloc_some _ (by rw [hc]; rfl), Lib.cell?_alloc_some _ (by rw [hc]; rfl), Lib.cell?_alloc_some _ (by rw [hc]; rfl), Lib.cell?_alloc_some _ (by rw [hc]; rfl), by simp, by simp,
    (World.frozen?_alloc_old _ _ ⟨w.heap.size, 1, none⟩ hne).trans hf, by simp⟩

theorem rd_start' (w : World) (g : Nat) (hg : g = w.heap.size) (dat fv : Value) (left : Int) :
    Rd ((w.alloc (.cells #[dat, .int .i64 0, fv, .int .i64 0] 29)).alloc (.cells #[.iface 27 (.pointer (some ⟨g, 0, none⟩)), .int .i64 left] 34)) g (g + 1) dat fv 0 left := by
  subst hg; exact rd_start w dat fv left

theorem heap_new (w : World) (o : Obj) : (w.alloc o).heap[w.heap.size]? = some o := by
  show (w.heap.push o)[w.heap.size]? = _
  simp
theorem heap_new1 (w : World) (o1 o : Obj) : ((w.alloc o1).alloc o).drew.heap[w.heap.size + 1]? = some o := by
  have h := heap_new (w.alloc o1) o
  rw [World.size_alloc] at h
  exact h

theorem arg_new (F : Interp) (v0 : Value) (info : Int) (w : World) (hF : F.answers w.tape) (h28 : 28 ≤ info) (h255 : info ≤ 255) :
    Calls Ybaf.prog 7 #[v0, .int .u8 info] w fun e w' => ∃ aN s, e = .returned (.tuple #[.int .u64 0, err aN]) ∧ w.heap.size ≤ aN.block ∧ w'.heap[aN.block]? = some (.cells #[.string s] 51 (0, 0)) ∧ Below w.heap.size w w' := by
  by_cases h : info = 31
  · subst h
    refine (arg_31 v0 w).mono ?_
    rintro e w' ⟨s, rfl, rfl⟩
    exact ⟨_, s, rfl, Nat.le_refl _, heap_new _ _, ((Bel.start w).alloc _).1⟩
  · refine (arg_res F v0 info w hF h28 h h255).mono ?_
    rintro e w' ⟨rfl, s, o, rfl⟩
    exact ⟨_, s, rfl, by simp, heap_new1 _ _ _, (((Bel.start w).alloc _).alloc _).drew.1⟩

/-- The three sentinels, as they lie when the call begins. -/
structure Vars (w : World) (aT aU aE : Addr) : Prop where
  cT : w.cell? ⟨0, 0, none⟩ = some (err aT)
  cU : w.cell? ⟨1, 0, none⟩ = some (err aU)
  cE : w.cell? ⟨3, 0, none⟩ = some (err aE)
  sT : ∃ v, w.cell? aT = some v
  sU : ∃ v, w.cell? aU = some v
  sE : ∃ v, w.cell? aE = some v

theorem Vars.below {w w' : World} {aT aU aE : Addr} (h : Vars w aT aU aE) (hb : Below w.heap.size w w') : Vars w' aT aU aE := by
  obtain ⟨a, b, c, ⟨d, hd⟩, ⟨e, he⟩, ⟨f, hf⟩⟩ := h
  have k : ∀ {p : Addr} {v : Value}, w.cell? p = some v → w'.cell? p = some v := fun {p v} hp => (hb.cell (World.block_lt_of_cell? w _ hp)).trans hp
  exact ⟨k a, k b, k c, ⟨d, k hd⟩, ⟨e, k he⟩, ⟨f, k hf⟩⟩

/-- An error of the call's own is none that was there. -/
theorem neq_old {w0 w : World} {a b : Addr} {s v : Value} {t : TypeId} (ha : w.heap[a.block]? = some (.cells #[s] t (0, 0))) (hb : Below w0.heap.size w0 w) (h0 : w0.heap.size ≤ a.block) (hv : w0.cell? b = some v) :
    (binOp .neq 25 (err a) (err b)).run Ybaf.prog w = .ok (.bool true) w := by
  have hlt := World.block_lt_of_cell? w0 _ hv
  obtain ⟨cb, tb, fr, h1, h2⟩ := block_of_cell ((hb.cell hlt).trans hv)
  exact neq_fresh w (by omega) ha h1 h2

set_option maxRecDepth 100000 in
set_option maxHeartbeats 1000000 in
theorem law_new (F : Interp) (info left : Int) (fail : Bool) (a : Option Addr) (n c : Nat) (zs : List Int) (aT aU aE : Addr) (w : World) (hF : F.answers w.tape) (hi : 28 ≤ info) (hi2 : info ≤ 255) (hn : n ≤ 1048576) (hrow : IsRow w a n c zs) (hv : Vars w aT aU aE) :
    Calls Ybaf.prog 3 #[.int .u8 info, .slice a n c, .int .i64 left, .bool fail] w fun e w' => e = .returned (.bool true) ∧ Below w.heap.size w w' := by
  have HC : Hid (Conv w (.slice a n c) (strOfNums (zs.take n))) := data_conv hrow
  have HR : Hid (IsRow w a n c zs) := hrow
  have HV : Hid (Vars w aT aU aE) := hv
  have HF : Hid (F.answers w.tape) := hF
  clear hrow hv hF
  go_enter Ybaf.func3, Ybaf.ntmps3
  cases fail
  · go_wp2_with (go_at_call 5; refine (clone_any a n c zs _ HR.out hn).mono ?_; rintro e w1 ⟨vo, rfl, hco, hb1⟩; have HO : Hid (Conv w1 vo (strOfNums (zs.take n))) := hco; clear hco)
    refine (arg_new F _ info _ (by show F.answers w1.tape; rw [hb1.tape]; exact HF.out) hi hi2).mono ?_
    rintro e w3 ⟨aN, s, rfl, hN, hNb, hb3⟩
    have hb3' := (((Bel.of hb1).alloc _).alloc _).1.trans (hb3.mono (by have := hb1.size; simp; omega))
    have hb3o := (((Bel.start w1).alloc _).alloc _).1.trans (hb3.mono (by simp; omega))
    obtain ⟨_, r1, _, r3, _, i1, _, _⟩ := (rd_start w1 (.slice a n c) .nilIface left).of_below hb3
    have hN' : w.heap.size ≤ aN.block := by have := hb1.size; simp at hN; omega
    obtain ⟨⟨sT, hT⟩, ⟨sU, hU⟩⟩ := And.intro HV.out.sT HV.out.sU
    have q1 := neq_old hNb hb3' hN' hT
    have q2 := neq_old hNb hb3' hN' hU
    obtain ⟨cT, cU, _, _, _, _⟩ := HV.out.below hb3'
    have B3 : Hid (Below w.heap.size w w3) := hb3'
    have B3o : Hid (Below w1.heap.size w1 w3) := hb3o
    clear hb3 hN hb3' hb3o
    go_wp2_with (go_at_call 8; refine (equal_same _ _ _ _ (HC.out _ B3.out) (HO.out _ B3o.out)).mono ?_; rintro e w4 ⟨rfl, rfl⟩)
    go_ret
    exact ⟨rfl, B3.out⟩
  · go_wp2_with (first | (go_at_call 5; refine (clone_any a n c zs _ HR.out hn).mono ?_; rintro e w1 ⟨vo, rfl, hco, hb1⟩; have HO : Hid (Conv w1 vo (strOfNums (zs.take n))) := hco; clear hco) | (go_at_call 6; refine (new_any _ _).mono ?_; rintro e w2 ⟨rfl, rfl⟩))
    refine (arg_new F _ info _ (by show F.answers w1.tape; rw [hb1.tape]; exact HF.out) hi hi2).mono ?_
    rintro e w3 ⟨aN, s, rfl, hN, hNb, hb3⟩
    have hb3' := ((((Bel.of hb1).alloc _).alloc _).alloc _).1.trans (hb3.mono (by have := hb1.size; simp; omega))
    have hb3o := ((((Bel.start w1).alloc _).alloc _).alloc _).1.trans (hb3.mono (by simp; omega))
    have hr3 := (rd_start' (w1.alloc (.cells #[.string ⟨#[122, 122, 115, 53, 52, 52, 51, 98, 58, 32, 114, 101, 97, 100, 101, 114, 32, 102, 97, 105, 108, 101, 100]⟩] 51)) (w1.heap.size + 1) (by simp) (.slice a n c) (err ⟨w1.heap.size, 0, none⟩) left).of_below hb3
    obtain ⟨_, r1, _, r3, _, i1, _, _⟩ := hr3
    have hN' : w.heap.size ≤ aN.block := by have := hb1.size; simp at hN; omega
    obtain ⟨⟨sT, hT⟩, ⟨sU, hU⟩⟩ := And.intro HV.out.sT HV.out.sU
    have q1 := neq_old hNb hb3' hN' hT
    have q2 := neq_old hNb hb3' hN' hU
    have q3 := neq_old hNb hb3 hN (b := ⟨w1.heap.size, 0, none⟩) (Lib.cell?_alloc_some _ (Lib.cell?_alloc_some _ (World.cell?_alloc_new w1 _ 51 0)))
    obtain ⟨cT, cU, _, _, _, _⟩ := HV.out.below hb3'
    have B3 : Hid (Below w.heap.size w w3) := hb3'
    have B3o : Hid (Below w1.heap.size w1 w3) := hb3o
    clear hb3 hN hb3' hb3o
    go_wp2_with (go_at_call 8; refine (equal_same _ _ _ _ (HC.out _ B3.out) (HO.out _ B3o.out)).mono ?_; rintro e w4 ⟨rfl, rfl⟩)
    go_ret
    exact ⟨rfl, B3.out⟩

end Go.Proofs.YbulkdhrwFmt
