/- The law over Message.Param: its walk. -/
import Derived.Test.YbulkdhvqB2
import Derived.Deep.RegionHeld3
import Derived.Deep.DrawnRows
import Derived.RegionTactic
namespace Go.Proofs.Ybulkdhvq
open Go.RowKit
set_option linter.unusedSimpArgs false
set_option linter.unusedVariables false

/-- The message's struct. -/
abbrev MB (cl ty : Int) (H n : Nat) : Obj := .cells #[.int .u8 cl, .int .u8 ty, .slice (some ⟨H, 0, none⟩) n n] 31

/-- How far the search from the end has come. -/
def Seen (T : Nat → Int) (tag : Int) (n : Nat) (i idx : Int) : Prop :=
  (idx = -1 ∧ ∀ j : Nat, i < j → j < n → T j ≠ tag) ∨ (∃ q : Nat, idx = q ∧ i < q ∧ q < n ∧ T q = tag ∧ ∀ j : Nat, i < j → j < q → T j ≠ tag)

set_option maxRecDepth 100000 in
set_option maxHeartbeats 2000000 in
theorem walk_some (cl ty tag : Int) (x : Addr) (n c : Nat) (T : Nat → Int) (va : Nat → Option Addr) (vl vc : Nat → Nat) (zs : Nat → List Int) (w : World)
    (ps : PS w (some x) n T va vl vc zs) (hn : n ≤ 140737488355328) (hvl : ∀ j, j < n → vl j ≤ 140737488355328) :
    Calls Yba.prog 3 #[.int .u8 cl, .int .u8 ty, .slice (some x) n c, .int .u16 tag] w fun e w' => e = .returned (.bool true) ∧ Below w.heap.size w w' := by
  have HP : Hid (PS w (some x) n T va vl vc zs) := ps
  have HL : Hid (∀ j, j < n → vl j ≤ 140737488355328) := hvl
  clear ps hvl
  have e22 := q22
  have e27 := q27
  have n22 : ∀ wx, (binOp .neq 22 (.slice (some x) n c) (.slice none 0 0)).run Yba.prog wx = .ok (.bool true) wx := fun wx => run_neq_slice_nil_any wx 22 26 (some x) n c 0 0 Yba.underlying22
  go_enter Yba.func3, Yba.ntmps3
  go_wp2
  go_loop [9, 10] (fun t i => ∃ (k : Nat) (tt : Int), k ≤ n ∧ i = .int .i64 k ∧ t = .int .i64 tt ∧ (n : Int) ≤ tt ∧ tt ≤ 140737488355328 ∧ (0 < k → tt ≤ 4194304) ∧ Hid (∀ j, j < k → (vl j : Int) ≤ tt)) (fun _ i => n - (intOf i).toNat)
  case atStart => exact ⟨0, n, by omega, rfl, rfl, by omega, by omega, by omega, fun j hj => by omega⟩
  case round =>
    obtain ⟨k, tt, hk, rfl, rfl, ht1, ht2, ht3, hts⟩ := hrel
    by_cases hkn : k < n
    · obtain ⟨bD, off, hE, hc⟩ := HP.out.at_.resolve_left (by omega)
      obtain rfl : x = ⟨bD, off, none⟩ := by simpa using hE
      have c1 := (hc k hkn).1
      have c2 := (hc k hkn).2
      have hkI : (k : Int) < (n : Int) := by omega
      have hvk := HL.out k hkn
      clear hc hE
      by_cases hbig : 4194304 < tt + (vl k : Int)
      · go_wp2
        go_ret
        exact ⟨rfl, Below.refl _ _⟩
      · go_wp2
        refine ⟨⟨k + 1, _, by omega, by go_num, rfl, by omega, by omega, by omega, fun j hj => ?_⟩, by simp [intOf]; omega⟩
        by_cases h : j = k
        · subst h; omega
        · have := hts.out j (by omega); omega
    · obtain rfl : k = n := by omega
      have hn4 : k ≤ 4194304 := by omega
      have HV4 : Hid (∀ j, j < k → vl j ≤ 4194304) := fun j hj => by have := hts.out j hj; omega
      have hmk := mk27 k hn4
      clear hts ht3 HL
      go_wp2
      go_loopw [12] (fun v wr => ∃ (j : Nat) (A : Array Value), j ≤ k ∧ v = .int .i64 j ∧ Hid (Laid wr w.heap.size k j T va vl vc A) ∧ Hid (Below w.heap.size w wr) ∧ Hid (wr.heap.size = w.heap.size + 1)) (fun v _ => k - (intOf v).toNat)
      case atStart => exact ⟨0, _, by omega, rfl, laid_start w k T va vl vc, (Below.refl _ w).alloc (Nat.le_refl _) _, by simp [Hid]⟩
      case round =>
        obtain ⟨j, A, hj, rfl, hla, hbw, hsz⟩ := hrel
        by_cases hjk : j < k
        · obtain ⟨bD, off, hE, hc⟩ := HP.out.at_.resolve_left (by omega)
          obtain rfl : x = ⟨bD, off, none⟩ := by simpa using hE
          have c1 := cell_below hbw.out (hc j hjk).1
          have c2 := cell_below hbw.out (hc j hjk).2
          have hz := hla.out.size
          have d1 : wr.cell? ⟨w.heap.size, j * 2, none⟩ = some (A[j * 2]'(by omega)) := (cell_heap hla.out.row).trans (Array.getElem?_eq_getElem (by omega))
          have d2 : wr.cell? ⟨w.heap.size, j * 2 + 1, none⟩ = some (A[j * 2 + 1]'(by omega)) := (cell_heap hla.out.row).trans (Array.getElem?_eq_getElem (by omega))
          have f1 : wr.frozen? ⟨w.heap.size, j * 2, none⟩ = false := frozen_heap hla.out.row
          have f2 : wr.frozen? ⟨w.heap.size, j * 2 + 1, none⟩ = false := frozen_heap hla.out.row
          have hjI : (j : Int) < (k : Int) := by omega
          generalize A[j * 2]'(by omega) = x1 at *
          generalize A[j * 2 + 1]'(by omega) = x2 at *
          clear hc hE hz
          go_wp2
          go_region
          go_wp2
          go_roundw
          case rel => exact ⟨j + 1, _, by omega, by go_num, (hla.out.of_heap (w' := wr.drew) rfl).next (w' := wr) hjk, (hbw.out.drew.setCell (by show w.heap.size ≤ w.heap.size; omega) _).setCell (by show w.heap.size ≤ w.heap.size; omega) _, by simpa [Hid] using hsz.out⟩
          case measure => simp [intOf]; omega
        · obtain rfl : j = k := by omega
          obtain ⟨W2, rfl⟩ : ∃ W2, W2 = wr := ⟨_, rfl⟩
          have hmk2 := mk27 j hn4
          go_wp2
          go_loopw [15] (fun v wr => ∃ (q : Nat) (A : Array Value), q ≤ j ∧ v = .int .i64 q ∧ Hid (Copied wr (W2.heap.size + 1) j q T va vl zs A) ∧ Hid (Below (W2.heap.size + 1) (W2.alloc (MB cl ty w.heap.size j)) wr)) (fun v _ => j - (intOf v).toNat)
          case atStart =>
            have hst := copied_start (W2.alloc (MB cl ty w.heap.size j)) j T va vl zs
            rw [World.size_alloc] at hst
            exact ⟨0, _, by omega, rfl, hst, (Below.refl _ _).alloc (by simp) _⟩
          case round =>
            obtain ⟨q, A3, hq, rfl, hco, hbm⟩ := hrel
            have hlt := lt_of_some hla.out.row
            have hlw : Hid (Laid wr w.heap.size j j T va vl vc A) := hla.out.of_heap ((hbm.out.block _ (by omega)).trans (Below.heap_alloc _ _ _ hlt))
            have hbr : Hid (Below w.heap.size w wr) := (hbw.out.alloc (by have := hsz.out; omega) _).trans (hbm.out.mono (by have := hsz.out; omega))
            by_cases hqj : q < j
            · have c1 := hlw.out.ctag hqj
              have c2 := hlw.out.cval hqj
              have hz := hco.out.size
              have d1 : wr.cell? ⟨W2.heap.size + 1, q * 2, none⟩ = some (A3[q * 2]'(by omega)) := (cell_heap hco.out.row).trans (Array.getElem?_eq_getElem (by omega))
              have d2 : wr.cell? ⟨W2.heap.size + 1, q * 2 + 1, none⟩ = some (A3[q * 2 + 1]'(by omega)) := (cell_heap hco.out.row).trans (Array.getElem?_eq_getElem (by omega))
              have f1 : wr.frozen? ⟨W2.heap.size + 1, q * 2, none⟩ = false := frozen_heap hco.out.row
              have f2 : wr.frozen? ⟨W2.heap.size + 1, q * 2 + 1, none⟩ = false := frozen_heap hco.out.row
              have hgl := lt_of_some hco.out.row
              have HGL : Hid (W2.heap.size + 1 < wr.heap.size) := hgl
              have hqI : (q : Int) < (j : Int) := by omega
              have hcn := clone_slice (va q) (vl q) (vc q) (zs q) wr.drew ((HP.out.rows q hqj).below (hbr.out.drew)) (HV4.out q hqj)
              have HCN : Hid (Calls Yba.prog 4 #[.slice (va q) (vl q) (vc q)] wr.drew fun e w' => ∃ a2 c2, e = .returned (.slice a2 (vl q) c2) ∧ Cloned w' wr.drew.heap.size (va q) (vl q) (zs q) (.slice a2 (vl q) c2) ∧ Below wr.drew.heap.size wr.drew w') := hcn
              generalize A3[q * 2]'(by omega) = x1 at *
              generalize A3[q * 2 + 1]'(by omega) = x2 at *
              clear hz hcn hgl hlt
              go_wp2
              have hne1 : ¬ w.heap.size = W2.heap.size + 1 := by have := hsz.out; omega
              have hne2 : ¬ W2.heap.size + 1 = w.heap.size := by have := hsz.out; omega
              go_region_held3 (fun w' => w'.cell? ⟨w.heap.size, q * 2, none⟩ = some (.int .u16 (T q)) ∧ w'.cell? ⟨w.heap.size, q * 2 + 1, none⟩ = some (.slice (va q) (vl q) (vc q))) (first | go_keep | exact ⟨cell_below hb1 c1, cell_below hb1 c2⟩) ((go_at_call 4; refine HCN.out.mono ?_; rintro e w1 ⟨a2, c2', rfl, hcl, hb1⟩; have d1' := cell_below hb1 d1; have d2' := cell_below hb1 d2; have f1' := (hb1.frozen (p := ⟨W2.heap.size + 1, q * 2, none⟩) HGL.out).trans f1; have f2' := (hb1.frozen (p := ⟨W2.heap.size + 1, q * 2 + 1, none⟩) HGL.out).trans f2))
              go_wp2
              go_roundw
              case rel =>
                have hc1 := hco.out.below ((Below.refl wr.heap.size wr).drew)
                exact ⟨q + 1, _, by omega, by go_num, hc1.next (w' := wr) hb1 hcl hqj, (((hbm.out.drew).trans (hb1.mono (Nat.le_of_lt HGL.out))).setCell (by show W2.heap.size + 1 ≤ W2.heap.size + 1; omega) _).setCell (by show W2.heap.size + 1 ≤ W2.heap.size + 1; omega) _⟩
              case measure => simp [intOf]; omega
            · obtain rfl : q = j := by omega
              obtain ⟨W3, rfl⟩ : ∃ W3, W3 = wr := ⟨_, rfl⟩
              go_wp2
              go_loop [16, 17] (fun v16 v17 => ∃ i idx : Int, v16 = .int .i64 idx ∧ v17 = .int .i64 i ∧ -1 ≤ i ∧ i < q ∧ Hid (Seen T tag q i idx)) (fun _ v17 => (intOf v17 + 1).toNat)
              case atStart => exact ⟨(q : Int) - 1, -1, rfl, by go_num, by omega, by omega, .inl ⟨rfl, fun j h1 h2 => by omega⟩⟩
              case round =>
                obtain ⟨i, idx, rfl, rfl, hi1, hi2, hsn⟩ := hrel
                by_cases hi0 : 0 ≤ i
                · obtain ⟨r, rfl⟩ := Int.eq_ofNat_of_zero_le hi0
                  have hrq : r < q := by omega
                  have c1 := hlw.out.ctag hrq
                  have hrI : (r : Int) < (q : Int) := by omega
                  by_cases htg : T r = tag
                  · have hq' : (T r == tag) = true := beq_iff_eq.2 htg
                    have HT : Hid (T r = tag) := htg
                    clear htg
                    go_wp2
                    refine ⟨⟨(r : Int) - 1, r, rfl, by go_num, by omega, by omega, .inr ⟨r, rfl, by omega, hrq, HT.out, fun j h1 h2 => by omega⟩⟩, by simp [intOf]⟩
                  · have hq' : (T r == tag) = false := beq_eq_false_iff_ne.2 htg
                    have HT : Hid (T r ≠ tag) := htg
                    clear htg
                    go_wp2
                    refine ⟨⟨(r : Int) - 1, idx, rfl, by go_num, by omega, by omega, ?_⟩, by simp [intOf]⟩
                    rcases hsn.out with ⟨h1, h2⟩ | ⟨q', h1, h2, h3, h4, h5⟩
                    · exact .inl ⟨h1, fun j h6 h7 => by
                        by_cases h : j = r
                        · subst h; exact HT.out
                        · exact h2 j (by omega) h7⟩
                    · exact .inr ⟨q', h1, by omega, h3, h4, fun j h6 h7 => by
                        by_cases h : j = r
                        · subst h; exact HT.out
                        · exact h5 j (by omega) h7⟩
                · have cm : W3.cell? ⟨W2.heap.size, 2, none⟩ = some (.slice (some ⟨w.heap.size, 0, none⟩) q q) := by
                    rw [hbm.out.cell (p := ⟨W2.heap.size, 2, none⟩) (by show W2.heap.size < W2.heap.size + 1; omega)]
                    simp
                  have cm0 : W3.cell? ⟨W2.heap.size, 0, none⟩ = some (.int .u8 cl) := by
                    rw [hbm.out.cell (p := ⟨W2.heap.size, 0, none⟩) (by show W2.heap.size < W2.heap.size + 1; omega)]
                    simp
                  have cm1 : W3.cell? ⟨W2.heap.size, 1, none⟩ = some (.int .u8 ty) := by
                    rw [hbm.out.cell (p := ⟨W2.heap.size, 1, none⟩) (by show W2.heap.size < W2.heap.size + 1; omega)]
                    simp
                  have hpa := param_any W2.heap.size w.heap.size q q (some ⟨w.heap.size, 0, none⟩) tag T va vl vc W3 cm hn4 (.inr rfl) (fun j hj => hlw.out.ctag hj) (fun j hj => hlw.out.cval hj)
                  go_wp2_with fail
                  refine hpa.mono ?_
                  rintro e w4 ⟨hres, hb4⟩
                  obtain rfl : i = -1 := by omega
                  have hl4 : Hid (Laid w4 w.heap.size q q T va vl vc A) := hlw.out.of_heap (hb4.block _ (lt_of_some hlw.out.row))
                  have hc4 : Hid (Copied w4 (W2.heap.size + 1) q q T va vl zs A3) := hco.out.below hb4
                  have cm4 := cell_below hb4 cm
                  have cm40 := cell_below hb4 cm0
                  have cm41 := cell_below hb4 cm1
                  have HBF : Hid (Below w.heap.size w w4) := hbr.out.trans (hb4.mono hbr.out.size)
                  have HR4 : Hid (∀ j, j < q → IsRow w4 (va j) (vl j) (vc j) (zs j)) := fun j hj => (HP.out.rows j hj).below HBF.out
                  clear cm cm0 cm1 hpa hb4
                  rcases hres with ⟨jf, hjf, htf, hbf, rfl⟩ | ⟨hall, rfl⟩
                  · have hix : idx = (jf : Int) := by
                      rcases hsn.out with ⟨h1, h2⟩ | ⟨q', h1, h2, h3, h4, h5⟩
                      · exact absurd htf (h2 jf (by omega) hjf)
                      · rw [h1]
                        rcases Nat.lt_trichotomy q' jf with h | h | h
                        · exact absurd h4 (hbf q' h)
                        · omega
                        · exact absurd htf (h5 jf (by omega) h)
                    subst hix
                    have HTF : Hid (T jf = tag ∧ ∀ i, i < jf → T i ≠ tag) := ⟨htf, hbf⟩
                    clear htf hbf hsn
                    go_wp2
                    go_loopw [20] (fun v w5 => ∃ r : Nat, r ≤ q ∧ v = .int .i64 r ∧ Hid (∃ k, w5 = w4.drewN k)) (fun v _ => q - (intOf v).toNat)
                    case atStart => exact ⟨0, by omega, rfl, 0, rfl⟩
                    case round =>
                      obtain ⟨r, hr, rfl, hw5⟩ := hrel
                      have hk5 : Hid (∀ p, wr.cell? p = w4.cell? p) := by
                        obtain ⟨k5, rfl⟩ := hw5.out
                        exact fun p => rfl
                      by_cases hrq : r < q
                      · have c0 := (hk5.out ⟨W2.heap.size, 2, none⟩).trans cm4
                        have c1 := (hk5.out ⟨w.heap.size, r * 2, none⟩).trans (hl4.out.ctag hrq)
                        have c2 := (hk5.out ⟨w.heap.size, r * 2 + 1, none⟩).trans (hl4.out.cval hrq)
                        have b1 := (hk5.out ⟨W2.heap.size + 1, r * 2, none⟩).trans ((cell_heap hc4.out.row).trans (hc4.out.tag r hrq))
                        obtain ⟨vv, hv1, hv2⟩ := hc4.out.val r hrq
                        obtain ⟨a2, c2', rfl, hal⟩ := alike_clone (HR4.out r hrq) hv2
                        have b2 := (hk5.out ⟨W2.heap.size + 1, r * 2 + 1, none⟩).trans ((cell_heap hc4.out.row).trans hv1)
                        have hrI : (r : Int) < (q : Int) := by omega
                        have HS : Hid (∀ nq, Calls Yba.prog 6 #[.slice (va r) (vl r) (vc r), .slice a2 (vl r) c2'] (wr.drewN nq) fun e w'' => e = .returned (.bool true) ∧ ∃ m, w'' = wr.drewN m) := by
                          intro nq
                          refine (same_any (va r) a2 (vl r) (vc r) c2' (wr.drewN nq) ?_ (HV4.out r hrq)).mono ?_
                          · obtain ⟨h1, h2⟩ := hal
                            refine ⟨h1, h2.imp id ?_⟩
                            rintro ⟨b1, o1, b2, o2, e1, e2, h3⟩
                            refine ⟨b1, o1, b2, o2, e1, e2, fun k hk => ?_⟩
                            obtain ⟨z, z1, z2⟩ := h3 k hk
                            exact ⟨z, (hk5.out _).trans z1, (hk5.out _).trans z2⟩
                          · rintro e w'' ⟨rfl, k, rfl⟩
                            exact ⟨rfl, nq + k, World.drewN_drewN _ _ _⟩
                        clear hv1 hv2 hal
                        go_wp2
                        go_quiet ((go_at_call 6; exact HS.out _))
                        go_wp2
                        go_roundw
                        case rel =>
                          obtain ⟨k5, rfl⟩ := hw5.out
                          exact ⟨r + 1, by omega, by go_num, _, World.drewN_drewN _ _ _⟩
                        case measure => simp [intOf]; omega
                      · have HB5 : Hid (Below w.heap.size w wr) := by
                          obtain ⟨k5, rfl⟩ := hw5.out
                          exact below_drewN HBF.out _
                        have c2 := (hk5.out ⟨w.heap.size, jf * 2 + 1, none⟩).trans (hl4.out.cval hjf)
                        have hjI : (jf : Int) < (q : Int) := by omega
                        have hnp := neq_ptr_self
                        have HRw : Hid (IsRow wr (va jf) (vl jf) (vc jf) (zs jf)) := by
                          obtain ⟨k5, rfl⟩ := hw5.out
                          exact HR4.out jf hjf
                        have HS : Hid (Calls Yba.prog 6 #[.slice (va jf) (vl jf) (vc jf), .slice (va jf) (vl jf) (vc jf)] wr fun e w'' => e = .returned (.bool true) ∧ ∃ m, w'' = wr.drewN m) :=
                          same_any _ _ _ _ _ _ (alike_self HRw.out) (HV4.out jf hjf)
                        have hvI := HV4.out jf hjf
                        by_cases hv0 : 0 < vl jf
                        · obtain ⟨bV, oV, hE, _, _⟩ := (row_cells HRw.out).resolve_left (by omega)
                          have HE : Hid (va jf = some ⟨bV, oV, none⟩) := hE
                          have hvP : (0 : Int) < (vl jf : Int) := by omega
                          clear hE
                          go_wp2_with fail
                          refine HS.out.mono ?_
                          rintro e w6 ⟨rfl, m6, rfl⟩
                          have hE := HE.out
                          go_wp2
                          go_quiet (fail)
                          go_wp2
                          go_ret
                          exact ⟨rfl, below_drewN (below_drewN HB5.out _) _⟩
                        · have hvN : decide ((0 : Int) < (vl jf : Int)) = false := by simp; omega
                          go_wp2_with fail
                          refine HS.out.mono ?_
                          rintro e w6 ⟨rfl, m6, rfl⟩
                          go_wp2
                          go_quiet (fail)
                          go_wp2
                          go_ret
                          exact ⟨rfl, below_drewN (below_drewN HB5.out _) _⟩
                  · have hix : idx = -1 := by
                      rcases hsn.out with ⟨h1, h2⟩ | ⟨q', h1, h2, h3, h4, h5⟩
                      · exact h1
                      · exact absurd h4 (hall q' h3)
                    subst hix
                    clear hall hsn
                    have e24 := q24
                    go_wp2
                    go_loopw [20] (fun v w5 => ∃ r : Nat, r ≤ q ∧ v = .int .i64 r ∧ Hid (∃ k, w5 = w4.drewN k)) (fun v _ => q - (intOf v).toNat)
                    case atStart => exact ⟨0, by omega, rfl, 0, rfl⟩
                    case round =>
                      obtain ⟨r, hr, rfl, hw5⟩ := hrel
                      have hk5 : Hid (∀ p, wr.cell? p = w4.cell? p) := by
                        obtain ⟨k5, rfl⟩ := hw5.out
                        exact fun p => rfl
                      by_cases hrq : r < q
                      · have c0 := (hk5.out ⟨W2.heap.size, 2, none⟩).trans cm4
                        have c1 := (hk5.out ⟨w.heap.size, r * 2, none⟩).trans (hl4.out.ctag hrq)
                        have c2 := (hk5.out ⟨w.heap.size, r * 2 + 1, none⟩).trans (hl4.out.cval hrq)
                        have b1 := (hk5.out ⟨W2.heap.size + 1, r * 2, none⟩).trans ((cell_heap hc4.out.row).trans (hc4.out.tag r hrq))
                        obtain ⟨vv, hv1, hv2⟩ := hc4.out.val r hrq
                        obtain ⟨a2, c2', rfl, hal⟩ := alike_clone (HR4.out r hrq) hv2
                        have b2 := (hk5.out ⟨W2.heap.size + 1, r * 2 + 1, none⟩).trans ((cell_heap hc4.out.row).trans hv1)
                        have hrI : (r : Int) < (q : Int) := by omega
                        have HS : Hid (∀ nq, Calls Yba.prog 6 #[.slice (va r) (vl r) (vc r), .slice a2 (vl r) c2'] (wr.drewN nq) fun e w'' => e = .returned (.bool true) ∧ ∃ m, w'' = wr.drewN m) := by
                          intro nq
                          refine (same_any (va r) a2 (vl r) (vc r) c2' (wr.drewN nq) ?_ (HV4.out r hrq)).mono ?_
                          · obtain ⟨h1, h2⟩ := hal
                            refine ⟨h1, h2.imp id ?_⟩
                            rintro ⟨b1, o1, b2, o2, e1, e2, h3⟩
                            refine ⟨b1, o1, b2, o2, e1, e2, fun k hk => ?_⟩
                            obtain ⟨z, z1, z2⟩ := h3 k hk
                            exact ⟨z, (hk5.out _).trans z1, (hk5.out _).trans z2⟩
                          · rintro e w'' ⟨rfl, k, rfl⟩
                            exact ⟨rfl, nq + k, World.drewN_drewN _ _ _⟩
                        clear hv1 hv2 hal
                        go_wp2
                        go_quiet ((go_at_call 6; exact HS.out _))
                        go_wp2
                        go_roundw
                        case rel =>
                          obtain ⟨k5, rfl⟩ := hw5.out
                          exact ⟨r + 1, by omega, by go_num, _, World.drewN_drewN _ _ _⟩
                        case measure => simp [intOf]; omega
                      · have HB5 : Hid (Below w.heap.size w wr) := by
                          obtain ⟨k5, rfl⟩ := hw5.out
                          exact below_drewN HBF.out _
                        go_wp2
                        go_ret
                        exact ⟨rfl, HB5.out⟩

end Go.Proofs.Ybulkdhvq
