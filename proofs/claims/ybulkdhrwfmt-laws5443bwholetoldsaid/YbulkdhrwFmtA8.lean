/- The law's way where 'argument' reads bytes: what is shared. -/
import Derived.Test.YbulkdhrwFmtA7
import Derived.OpenShut
import Derived.Deep.RegionHeld3
import Derived.Deep.DrawnRows
namespace Go.Proofs.YbulkdhrwFmt
open Go.RowKit Go.Extern.Stop Go.Stop Go.Extern
set_option linter.unusedSimpArgs false
set_option linter.unusedVariables false

theorem wf_bd {zs : List Int} (h : ∀ n ∈ zs, (Lit.int .u8 n).wf = true) : ∀ z ∈ zs, 0 ≤ z ∧ z < 256 := by
  intro z hz
  have := bounds_u8 (h z hz)
  omega

theorem row_cells {w W : World} {a : Option Addr} {n c : Nat} {zs : List Int} (h : IsRow w a n c zs) (hb : Below w.heap.size w W) (bR : Nat) (hR : w.heap.size ≤ bR) :
    n = 0 ∨ ∃ bD off, a = some ⟨bD, off, none⟩ ∧ bD < bR ∧ ∀ k, k < n → W.cell? ⟨bD, off + k, none⟩ = some (.int .u8 (zs.getD k 0)) := by
  rcases h with ⟨rfl, rfl, rfl, rfl⟩ | ⟨x, rfl, h1, h2, h3, h4, h5⟩
  · exact .inl rfl
  · by_cases hn : n = 0
    · exact .inl hn
    · have hs : x.spot = none := by simpa [Addr.add] using World.cell?_spot (h4 0 (by omega))
      obtain ⟨b, off, sp⟩ := x
      subst hs
      have h0 := h4 0 (by omega)
      rw [addr_add] at h0
      have hlt : b < w.heap.size := World.block_lt_of_cell? w _ h0
      refine .inr ⟨b, off, rfl, by omega, fun k hk => ?_⟩
      have := h4 k (by omega)
      rw [addr_add] at this
      rw [hb.cell (p := ⟨b, off + k, none⟩) hlt]
      exact this

theorem row_len {w : World} {a : Option Addr} {n c : Nat} {zs : List Int} (h : IsRow w a n c zs) : n ≤ zs.length ∧ n ≤ c ∧ ∀ z ∈ zs, 0 ≤ z ∧ z < 256 := by
  rcases h with ⟨rfl, rfl, rfl, rfl⟩ | ⟨x, rfl, h1, h2, h3, h4, h5⟩
  · exact ⟨by simp, by simp, by simp⟩
  · exact ⟨by omega, h1, wf_bd h5⟩

theorem oneInts (l : List Int) : ∀ v ∈ l.map (Value.int .u8), v.oneCell' = true := by
  intro v hv
  obtain ⟨z, _, rfl⟩ := List.mem_map.1 hv
  rfl

theorem size5 : (Ybaf.prog.info? 5).map (·.size) = some 1 := by kernel_rfl

theorem cell_of_row {w : World} {g : Nat} {l : List Value} {t : TypeId} {fr : Nat × Nat} {j : Nat} (h : w.heap[g]? = some (.cells l.toArray t fr)) : w.cell? ⟨g, j, none⟩ = l[j]? := by
  simp [World.cell?, h]

theorem end_fail {w w1 : World} {aE : Addr} {v : Value} (hb1 : Below w.heap.size w w1) (hE : w.cell? aE = some v) (s : ByteArray) (o1 o2 : Obj) :
    EndErr (((w1.alloc (.cells #[.string s] 51)).alloc o1).alloc o2) (w1.heap.size + 1) aE (err ⟨w1.heap.size, 0, none⟩) (err ⟨w1.heap.size, 0, none⟩) := by
  refine .inr ⟨_, rfl, rfl, fun w' hb => ?_⟩
  have hlt := World.block_lt_of_cell? w _ hE
  have hsz := hb1.size
  have hbW : Below w.heap.size w w' := ((((Bel.of hb1).alloc _).alloc _).alloc _).1.trans (hb.mono (by omega))
  obtain ⟨cb, tb, fr, h1, h2⟩ := block_of_cell ((hbW.cell hlt).trans hE)
  refine eql_fresh w' (a := ⟨w1.heap.size, 0, none⟩) (by show w1.heap.size ≠ aE.block; omega) (ca := #[.string s]) (ta := 51) ?_ h1 h2
  show w'.heap[w1.heap.size]? = _
  rw [hb.block w1.heap.size (by omega), Below.heap_alloc _ _ _ (by simp; omega), Below.heap_alloc _ _ _ (by simp)]
  exact heap_new _ _

theorem wrap_i64 (x : Int) (h0 : -9223372036854775808 ≤ x) (h1 : x ≤ 9223372036854775807) : IntKind.i64.wrap x = x := by
  rw [IntKind.wrap_i64]; omega

end Go.Proofs.YbulkdhrwFmt
