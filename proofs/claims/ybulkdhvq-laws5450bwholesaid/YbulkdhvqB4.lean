/- The law over Message.Param at a nil slice; all together. -/
import Derived.Test.YbulkdhvqB3
namespace Go.Proofs.Ybulkdhvq
open Go.RowKit
set_option linter.unusedSimpArgs false
set_option linter.unusedVariables false

set_option maxRecDepth 100000 in
set_option maxHeartbeats 2000000 in
theorem walk_nil (cl ty tag : Int) (c : Nat) (w : World) :
    Calls Yba.prog 3 #[.int .u8 cl, .int .u8 ty, .slice none 0 c, .int .u16 tag] w fun e w' => e = .returned (.bool true) ∧ Below w.heap.size w w' := by
  have e22 := q22
  have e24 := q24
  have e27 := q27
  have n22 : ∀ wx, (binOp .neq 22 (.slice none 0 c) (.slice none 0 0)).run Yba.prog wx = .ok (.bool false) wx := fun wx => run_neq_slice_nil_any wx 22 26 none 0 c 0 0 Yba.underlying22
  have hmk : ∀ wx, (Instr.makeSlice 27 (.int .i64 0) (.int .i64 0)).run Yba.prog wx = .ok (.slice (some ⟨wx.heap.size, 0, none⟩) 0 0) (wx.alloc (.cells (prow 0) 28)) := fun wx => mk27 0 (by omega) wx
  go_enter Yba.func3, Yba.ntmps3
  go_wp2
  go_loop [9, 10] (fun t i => t = .int .i64 0 ∧ i = .int .i64 0) (fun _ _ => 0)
  case atStart => exact ⟨rfl, rfl⟩
  case round =>
    obtain ⟨rfl, rfl⟩ := hrel
    go_wp2
    go_loop [15] (fun i => i = .int .i64 0) (fun _ => 0)
    case atStart => rfl
    case round =>
      subst hrel
      go_wp2
      go_loop [16, 17] (fun a i => a = .int .i64 (-1) ∧ i = .int .i64 (-1)) (fun _ _ => 0)
      case atStart => exact ⟨rfl, rfl⟩
      case round =>
        obtain ⟨rfl, rfl⟩ := hrel
        have hpa := param_any w.heap.size 0 0 0 none tag (fun _ => 0) (fun _ => none) (fun _ => 0) (fun _ => 0) ((w.alloc (.cells #[.int .u8 cl, .int .u8 ty, .slice none 0 0] 31)).alloc (.cells (prow 0) 28)) (Lib.cell?_alloc_some _ (by simp)) (by omega) (.inl rfl) (fun j hj => by omega) (fun j hj => by omega)
        go_wp2_with fail
        refine hpa.mono ?_
        rintro e w4 ⟨hres, hb4⟩
        rcases hres with ⟨j, hj, _⟩ | ⟨_, rfl⟩
        · omega
        · have x0 := cell_below hb4 (p := ⟨w.heap.size, 0, none⟩) (Lib.cell?_alloc_some _ (World.cell?_alloc_new w _ 31 0))
          have x1 := cell_below hb4 (p := ⟨w.heap.size, 1, none⟩) (Lib.cell?_alloc_some _ (World.cell?_alloc_new w _ 31 1))
          have x2 := cell_below hb4 (p := ⟨w.heap.size, 2, none⟩) (Lib.cell?_alloc_some _ (World.cell?_alloc_new w _ 31 2))
          have HB : Hid (Below w.heap.size w w4) := (((Below.refl _ w).alloc (Nat.le_refl _) _).alloc (by simp) _).trans (hb4.mono (by simp; omega))
          clear hb4 hpa
          go_wp2
          go_loop [20] (fun i => i = .int .i64 0) (fun _ => 0)
          case atStart => rfl
          case round =>
            subst hrel
            go_wp2
            go_ret
            exact ⟨rfl, HB.out⟩

end Go.Proofs.Ybulkdhvq
