import Derived.Test.Qxb6602000aModsFacts
namespace Go.Proofs.Qxb6602000aMods.Led
open Go.RowKit
set_option linter.unusedVariables false

set_option maxHeartbeats 400000 in
theorem empty_any (base : Option Addr) (w : World) :
    Calls Trym.prog 28 #[.pointer base] w fun e w' => e = .returned (.pointer (some ⟨w.heap.size + 1 + 1, 0, none⟩)) ∧ w' = ((w.alloc (.map #[] 0)).alloc (.map #[] 0)).alloc (.cells #[.pointer base, .map (some w.heap.size), .map (some (w.heap.size + 1))] 60) := by
  have hmm := @run_makeMap Trym.prog
  go_enter Trym.func28, Trym.ntmps28
  go_wp2
  go_ret
  exact ⟨rfl, rfl⟩

/-- The book that holds an account of L: map, account, namers, book. -/
def holdW (base : Option Addr) (L : Lv) (w : World) : World :=
  ((setM (((w.alloc (.cells (resL L) 41)).alloc (.map #[] 0)).alloc (.cells (accC (resL L) (resL L)) 65)) (w.heap.size + 1) (mapO (.pointer (some ⟨w.heap.size + 1 + 1, 0, none⟩)))).alloc (.map #[] 0)).alloc
    (.cells #[.pointer base, .map (some (w.heap.size + 1)), .map (some (w.heap.size + 1 + 1 + 1))] 60)

set_option maxHeartbeats 400000 in
theorem holding_any (base : Option Addr) (L : Lv) (w : World) :
    Calls Trym.prog 27 #[.pointer base, .agg (resL L)] w fun e w' => e = .returned (.pointer (some ⟨w.heap.size + 1 + 1 + 1 + 1, 0, none⟩)) ∧ w' = holdW base L w := by
  have hmm := @run_makeMap Trym.prog
  have hb0 : ∀ o, ((w.alloc (.cells (resL L) 41)).alloc o).heap[w.heap.size]? = some (.cells (resL L) 41 (0, 0)) := fun o => by
    rw [Below.heap_alloc _ _ _ (by simp)]; exact heap_alloc_new _ _
  have hS36 : ∀ o, Seg ((w.alloc (.cells (resL L) 41)).alloc o) w.heap.size 0 idA := fun o => seg_of (hb0 o) 0 37 idA (resL_id L)
  have hS41 : ∀ o, Seg ((w.alloc (.cells (resL L) 41)).alloc o) w.heap.size 0 (resL L) := fun o => seg_of (hb0 o) 0 156 (resL L) (by rw [Nat.zero_add, ← resL_size L]; simp)
  have hput : (Instr.mapUpdate 57 (.map (some (w.heap.size + 1))) (.agg idA) (.pointer (some ⟨w.heap.size + 1 + 1, 0, none⟩))).run Trym.prog (((w.alloc (.cells (resL L) 41)).alloc (.map #[] 0)).alloc (.cells (accC (resL L) (resL L)) 65)) =
      .ok () (setM (((w.alloc (.cells (resL L) 41)).alloc (.map #[] 0)).alloc (.cells (accC (resL L) (resL L)) 65)) (w.heap.size + 1) (mapO (.pointer (some ⟨w.heap.size + 1 + 1, 0, none⟩)))) :=
    put_first _ _ _ (by rw [Below.heap_alloc _ _ _ (by simp)]; exact heap_alloc2_new _ _ _)
  have hsz : (setM (((w.alloc (.cells (resL L) 41)).alloc (.map #[] 0)).alloc (.cells (accC (resL L) (resL L)) 65)) (w.heap.size + 1) (mapO (.pointer (some ⟨w.heap.size + 1 + 1, 0, none⟩)))).heap.size = w.heap.size + 1 + 1 + 1 := by rw [setM_size]; simp
  go_enter Trym.func27, Trym.ntmps27
  go_wp2_with (first
    | ((with_reducible (show wpList _ _ _ (⟨_, Op.load 36 _, _, _, _, _⟩ :: _) _ _)); go_must (refine wpList_loadS (by rfl) 36 37 big36 _ (by rfl) _ _ (by rfl) idA idA_size (by exact hS36 _) ?_))
    | ((with_reducible (show wpList _ _ _ (⟨_, Op.load 41 _, _, _, _, _⟩ :: _) _ _)); go_must (refine wpList_loadS (by rfl) 41 156 big41 _ (by rfl) _ _ (by rfl) (resL L) (resL_size L) (by exact hS41 _) ?_))
    | ((with_reducible (show wpList _ _ _ (⟨_, Op.build 65 _, _, _, _, _⟩ :: _) _ _)); go_must (refine wpList_build (by rfl) 65 _ (by rfl) #[(0, .agg (resL L)), (1, .agg (resL L))] (by simp [go_sem]) _ (build65 L L _) ?_)))
  go_ret
  exact ⟨rfl, rfl⟩
end Go.Proofs.Qxb6602000aMods.Led
