import Derived.Test.Qxb6602000aModsZs
import Derived.WalkLawsBesides
import Derived.LaidEqlPtr
namespace Go.Proofs.Qxb6602000aMods.Led
open Go.RowKit
set_option linter.unusedVariables false
attribute [local simp] heapIs_drew heapIs_drewN
attribute [local go_sem ↓] ld36 ld41 ld65 st41 st65 bu41 bu65
attribute [local go_sem ↓] Go.wp_at_zero Go.wp_at_succ

set_option maxHeartbeats 400000 in
theorem sameFloat_self (x : Nat) (w : World) : Calls Trym.prog 29 #[.float .f64 x, .float .f64 x] w fun e w' => e = .returned (.bool true) ∧ w' = w := by
  cases hx : (FloatKind.f64.format.order x x == some .eq)
  · have hy : (FloatKind.f64.format.order x x != some .eq) = true := by rw [bne, hx]; rfl
    go_enter Trym.func29, Trym.ntmps29
    go_wp2
    go_ret
    exact ⟨rfl, rfl⟩
  · have hy : (FloatKind.f64.format.order x x != some .eq) = false := by rw [bne, hx]; rfl
    go_enter Trym.func29, Trym.ntmps29
    go_wp2
    go_ret
    exact ⟨rfl, rfl⟩

theorem ex37 (L : Lv) : (resL L).extract 37 (37 + 37) = idA := by kernel_rfl
theorem ex78 (L : Lv) : (resL L).extract 78 (78 + 37) = idA := by kernel_rfl
theorem ex115 (L : Lv) : (resL L).extract 115 (115 + 37) = idA := by kernel_rfl
theorem ld_idk (w : World) (b o : Nat) (L : Lv) (h : HeapIs w b (.cells (resL L) 41)) (ho : (resL L).extract o (o + 37) = idA) : ldV Trym.prog 36 (.pointer (some ⟨b, o, none⟩)) w = .ok (.agg idA) w :=
  run_ld 36 37 big36 b o idA idA_size w (seg_of h o 37 idA ho)
theorem res74 (L : Lv) : (resL L)[74]? = some (.string L.name) := by kernel_rfl
theorem res75 (L : Lv) : (resL L)[75]? = some (.string L.unit) := by kernel_rfl
theorem res76 (L : Lv) : (resL L)[76]? = some (.float .f64 L.acc) := by kernel_rfl
theorem res77 (L : Lv) : (resL L)[77]? = some (.float .f64 L.onh) := by kernel_rfl
theorem res152 (L : Lv) : (resL L)[152]? = some (.pointer L.loc) := by kernel_rfl
theorem res153 (L : Lv) : (resL L)[153]? = some (.string L.state) := by kernel_rfl
theorem res154 (L : Lv) : (resL L)[154]? = some (.pointer L.note) := by kernel_rfl
theorem res155 (L : Lv) : (resL L)[155]? = some (.bool L.wd) := by kernel_rfl
theorem eql38 (p : Option Addr) (w : World) : (binOp .eql 38 (.pointer p) (.pointer p)).run Trym.prog w = .ok (.bool true) w := by
  cases p with
  | none => kernel_rfl
  | some a => exact run_eql_ptr_same (j := (Trym.prog.info? 9).get (by kernel_rfl)) w a Trym.underlying38 (by kernel_rfl)
attribute [local go_sem ↓] eql36 eql38

set_option maxHeartbeats 1000000 in
set_option maxRecDepth 10000 in
theorem same_self (L : Lv) (w : World) : Calls Trym.prog 13 #[.agg (resL L), .agg (resL L)] w fun e w' => e = .returned (.bool true) ∧ Below w.heap.size w w' := by
  have hbx : Below w.heap.size w ((w.alloc (.cells (resL L) 41)).alloc (.cells (resL L) 41)) := ((Below.refl _ _).alloc (Nat.le_refl _) _).alloc (by simp) _
  have k0 : HeapIs ((w.alloc (.cells (resL L) 41)).alloc (.cells (resL L) 41)) w.heap.size (.cells (resL L) 41) := by
    unfold HeapIs; rw [Below.heap_alloc _ _ _ (by simp)]; exact heap_alloc_new _ _
  have k1 : HeapIs ((w.alloc (.cells (resL L) 41)).alloc (.cells (resL L) 41)) (w.heap.size + 1) (.cells (resL L) 41) := heap_alloc2_new _ _ _
  have r74 := res74 L
  have ca74 : ((w.alloc (.cells (resL L) 41)).alloc (.cells (resL L) 41)).cell? ⟨w.heap.size, 74, none⟩ = some (.string L.name) := (cell_of k0 74).trans r74
  have cb74 : ((w.alloc (.cells (resL L) 41)).alloc (.cells (resL L) 41)).cell? ⟨w.heap.size + 1, 74, none⟩ = some (.string L.name) := (cell_of k1 74).trans r74
  have r75 := res75 L
  have ca75 : ((w.alloc (.cells (resL L) 41)).alloc (.cells (resL L) 41)).cell? ⟨w.heap.size, 75, none⟩ = some (.string L.unit) := (cell_of k0 75).trans r75
  have cb75 : ((w.alloc (.cells (resL L) 41)).alloc (.cells (resL L) 41)).cell? ⟨w.heap.size + 1, 75, none⟩ = some (.string L.unit) := (cell_of k1 75).trans r75
  have r76 := res76 L
  have ca76 : ((w.alloc (.cells (resL L) 41)).alloc (.cells (resL L) 41)).cell? ⟨w.heap.size, 76, none⟩ = some (.float .f64 L.acc) := (cell_of k0 76).trans r76
  have cb76 : ((w.alloc (.cells (resL L) 41)).alloc (.cells (resL L) 41)).cell? ⟨w.heap.size + 1, 76, none⟩ = some (.float .f64 L.acc) := (cell_of k1 76).trans r76
  have r77 := res77 L
  have ca77 : ((w.alloc (.cells (resL L) 41)).alloc (.cells (resL L) 41)).cell? ⟨w.heap.size, 77, none⟩ = some (.float .f64 L.onh) := (cell_of k0 77).trans r77
  have cb77 : ((w.alloc (.cells (resL L) 41)).alloc (.cells (resL L) 41)).cell? ⟨w.heap.size + 1, 77, none⟩ = some (.float .f64 L.onh) := (cell_of k1 77).trans r77
  have r152 := res152 L
  have ca152 : ((w.alloc (.cells (resL L) 41)).alloc (.cells (resL L) 41)).cell? ⟨w.heap.size, 152, none⟩ = some (.pointer L.loc) := (cell_of k0 152).trans r152
  have cb152 : ((w.alloc (.cells (resL L) 41)).alloc (.cells (resL L) 41)).cell? ⟨w.heap.size + 1, 152, none⟩ = some (.pointer L.loc) := (cell_of k1 152).trans r152
  have r153 := res153 L
  have ca153 : ((w.alloc (.cells (resL L) 41)).alloc (.cells (resL L) 41)).cell? ⟨w.heap.size, 153, none⟩ = some (.string L.state) := (cell_of k0 153).trans r153
  have cb153 : ((w.alloc (.cells (resL L) 41)).alloc (.cells (resL L) 41)).cell? ⟨w.heap.size + 1, 153, none⟩ = some (.string L.state) := (cell_of k1 153).trans r153
  have r154 := res154 L
  have ca154 : ((w.alloc (.cells (resL L) 41)).alloc (.cells (resL L) 41)).cell? ⟨w.heap.size, 154, none⟩ = some (.pointer L.note) := (cell_of k0 154).trans r154
  have cb154 : ((w.alloc (.cells (resL L) 41)).alloc (.cells (resL L) 41)).cell? ⟨w.heap.size + 1, 154, none⟩ = some (.pointer L.note) := (cell_of k1 154).trans r154
  have r155 := res155 L
  have ca155 : ((w.alloc (.cells (resL L) 41)).alloc (.cells (resL L) 41)).cell? ⟨w.heap.size, 155, none⟩ = some (.bool L.wd) := (cell_of k0 155).trans r155
  have cb155 : ((w.alloc (.cells (resL L) 41)).alloc (.cells (resL L) 41)).cell? ⟨w.heap.size + 1, 155, none⟩ = some (.bool L.wd) := (cell_of k1 155).trans r155
  have la0 := ld_idk ((w.alloc (.cells (resL L) 41)).alloc (.cells (resL L) 41)) _ 0 L k0 (resL_id L)
  have lb0 := ld_idk ((w.alloc (.cells (resL L) 41)).alloc (.cells (resL L) 41)) _ 0 L k1 (resL_id L)
  have la37 := ld_idk ((w.alloc (.cells (resL L) 41)).alloc (.cells (resL L) 41)) _ 37 L k0 (ex37 L)
  have lb37 := ld_idk ((w.alloc (.cells (resL L) 41)).alloc (.cells (resL L) 41)) _ 37 L k1 (ex37 L)
  have la78 := ld_idk ((w.alloc (.cells (resL L) 41)).alloc (.cells (resL L) 41)) _ 78 L k0 (ex78 L)
  have lb78 := ld_idk ((w.alloc (.cells (resL L) 41)).alloc (.cells (resL L) 41)) _ 78 L k1 (ex78 L)
  have la115 := ld_idk ((w.alloc (.cells (resL L) 41)).alloc (.cells (resL L) 41)) _ 115 L k0 (ex115 L)
  have lb115 := ld_idk ((w.alloc (.cells (resL L) 41)).alloc (.cells (resL L) 41)) _ 115 L k1 (ex115 L)
  clear k0 k1
  go_enter Trym.func13, Trym.ntmps13
  go_wp2_with (first | (go_at_call 29; refine (sameFloat_self _ _).mono ?_; rintro e w2 ⟨rfl, rfl⟩))
  go_ret
  exact ⟨rfl, hbx⟩
end Go.Proofs.Qxb6602000aMods.Led
