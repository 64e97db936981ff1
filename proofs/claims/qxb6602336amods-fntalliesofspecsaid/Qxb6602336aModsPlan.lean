import Derived.Test.Qxb6602336aModsProg
import Derived.WalkKit
import Derived.WalkSpells
import Derived.WalkLawsBesides
import Derived.BigQuiet
import Derived.Deep.QuietTactic
namespace Go.Proofs.Qxb6602336aMods.Plan
open Go.RowKit

theorem info24 : (Trym.prog.info? 24).map (fun i => (i.zero, i.size, i.bytes)) = some (some (.pointer none), 1, 8) := by kernel_rfl

/-- The fields' row that ZZMakePlan lays. -/
def rowOf (n : Nat) : Obj := .cells (madeCells #[.pointer none] n) 24
/-- A plan's eight cells. -/
def planOf (f e t : Int) (elem : Value) (fields : Value) (el ct : Int) : Obj :=
  .cells #[.int .i64 f, .int .i64 e, .int .i64 t, elem, .pointer none, fields, .int .i64 el, .int .i64 ct] 61

theorem run_fields (n : Nat) (hn : n ≤ 65536) (w : World) :
    (Instr.makeSlice 59 (.int .i64 (n : Int)) (.int .i64 (n : Int))).run Trym.prog w = .ok (.slice (some ⟨w.heap.size, 0, none⟩) n n) (w.alloc (rowOf n)) := by
  obtain ⟨i, hi, hz0, hz1, hz2⟩ := info_parts info24
  have h := run_make (P := Trym.prog) w 59 24 i (.pointer none) Trym.underlying59 hi hz0 .i64 .i64 n n (by omega) (by omega) (by rw [hz2]; omega) (by omega)
  rw [hz1] at h
  simpa [rowOf, Value.cells] using h

set_option maxHeartbeats 400000 in
theorem make_any (f e t el ct : Int) (n : Nat) (hn : n ≤ 65536) (w : World) :
    Calls Trym.prog 17 #[.int .i64 f, .int .i64 e, .int .i64 t, .int .i64 (n : Int), .int .i64 el, .int .i64 ct] w fun r w' =>
      r = .returned (.pointer (some ⟨w.heap.size + 1, 0, none⟩)) ∧
      w' = (w.alloc (rowOf n)).alloc (planOf f e t (.pointer none) (.slice (some ⟨w.heap.size, 0, none⟩) n n) el ct) := by
  have hmk := run_fields n hn
  go_enter Trym.func17, Trym.ntmps17
  go_wp2
  go_ret

  exact ⟨rfl, rfl⟩
end Go.Proofs.Qxb6602336aMods.Plan
