import Derived.Test.Qxb6602336aModsPuts
namespace Go.Proofs.Qxb6602336aMods.Tab
open Go.RowKit Go.Proofs.Qxb6602336aMods.Plan
set_option linter.unusedVariables false
attribute [local go_sem ↓] Go.wp_at_zero Go.wp_at_succ

/-- A slice of bools that came in. -/
def BoolsIn (w : World) (a : Option Addr) (n cap : Nat) (B : Nat → Bool) : Prop :=
  (a = none ∧ n = 0 ∧ cap = 0) ∨ ∃ x, a = some x ∧ n ≤ cap ∧ ∀ i, i < cap → w.cell? (x.add i) = some (.bool (B i))

theorem bool_at {w : World} {a : Option Addr} {n cap : Nat} {B : Nat → Bool} (h : BoolsIn w a n cap B) {k : Nat} (hk : k < n) :
    ∃ b off, a = some ⟨b, off, none⟩ ∧ b < w.heap.size ∧ w.cell? ⟨b, off + k, none⟩ = some (.bool (B k)) := by
  rcases h with ⟨_, h, _⟩ | ⟨⟨b, off, sp⟩, rfl, h1, h3⟩
  · omega
  · cases sp with
    | none =>
      have hc := h3 k (by omega)
      rw [Addr.add_lit] at hc
      exact ⟨b, off, rfl, World.block_lt_of_cell? w _ hc, hc⟩
    | some s =>
      exfalso
      have hc := h3 0 (by omega)
      simp only [World.cell?, Addr.add, if_true] at hc
      split at hc <;> simp at hc

theorem info38 : (Trym.prog.info? 38).map (fun i => (i.zero, i.size, i.bytes)) = some (some (.int .u64 0), 1, 8) := by kernel_rfl
def zerosU (n : Nat) : Obj := .cells (madeCells #[.int .u64 0] n) 38
theorem run_zerosU (n : Nat) (hn : n ≤ 65536) (w : World) :
    (Instr.makeSlice 47 (.int .i64 (n : Int)) (.int .i64 (n : Int))).run Trym.prog w = .ok (.slice (some ⟨w.heap.size, 0, none⟩) n n) (w.alloc (zerosU n)) := by
  obtain ⟨i, hi, hz0, hz1, hz2⟩ := info_parts info38
  have h := run_make (P := Trym.prog) w 47 38 i (.int .u64 0) Trym.underlying47 hi hz0 .i64 .i64 n n (by omega) (by omega) (by rw [hz2]; omega) (by omega)
  rw [hz1] at h
  simpa [zerosU, Value.cells] using h

theorem setCell_drewN (w : World) (a : Addr) (v : Value) (n m : Nat) : ((w.drewN n).setCell a v).drewN m = (w.drewN (n + m)).setCell a v := by
  simp [World.setCell, World.drewN, Nat.add_assoc]

theorem Put.undrew {w : World} {B0 TB : Nat} {m' : Tbl} {w' : World} (h : Put w.drew B0 TB m' w') : Put w B0 TB m' w' :=
  ⟨h.1, h.2.1, ⟨h.2.2.os, h.2.2.tape, h.2.2.output, h.2.2.size, h.2.2.block⟩⟩

theorem puts_start {w : World} {B0 TB : Nat} (z0 z1 : List Int) (live : Nat → Bool) (h : TabM w B0 TB []) : Puts w B0 TB z0 z1 live 0 [] (fun _ => none) :=
  ⟨h, fun a b => rfl, rfl, fun i hi => by omega⟩

theorem befs_start (w : World) (n : Nat) (z0 z1 : List Int) (m : Tbl) : Befs ((w.alloc (nilsObj n)).alloc (zerosU n)) w.heap.size (w.heap.size + 1) n z0 z1 m 0 (madeCells #[.pointer none] n) (madeCells #[.int .u64 0] n) := by
  refine ⟨?_, size_madeCells _ _, ?_, size_madeCells _ _, fun j hj => by omega, fun j hj => by omega⟩
  · rw [Below.heap_alloc _ _ _ (by simp)]; exact heap_alloc_new _ _
  · have e := heap_alloc_new (w.alloc (nilsObj n)) (zerosU n)
    rw [show (w.alloc (nilsObj n)).heap.size = w.heap.size + 1 by simp] at e
    exact e

theorem neq_nn (w : World) : (binOp .neq 42 (.pointer none) (.pointer none)).run Trym.prog w = .ok (.bool false) w := by
  have h : ∀ d : Nat, (Op.equalIn (d + 1) 42 (.pointer none) (.pointer none)).run Trym.prog w = .ok true w := fun d => by
    simp [Op.equalIn, run_underlying Trym.underlying42]
  simp only [binOp]
  simp [Op.equal, Op.maxDepth, h 9999]
theorem eql_ns (w : World) (a : Addr) : (binOp .eql 42 (.pointer none) (.pointer (some a))).run Trym.prog w = .ok (.bool false) w := by
  have h : ∀ d : Nat, (Op.equalIn (d + 1) 42 (.pointer none) (.pointer (some a))).run Trym.prog w = .ok false w := fun d => by
    simp [Op.equalIn, run_underlying Trym.underlying42]
  simp only [binOp]
  simp [Op.equal, Op.maxDepth, h 9999]

end Go.Proofs.Qxb6602336aMods.Tab
