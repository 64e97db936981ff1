import Derived.Test.Qxb6602336aModsMaps
namespace Go.Proofs.Qxb6602336aMods.Tab
open Go.RowKit Go.Proofs.Qxb6602336aMods.Plan
set_option linter.unusedVariables false

/-- The table behind block TB holds m: nil, or a map from block B0 on. -/
def TabAt (w : World) (B0 TB : Nat) (m : Tbl) : Prop :=
  (w.heap[TB]? = some (.cells #[.map none] 71 (0, 0)) ∧ m = []) ∨ ∃ r, B0 ≤ r ∧ w.heap[TB]? = some (.cells #[.map (some r)] 71 (0, 0)) ∧ MapAt w r m

/-- Block q is a tally. -/
def TalAt (w : World) (q : Nat) (c f d : Int) : Prop := w.heap[q]? = some (.cells #[.int .u64 c, .int .u64 f, .int .u64 d] 73 (0, 0))

/-- Blocks of cells other than these two are as they were. -/
def KeepC (TB SP : Nat) (w w' : World) : Prop := ∀ k cs t fr, w.heap[k]? = some (.cells cs t fr) → k ≠ TB → k ≠ SP → w'.heap[k]? = some (.cells cs t fr)

theorem cell_of {w : World} {k : Nat} {cs : Array Value} {t : TypeId} {fr : Nat × Nat} (h : w.heap[k]? = some (.cells cs t fr)) (i : Nat) : w.cell? ⟨k, i, none⟩ = cs[i]? := by
  simp [World.cell?, h]
theorem frozen_of {w : World} {k : Nat} {cs : Array Value} {t : TypeId} (h : w.heap[k]? = some (.cells cs t (0, 0))) (i : Nat) : w.frozen? ⟨k, i, none⟩ = false := by
  simp [World.frozen?, h]
theorem lt_of {w : World} {k : Nat} {o : Obj} (h : w.heap[k]? = some o) : k < w.heap.size := (Array.getElem?_eq_some_iff.1 h).1

theorem MapAt.of_heap {w w' : World} {r : Nat} {m : Tbl} (h : MapAt w r m) (e : w'.heap[r]? = w.heap[r]?) : MapAt w' r m := by
  obtain ⟨es, c, h1, h2⟩ := h
  exact ⟨es, c, by rw [e]; exact h1, h2⟩
theorem MapAt.lt {w : World} {r : Nat} {m : Tbl} (h : MapAt w r m) : r < w.heap.size := by
  obtain ⟨es, c, h1, h2⟩ := h
  exact lt_of h1
theorem MapAt.ne {w : World} {r : Nat} {m : Tbl} (h : MapAt w r m) {k : Nat} {cs : Array Value} {t : TypeId} {fr : Nat × Nat} (hk : w.heap[k]? = some (.cells cs t fr)) : k ≠ r := by
  rintro rfl
  obtain ⟨es, c, h1, h2⟩ := h
  rw [h1] at hk; cases hk
theorem MapAt.alloc {w : World} {r : Nat} {m : Tbl} (h : MapAt w r m) (o : Obj) : MapAt (w.alloc o) r m := h.of_heap (Below.heap_alloc w o r h.lt)
theorem MapAt.setCell {w : World} {r : Nat} {m : Tbl} (h : MapAt w r m) (a : Addr) (v : Value) (ha : r ≠ a.block) : MapAt (w.setCell a v) r m := h.of_heap (Below.heap_setCell w a v r ha)

set_option maxHeartbeats 400000 in
theorem len_any (B0 TB : Nat) (m : Tbl) (w : World) (h : TabAt w B0 TB m) :
    Calls Trym.prog 23 #[.pointer (some ⟨TB, 0, none⟩)] w fun r w' => r = .returned (.int .i64 m.length) ∧ w' = w := by
  rcases h with ⟨h1, rfl⟩ | ⟨r, hr, h1, h2⟩
  · have hc := cell_of h1 0
    go_enter Trym.func23, Trym.ntmps23
    go_wp2
    go_ret
    exact ⟨rfl, rfl⟩
  · have hc := cell_of h1 0
    have hl := fun ty => map_len w r m ty h2
    go_enter Trym.func23, Trym.ntmps23
    go_wp2
    go_ret
    exact ⟨rfl, rfl⟩

/-- What a look-up answers. -/
def look (m : Tbl) (a b : Int) : Option Addr := (findT m a b).getD none

set_option maxHeartbeats 400000 in
theorem get_any (B0 TB : Nat) (m : Tbl) (a b : Int) (w : World) (h : TabAt w B0 TB m) :
    Calls Trym.prog 24 #[.pointer (some ⟨TB, 0, none⟩), .int .i64 a, .int .i64 b] w fun r w' => r = .returned (.tuple #[.pointer (look m a b), .bool (findT m a b).isSome]) ∧ w' = w := by
  rcases h with ⟨h1, rfl⟩ | ⟨r, hr, h1, h2⟩
  · have hc := cell_of h1 0
    have hl : (Instr.lookup 71 (.map none) (.agg #[.int .i64 a, .int .i64 b]) true).run Trym.prog w = .ok (.tuple #[.pointer none, .bool false]) w := nil_look w a b true
    go_enter Trym.func24, Trym.ntmps24
    go_wp2
    go_ret2
    exact ⟨rfl, rfl⟩
  · have hc := cell_of h1 0
    have hl : (Instr.lookup 71 (.map (some r)) (.agg #[.int .i64 a, .int .i64 b]) true).run Trym.prog w = .ok (.tuple #[.pointer (look m a b), .bool (findT m a b).isSome]) w := map_look w r m a b true h2
    go_enter Trym.func24, Trym.ntmps24
    go_wp2
    go_ret2
    exact ⟨rfl, rfl⟩

set_option maxHeartbeats 400000 in
theorem fields_any (q : Nat) (c f d : Int) (w : World) (h : TalAt w q c f d) :
    Calls Trym.prog 25 #[.pointer (some ⟨q, 0, none⟩)] w fun r w' => r = .returned (.tuple #[.int .u64 c, .int .u64 f, .int .u64 d]) ∧ ∃ n, w' = w.drewN n := by
  have h0 := cell_of h 0
  have h1 := cell_of h 1
  have h2 := cell_of h 2
  go_enter Trym.func25, Trym.ntmps25
  go_wp2
  go_quiet (fail)
  go_wp2
  go_ret3
  exact ⟨rfl, _, rfl⟩

set_option maxHeartbeats 400000 in
theorem tallyIs_any (q : Nat) (c f d x y z : Int) (w : World) (h : TalAt w q c f d) :
    Calls Trym.prog 28 #[.pointer (some ⟨q, 0, none⟩), .int .u64 x, .int .u64 y, .int .u64 z] w fun r w' => r = .returned (.bool (c == x && f == y && d == z)) ∧ ∃ n, w' = w.drewN n := by
  cases h1 : (c == x) <;> cases h2 : (f == y)
  all_goals
    go_enter Trym.func28, Trym.ntmps28
    go_wp2_with fail
    refine (fields_any q c f d _ h).mono ?_
    rintro _ w' ⟨rfl, n, rfl⟩
    go_wp2
    go_ret
    exact ⟨rfl, _, rfl⟩

set_option maxHeartbeats 400000 in
theorem newTally_any (c f d : Int) (w : World) :
    Calls Trym.prog 21 #[.int .u64 c, .int .u64 f, .int .u64 d] w fun r w' => r = .returned (.pointer (some ⟨w.heap.size, 0, none⟩)) ∧ w' = w.alloc (.cells #[.int .u64 c, .int .u64 f, .int .u64 d] 73) := by
  go_enter Trym.func21, Trym.ntmps21
  go_wp2
  go_ret
  exact ⟨rfl, rfl⟩

set_option maxHeartbeats 400000 in
theorem newTallies_nil (w : World) :
    Calls Trym.prog 20 #[.bool true] w fun r w' => r = .returned (.pointer (some ⟨w.heap.size, 0, none⟩)) ∧ w' = w.alloc (.cells #[.map none] 71) := by
  go_enter Trym.func20, Trym.ntmps20
  go_wp2
  go_ret
  exact ⟨rfl, rfl⟩
end Go.Proofs.Qxb6602336aMods.Tab
