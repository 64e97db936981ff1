import Derived.Test.Qxb6602000aModsRes
import Derived.WideKeyRuns
namespace Go.Proofs.Qxb6602000aMods.Led
open Go.RowKit
set_option linter.unusedVariables false
set_option linter.unusedSimpArgs false

/-- The zero ID's cells, as an array. -/
def idA : Array Value := idZ.toArray
/-- An account's cells: start, now, no event. -/
def accC (S N : Array Value) : Array Value := S ++ N ++ #[.pointer none, .slice none 0 0, .slice none 0 0]
/-- The map of one account. -/
def mapO (v : Value) : Obj := .map #[{ key := .agg idA, val := v, born := 0 }] 1

theorem resL_size (L : Lv) : (resL L).size = 156 := resC_size ..
theorem resL_one (L : Lv) : (resL L).all (·.oneCell') = true := resC_one ..
theorem resL_id (L : Lv) : (resL L).extract 0 (0 + 37) = idA := by kernel_rfl
theorem idA_size : idA.size = 37 := by kernel_rfl
theorem accC_size (L M : Lv) : (accC (resL L) (resL M)).size = 315 := by simp [accC, resL_size]
theorem accC_one (L M : Lv) : (accC (resL L) (resL M)).all (·.oneCell') = true := by
  simp [accC, resL_one]; decide
theorem accC_start (L M : Lv) : (accC (resL L) (resL M)).extract 0 (0 + 156) = resL L := by kernel_rfl
theorem accC_now (L M : Lv) : (accC (resL L) (resL M)).extract 156 (156 + 156) = resL M := by kernel_rfl
theorem build65 (L M : Lv) (w : World) : (Instr.build 65 #[(0, .agg (resL L)), (1, .agg (resL M))]).run Trym.prog w = .ok (.agg (accC (resL L) (resL M))) w := by kernel_rfl

theorem key_eq (w : World) : (Op.equal 36 (.agg idA) (.agg idA)).run Trym.prog w = .ok true w := by kernel_rfl
theorem eql36 (w : World) : (binOp .eql 36 (.agg idA) (.agg idA)).run Trym.prog w = .ok (.bool true) w := by kernel_rfl
theorem key_check (em : Bool) (w : World) : (Instr.checkKey em 10000 36 (.agg idA)).run Trym.prog w = .ok () w := by cases em <;> kernel_rfl
theorem zero61 (w : World) : (zeroValue 61).run Trym.prog w = .ok (.pointer none) w := by kernel_rfl

/-- The world with block r turned to o. -/
def setM (w : World) (r : Nat) (o : Obj) : World := { w with heap := w.heap.setIfInBounds r o }
theorem setM_heap (w : World) (r : Nat) (o : Obj) (k : Nat) (h : k ≠ r) : (setM w r o).heap[k]? = w.heap[k]? := by
  have : r ≠ k := fun e => h e.symm
  simp [setM, this]
theorem setM_at (w : World) (r : Nat) (o : Obj) (h : r < w.heap.size) : (setM w r o).heap[r]? = some o := by simp [setM, h]
theorem setM_size (w : World) (r : Nat) (o : Obj) : (setM w r o).heap.size = w.heap.size := by simp [setM]

theorem look_none (w : World) (r : Nat) (h : w.heap[r]? = some (.map #[] 0)) : (Instr.lookup 57 (.map (some r)) (.agg idA) false).run Trym.prog w = .ok (.pointer none) w := by
  have hg := run_getObj_map (P := Trym.prog) w r #[] 0 h
  have hf : (Instr.findKey 36 (.agg idA) []).run Trym.prog w = .ok none w := by
    rw [run_findKey_eq (P := Trym.prog) w (k := 36) (by rw [Trym.underlying36])]; simp [Instr.findAsking]
  simp [Instr.lookup, run_underlying Trym.underlying57, hg, key_check, hf, zero61]
theorem look_one (w : World) (r : Nat) (v : Value) (h : w.heap[r]? = some (mapO v)) : (Instr.lookup 57 (.map (some r)) (.agg idA) false).run Trym.prog w = .ok v w := by
  have hg := run_getObj_map (P := Trym.prog) w r _ _ h
  have hf : (Instr.findKey 36 (.agg idA) [{ key := .agg idA, val := v, born := 0 }]).run Trym.prog w = .ok (some (0, v)) w := by
    rw [run_findKey_eq (P := Trym.prog) w (k := 36) (by rw [Trym.underlying36])]; simp [Instr.findAsking, key_eq]
  simp [Instr.lookup, run_underlying Trym.underlying57, hg, key_check, hf]
theorem put_first (w : World) (r : Nat) (v : Value) (h : w.heap[r]? = some (.map #[] 0)) : (Instr.mapUpdate 57 (.map (some r)) (.agg idA) v).run Trym.prog w = .ok () (setM w r (mapO v)) := by
  have hg := run_getObj_map (P := Trym.prog) w r #[] 0 h
  have hf : (Instr.findKey 36 (.agg idA) []).run Trym.prog w = .ok none w := by
    rw [run_findKey_eq (P := Trym.prog) w (k := 36) (by rw [Trym.underlying36])]; simp [Instr.findAsking]
  simp [Instr.mapUpdate, run_underlying Trym.underlying57, hg, key_check, hf, MapKept.run_setObj_map _ h, setM, mapO]

/-! Great loads, stores and builds as one step: a name that the walk does not open. -/
def ldV (P : Program) (T : TypeId) (v : Value) (w : World) : Result Value := (Instr.loadAt T v).run P w
def stV (P : Program) (T : TypeId) (p v : Value) (w : World) : Result Unit := (Instr.storeAt T p v).run P w
def buV (P : Program) (T : TypeId) (ps : Array (Nat × Value)) (w : World) : Result Value := (Instr.build T ps).run P w
theorem ld36 (ρ : Operand → Value) (dst : Option Tmp) (x : Operand) (ty : TypeId) (pos : String) (after : _) (guard : _) (w : World) :
    (execOp ρ (Oper.mk dst (.load 36 x) ty pos after guard)).run Trym.prog w = (ldV Trym.prog 36 (ρ x) w).andThen fun v w' => .ok (.value v) w' := by simp [execOp, ldV]
theorem ld41 (ρ : Operand → Value) (dst : Option Tmp) (x : Operand) (ty : TypeId) (pos : String) (after : _) (guard : _) (w : World) :
    (execOp ρ (Oper.mk dst (.load 41 x) ty pos after guard)).run Trym.prog w = (ldV Trym.prog 41 (ρ x) w).andThen fun v w' => .ok (.value v) w' := by simp [execOp, ldV]
theorem ld65 (ρ : Operand → Value) (dst : Option Tmp) (x : Operand) (ty : TypeId) (pos : String) (after : _) (guard : _) (w : World) :
    (execOp ρ (Oper.mk dst (.load 65 x) ty pos after guard)).run Trym.prog w = (ldV Trym.prog 65 (ρ x) w).andThen fun v w' => .ok (.value v) w' := by simp [execOp, ldV]
theorem st41 (ρ : Operand → Value) (dst : Option Tmp) (x y : Operand) (ty : TypeId) (pos : String) (after : _) (guard : _) (w : World) :
    (execOp ρ (Oper.mk dst (.store 41 x y) ty pos after guard)).run Trym.prog w = (stV Trym.prog 41 (ρ x) (ρ y) w).andThen fun _ w' => .ok .skip w' := by simp [execOp, stV]
theorem bu41 (ρ : Operand → Value) (dst : Option Tmp) (ps : Array (Nat × Operand)) (ty : TypeId) (pos : String) (after : _) (guard : _) (w : World) :
    (execOp ρ (Oper.mk dst (.build 41 ps) ty pos after guard)).run Trym.prog w = (buV Trym.prog 41 (ps.map fun p => (p.1, ρ p.2)) w).andThen fun v w' => .ok (.value v) w' := by simp [execOp, buV]
theorem st65 (ρ : Operand → Value) (dst : Option Tmp) (x y : Operand) (ty : TypeId) (pos : String) (after : _) (guard : _) (w : World) :
    (execOp ρ (Oper.mk dst (.store 65 x y) ty pos after guard)).run Trym.prog w = (stV Trym.prog 65 (ρ x) (ρ y) w).andThen fun _ w' => .ok .skip w' := by simp [execOp, stV]
theorem bu65 (ρ : Operand → Value) (dst : Option Tmp) (ps : Array (Nat × Operand)) (ty : TypeId) (pos : String) (after : _) (guard : _) (w : World) :
    (execOp ρ (Oper.mk dst (.build 65 ps) ty pos after guard)).run Trym.prog w = (buV Trym.prog 65 (ps.map fun p => (p.1, ρ p.2)) w).andThen fun v w' => .ok (.value v) w' := by simp [execOp, buV]

/-- Block A is o. -/
def HeapIs (w : World) (A : Nat) (o : Obj) : Prop := w.heap[A]? = some o
theorem heapIs_drew (w : World) (A : Nat) (o : Obj) : HeapIs w.drew A o ↔ HeapIs w A o := Iff.rfl
theorem heapIs_drewN (w : World) (n A : Nat) (o : Obj) : HeapIs (w.drewN n) A o ↔ HeapIs w A o := Iff.rfl

theorem run_ld (T : TypeId) (n : Nat) (hT : Big T n) (b o : Nat) (S : Array Value) (hn : S.size = n) (w : World) (hS : Seg w b o S) : ldV Trym.prog T (.pointer (some ⟨b, o, none⟩)) w = .ok (.agg S) w := by
  have := run_loadS w b o T S n hT hn hS
  simp [ldV, Instr.loadAt, Instr.sureAddr, this]
/-- The ID out of the block that it was boxed in. -/
theorem ld_id (w : World) (b : Nat) (h : HeapIs w b (.cells idA 36)) : ldV Trym.prog 36 (.pointer (some ⟨b, 0, none⟩)) w = .ok (.agg idA) w :=
  run_ld 36 37 big36 b 0 idA idA_size w (seg_of h 0 37 idA (by kernel_rfl))
theorem ld_res (w : World) (b : Nat) (L : Lv) (h : HeapIs w b (.cells (resL L) 41)) : ldV Trym.prog 41 (.pointer (some ⟨b, 0, none⟩)) w = .ok (.agg (resL L)) w :=
  run_ld 41 156 big41 b 0 _ (resL_size L) w (seg_of h 0 156 _ (by rw [Nat.zero_add, ← resL_size L]; simp))
theorem ld_resid (w : World) (b : Nat) (L : Lv) (h : HeapIs w b (.cells (resL L) 41)) : ldV Trym.prog 36 (.pointer (some ⟨b, 0, none⟩)) w = .ok (.agg idA) w :=
  run_ld 36 37 big36 b 0 idA idA_size w (seg_of h 0 37 idA (resL_id L))
theorem ld_start (w : World) (b : Nat) (L M : Lv) (h : HeapIs w b (.cells (accC (resL L) (resL M)) 65)) : ldV Trym.prog 41 (.pointer (some ⟨b, 0, none⟩)) w = .ok (.agg (resL L)) w :=
  run_ld 41 156 big41 b 0 _ (resL_size L) w (seg_of h 0 156 _ (accC_start L M))
theorem ld_now (w : World) (b : Nat) (L M : Lv) (h : HeapIs w b (.cells (accC (resL L) (resL M)) 65)) : ldV Trym.prog 41 (.pointer (some ⟨b, 156, none⟩)) w = .ok (.agg (resL M)) w :=
  run_ld 41 156 big41 b 156 _ (resL_size M) w (seg_of h 156 156 _ (accC_now L M))
theorem ld_acc (w : World) (b : Nat) (L M : Lv) (h : HeapIs w b (.cells (accC (resL L) (resL M)) 65)) : ldV Trym.prog 65 (.pointer (some ⟨b, 0, none⟩)) w = .ok (.agg (accC (resL L) (resL M))) w :=
  run_ld 65 315 big65 b 0 _ (accC_size L M) w (seg_of h 0 315 _ (by rw [Nat.zero_add, ← accC_size L M]; simp))

/-- A value of the block's whole size into the block. -/
theorem run_st (T : TypeId) (n : Nat) (hT : Big T n) (b : Nat) (C C0 : Array Value) (t : TypeId) (w : World) (hb : HeapIs w b (.cells C0 t)) (hC : C.size = n) (hC0 : C0.size = n) (h1 : C.all (·.oneCell') = true) :
    stV Trym.prog T (.pointer (some ⟨b, 0, none⟩)) (.agg C) w = .ok () (w.setRow b C) := by
  have hrun := run_storeVar_row (P := Trym.prog) w b t T C0 C hb (by rw [hT.2, hC]) (by omega) h1
  simp [stV, Instr.storeAt, Instr.sureAddr, hrun]
end Go.Proofs.Qxb6602000aMods.Led
