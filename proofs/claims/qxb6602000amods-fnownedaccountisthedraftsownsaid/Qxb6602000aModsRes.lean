import Derived.Test.Qxb6602000aModsProg
import Derived.WalkKit
import Derived.WalkSpells
import Derived.WalkLawsBesides
import Derived.BigQuiet
import Derived.Deep.QuietTactic
import Derived.Deep.RegionHeld3
import Derived.Deep.DrawnRows
import Derived.Deep.WholeRow
import Derived.Laws.ResultCell
namespace Go.Proofs.Qxb6602000aMods.Led
open Go.RowKit
set_option linter.unusedVariables false

/-- The cells of the zero ID. -/
def idZ : List Value := .string ⟨#[]⟩ :: List.replicate 36 (.int .u8 0)

/-- A level as plain data. -/
structure Lv where
  holds : Bool
  name : ByteArray
  unit : ByteArray
  acc : Nat
  onh : Nat
  loc : Option Addr
  state : ByteArray
  note : Option Addr
  wd : Bool

/-- A level's cells. -/
def lvC (L : Lv) : Array Value := #[.bool L.holds, .string L.name, .string L.unit, .float .f64 L.acc, .float .f64 L.onh, .pointer L.loc, .string L.state, .pointer L.note, .bool L.wd]

/-- The resource's cells. -/
def resC (nm un : ByteArray) (fa fo : Nat) (lo : Option Addr) (st : ByteArray) (no : Option Addr) (wd : Bool) : Array Value :=
  (idZ ++ idZ ++ ([.string nm, .string un, .float .f64 fa, .float .f64 fo] : List Value) ++ idZ ++ idZ ++ ([.pointer lo, .string st, .pointer no, .bool wd] : List Value)).toArray
def resL (L : Lv) : Array Value := resC L.name L.unit L.acc L.onh L.loc L.state L.note L.wd
def resZ : Array Value := resC ⟨#[]⟩ ⟨#[]⟩ 0 0 none ⟨#[]⟩ none false

theorem size41 : (Trym.prog.info? 41).map (·.size) = some 156 := by kernel_rfl
theorem zero41 (w : World) : (zeroValue 41).run Trym.prog w = .ok (.agg resZ) w := by kernel_rfl
theorem build41 (nm un : ByteArray) (fa fo : Nat) (lo : Option Addr) (st : ByteArray) (no : Option Addr) (wd : Bool) (w : World) :
    (Instr.build 41 #[(2, .string nm), (3, .string un), (4, .float .f64 fa), (5, .float .f64 fo), (8, .pointer lo), (9, .string st), (10, .pointer no), (11, .bool wd)]).run Trym.prog w = .ok (.agg (resC nm un fa fo lo st no wd)) w := by kernel_rfl
theorem build41z (w : World) : (Instr.build 41 #[]).run Trym.prog w = .ok (.agg resZ) w := by kernel_rfl
theorem resZ_size : resZ.size = 156 := by kernel_rfl
theorem resC_size (nm un : ByteArray) (fa fo : Nat) (lo : Option Addr) (st : ByteArray) (no : Option Addr) (wd : Bool) : (resC nm un fa fo lo st no wd).size = 156 := by rfl
theorem resC_one (nm un : ByteArray) (fa fo : Nat) (lo : Option Addr) (st : ByteArray) (no : Option Addr) (wd : Bool) : (resC nm un fa fo lo st no wd).all (·.oneCell') = true := by kernel_rfl

/-- S lies in block b from offset o on. -/
def Seg (w : World) (b o : Nat) (S : Array Value) : Prop := w.rangeAt b o S.toList

theorem below_setRow {B g : Nat} {w0 w : World} (hb : Below B w0 w) (hBg : B ≤ g) (cs : Array Value) : Below B w0 (w.setRow g cs) :=
  hb.trans ⟨rfl, rfl, rfl, by simp [World.setRow], fun k hk => setRow_other w g k cs (by omega)⟩
theorem seg_of {w : World} {b : Nat} {C : Array Value} {t : TypeId} {fr : Nat × Nat} (hb : w.heap[b]? = some (.cells C t fr)) (o n : Nat) (S : Array Value) (hS : C.extract o (o + n) = S) : Seg w b o S := by
  subst hS
  exact World.rangeAt_of_block hb o n

/-- The three struct types that are read and written whole: ID, Resource, account. -/
def Big (T : TypeId) (n : Nat) : Prop := (∃ d, Trym.prog.underlying T = some d ∧ d.isRow = true) ∧ (Trym.prog.info? T).map (·.size) = some n
theorem big41 : Big 41 156 := ⟨⟨_, Trym.underlying41, rfl⟩, by kernel_rfl⟩
theorem big36 : Big 36 37 := ⟨⟨_, Trym.underlying36, rfl⟩, by kernel_rfl⟩
theorem big65 : Big 65 315 := ⟨⟨_, Trym.underlying65, rfl⟩, by kernel_rfl⟩

theorem run_loadS (w : World) (b o : Nat) (T : TypeId) (S : Array Value) (n : Nat) (hT : Big T n) (hn : S.size = n) (hS : Seg w b o S) :
    (loadVar T ⟨b, o, none⟩).run Trym.prog w = .ok (.agg S) w := by
  obtain ⟨⟨d, hu, hd⟩, hi⟩ := hT
  have := run_loadVar_mid (P := Trym.prog) w b o T S.toList d hS hu hd (by rw [hi]; simp [hn])
  simpa using this

theorem wpList_loadS {ops : Array Oper} {rest : List Oper} {op : Oper} {a : Act} {w : World} {Q : Exit → Act → World → Prop} (hgd : op.guard = none) (T : TypeId) (n : Nat) (hT : Big T n) (x : Operand) (ho : op.op = .load T x)
    (b o : Nat) (hx : a.eval x = .pointer (some ⟨b, o, none⟩)) (S : Array Value) (hn : S.size = n) (hS : Seg w b o S)
    (h : wpList Trym.prog ops Q rest (a.put op.dst (.agg S)) w) : wpList Trym.prog ops Q (op :: rest) a w := by
  obtain ⟨⟨d, hu, hd⟩, hi⟩ := hT
  refine wpList_load_mid hgd T x ho b o hx S.toList d hS hu hd (by rw [hi]; simp [hn]) ?_
  simpa using h

/-- A value of the whole block's size, into the block. -/
theorem wpList_storeB {ops : Array Oper} {rest : List Oper} {op : Oper} {a : Act} {w : World} {Q : Exit → Act → World → Prop} (hgd : op.guard = none) (T : TypeId) (n : Nat) (hT : Big T n) (x y : Operand) (ho : op.op = .store T x y)
    (b : Nat) (hx : a.eval x = .pointer (some ⟨b, 0, none⟩)) (C C0 : Array Value) (hy : a.eval y = .agg C) (t : TypeId) (hb : w.heap[b]? = some (.cells C0 t (0, 0))) (hC : C.size = n) (hC0 : C0.size = n) (h1 : C.all (·.oneCell') = true)
    (h : wpList Trym.prog ops Q rest (a.put op.dst undef) (w.setRow b C)) : wpList Trym.prog ops Q (op :: rest) a w := by
  obtain ⟨_, hi⟩ := hT
  refine wpList_plain hgd fun K hK => ?_
  have hrun := run_storeVar_row (P := Trym.prog) w b t T C0 C hb (by rw [hi, hC]) (by omega) h1
  unfold Oper.wp execOp
  simp only [ho, hx, hy, Instr.storeAt, Instr.sureAddr, Sem.run_bind, Sem.run_pure, Result.andThen_ok, hrun]
  exact hK _ _ h

theorem wpList_build {ops : Array Oper} {rest : List Oper} {op : Oper} {a : Act} {w : World} {Q : Exit → Act → World → Prop} (hgd : op.guard = none) (T : TypeId) (parts : Array (Nat × Operand)) (ho : op.op = .build T parts)
    (vs : Array (Nat × Value)) (hp : (parts.map fun x => (x.1, a.eval x.2)) = vs) (v : Value) (hr : (Instr.build T vs).run Trym.prog w = .ok v w)
    (h : wpList Trym.prog ops Q rest (a.put op.dst v) w) : wpList Trym.prog ops Q (op :: rest) a w := by
  refine wpList_plain hgd fun K hK => ?_
  unfold Oper.wp execOp
  have hp' : (parts.map fun x => match x with | (i, x) => (i, a.eval x)) = vs := hp
  simp only [ho, hp', Sem.run_bind, Sem.run_pure, Result.andThen_ok, hr]
  exact hK _ _ h

set_option maxHeartbeats 400000 in
theorem resourceOf_any (L : Lv) (w : World) :
    Calls Trym.prog 14 #[.agg #[.bool L.holds, .string L.name, .string L.unit, .float .f64 L.acc, .float .f64 L.onh, .pointer L.loc, .string L.state, .pointer L.note, .bool L.wd]] w fun e w' => e = .returned (.agg (resL L)) ∧ Below w.heap.size w w' := by
  have ha := zero41
  have hB : ∀ o, ((w.alloc o).alloc (.cells resZ 41)).heap[w.heap.size + 1]? = some (.cells resZ 41 (0, 0)) := fun o => heap_alloc2_new w o _
  go_enter Trym.func14, Trym.ntmps14
  go_wp2_with (first
    | ((with_reducible (show wpList _ _ _ (⟨_, Op.build 41 _, _, _, _, _⟩ :: _) _ _)); refine wpList_build (by rfl) 41 _ (by rfl) #[(2, .string L.name), (3, .string L.unit), (4, .float .f64 L.acc), (5, .float .f64 L.onh), (8, .pointer L.loc), (9, .string L.state), (10, .pointer L.note), (11, .bool L.wd)] (by simp [go_sem]) _ (build41 ..) ?_)
    | ((with_reducible (show wpList _ _ _ (⟨_, Op.store 41 _ _, _, _, _, _⟩ :: _) _ _)); refine wpList_storeB (by rfl) 41 156 big41 _ _ (by rfl) _ (by rfl) _ resZ (by rfl) 41 (by exact hB _) (resC_size ..) resZ_size (resC_one ..) ?_))
  refine bodyPost_ret (v := .agg (resL L)) ?_ rfl ⟨rfl, ?_⟩
  · exact results_cell_row (P := Trym.prog) Trym.results14 _ _ (w.heap.size + 1) 41 _ (0, 0) _ (by rfl) (setRow_heap _ _ _ _ _ _ (hB _)) Trym.underlying41 rfl (by rw [size41]; exact congrArg some (resC_size ..).symm)
  · exact below_setRow (((Below.refl _ _).alloc (Nat.le_refl _) _).alloc (by simp) _) (by omega) _
end Go.Proofs.Qxb6602000aMods.Led
