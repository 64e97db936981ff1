import Derived.Test.Qxb6602336aModsTop
import Derived.WideKeyRuns
import Derived.Laws.StructEq
namespace Go.Proofs.Qxb6602336aMods.Tab
open Go.RowKit
set_option linter.unusedVariables false

theorem stood75 : Trym.prog.stoodInHeld 75 = false := by kernel_rfl
theorem plain3 : Trym.prog.plainKey 3 = true := by kernel_rfl
theorem findKey75 (w : World) (x : Value) (es : List MapEntry) : (Instr.findKey 75 x es).run Trym.prog w = (Instr.findAsking 75 x es).run Trym.prog w :=
  run_findKey_eq (P := Trym.prog) w (k := 75) (by rw [Trym.underlying75]) x es
theorem zero42 (w : World) : (zeroValue 42).run Trym.prog w = .ok (.pointer none) w := by kernel_rfl

/-- A key of the table. -/
def keyV (a b : Int) : Value := .agg #[.int .i64 a, .int .i64 b]

theorem key_eq (a b c d : Int) (w : World) : (Op.equal 75 (keyV a b) (keyV c d)).run Trym.prog w = .ok (a == c && b == d) w := by
  have h : ∀ n : Nat, (Op.equalIn (n + 2) 75 (keyV a b) (keyV c d)).run Trym.prog w = .ok (a == c && b == d) w := fun n => by
    rw [keyV, keyV, run_equalIn_struct w (n + 1) 75 _ _ (by rw [Program.fieldsOf, Trym.underlying75]) stood75]
    rw [Program.fieldsOf, Trym.underlying75]
    simp only [Op.eqFields, Sem.run_bind, Sem.run_ite]
    simp [run_part_plain w plain3 (xs := #[.int .i64 a, .int .i64 b]) (off := 0) (v := .int .i64 a) rfl, run_part_plain w plain3 (xs := #[.int .i64 c, .int .i64 d]) (off := 0) (v := .int .i64 c) rfl,
      run_part_plain w plain3 (xs := #[.int .i64 a, .int .i64 b]) (off := 1) (v := .int .i64 b) rfl, run_part_plain w plain3 (xs := #[.int .i64 c, .int .i64 d]) (off := 1) (v := .int .i64 d) rfl,
      run_equalIn_int w n 3 .i64 .i64 _ _ Trym.underlying3]
    by_cases h1 : a = c <;> by_cases h2 : b = d <;> simp [h1, h2]
  exact h 9998

theorem key_check (em : Bool) (a b : Int) (w : World) : (Instr.checkKey em 10000 75 (keyV a b)).run Trym.prog w = .ok () w := by
  have h : ∀ n : Nat, (Instr.checkKey em (n + 2) 75 (keyV a b)).run Trym.prog w = .ok () w := fun n => by
    simp [Instr.checkKey, keyV, run_underlying Trym.underlying75, run_underlying Trym.underlying3, run_part_plain w plain3 (xs := #[.int .i64 a, .int .i64 b]) (off := 0) (v := .int .i64 a) rfl,
      run_part_plain w plain3 (xs := #[.int .i64 a, .int .i64 b]) (off := 1) (v := .int .i64 b) rfl]
  exact h 9998

/-- The table as a list: key, value (nil or an address). -/
abbrev Tbl := List ((Int × Int) × Option Addr)

def findT : Tbl → Int → Int → Option (Option Addr)
  | [], _, _ => none
  | (k, v) :: t, a, b => if a = k.1 ∧ b = k.2 then some v else findT t a b

def putT : Tbl → Int → Int → Option Addr → Tbl
  | [], a, b, u => [((a, b), u)]
  | (k, v) :: t, a, b, u => if a = k.1 ∧ b = k.2 then (k, u) :: t else (k, v) :: putT t a b u

theorem findT_put (m : Tbl) (a b : Int) (u : Option Addr) (a' b' : Int) : findT (putT m a b u) a' b' = if a' = a ∧ b' = b then some u else findT m a' b' := by
  induction m with
  | nil => simp [putT, findT]
  | cons p t ih =>
    obtain ⟨k, v⟩ := p
    simp only [putT]
    by_cases h : a = k.1 ∧ b = k.2
    · rw [if_pos h]
      obtain ⟨h1, h2⟩ := h
      subst h1 h2
      simp only [findT]
      by_cases h' : a' = k.1 ∧ b' = k.2 <;> simp [h']
    · rw [if_neg h]
      simp only [findT]
      by_cases h' : a' = k.1 ∧ b' = k.2
      · have h2 : ¬ (a' = a ∧ b' = b) := by
          rintro ⟨e1, e2⟩
          exact h ⟨by rw [← e1]; exact h'.1, by rw [← e2]; exact h'.2⟩
        rw [if_pos h', if_neg h2, if_pos h']
      · rw [if_neg h', if_neg h']
        exact ih

theorem length_put (m : Tbl) (a b : Int) (u : Option Addr) : (putT m a b u).length = m.length + if (findT m a b).isSome = true then 0 else 1 := by
  induction m with
  | nil => simp [putT, findT]
  | cons p t ih =>
    obtain ⟨k, v⟩ := p
    simp only [putT, findT]
    by_cases h : a = k.1 ∧ b = k.2
    · simp [h]
    · simp only [if_neg h, List.length_cons, ih]
      omega

/-- How an entry is laid. -/
def encT (p : (Int × Int) × Option Addr) : Value × Value := (keyV p.1.1 p.1.2, .pointer p.2)

/-- Block r is a map that holds m. -/
def MapAt (w : World) (r : Nat) (m : Tbl) : Prop := ∃ es clock, w.heap[r]? = some (.map es clock) ∧ es.toList.map (fun e => (e.key, e.val)) = m.map encT

theorem find_run (w : World) (a b : Int) : ∀ (m : Tbl) (es : List MapEntry) (i : Nat), es.map (fun e => (e.key, e.val)) = m.map encT →
    (findT m a b = none ∧ (Instr.findAsking 75 (keyV a b) es i).run Trym.prog w = .ok none w ∧ ∀ u, putT m a b u = m ++ [((a, b), u)]) ∨
    ∃ j v e, findT m a b = some v ∧ (Instr.findAsking 75 (keyV a b) es i).run Trym.prog w = .ok (some (i + j, .pointer v)) w ∧ es[j]? = some e ∧ e.key = keyV a b ∧
      ∀ u, (es.modify j fun e => { e with key := keyV a b, val := .pointer u }).map (fun e => (e.key, e.val)) = (putT m a b u).map encT := by
  intro m
  induction m with
  | nil =>
    intro es i h
    have : es = [] := by simpa using h
    subst this
    exact .inl ⟨rfl, by simp [Instr.findAsking], fun u => rfl⟩
  | cons p t ih =>
    intro es i h
    obtain ⟨⟨c, d⟩, v⟩ := p
    cases es with
    | nil => simp at h
    | cons e es =>
      simp only [List.map_cons, List.cons.injEq, encT, Prod.mk.injEq] at h
      obtain ⟨⟨hk, hv⟩, ht⟩ := h
      by_cases hab : a = c ∧ b = d
      · obtain ⟨rfl, rfl⟩ := hab
        refine .inr ⟨0, v, e, by simp [findT], ?_, rfl, hk, fun u => ?_⟩
        · simp [Instr.findAsking, hk, hv, key_eq]
        · simp [putT, encT]; exact ht
      · have hb : (a == c && b == d) = false := by
          by_cases h1 : a = c
          · have h2 : ¬ b = d := fun h2 => hab ⟨h1, h2⟩
            simp [h1, h2]
          · simp [h1]
        have hrun : ∀ o, (Instr.findAsking 75 (keyV a b) es (i + 1)).run Trym.prog w = .ok o w → (Instr.findAsking 75 (keyV a b) (e :: es) i).run Trym.prog w = .ok o w := by
          intro o ho
          simp [Instr.findAsking, hk, key_eq, hb, ho]
        rcases ih es (i + 1) ht with ⟨h1, h2, h3⟩ | ⟨j, v', e', h1, h2, h3, h4, h5⟩
        · refine .inl ⟨by simp [findT, hab]; exact h1, hrun _ h2, fun u => by simp [putT, hab]; exact h3 u⟩
        · refine .inr ⟨j + 1, v', e', by simp [findT, hab]; exact h1, ?_, by simpa using h3, h4, fun u => ?_⟩
          · have := hrun _ h2
            rw [this]
            simp [Nat.add_assoc, Nat.add_comm 1 j]
          · have := h5 u
            simp [putT, hab, encT, hk, hv]
            exact this

theorem map_look (w : World) (r : Nat) (m : Tbl) (a b : Int) (ok : Bool) (h : MapAt w r m) :
    (Instr.lookup 71 (.map (some r)) (keyV a b) ok).run Trym.prog w = .ok (if ok then .tuple #[.pointer ((findT m a b).getD none), .bool (findT m a b).isSome] else .pointer ((findT m a b).getD none)) w := by
  obtain ⟨es, clock, hb, he⟩ := h
  have hg := run_getObj_map (P := Trym.prog) w r es clock hb
  rcases find_run w a b m es.toList 0 he with ⟨h1, h2, _⟩ | ⟨j, v, e, h1, h2, _⟩
  · simp [Instr.lookup, run_underlying Trym.underlying71, hg, key_check, findKey75, h2, h1]
  · simp [Instr.lookup, run_underlying Trym.underlying71, hg, key_check, findKey75, h2, h1]

theorem nil_look (w : World) (a b : Int) (ok : Bool) :
    (Instr.lookup 71 (.map none) (keyV a b) ok).run Trym.prog w = .ok (if ok then .tuple #[.pointer none, .bool false] else .pointer none) w := by
  simp [Instr.lookup, run_underlying Trym.underlying71, key_check, findKey75, Instr.findAsking]

theorem map_len (w : World) (r : Nat) (m : Tbl) (ty : TypeId) (h : MapAt w r m) :
    (Builtin.len_ #[71] ty #[.map (some r)]).run Trym.prog w = .ok (goInt m.length) w := by
  obtain ⟨es, clock, hb, he⟩ := h
  have hg := run_getObj_map (P := Trym.prog) w r es clock hb
  have hl : es.size = m.length := by have := congrArg List.length he; simpa using this
  simp [Builtin.len_, run_underlying Trym.underlying71, hg, hl]

/-- The world with block r turned to o. -/
def setM (w : World) (r : Nat) (o : Obj) : World := { w with heap := w.heap.setIfInBounds r o }

theorem map_put (w : World) (r : Nat) (m : Tbl) (a b : Int) (u : Option Addr) (h : MapAt w r m) :
    ∃ o, (Instr.mapUpdate 71 (.map (some r)) (keyV a b) (.pointer u)).run Trym.prog w = .ok () (setM w r o) ∧ MapAt (setM w r o) r (putT m a b u) := by
  obtain ⟨es, clock, hb, he⟩ := h
  have hg := run_getObj_map (P := Trym.prog) w r es clock hb
  have hr : r < w.heap.size := (Array.getElem?_eq_some_iff.1 hb).1
  rcases find_run w a b m es.toList 0 he with ⟨h1, h2, h3⟩ | ⟨j, v, e, h1, h2, h3, h4, h5⟩
  · refine ⟨.map (es.push { key := keyV a b, val := .pointer u, born := clock }) (clock + 1), ?_, es.push { key := keyV a b, val := .pointer u, born := clock }, clock + 1, by simp [setM, hr], ?_⟩
    · simp [Instr.mapUpdate, run_underlying Trym.underlying71, hg, key_check, findKey75, h2, MapKept.run_setObj_map _ hb, setM]
    · rw [h3 u]; simp [he, encT]
  · have hs : Instr.sameBits 10000 (keyV a b) (keyV a b) = true := by
      have : ∀ n : Nat, Instr.sameBits (n + 2) (keyV a b) (keyV a b) = true := fun n => by simp [Instr.sameBits, keyV]
      exact this 9998
    have hk : ((es[j]?).map (·.key)).getD (keyV a b) = keyV a b := by
      have : es[j]? = some e := by simpa using h3
      rw [this]; simpa using h4
    refine ⟨.map (es.modify j fun e => { e with key := keyV a b, val := .pointer u }) clock, ?_, es.modify j fun e => { e with key := keyV a b, val := .pointer u }, clock, by simp [setM, hr], ?_⟩
    · simp [Instr.mapUpdate, run_underlying Trym.underlying71, hg, key_check, findKey75, h2, MapKept.run_setObj_map _ hb, setM, Instr.keyThatStays, hk, hs]
    · have := h5 u
      simpa using this
end Go.Proofs.Qxb6602336aMods.Tab
