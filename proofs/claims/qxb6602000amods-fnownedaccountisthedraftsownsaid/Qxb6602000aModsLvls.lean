import Derived.Test.Qxb6602000aModsSame
namespace Go.Proofs.Qxb6602000aMods.Led
open Go.RowKit
set_option linter.unusedVariables false

/-- A level's nine cells. -/
def lvCells (L : Lv) : Array Value := #[.bool L.holds, .string L.name, .string L.unit, .float .f64 L.acc, .float .f64 L.onh, .pointer L.loc, .string L.state, .pointer L.note, .bool L.wd]
/-- The levels lie in block B from o on. -/
def LvsAt (w : World) (B o : Nat) (Ls : List Lv) : Prop := ∀ i L, Ls[i]? = some L → w.rangeAt B (o + i * 9) (lvCells L).toList

def intOf : Value → Int
  | .int _ n => n
  | _ => 0

theorem drop_at {Ls : List Lv} {i : Nat} {L : Lv} (h : Ls[i]? = some L) : Ls.drop i = L :: Ls.drop (i + 1) := by
  obtain ⟨hlt, rfl⟩ := List.getElem?_eq_some_iff.1 h
  exact List.drop_eq_getElem_cons hlt

set_option maxHeartbeats 1000000 in
theorem near_any (B o n cap : Nat) (Ls : List Lv) (w : World) (h : LvsAt w B o Ls) (hn : n = Ls.length) (hs : n ≤ 4096) (f : Nat) (hf : f ≤ n) :
    Calls Trym.prog 12 #[.slice (some ⟨B, o, none⟩) n cap, .int .i64 f] w fun e w' => w' = w ∧ ((e = .returned (.int .i64 (-1)) ∧ nearL (Ls.drop f) = none) ∨ ∃ (i : Nat) (L : Lv), f ≤ i ∧ Ls[i]? = some L ∧ e = .returned (.int .i64 i) ∧ nearL (Ls.drop f) = some L) := by
  have HL : Hid (n = Ls.length) := hn
  clear hn
  go_enter Trym.func12, Trym.ntmps12
  go_wp2
  go_loopw [5] (fun v wr => ∃ i : Nat, v = .int .i64 i ∧ wr = w ∧ f ≤ i ∧ i ≤ n ∧ Hid (nearL (Ls.drop i) = nearL (Ls.drop f))) (fun v _ => (n - intOf v).toNat)
  case atStart => exact ⟨f, rfl, rfl, Nat.le_refl _, hf, rfl⟩
  case round =>
    obtain ⟨i, rfl, rfl, hfi, hin, HN⟩ := hrel
    by_cases hlt : i < n
    · obtain ⟨L, hL⟩ : ∃ L, Ls[i]? = some L := ⟨Ls[i]'(by have := HL.out; omega), List.getElem?_eq_getElem _⟩
      have h0 : wr.cell? ⟨B, o + i * 9, none⟩ = some (.bool L.holds) := h i L hL 0 _ rfl
      have HD : Hid (Ls.drop i = L :: Ls.drop (i + 1)) := drop_at hL
      have HL2 : Hid (Ls[i]? = some L) := hL
      clear hL
      cases hh : L.holds
      · rw [hh] at h0
        go_wp2
        refine ⟨⟨i + 1, rfl, trivial, by omega, by omega, ?_⟩, ?_⟩
        · have := HN.out; rw [HD.out] at this; simp [nearL, hh] at this; exact this
        · show (_ - ((i : Int) + 1)).toNat < (_ - (i : Int)).toNat; omega
      · rw [hh] at h0
        go_wp2
        go_ret
        refine ⟨rfl, .inr ⟨i, L, hfi, HL2.out, rfl, ?_⟩⟩
        have := HN.out; rw [HD.out] at this; simp [nearL, hh] at this; exact this.symm
    · go_wp2
      go_ret
      refine ⟨rfl, .inl ⟨rfl, ?_⟩⟩
      rw [← HN.out, List.drop_eq_nil_of_le (by have := HL.out; omega)]; rfl

/-- The text that p leads to lies under lim. -/
def TextAt (w : World) (lim : Nat) (p : Option Addr) : Prop := ∀ a, p = some a → a.block < lim ∧ ∃ s, w.cell? a = some (.string s)
theorem TextAt.below {w w' : World} {lim B : Nat} {p : Option Addr} (h : TextAt w lim p) (hb : Below B w w') (hl : lim ≤ B) : TextAt w' lim p := fun a e => by
  obtain ⟨h1, s, h2⟩ := h a e
  exact ⟨h1, s, (hb.cell (p := a) (by omega)).trans h2⟩

set_option maxHeartbeats 1000000 in
theorem copyText_any (p : Option Addr) (lim : Nat) (w : World) (hp : TextAt w lim p) :
    Calls Trym.prog 33 #[.pointer p] w fun e w' => ∃ p', e = .returned (.pointer p') ∧ Below w.heap.size w w' := by
  cases p with
  | none =>
    go_enter Trym.func33, Trym.ntmps33
    go_wp2
    go_ret
    exact ⟨none, rfl, Below.refl _ _⟩
  | some a =>
    obtain ⟨_, s, hs⟩ := hp a rfl
    go_enter Trym.func33, Trym.ntmps33
    go_wp2
    go_ret
    exact ⟨_, rfl, (Below.refl _ _).alloc (Nat.le_refl _) _⟩


theorem big44 : Big 44 9 := ⟨⟨_, Trym.underlying44, rfl⟩, by kernel_rfl⟩
theorem ld44 (ρ : Operand → Value) (dst : Option Tmp) (x : Operand) (ty : TypeId) (pos : String) (after : _) (guard : _) (w : World) :
    (execOp ρ (Oper.mk dst (.load 44 x) ty pos after guard)).run Trym.prog w = (ldV Trym.prog 44 (ρ x) w).andThen fun v w' => .ok (.value v) w' := by simp [execOp, ldV]
theorem st44 (ρ : Operand → Value) (dst : Option Tmp) (x y : Operand) (ty : TypeId) (pos : String) (after : _) (guard : _) (w : World) :
    (execOp ρ (Oper.mk dst (.store 44 x y) ty pos after guard)).run Trym.prog w = (stV Trym.prog 44 (ρ x) (ρ y) w).andThen fun _ w' => .ok .skip w' := by simp [execOp, stV]
attribute [local go_sem ↓] ld44 st44

theorem lv_size (L : Lv) : (lvCells L).size = 9 := rfl
theorem lv_one (L : Lv) : (lvCells L).all (·.oneCell') = true := by kernel_rfl
def lvZ : Lv := ⟨false, ⟨#[]⟩, ⟨#[]⟩, 0, 0, none, ⟨#[]⟩, none, false⟩
theorem results_44 {fn : Func} {p : Tmp} (h : fn.results = #[.cell p 44]) (tmps : Array Value) (w : World) (g : Nat) (L : Lv) (hp : tmps.getD p undef = .pointer (some ⟨g, 0, none⟩)) (hg : HeapIs w g (.cells (lvCells L) 44)) :
    (results fn tmps).run Trym.prog w = .ok (.agg (lvCells L)) w :=
  results_cell_row (P := Trym.prog) h tmps w g 44 _ (0, 0) _ hp hg Trym.underlying44 rfl (by kernel_rfl)
theorem heapIs_setCell (w : World) (g i : Nat) (C : Array Value) (t : TypeId) (v : Value) (h : HeapIs w g (.cells C t)) : HeapIs (w.setCell ⟨g, i, none⟩ v) g (.cells (C.setIfInBounds i v) t) := by
  rw [setCell_eq_setRow w g i C t (0, 0) v h]; exact setRow_heap _ _ _ _ _ _ h
theorem frozen_of {w : World} {g i : Nat} {C : Array Value} {t : TypeId} (h : HeapIs w g (.cells C t)) : w.frozen? ⟨g, i, none⟩ = false := by
  have h' : w.heap[g]? = some (.cells C t (0, 0)) := h
  simp [World.frozen?, h']

set_option maxHeartbeats 1000000 in
theorem copyLevel_any (L : Lv) (lim : Nat) (w : World) (h1 : TextAt w lim L.loc) (h2 : TextAt w lim L.note) (hl : lim ≤ w.heap.size) :
    Calls Trym.prog 24 #[.agg (lvCells L)] w fun e w' => ∃ L', e = .returned (.agg (lvCells L')) ∧ Below w.heap.size w w' := by
  have hbx : Below w.heap.size w ((w.alloc (.cells (lvCells L) 44)).alloc (.cells (lvCells lvZ) 44)) := ((Below.refl _ _).alloc (Nat.le_refl _) _).alloc (by simp) _
  have k0 : HeapIs ((w.alloc (.cells (lvCells L) 44)).alloc (.cells (lvCells lvZ) 44)) w.heap.size (.cells (lvCells L) 44) := by
    unfold HeapIs; rw [Below.heap_alloc _ _ _ (by simp)]; exact heap_alloc_new _ _
  have k1 : HeapIs ((w.alloc (.cells (lvCells L) 44)).alloc (.cells (lvCells lvZ) 44)) (w.heap.size + 1) (.cells (lvCells lvZ) 44) := heap_alloc2_new _ _ _
  have HB : Hid (((w.alloc (.cells (lvCells L) 44)).alloc (.cells (lvCells lvZ) 44)).heap.size = w.heap.size + 2) := by show _ = _; simp
  have hz : ∀ w : World, (zeroValue 44).run Trym.prog w = .ok (.agg (lvCells lvZ)) w := fun w => by kernel_rfl
  have t1 := h1.below hbx hl
  have c5 : ((w.alloc (.cells (lvCells L) 44)).alloc (.cells (lvCells lvZ) 44)).cell? ⟨w.heap.size, 5, none⟩ = some (.pointer L.loc) := cell_of k0 5
  generalize hC : lvCells L = CL at *
  generalize hCZ : lvCells lvZ = CZ at *
  go_enter Trym.func24, Trym.ntmps24
  go_wp2_with (first
    | (go_at_call 33; (with_reducible (show Calls _ _ #[.pointer L.loc] _ _)); refine (copyText_any L.loc lim _ (by exact t1)).mono ?_; rintro e w2 ⟨p1, rfl, hb2⟩;
       have m0 : HeapIs w2 w.heap.size (.cells CL 44) := (hb2.block _ (lt_of k0)).trans k0;
       have m1 : HeapIs w2 (w.heap.size + 1) (.cells CZ 44) := (hb2.block _ (lt_of k1)).trans k1;
       have d5 : w2.cell? ⟨w.heap.size, 5, none⟩ = some (.pointer L.loc) := by rw [cell_of m0 5, ← hC]; rfl
       have f5 : w2.frozen? ⟨w.heap.size, 5, none⟩ = false := frozen_of m0
       have d7 : w2.cell? ⟨w.heap.size, 7, none⟩ = some (.pointer L.note) := by rw [cell_of m0 7, ← hC]; rfl
       have hb3 : Below w.heap.size w (w2.setCell ⟨w.heap.size, 5, none⟩ (.pointer p1)) := (hbx.over hb2).setCell (Nat.le_refl _) _
       have t2 := h2.below hb3 hl
       have n0 := heapIs_setCell w2 w.heap.size 5 _ _ (.pointer p1) m0
       have n1 : HeapIs (w2.setCell ⟨w.heap.size, 5, none⟩ (.pointer p1)) (w.heap.size + 1) (.cells CZ 44) := (Below.heap_setCell _ _ _ _ (by simp)).trans m1)
    | (go_at_call 33; (with_reducible (show Calls _ _ #[.pointer L.note] _ _)); refine (copyText_any L.note lim _ (by exact t2)).mono ?_; rintro e w3 ⟨p2, rfl, hb4⟩;
       have o0 : HeapIs w3 w.heap.size (.cells (CL.setIfInBounds 5 (.pointer p1)) 44) := (hb4.block _ (lt_of n0)).trans n0;
       have o1 : HeapIs w3 (w.heap.size + 1) (.cells CZ 44) := (hb4.block _ (lt_of n1)).trans n1;
       have g7 : w3.cell? ⟨w.heap.size, 7, none⟩ = some (.pointer L.note) := by rw [cell_of o0 7, ← hC]; rfl
       have f7 : w3.frozen? ⟨w.heap.size, 7, none⟩ = false := frozen_of o0
       have z0 : HeapIs (w3.setCell ⟨w.heap.size, 7, none⟩ (.pointer p2)) w.heap.size (.cells (lvCells { L with loc := p1, note := p2 }) 44) := by
         have := heapIs_setCell w3 w.heap.size 7 _ _ (.pointer p2) o0
         rw [← hC] at this; exact this
       have z1 : HeapIs (w3.setCell ⟨w.heap.size, 7, none⟩ (.pointer p2)) (w.heap.size + 1) (.cells (lvCells lvZ) 44) := by rw [hCZ]; exact (Below.heap_setCell _ _ _ _ (by simp)).trans o1
       have l0 : ldV Trym.prog 44 (.pointer (some ⟨w.heap.size, 0, none⟩)) (w3.setCell ⟨w.heap.size, 7, none⟩ (.pointer p2)) = .ok (.agg (lvCells { L with loc := p1, note := p2 })) (w3.setCell ⟨w.heap.size, 7, none⟩ (.pointer p2)) :=
         run_ld 44 9 big44 _ 0 _ (lv_size _) _ (seg_of z0 0 9 _ (by kernel_rfl))
       have s0 := run_st 44 9 big44 (w.heap.size + 1) (lvCells { L with loc := p1, note := p2 }) (lvCells lvZ) 44 _ z1 (lv_size _) (lv_size _) (lv_one _)))
  refine bodyPost_ret (v := .agg (lvCells { L with loc := p1, note := p2 })) ?_ rfl ⟨_, rfl, ?_⟩
  · exact results_44 Trym.results24 _ _ _ _ (by rfl) (setRow_heap _ _ _ _ _ _ z1)
  · exact below_setRow ((hb3.over hb4).setCell (Nat.le_refl _) _) (by omega) _
end Go.Proofs.Qxb6602000aMods.Led
