import Derived.Test.Qxb6602336aModsTally
namespace Go.Proofs.Qxb6602336aMods.Tab
open Go.RowKit Go.Proofs.Qxb6602336aMods.Plan
set_option linter.unusedVariables false
attribute [local go_sem ↓] Go.wp_at_zero Go.wp_at_succ

/-- But for the blocks of S all that was there is as it was. -/
structure Turn (S : Nat → Prop) (w w' : World) : Prop where
  os : w'.os = w.os
  tape : w'.tape = w.tape
  output : w'.output = w.output
  size : w.heap.size ≤ w'.heap.size
  block : ∀ k, k < w.heap.size → ¬ S k → w'.heap[k]? = w.heap[k]?

theorem Turn.refl (S : Nat → Prop) (w : World) : Turn S w w := ⟨rfl, rfl, rfl, Nat.le_refl _, fun _ _ _ => rfl⟩
theorem Turn.drewN {S : Nat → Prop} {w w' : World} (h : Turn S w w') (n : Nat) : Turn S w (w'.drewN n) := ⟨h.os, h.tape, h.output, h.size, h.block⟩
theorem Turn.drew {S : Nat → Prop} {w w' : World} (h : Turn S w w') : Turn S w w'.drew := ⟨h.os, h.tape, h.output, h.size, h.block⟩
theorem Turn.alloc {S : Nat → Prop} {w w' : World} (h : Turn S w w') (o : Obj) : Turn S w (w'.alloc o) :=
  ⟨h.os, h.tape, h.output, Nat.le_trans h.size (by simp), fun k hk hs => by rw [Below.heap_alloc w' o k (Nat.lt_of_lt_of_le hk h.size)]; exact h.block k hk hs⟩
theorem Turn.setCell {S : Nat → Prop} {w w' : World} (h : Turn S w w') (a : Addr) (v : Value) (ha : S a.block ∨ w.heap.size ≤ a.block) : Turn S w (w'.setCell a v) :=
  ⟨h.os, h.tape, h.output, Nat.le_trans h.size (by simp [World.setCell]), fun k hk hs => by
    rw [Below.heap_setCell w' a v k (by rintro rfl; rcases ha with ha | ha; exact hs ha; omega)]; exact h.block k hk hs⟩
theorem Turn.setM {S : Nat → Prop} {w w' : World} (h : Turn S w w') (r : Nat) (o : Obj) (ha : S r ∨ w.heap.size ≤ r) : Turn S w (setM w' r o) :=
  ⟨h.os, h.tape, h.output, Nat.le_trans h.size (by simp [Tab.setM]), fun k hk hs => by
    have hne : r ≠ k := by rintro rfl; rcases ha with ha | ha; exact hs ha; omega
    have : (Tab.setM w' r o).heap[k]? = w'.heap[k]? := by simp [Tab.setM, hne]
    rw [this]; exact h.block k hk hs⟩

theorem heap_setCell_at {w : World} {k : Nat} {cs : Array Value} {t : TypeId} {fr : Nat × Nat} (h : w.heap[k]? = some (.cells cs t fr)) (i : Nat) (v : Value) :
    (w.setCell ⟨k, i, none⟩ v).heap[k]? = some (.cells (cs.setIfInBounds i v) t fr) := by
  simp only [World.setCell, Array.getElem?_modify, if_true, h]
  rfl

theorem setM_heap (w : World) (r : Nat) (o : Obj) (k : Nat) (h : k ≠ r) : (setM w r o).heap[k]? = w.heap[k]? := by
  have : r ≠ k := fun e => h e.symm
  simp [setM, this]
theorem setM_cell (w : World) (r : Nat) (o : Obj) (k i : Nat) (h : k ≠ r) : (setM w r o).cell? ⟨k, i, none⟩ = w.cell? ⟨k, i, none⟩ :=
  World.cell?_of_block (w := w) (a := ⟨k, i, none⟩) (setM_heap w r o k h)

/-- The spare, zeroed. -/
def zeroed (w : World) (SP : Nat) : World := ((w.setCell ⟨SP, 0, none⟩ (.int .u64 0)).setCell ⟨SP, 1, none⟩ (.int .u64 0)).setCell ⟨SP, 2, none⟩ (.int .u64 0)
theorem zeroed_tal {w : World} {SP : Nat} {c f d : Int} (h : TalAt w SP c f d) : TalAt (zeroed w SP) SP 0 0 0 := by
  have h1 := heap_setCell_at h 0 (.int .u64 0)
  have h2 := heap_setCell_at h1 1 (.int .u64 0)
  have h3 := heap_setCell_at h2 2 (.int .u64 0)
  exact h3
theorem zeroed_other (w : World) (SP k : Nat) (h : k ≠ SP) : (zeroed w SP).heap[k]? = w.heap[k]? := by
  unfold zeroed
  rw [Below.heap_setCell _ _ _ _ h, Below.heap_setCell _ _ _ _ h, Below.heap_setCell _ _ _ _ h]
theorem zeroed_size (w : World) (SP : Nat) : (zeroed w SP).heap.size = w.heap.size := by simp [zeroed, World.setCell]
theorem Turn.zeroed {S : Nat → Prop} {w w' : World} (h : Turn S w w') (SP : Nat) (hs : S SP ∨ w.heap.size ≤ SP) : Turn S w (zeroed w' SP) :=
  ((h.setCell _ _ hs).setCell _ _ hs).setCell _ _ hs

set_option maxHeartbeats 1000000 in
set_option maxRecDepth 10000 in
/-- of: the key is kept. -/
theorem of_found (B0 TB r : Nat) (m : Tbl) (a b : Int) (p : Addr) (sp : Value) (w : World) (h1 : w.heap[TB]? = some (.cells #[.map (some r)] 71 (0, 0))) (hm : MapAt w r m) (hf : look m a b = some p) :
    Calls Trym.prog 34 #[.pointer (some ⟨TB, 0, none⟩), .int .i64 a, .int .i64 b, sp] w fun e w' => e = .returned (.pointer (some p)) ∧ Turn (fun _ => False) w w' := by
  have hc := cell_of h1 0
  have hlt := lt_of h1
  have hne : ¬ TB = w.heap.size := by omega
  have hl : ∀ nq, (Instr.lookup 71 (.map (some r)) (.agg #[.int .i64 a, .int .i64 b]) false).run Trym.prog ((w.alloc (.cells #[.int .i64 a, .int .i64 b] 75)).drewN nq) = .ok (.pointer (some p)) ((w.alloc (.cells #[.int .i64 a, .int .i64 b] 75)).drewN nq) := by
    intro nq
    have := map_look ((w.alloc (.cells #[.int .i64 a, .int .i64 b] 75)).drewN nq) r m a b false (hm.alloc _)
    rw [keyV] at this
    rw [this, ← hf]; rfl
  clear hf
  go_enter Trym.func34, Trym.ntmps34
  go_wp2
  go_quiet (fail)
  go_wp2
  go_ret
  exact ⟨rfl, ((Turn.refl _ w).alloc _).drewN _⟩

set_option maxHeartbeats 1000000 in
set_option maxRecDepth 10000 in
/-- of: the key is not kept, the table is full. -/
theorem of_full (B0 TB r SP : Nat) (m : Tbl) (a b : Int) (c f d : Int) (w : World) (h1 : w.heap[TB]? = some (.cells #[.map (some r)] 71 (0, 0))) (hm : MapAt w r m) (hf : look m a b = none) (hs : TalAt w SP c f d) (hst : SP ≠ TB) (hlen : 1024 ≤ m.length) :
    Calls Trym.prog 34 #[.pointer (some ⟨TB, 0, none⟩), .int .i64 a, .int .i64 b, .pointer (some ⟨SP, 0, none⟩)] w fun e w' => e = .returned (.pointer (some ⟨SP, 0, none⟩)) ∧ Turn (· = SP) w w' ∧ TalAt w' SP 0 0 0 := by
  have hc := cell_of h1 0
  have hlt := lt_of h1
  have hne : ¬ TB = w.heap.size := by omega
  have hls := lt_of hs
  have hne' : ¬ SP = w.heap.size := by omega
  have hne2 : ¬ TB = SP := fun h => hst h.symm
  have s0 := cell_of hs 0
  have s1 := cell_of hs 1
  have s2 := cell_of hs 2
  have f0 := frozen_of hs 0
  have f1 := frozen_of hs 1
  have f2 := frozen_of hs 2
  have hl : ∀ nq, (Instr.lookup 71 (.map (some r)) (.agg #[.int .i64 a, .int .i64 b]) false).run Trym.prog ((w.alloc (.cells #[.int .i64 a, .int .i64 b] 75)).drewN nq) = .ok (.pointer none) ((w.alloc (.cells #[.int .i64 a, .int .i64 b] 75)).drewN nq) := by
    intro nq
    have := map_look ((w.alloc (.cells #[.int .i64 a, .int .i64 b] 75)).drewN nq) r m a b false (hm.alloc _)
    rw [keyV] at this
    rw [this]; simp [show (findT m a b).getD none = none from hf]
  have hn : ∀ nq, (Builtin.len_ #[71] 3 #[.map (some r)]).run Trym.prog (zeroed ((w.alloc (.cells #[.int .i64 a, .int .i64 b] 75)).drewN nq) SP) = .ok (goInt m.length) (zeroed ((w.alloc (.cells #[.int .i64 a, .int .i64 b] 75)).drewN nq) SP) := by
    intro nq
    exact map_len _ r m 3 ((hm.alloc (.cells #[.int .i64 a, .int .i64 b] 75)).of_heap (zeroed_other _ SP r (hm.ne hs).symm))
  have HZ : ∀ W, Hid (TalAt W SP c f d → TalAt (zeroed W SP) SP 0 0 0) := fun W h => zeroed_tal h
  have HT : ∀ nq, Hid (TalAt ((w.alloc (.cells #[.int .i64 a, .int .i64 b] 75)).drewN nq) SP c f d) := fun nq => by
    show (w.alloc _).heap[SP]? = _
    rw [Below.heap_alloc w _ SP hls]; exact hs
  simp only [zeroed] at hn
  clear hf hm hs h1
  generalize m.length = L at *
  go_enter Trym.func34, Trym.ntmps34
  go_wp2
  go_quiet (fail)
  go_wp2
  go_ret
  have HF : Turn (· = SP) w (zeroed ((w.alloc (.cells #[.int .i64 a, .int .i64 b] 75)).drewN nq) SP) := (((Turn.refl _ w).alloc _).drewN nq).zeroed SP (.inl rfl)
  have HG := (HZ ((w.alloc (.cells #[.int .i64 a, .int .i64 b] 75)).drewN nq)).out (HT nq).out
  simp only [zeroed] at HF HG
  exact ⟨rfl, HF, HG⟩

set_option maxHeartbeats 1000000 in
set_option maxRecDepth 10000 in
/-- of: the key is not kept, the table is there and has room. -/
theorem of_new (B0 TB r SP : Nat) (m : Tbl) (a b : Int) (c f d : Int) (w : World) (h1 : w.heap[TB]? = some (.cells #[.map (some r)] 71 (0, 0))) (hm : MapAt w r m) (hf : look m a b = none) (hs : TalAt w SP c f d) (hst : SP ≠ TB) (hlen : m.length < 1024) :
    Calls Trym.prog 34 #[.pointer (some ⟨TB, 0, none⟩), .int .i64 a, .int .i64 b, .pointer (some ⟨SP, 0, none⟩)] w fun e w' => e = .returned (.pointer (some ⟨w.heap.size + 1, 0, none⟩)) ∧
      Turn (fun k => k = SP ∨ k = r) w w' ∧ TalAt w' SP 0 0 0 ∧ TalAt w' (w.heap.size + 1) 0 0 0 ∧ MapAt w' r (putT m a b (some ⟨w.heap.size + 1, 0, none⟩)) := by
  have hc := cell_of h1 0
  have hlt := lt_of h1
  have hne : ¬ TB = w.heap.size := by omega
  have hls := lt_of hs
  have hlr := hm.lt
  have htr : TB ≠ r := hm.ne h1
  have hne' : ¬ SP = w.heap.size := by omega
  have hne2 : ¬ TB = SP := fun h => hst h.symm
  have s0 := cell_of hs 0
  have s1 := cell_of hs 1
  have s2 := cell_of hs 2
  have f0 := frozen_of hs 0
  have f1 := frozen_of hs 1
  have f2 := frozen_of hs 2
  have hq := fun w r => run_eql_map_nil (P := Trym.prog) w 71 75 42 r Trym.underlying71
  have hl : ∀ nq, (Instr.lookup 71 (.map (some r)) (.agg #[.int .i64 a, .int .i64 b]) false).run Trym.prog ((w.alloc (.cells #[.int .i64 a, .int .i64 b] 75)).drewN nq) = .ok (.pointer none) ((w.alloc (.cells #[.int .i64 a, .int .i64 b] 75)).drewN nq) := by
    intro nq
    have := map_look ((w.alloc (.cells #[.int .i64 a, .int .i64 b] 75)).drewN nq) r m a b false (hm.alloc _)
    rw [keyV] at this
    rw [this]; simp [show (findT m a b).getD none = none from hf]
  have hmz : ∀ nq, MapAt (zeroed ((w.alloc (.cells #[.int .i64 a, .int .i64 b] 75)).drewN nq) SP) r m := fun nq => (hm.alloc (.cells #[.int .i64 a, .int .i64 b] 75)).of_heap (zeroed_other _ SP r (hm.ne hs).symm)
  have hn : ∀ nq, (Builtin.len_ #[71] 3 #[.map (some r)]).run Trym.prog (zeroed ((w.alloc (.cells #[.int .i64 a, .int .i64 b] 75)).drewN nq) SP) = .ok (goInt m.length) (zeroed ((w.alloc (.cells #[.int .i64 a, .int .i64 b] 75)).drewN nq) SP) := fun nq => map_len _ r m 3 (hmz nq)
  have HT : ∀ nq, Hid (TalAt (zeroed ((w.alloc (.cells #[.int .i64 a, .int .i64 b] 75)).drewN nq) SP) SP 0 0 0) := fun nq => by
    refine zeroed_tal (c := c) (f := f) (d := d) ?_
    show (w.alloc _).heap[SP]? = _
    rw [Below.heap_alloc w _ SP hls]; exact hs
  have HM : ∀ nq, Hid (MapAt (zeroed ((w.alloc (.cells #[.int .i64 a, .int .i64 b] 75)).drewN nq) SP) r m) := hmz
  simp only [zeroed] at hn
  clear hf hm hs h1 hmz
  generalize hL : m.length = L at *
  have HL : Hid (m.length = L) := hL
  clear hL
  go_enter Trym.func34, Trym.ntmps34
  go_wp2
  go_quiet (fail)
  go_wp2
  obtain ⟨W5, hW5⟩ : ∃ W : World, W = (((((w.alloc (.cells #[.int .i64 a, .int .i64 b] 75)).drewN nq).setCell ⟨SP, 0, none⟩ (.int .u64 0)).setCell ⟨SP, 1, none⟩ (.int .u64 0)).setCell ⟨SP, 2, none⟩ (.int .u64 0)).alloc (.cells #[.int .u64 0, .int .u64 0, .int .u64 0] 73) := ⟨_, rfl⟩
  rw [← hW5]
  have hW : W5 = (zeroed ((w.alloc (.cells #[.int .i64 a, .int .i64 b] 75)).drewN nq) SP).alloc (.cells #[.int .u64 0, .int .u64 0, .int .u64 0] 73) := hW5
  clear hW5 hl hn hq
  have hz : (zeroed ((w.alloc (.cells #[.int .i64 a, .int .i64 b] 75)).drewN nq) SP).heap.size = w.heap.size + 1 := by rw [zeroed_size]; simp
  have b1 : ∀ k, k < w.heap.size → k ≠ SP → W5.heap[k]? = w.heap[k]? := fun k hk hks => by
    rw [hW, Below.heap_alloc _ _ _ (by omega), zeroed_other _ _ _ hks]
    exact Below.heap_alloc w _ k hk
  have b2 : W5.heap[w.heap.size]? = some (.cells #[.int .i64 a, .int .i64 b] 75) := by
    rw [hW, Below.heap_alloc _ _ _ (by omega), zeroed_other _ _ _ (by omega)]
    exact heap_alloc_new w _
  have b3 : TalAt W5 (w.heap.size + 1) 0 0 0 := by
    unfold TalAt
    rw [hW, ← hz]; exact heap_alloc_new _ _
  have b4 : TalAt W5 SP 0 0 0 := by
    unfold TalAt
    rw [hW, Below.heap_alloc _ _ _ (by omega)]; exact (HT nq).out
  have b5 : MapAt W5 r m := by rw [hW]; exact (HM nq).out.alloc _
  have b6 : Turn (fun k => k = SP ∨ k = r) w W5 := by
    rw [hW]; exact ((((Turn.refl _ w).alloc _).drewN nq).zeroed SP (.inl (.inl rfl))).alloc _
  have c0 : W5.cell? ⟨TB, 0, none⟩ = some (.map (some r)) := by rw [World.cell?_of_block (w := w) (b1 TB hlt hne2)]; exact hc
  have c1 : W5.cell? ⟨w.heap.size, 0, none⟩ = some (.int .i64 a) := cell_of b2 0
  have c2 : W5.cell? ⟨w.heap.size, 1, none⟩ = some (.int .i64 b) := cell_of b2 1
  have hrz : r ≠ w.heap.size + 1 := by omega
  have hsr : SP ≠ r := b5.ne b4
  clear hW hz b1 b2 HT HM hc s0 s1 s2 f0 f1 f2
  obtain ⟨o, hput0, hm'⟩ := map_put W5.drew r m a b (some ⟨w.heap.size + 1, 0, none⟩) b5
  have hput : (Instr.mapUpdate 71 (.map (some r)) (.agg #[.int .i64 a, .int .i64 b]) (.pointer (some ⟨w.heap.size + 1, 0, none⟩))).run Trym.prog W5.drew = .ok () (setM W5.drew r o) := hput0
  clear hput0
  have ht0 : (setM W5.drew r o).cell? ⟨TB, 0, none⟩ = some (.map (some r)) := by rw [setM_cell _ _ _ _ _ htr]; exact c0
  have ht1 : (setM W5.drew r o).cell? ⟨w.heap.size, 0, none⟩ = some (.int .i64 a) := by rw [setM_cell _ _ _ _ _ (by omega)]; exact c1
  have ht2 : (setM W5.drew r o).cell? ⟨w.heap.size, 1, none⟩ = some (.int .i64 b) := by rw [setM_cell _ _ _ _ _ (by omega)]; exact c2
  go_region_held3 (fun w' => w'.cell? ⟨TB, 0, none⟩ = some (.map (some r)) ∧ w'.cell? ⟨w.heap.size, 0, none⟩ = some (.int .i64 a) ∧ w'.cell? ⟨w.heap.size, 1, none⟩ = some (.int .i64 b)) (go_keep) (fail)
  go_wp2
  go_ret
  exact ⟨rfl, b6.drew.setM r o (.inl (.inr rfl)), by unfold TalAt; rw [setM_heap _ _ _ _ hsr]; exact b4, by unfold TalAt; rw [setM_heap _ _ _ _ (fun e => hrz e.symm)]; exact b3, hm'⟩

theorem turn_nil (w : World) (SP TB nq : Nat) (k o1 o2 : Obj) (v : Value) :
    Turn (fun k => k = SP ∨ k = TB) w ((((zeroed ((w.alloc k).drewN nq) SP).setCell ⟨TB, 0, none⟩ v).alloc o1).alloc o2) := by
  have h1 : Turn (fun k => k = SP ∨ k = TB) w ((w.alloc k).drewN nq) := ((Turn.refl _ w).alloc k).drewN nq
  have h2 := h1.zeroed SP (.inl (.inl rfl))
  have h3 := h2.setCell ⟨TB, 0, none⟩ v (.inl (.inr rfl))
  exact (h3.alloc o1).alloc o2

set_option maxHeartbeats 1000000 in
set_option maxRecDepth 10000 in
/-- of: the table is nil. -/
theorem of_nil (TB SP : Nat) (a b : Int) (c f d : Int) (w : World) (h1 : w.heap[TB]? = some (.cells #[.map none] 71 (0, 0))) (hs : TalAt w SP c f d) (hst : SP ≠ TB) :
    Calls Trym.prog 34 #[.pointer (some ⟨TB, 0, none⟩), .int .i64 a, .int .i64 b, .pointer (some ⟨SP, 0, none⟩)] w fun e w' => e = .returned (.pointer (some ⟨w.heap.size + 1 + 1, 0, none⟩)) ∧
      Turn (fun k => k = SP ∨ k = TB) w w' ∧ TalAt w' SP 0 0 0 ∧ TalAt w' (w.heap.size + 1 + 1) 0 0 0 ∧ w'.heap[TB]? = some (.cells #[.map (some (w.heap.size + 1))] 71 (0, 0)) ∧ MapAt w' (w.heap.size + 1) [((a, b), some ⟨w.heap.size + 1 + 1, 0, none⟩)] := by
  have hc := cell_of h1 0
  have hfz := frozen_of h1 0
  have hlt := lt_of h1
  have hne : ¬ TB = w.heap.size := by omega
  have hneR : ¬ TB = w.heap.size + 1 := by omega
  have hls := lt_of hs
  have hne' : ¬ SP = w.heap.size := by omega
  have hne2 : ¬ TB = SP := fun h => hst h.symm
  have s0 := cell_of hs 0
  have s1 := cell_of hs 1
  have s2 := cell_of hs 2
  have f0 := frozen_of hs 0
  have f1 := frozen_of hs 1
  have f2 := frozen_of hs 2
  have hq := fun w r => run_eql_map_nil (P := Trym.prog) w 71 75 42 r Trym.underlying71
  have hmm := @run_makeMap Trym.prog
  have hl : ∀ W, (Instr.lookup 71 (.map none) (.agg #[.int .i64 a, .int .i64 b]) false).run Trym.prog W = .ok (.pointer none) W := fun W => nil_look W a b false
  go_enter Trym.func34, Trym.ntmps34
  go_wp2
  go_quiet (fail)
  go_wp2
  obtain ⟨W5, hW5⟩ : ∃ W : World, W = (((((((w.alloc (.cells #[.int .i64 a, .int .i64 b] 75)).drewN nq).setCell ⟨SP, 0, none⟩ (.int .u64 0)).setCell ⟨SP, 1, none⟩ (.int .u64 0)).setCell ⟨SP, 2, none⟩ (.int .u64 0)).setCell ⟨TB, 0, none⟩ (.map (some (w.heap.size + 1)))).alloc (.map #[] 0)).alloc (.cells #[.int .u64 0, .int .u64 0, .int .u64 0] 73) := ⟨_, rfl⟩
  rw [← hW5]
  have hW : W5 = (((zeroed ((w.alloc (.cells #[.int .i64 a, .int .i64 b] 75)).drewN nq) SP).setCell ⟨TB, 0, none⟩ (.map (some (w.heap.size + 1)))).alloc (.map #[] 0)).alloc (.cells #[.int .u64 0, .int .u64 0, .int .u64 0] 73) := hW5
  clear hW5 hl hq hmm
  have hz : ((zeroed ((w.alloc (.cells #[.int .i64 a, .int .i64 b] 75)).drewN nq) SP).setCell ⟨TB, 0, none⟩ (.map (some (w.heap.size + 1)))).heap.size = w.heap.size + 1 := by simp [zeroed, World.setCell]
  have hz2 : (((zeroed ((w.alloc (.cells #[.int .i64 a, .int .i64 b] 75)).drewN nq) SP).setCell ⟨TB, 0, none⟩ (.map (some (w.heap.size + 1)))).alloc (.map #[] 0)).heap.size = w.heap.size + 1 + 1 := by simp [zeroed, World.setCell]
  have b1 : ∀ k, k < w.heap.size + 1 → k ≠ TB → W5.heap[k]? = (zeroed ((w.alloc (.cells #[.int .i64 a, .int .i64 b] 75)).drewN nq) SP).heap[k]? := fun k hk hks => by
    rw [hW, Below.heap_alloc _ _ _ (by omega), Below.heap_alloc _ _ _ (by omega), Below.heap_setCell _ _ _ _ hks]
  have b2 : W5.heap[w.heap.size]? = some (.cells #[.int .i64 a, .int .i64 b] 75) := by
    rw [b1 _ (by omega) (by omega), zeroed_other _ _ _ (by omega)]
    exact heap_alloc_new w _
  have b3 : TalAt W5 (w.heap.size + 1 + 1) 0 0 0 := by
    unfold TalAt
    have e := heap_alloc_new (((zeroed ((w.alloc (.cells #[.int .i64 a, .int .i64 b] 75)).drewN nq) SP).setCell ⟨TB, 0, none⟩ (.map (some (w.heap.size + 1)))).alloc (.map #[] 0)) (.cells #[.int .u64 0, .int .u64 0, .int .u64 0] 73)
    rw [hz2] at e
    rw [hW]; exact e
  have b4 : TalAt W5 SP 0 0 0 := by
    unfold TalAt
    rw [b1 _ (by omega) hst]
    refine zeroed_tal (c := c) (f := f) (d := d) ?_
    show (w.alloc _).heap[SP]? = _
    rw [Below.heap_alloc w _ SP hls]; exact hs
  have b5 : MapAt W5 (w.heap.size + 1) [] := by
    refine ⟨#[], 0, ?_, rfl⟩
    have e := heap_alloc_new ((zeroed ((w.alloc (.cells #[.int .i64 a, .int .i64 b] 75)).drewN nq) SP).setCell ⟨TB, 0, none⟩ (.map (some (w.heap.size + 1)))) (.map #[] 0)
    rw [hz] at e
    rw [hW, Below.heap_alloc _ _ _ (by omega)]; exact e
  have b7 : W5.heap[TB]? = some (.cells #[.map (some (w.heap.size + 1))] 71 (0, 0)) := by
    rw [hW, Below.heap_alloc _ _ _ (by omega), Below.heap_alloc _ _ _ (by omega)]
    have e : (zeroed ((w.alloc (.cells #[.int .i64 a, .int .i64 b] 75)).drewN nq) SP).heap[TB]? = some (.cells #[.map none] 71 (0, 0)) := by
      rw [zeroed_other _ _ _ hne2]
      show (w.alloc _).heap[TB]? = _
      rw [Below.heap_alloc w _ TB hlt]; exact h1
    exact heap_setCell_at e 0 _
  have b6 : Turn (fun k => k = SP ∨ k = TB) w W5 := by
    rw [hW]; exact turn_nil w SP TB nq _ _ _ _
  have c0 : W5.cell? ⟨TB, 0, none⟩ = some (.map (some (w.heap.size + 1))) := cell_of b7 0
  have c1 : W5.cell? ⟨w.heap.size, 0, none⟩ = some (.int .i64 a) := cell_of b2 0
  have c2 : W5.cell? ⟨w.heap.size, 1, none⟩ = some (.int .i64 b) := cell_of b2 1
  have hsr : SP ≠ w.heap.size + 1 := by omega
  clear hW hz hz2 b1 b2 hc s0 s1 s2 f0 f1 f2 hfz h1 hs
  obtain ⟨o, hput0, hm'⟩ := map_put W5.drew (w.heap.size + 1) [] a b (some ⟨w.heap.size + 1 + 1, 0, none⟩) b5
  have hput : (Instr.mapUpdate 71 (.map (some (w.heap.size + 1))) (.agg #[.int .i64 a, .int .i64 b]) (.pointer (some ⟨w.heap.size + 1 + 1, 0, none⟩))).run Trym.prog W5.drew = .ok () (setM W5.drew (w.heap.size + 1) o) := hput0
  clear hput0
  have ht0 : (setM W5.drew (w.heap.size + 1) o).cell? ⟨TB, 0, none⟩ = some (.map (some (w.heap.size + 1))) := by rw [setM_cell _ _ _ _ _ hneR]; exact c0
  have ht1 : (setM W5.drew (w.heap.size + 1) o).cell? ⟨w.heap.size, 0, none⟩ = some (.int .i64 a) := by rw [setM_cell _ _ _ _ _ (by omega)]; exact c1
  have ht2 : (setM W5.drew (w.heap.size + 1) o).cell? ⟨w.heap.size, 1, none⟩ = some (.int .i64 b) := by rw [setM_cell _ _ _ _ _ (by omega)]; exact c2
  go_region_held3 (fun w' => w'.cell? ⟨TB, 0, none⟩ = some (.map (some (w.heap.size + 1))) ∧ w'.cell? ⟨w.heap.size, 0, none⟩ = some (.int .i64 a) ∧ w'.cell? ⟨w.heap.size, 1, none⟩ = some (.int .i64 b)) (go_keep) (fail)
  go_wp2
  go_ret
  exact ⟨rfl, b6.drew.setM _ o (.inr (by omega)), by unfold TalAt; rw [setM_heap _ _ _ _ hsr]; exact b4, by unfold TalAt; rw [setM_heap _ _ _ _ (by omega)]; exact b3, by rw [setM_heap _ _ _ _ hneR]; exact b7, hm'⟩
end Go.Proofs.Qxb6602336aMods.Tab
