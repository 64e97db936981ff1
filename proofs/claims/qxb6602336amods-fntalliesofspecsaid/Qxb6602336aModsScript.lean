import Derived.Test.Qxb6602336aModsOfAll
namespace Go.Proofs.Qxb6602336aMods.Tab
open Go.RowKit Go.Proofs.Qxb6602336aMods.Plan
set_option linter.unusedVariables false
attribute [local go_sem ↓] Go.wp_at_zero Go.wp_at_succ

/-- The k-th element of a slice of ints that came in. -/
theorem row_at {w : World} {a : Option Addr} {n cap : Nat} {zs : List Int} (h : RowIn w a n cap zs) {k : Nat} (hk : k < n) :
    ∃ b off, a = some ⟨b, off, none⟩ ∧ b < w.heap.size ∧ w.cell? ⟨b, off + k, none⟩ = some (.int .i64 (zs.getD k 0)) := by
  rcases h with ⟨_, h, _⟩ | ⟨⟨b, off, sp⟩, rfl, h1, h2, h3⟩
  · omega
  · cases sp with
    | none =>
      have hc := h3 k (by omega)
      rw [Addr.add_lit] at hc
      exact ⟨b, off, rfl, World.block_lt_of_cell? w _ hc, hc⟩
    | some s =>
      exfalso
      have hc := h3 0 (by omega)
      simp only [World.cell?, Addr.add, if_true] at hc
      split at hc <;> simp at hc

theorem info42 : (Trym.prog.info? 42).map (fun i => (i.zero, i.size, i.bytes)) = some (some (.pointer none), 1, 8) := by kernel_rfl
def nilsObj (n : Nat) : Obj := .cells (madeCells #[.pointer none] n) 42
theorem run_nils (n : Nat) (hn : n ≤ 65536) (w : World) :
    (Instr.makeSlice 46 (.int .i64 (n : Int)) (.int .i64 (n : Int))).run Trym.prog w = .ok (.slice (some ⟨w.heap.size, 0, none⟩) n n) (w.alloc (nilsObj n)) := by
  obtain ⟨i, hi, hz0, hz1, hz2⟩ := info_parts info42
  have h := run_make (P := Trym.prog) w 46 42 i (.pointer none) Trym.underlying46 hi hz0 .i64 .i64 n n (by omega) (by omega) (by rw [hz2]; omega) (by omega)
  rw [hz1] at h
  simpa [nilsObj, Value.cells] using h

/-- No nil is kept; what is kept is a tally, not the spare. -/
def Good (w : World) (SP : Nat) (m : Tbl) : Prop := ∀ a b v, findT m a b = some v → ∃ q c f d, v = some ⟨q, 0, none⟩ ∧ q ≠ SP ∧ TalAt w q c f d

/-- What the first loop keeps after k rounds. -/
structure Inv (w : World) (B0 TB SP GB n : Nat) (z0 z1 : List Int) (k : Nat) (m : Tbl) (gs : Array Value) : Prop where
  tab : TabAt w B0 TB m
  spare : TalAt w SP 0 0 0
  len : m.length ≤ 1024
  good : Good w SP m
  row : w.heap[GB]? = some (.cells gs 42 (0, 0))
  size : gs.size = n
  got : ∀ j, j < k → gs[j]? = some (.pointer (some ⟨SP, 0, none⟩)) ∨ ∃ p, gs[j]? = some (.pointer (some p)) ∧ findT m (z0.getD j 0) (z1.getD j 0) = some (some p)

theorem OfPost.undrew {B0 TB SP : Nat} {m : Tbl} {a b c f d : Int} {w : World} {p : Addr} {m' : Tbl} {w' : World} (h : OfPost B0 TB SP m a b c f d w.drew p m' w') : OfPost B0 TB SP m a b c f d w p m' w' :=
  ⟨h.1, h.2.1, ⟨h.2.2.1.os, h.2.2.1.tape, h.2.2.1.output, h.2.2.1.size, h.2.2.1.block⟩, h.2.2.2⟩

theorem Inv.drewN {w : World} {B0 TB SP GB n : Nat} {z0 z1 : List Int} {k : Nat} {m : Tbl} {gs : Array Value} (h : Inv w B0 TB SP GB n z0 z1 k m gs) (nq : Nat) : Inv (w.drewN nq) B0 TB SP GB n z0 z1 k m gs :=
  ⟨h.tab, h.spare, h.len, h.good, h.row, h.size, h.got⟩

theorem inv_start (w : World) (n : Nat) (z0 z1 : List Int) :
    Inv (((w.alloc (.cells #[.map none] 71)).alloc (.cells #[.int .u64 0, .int .u64 0, .int .u64 0] 73)).alloc (nilsObj n)) w.heap.size w.heap.size (w.heap.size + 1) (w.heap.size + 1 + 1) n z0 z1 0 [] (madeCells #[.pointer none] n) := by
  have e1 : (w.alloc (.cells #[.map none] 71)).heap.size = w.heap.size + 1 := by simp
  have e2 : ((w.alloc (.cells #[.map none] 71)).alloc (.cells #[.int .u64 0, .int .u64 0, .int .u64 0] 73)).heap.size = w.heap.size + 1 + 1 := by simp
  refine ⟨.inl ⟨?_, rfl⟩, ?_, by simp, fun a b v h => by simp [findT] at h, ?_, size_madeCells _ _, fun j hj => by omega⟩
  · rw [Below.heap_alloc _ _ _ (by omega), Below.heap_alloc _ _ _ (by omega)]; exact heap_alloc_new _ _
  · have e := heap_alloc_new (w.alloc (.cells #[.map none] 71)) (.cells #[.int .u64 0, .int .u64 0, .int .u64 0] 73)
    rw [e1] at e
    unfold TalAt
    rw [Below.heap_alloc _ _ _ (by omega)]; exact e
  · have e := heap_alloc_new ((w.alloc (.cells #[.map none] 71)).alloc (.cells #[.int .u64 0, .int .u64 0, .int .u64 0] 73)) (nilsObj n)
    rw [e2] at e
    exact e

theorem find_of_look {m : Tbl} {a b : Int} {p : Addr} (h : look m a b = some p) : findT m a b = some (some p) := by
  unfold look at h
  cases hf : findT m a b with
  | none => rw [hf] at h; cases h
  | some v => rw [hf] at h; simp at h; rw [h]

theorem find_none {w : World} {SP : Nat} {m : Tbl} {a b : Int} (hg : Good w SP m) (h : look m a b = none) : findT m a b = none := by
  unfold look at h
  cases hf : findT m a b with
  | none => rfl
  | some v =>
    obtain ⟨q, c, f, d, rfl, _⟩ := hg a b v hf
    rw [hf] at h; cases h

/-- What the round is told of of's answer. -/
def Told (w1 : World) (SP : Nat) (m m' : Tbl) (a b : Int) (p : Addr) : Prop :=
  m.length ≤ m'.length ∧ m'.length ≤ m.length + 1 ∧ m'.length ≤ 1024 ∧ TalAt w1 SP 0 0 0 ∧
    ((p = ⟨SP, 0, none⟩ ∧ 1024 ≤ m.length ∧ m' = m ∧ findT m' a b = none) ∨ (∃ q c f d, p = ⟨q, 0, none⟩ ∧ q ≠ SP ∧ TalAt w1 q c f d ∧ findT m' a b = some (some p)))

theorem told_of {w w1 : World} {B0 TB SP GB n : Nat} {z0 z1 : List Int} {k : Nat} {m m' : Tbl} {gs : Array Value} {p : Addr} {a b : Int} (hI : Inv w B0 TB SP GB n z0 z1 k m gs)
    (hP : OfPost B0 TB SP m a b 0 0 0 w p m' w1) : Told w1 SP m m' a b p := by
  obtain ⟨h1, h2, h3, h4⟩ := hP
  have hl := hI.len
  have htab := hI.tab
  rcases h4 with ⟨e1, e2, e3⟩ | ⟨e1, e2, e3, e4, e5⟩ | ⟨e1, e2, ⟨q, q1, q2, q3⟩, e4, e5⟩
  · subst e2
    have hf := find_of_look e1
    obtain ⟨q, c, f, d, e, hq, ht⟩ := hI.good a b _ hf
    injection e with e
    subst e
    have hqt : q ≠ TB := by
      rintro rfl
      rcases htab with ⟨x, _⟩ | ⟨r, _, x, _⟩ <;> (unfold TalAt at ht; rw [x] at ht; injection ht with ht; injection ht with ht _; simp at ht)
    exact ⟨Nat.le_refl _, by omega, hl, e3, .inr ⟨q, c, f, d, rfl, hq, h2 q _ _ _ ht hqt hq, hf⟩⟩
  · subst e3
    exact ⟨Nat.le_refl _, by omega, hl, e5, .inl ⟨e4, e2, rfl, find_none hI.good e1⟩⟩
  · have hn := find_none hI.good e1
    have hlen : m'.length = m.length + 1 := by rw [e4, length_put, hn]; simp
    have hq : q ≠ SP := by have := lt_of hI.spare; omega
    exact ⟨by omega, by omega, by omega, e5, .inr ⟨q, 0, 0, 0, q2, hq, q3, by rw [e4, findT_put]; simp⟩⟩

/-- The invariant over a call of of, behind the store of its answer. -/
theorem inv_next {w w1 : World} {B0 TB SP GB n : Nat} {z0 z1 : List Int} {k : Nat} {m m' : Tbl} {gs : Array Value} {p : Addr} (hI : Inv w B0 TB SP GB n z0 z1 k m gs) (hk : k < n)
    (hP : OfPost B0 TB SP m (z0.getD k 0) (z1.getD k 0) 0 0 0 w p m' w1) (hgt : GB ≠ TB) (hgs : GB ≠ SP) (nq : Nat) :
    Inv ((w1.drewN nq).setCell ⟨GB, k, none⟩ (.pointer (some p))) B0 TB SP GB n z0 z1 (k + 1) m' (gs.setIfInBounds k (.pointer (some p))) := by
  have hT := told_of hI hP
  obtain ⟨h1, h2, h3, h4⟩ := hP
  obtain ⟨t1, t2, t3, t4, t5⟩ := hT
  have hrow : w1.heap[GB]? = some (.cells gs 42 (0, 0)) := h2 GB _ _ _ hI.row hgt hgs
  have hother : ∀ j, j ≠ GB → ((w1.drewN nq).setCell ⟨GB, k, none⟩ (.pointer (some p))).heap[j]? = w1.heap[j]? := fun j hj => Below.heap_setCell (w1.drewN nq) ⟨GB, k, none⟩ _ j hj
  have hmaps : ∀ a b v, findT m a b = some v → findT m' a b = some v := by
    intro a b v hf
    rcases h4 with ⟨e1, e2, e3⟩ | ⟨e1, e2, e3, e4, e5⟩ | ⟨e1, e2, e3, e4, e5⟩
    · rw [e2]; exact hf
    · rw [e3]; exact hf
    · rw [e4, findT_put]
      have hn := find_none hI.good e1
      by_cases hab : a = z0.getD k 0 ∧ b = z1.getD k 0
      · obtain ⟨rfl, rfl⟩ := hab
        rw [hn] at hf; cases hf
      · rw [if_neg hab]; exact hf
  have htal : ∀ q c f d, TalAt w1 q c f d → TalAt ((w1.drewN nq).setCell ⟨GB, k, none⟩ (.pointer (some p))) q c f d := by
    intro q c f d h
    have hq : q ≠ GB := by
      rintro rfl
      unfold TalAt at h; rw [hrow] at h; injection h with h; injection h with _ h; simp at h
    unfold TalAt; rw [hother q hq]; exact h
  refine ⟨?_, htal _ _ _ _ t4, t3, ?_, heap_setCell_at (w := w1.drewN nq) hrow k _, by simp [hI.size], ?_⟩
  · rcases h1 with ⟨x, y⟩ | ⟨r, hr, x, y⟩
    · exact .inl ⟨by rw [hother TB (fun e => hgt e.symm)]; exact x, y⟩
    · exact .inr ⟨r, hr, by rw [hother TB (fun e => hgt e.symm)]; exact x, y.of_heap (hother r (fun e => y.ne hrow e.symm))⟩
  · intro a b v hf
    have key : ∀ v, findT m a b = some v → ∃ q c f d, v = some ⟨q, 0, none⟩ ∧ q ≠ SP ∧ TalAt ((w1.drewN nq).setCell ⟨GB, k, none⟩ (.pointer (some p))) q c f d := by
      intro v hf
      obtain ⟨q, c, f, d, e, hq, ht⟩ := hI.good a b v hf
      have hqt : q ≠ TB := by
        rintro rfl
        rcases hI.tab with ⟨x, _⟩ | ⟨r, _, x, _⟩ <;> (unfold TalAt at ht; rw [x] at ht; injection ht with ht; injection ht with ht _; simp at ht)
      exact ⟨q, c, f, d, e, hq, htal _ _ _ _ (h2 q _ _ _ ht hqt hq)⟩
    rcases h4 with ⟨e1, e2, e3⟩ | ⟨e1, e2, e3, e4, e5⟩ | ⟨e1, e2, ⟨q, q1, q2, q3⟩, e4, e5⟩
    · rw [e2] at hf; exact key v hf
    · rw [e3] at hf; exact key v hf
    · rw [e4, findT_put] at hf
      by_cases hab : a = z0.getD k 0 ∧ b = z1.getD k 0
      · rw [if_pos hab] at hf
        injection hf with hf
        refine ⟨q, 0, 0, 0, by rw [← hf, q2], by have := lt_of hI.spare; omega, htal _ _ _ _ q3⟩
      · rw [if_neg hab] at hf; exact key v hf
  · intro j hj
    by_cases hjk : j = k
    · subst hjk
      have e : (gs.setIfInBounds j (.pointer (some p)))[j]? = some (.pointer (some p)) := by simp [hI.size, hk]
      rcases t5 with ⟨e1, _⟩ | ⟨q, c, f, d, e1, e2, e3, e4⟩
      · exact .inl (by rw [e, e1])
      · exact .inr ⟨p, e, e4⟩
    · have e : (gs.setIfInBounds k (.pointer (some p)))[j]? = gs[j]? := by
        have : k ≠ j := fun e => hjk e.symm
        simp [this]
      rw [e]
      rcases hI.got j (by omega) with h | ⟨p', h, h'⟩
      · exact .inl h
      · exact .inr ⟨p', h, hmaps _ _ _ h'⟩

set_option maxHeartbeats 1000000 in
set_option maxRecDepth 10000 in
theorem script_walk (a0 : Option Addr) (n c0 : Nat) (z0 : List Int) (a1 : Option Addr) (c1 : Nat) (z1 : List Int) (w : World) (h0 : RowIn w a0 n c0 z0) (h1 : RowIn w a1 n c1 z1) (hn : n ≤ 65536) :
    Calls Trym.prog 8 #[.slice a0 n c0, .slice a1 n c1] w fun e w' => e = .returned (.bool true) ∧ Below w.heap.size w w' := by
  have hmk := run_nils n hn
  have hst := inv_start w n z0 z1
  have hbe : Below w.heap.size w (((w.alloc (.cells #[.map none] 71)).alloc (.cells #[.int .u64 0, .int .u64 0, .int .u64 0] 73)).alloc (nilsObj n)) := (((Below.refl _ _).alloc (Nat.le_refl _) _).alloc (by simp) _).alloc (by simp; omega) _
  have hes := eql_same
  have hns := neq_same
  go_enter Trym.func8, Trym.ntmps8
  go_wp2_with (first | (go_at_call 29; go_in) | (go_at_call 20; refine (newTallies_nil _).mono ?_; rintro _ _ ⟨rfl, rfl⟩) | (go_at_call 21; refine (newTally_any 0 0 0 _).mono ?_; rintro _ _ ⟨rfl, rfl⟩))
  go_loopw [8] (fun i wr => ∃ (k : Nat) (m : Tbl) (gs : Array Value), k ≤ n ∧ i = .int .i64 k ∧ Below w.heap.size w wr ∧ Inv wr w.heap.size w.heap.size (w.heap.size + 1) (w.heap.size + 1 + 1) n z0 z1 k m gs) (fun i _ => n - (intOf i).toNat)
  case atStart => exact ⟨0, [], _, by omega, rfl, hbe, hst⟩
  case round =>
    obtain ⟨k, m, gs, hk, rfl, hb, hI⟩ := hrel
    clear hst hbe hmk
    by_cases hlt : k < n
    · obtain ⟨b0, o0, rfl, hB0, hc0⟩ := row_at h0 hlt
      obtain ⟨b1, o1, rfl, hB1, hc1⟩ := row_at h1 hlt
      have d0 : wr.cell? ⟨b0, o0 + k, none⟩ = some (.int .i64 (z0.getD k 0)) := by rw [hb.cell (p := ⟨b0, o0 + k, none⟩) hB0]; exact hc0
      have d1 : wr.cell? ⟨b1, o1 + k, none⟩ = some (.int .i64 (z1.getD k 0)) := by rw [hb.cell (p := ⟨b1, o1 + k, none⟩) hB1]; exact hc1
      have hi1 : (0 : Int) ≤ (k : Int) := by omega
      have hi2 : (k : Int) < (n : Int) := by omega
      have HN := fun w1 p m' hP nq => inv_next (w1 := w1) (p := p) (m' := m') hI hlt hP (by omega) (by omega) nq
      have HN' : Hid (∀ w1 p m', OfPost _ _ _ _ _ _ _ _ _ _ p m' w1 → ∀ nq, Inv ((w1.drewN nq).setCell _ _) _ _ _ _ _ _ _ _ _ _) := HN
      clear HN
      generalize z0.getD k 0 = s at *
      generalize z1.getD k 0 = t at *
      go_wp2_with (first | (go_at_call 23; refine (len_any _ _ m _ hI.tab).mono ?_; rintro _ w9 ⟨rfl, hw9⟩; have hw8 := hw9.symm; subst hw8))
      go_region_held3 (fun w' => w'.cell? ⟨b0, o0 + k, none⟩ = some (.int .i64 s) ∧ w'.cell? ⟨b1, o1 + k, none⟩ = some (.int .i64 t)) (go_keep)
        (first | (go_at_call 26; refine (zzof_any w.heap.size w.heap.size (w.heap.size + 1) m s t 0 0 0 _ (by exact hI.tab) (by exact hI.spare) (by omega) (by omega) (by omega)).mono ?_; rintro _ w1 ⟨p, m', rfl, hP0⟩; have hP := hP0.undrew; clear hP0; have q0 := hP.2.2.1.cell (p := ⟨b0, o0 + k, none⟩) hB0; have q1 := hP.2.2.1.cell (p := ⟨b1, o1 + k, none⟩) hB1))
      have hT := told_of hI hP
      have HP : Hid (OfPost w.heap.size w.heap.size (w.heap.size + 1) m s t 0 0 0 wr p m' w1) := hP
      have htab := hP.1
      have e0 : w1.cell? ⟨b0, o0 + k, none⟩ = some (.int .i64 s) := by rw [q0]; exact d0
      have e1 : w1.cell? ⟨b1, o1 + k, none⟩ = some (.int .i64 t) := by rw [q1]; exact d1
      have hb1 : Below w.heap.size w w1 := hb.trans hP.2.2.1
      have hgb : w1.heap[w.heap.size + 1 + 1]? = some (.cells gs 42 (0, 0)) := hP.2.1 _ _ _ _ hI.row (by omega) (by omega)
      obtain ⟨v0, hv0⟩ : ∃ v0, gs[k]? = some v0 := ⟨gs[k]'(by rw [hI.size]; exact hlt), by simp [hI.size, hlt]⟩
      have g0 : w1.cell? ⟨w.heap.size + 1 + 1, k, none⟩ = some v0 := by rw [cell_of hgb k]; exact hv0
      have g1 : w1.frozen? ⟨w.heap.size + 1 + 1, k, none⟩ = false := frozen_of hgb k
      clear hgb hv0
      clear hP q0 q1 d0 d1
      obtain ⟨t1, t2, t3, t4, t5⟩ := hT
      go_wp2_with (first | (go_at_call 23; refine (len_any _ _ m' _ htab).mono ?_; rintro _ w9 ⟨rfl, hw9⟩; have hw8 := hw9.symm; subst hw8))
      go_quiet ((go_at_call 24; exact Calls.quiet_of_same (get_any w.heap.size w.heap.size m' s t _ (by exact htab))))
      rcases t5 with ⟨rfl, f1, f2, f3⟩ | ⟨q, c, f, d, rfl, f1, f2, f3⟩
      · subst f2
        have hl : look m' s t = none := by unfold look; rw [f3]; rfl
        have f4 : (findT m' s t).isSome = false := by rw [f3]; rfl
        have f5 : decide ((m'.length : Int) < 1024) = false := by simp; omega
        go_wp2_with (first | (go_at_call 28; refine (tallyIs_any _ 0 0 0 0 0 0 _ (by exact t4)).mono ?_; rintro _ w9 ⟨rfl, nq2, hw9⟩))
        exact ⟨⟨k + 1, m', _, by omega, by go_num, (below_drewN hb1 _).setCell (by simp; omega) _, HN'.out w1 _ m' HP.out _⟩, by simp [intOf]; omega⟩
      · have hl : look m' s t = some ⟨q, 0, none⟩ := by unfold look; rw [f3]; rfl
        have f4 : (findT m' s t).isSome = true := by rw [f3]; rfl
        have hne : ∀ nq, (binOp .eql 42 (.pointer (some ⟨q, 0, none⟩)) (.pointer (some ⟨w.heap.size + 1, 0, none⟩))).run Trym.prog (w1.drewN nq) = .ok (.bool false) (w1.drewN nq) := fun nq => eql_other (w := w1.drewN nq) f2 t4 f1
        go_wp2_with fail
        exact ⟨⟨k + 1, m', _, by omega, by go_num, (below_drewN hb1 _).setCell (by simp; omega) _, HN'.out w1 _ m' HP.out _⟩, by simp [intOf]; omega⟩
    · obtain rfl : k = n := by omega
      generalize wr = wL at *
      go_wp2_with fail
      go_loopw [14] (fun i w2 => ∃ j : Nat, j ≤ k ∧ i = .int .i64 j ∧ Below w.heap.size w w2 ∧ Inv w2 w.heap.size w.heap.size (w.heap.size + 1) (w.heap.size + 1 + 1) k z0 z1 k m gs) (fun i _ => k - (intOf i).toNat)
      case atStart => exact ⟨0, by omega, rfl, hb, hI⟩
      case round =>
        clear hb hI
        obtain ⟨j, hj, rfl, hb, hI⟩ := hrel
        by_cases hjl : j < k
        · obtain ⟨b0, o0, rfl, hB0, hc0⟩ := row_at h0 hjl
          obtain ⟨b1, o1, rfl, hB1, hc1⟩ := row_at h1 hjl
          have d0 : wr.cell? ⟨b0, o0 + j, none⟩ = some (.int .i64 (z0.getD j 0)) := by rw [hb.cell (p := ⟨b0, o0 + j, none⟩) hB0]; exact hc0
          have d1 : wr.cell? ⟨b1, o1 + j, none⟩ = some (.int .i64 (z1.getD j 0)) := by rw [hb.cell (p := ⟨b1, o1 + j, none⟩) hB1]; exact hc1
          have hi1 : (0 : Int) ≤ (j : Int) := by omega
          have hi2 : (j : Int) < (k : Int) := by omega
          have htab := hI.tab
          have hgc := cell_of hI.row j
          rcases hI.got j hjl with hg | ⟨p, hg, hf⟩
          · rw [hg] at hgc
            go_wp2_with fail
            exact ⟨⟨j + 1, by omega, by go_num, hb, hI⟩, by simp [intOf]; omega⟩
          · rw [hg] at hgc
            obtain ⟨q, c, f, d, e, hq, ht⟩ := hI.good _ _ _ hf
            injection e with e
            subst e
            have HL : Hid (look m (z0.getD j 0) (z1.getD j 0) = some ⟨q, 0, none⟩) := by unfold Hid look; rw [hf]; rfl
            have HF4 : Hid ((findT m (z0.getD j 0) (z1.getD j 0)).isSome = true) := by unfold Hid; rw [hf]; rfl
            have hne := eql_other ht hI.spare hq
            clear hf hg
            generalize z0.getD j 0 = s at *
            generalize z1.getD j 0 = t at *
            go_wp2_with fail
            go_quiet ((go_at_call 24; exact Calls.quiet_of_same (get_any w.heap.size w.heap.size m s t _ (by exact htab))))
            have hl := HL.out
            have f4 := HF4.out
            go_wp2_with fail
            exact ⟨⟨j + 1, by omega, by go_num, below_drewN hb _, hI.drewN _⟩, by simp [intOf]; omega⟩
        · go_wp2_with fail
          go_ret
          exact ⟨rfl, hb⟩

set_option maxHeartbeats 1000000 in
set_option maxRecDepth 10000 in
theorem script_out (a0 : Option Addr) (n c0 : Nat) (a1 : Option Addr) (n1 c1 : Nat) (w : World) (h : 65536 < n ∨ 65536 < n1 ∨ n1 ≠ n) :
    Calls Trym.prog 8 #[.slice a0 n c0, .slice a1 n1 c1] w fun e w' => e = .returned (.bool true) ∧ Below w.heap.size w w' := by
  by_cases x1 : 1048576 < n
  · go_enter Trym.func8, Trym.ntmps8
    go_wp2_with (first | (go_at_call 29; go_in))
    go_ret
    exact ⟨rfl, Below.refl _ _⟩
  by_cases x2 : 1048576 < n1
  · go_enter Trym.func8, Trym.ntmps8
    go_wp2_with (first | (go_at_call 29; go_in))
    go_ret
    exact ⟨rfl, Below.refl _ _⟩
  by_cases x3 : 1048576 < n + n1
  · go_enter Trym.func8, Trym.ntmps8
    go_wp2_with (first | (go_at_call 29; go_in))
    go_ret
    exact ⟨rfl, Below.refl _ _⟩
  by_cases x4 : 65536 < n
  · go_enter Trym.func8, Trym.ntmps8
    go_wp2_with (first | (go_at_call 29; go_in))
    go_ret
    exact ⟨rfl, Below.refl _ _⟩
  by_cases x5 : 65536 < n1
  · go_enter Trym.func8, Trym.ntmps8
    go_wp2_with (first | (go_at_call 29; go_in))
    go_ret
    exact ⟨rfl, Below.refl _ _⟩
  have x6 : ((n1 : Int) != (n : Int)) = true := by simp; omega
  go_enter Trym.func8, Trym.ntmps8
  go_wp2_with (first | (go_at_call 29; go_in))
  go_ret
  exact ⟨rfl, Below.refl _ _⟩

theorem script_any (a0 : Option Addr) (n c0 : Nat) (z0 : List Int) (a1 : Option Addr) (n1 c1 : Nat) (z1 : List Int) (w : World) (h0 : RowIn w a0 n c0 z0) (h1 : RowIn w a1 n1 c1 z1) :
    Calls Trym.prog 8 #[.slice a0 n c0, .slice a1 n1 c1] w fun e w' => e = .returned (.bool true) ∧ Below w.heap.size w w' := by
  by_cases h : 65536 < n ∨ 65536 < n1 ∨ n1 ≠ n
  · exact script_out a0 n c0 a1 n1 c1 w h
  · obtain rfl : n1 = n := by omega
    exact script_walk a0 n1 c0 z0 a1 c1 z1 w h0 h1 (by omega)
end Go.Proofs.Qxb6602336aMods.Tab
