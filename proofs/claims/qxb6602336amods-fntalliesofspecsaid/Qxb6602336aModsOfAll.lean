import Derived.Test.Qxb6602336aModsOf
namespace Go.Proofs.Qxb6602336aMods.Tab
open Go.RowKit Go.Proofs.Qxb6602336aMods.Plan
set_option linter.unusedVariables false

theorem Turn.below {S : Nat → Prop} {w w' : World} (h : Turn S w w') {B0 : Nat} (hB : B0 ≤ w.heap.size) (hS : ∀ k, S k → B0 ≤ k) : Below B0 w w' :=
  ⟨h.os, h.tape, h.output, h.size, fun k hk => h.block k (by omega) (fun hs => by have := hS k hs; omega)⟩

theorem Turn.keep {S : Nat → Prop} {w w' : World} (h : Turn S w w') {TB SP : Nat} (hS : ∀ k cs t fr, w.heap[k]? = some (.cells cs t fr) → S k → k = TB ∨ k = SP) : KeepC TB SP w w' := by
  intro k cs t fr hk h1 h2
  rw [h.block k (lt_of hk) (fun hs => by rcases hS k cs t fr hk hs with e | e; exact h1 e; exact h2 e)]
  exact hk

theorem TabAt.lt {w : World} {B0 TB : Nat} {m : Tbl} (h : TabAt w B0 TB m) : TB < w.heap.size := by
  rcases h with ⟨h, _⟩ | ⟨r, _, h, _⟩ <;> exact lt_of h
theorem TabAt.turn {S : Nat → Prop} {w w' : World} {B0 TB : Nat} {m : Tbl} (h : TabAt w B0 TB m) (ht : Turn S w w') (h1 : ¬ S TB) (h2 : ∀ r, MapAt w r m → ¬ S r) : TabAt w' B0 TB m := by
  rcases h with ⟨h, e⟩ | ⟨r, hr, h, hm⟩
  · exact .inl ⟨by rw [ht.block TB (lt_of h) h1]; exact h, e⟩
  · exact .inr ⟨r, hr, by rw [ht.block TB (lt_of h) h1]; exact h, hm.of_heap (ht.block r hm.lt (h2 r hm))⟩
theorem TalAt.turn {S : Nat → Prop} {w w' : World} {q : Nat} {c f d : Int} (h : TalAt w q c f d) (ht : Turn S w w') (h1 : ¬ S q) : TalAt w' q c f d := by
  unfold TalAt; rw [ht.block q (lt_of h) h1]; exact h

/-- What of answers and leaves. -/
def OfPost (B0 TB SP : Nat) (m : Tbl) (a b c f d : Int) (w : World) (p : Addr) (m' : Tbl) (w' : World) : Prop :=
  TabAt w' B0 TB m' ∧ KeepC TB SP w w' ∧ Below B0 w w' ∧
    ((look m a b = some p ∧ m' = m ∧ TalAt w' SP c f d) ∨
     (look m a b = none ∧ 1024 ≤ m.length ∧ m' = m ∧ p = ⟨SP, 0, none⟩ ∧ TalAt w' SP 0 0 0) ∨
     (look m a b = none ∧ m.length < 1024 ∧ (∃ q, w.heap.size ≤ q ∧ p = ⟨q, 0, none⟩ ∧ TalAt w' q 0 0 0) ∧ m' = putT m a b (some p) ∧ TalAt w' SP 0 0 0))

theorem of_any (B0 TB SP : Nat) (m : Tbl) (a b c f d : Int) (w : World) (ht : TabAt w B0 TB m) (hs : TalAt w SP c f d) (hst : SP ≠ TB) (h1 : B0 ≤ TB) (h2 : B0 ≤ SP) :
    Calls Trym.prog 34 #[.pointer (some ⟨TB, 0, none⟩), .int .i64 a, .int .i64 b, .pointer (some ⟨SP, 0, none⟩)] w fun e w' =>
      ∃ p m', e = .returned (.pointer (some p)) ∧ OfPost B0 TB SP m a b c f d w p m' w' := by
  have hls := lt_of hs
  have hlt := ht.lt
  have ht0 := ht
  rcases ht with ⟨h, rfl⟩ | ⟨r, hr, h, hm⟩
  · refine (of_nil TB SP a b c f d w h hs hst).mono ?_
    rintro e w' ⟨rfl, hT, k1, k2, k3, k4⟩
    refine ⟨_, _, rfl, .inr ⟨w.heap.size + 1, by omega, k3, k4⟩, hT.keep ?_, hT.below (by omega) ?_, .inr (.inr ⟨rfl, by simp, ⟨_, by omega, rfl, k2⟩, rfl, k1⟩)⟩
    · rintro k cs t fr _ (e | e)
      · exact .inr e
      · exact .inl e
    · rintro k (e | e) <;> omega
  · have hne := hm.ne h
    cases hl : look m a b with
    | some p =>
      refine (of_found B0 TB r m a b p _ w h hm hl).mono ?_
      rintro e w' ⟨rfl, hT⟩
      exact ⟨_, m, rfl, ht0.turn hT (fun e => e) (fun _ _ e => e), hT.keep (fun _ _ _ _ _ e => e.elim), hT.below (by omega) (fun _ e => e.elim), .inl ⟨hl, rfl, hs.turn hT (fun e => e)⟩⟩
    | none =>
      by_cases hn : m.length < 1024
      · refine (of_new B0 TB r SP m a b c f d w h hm hl hs hst hn).mono ?_
        rintro e w' ⟨rfl, hT, k1, k2, k3⟩
        refine ⟨_, _, rfl, .inr ⟨r, hr, ?_, k3⟩, hT.keep ?_, hT.below (by omega) ?_, .inr (.inr ⟨hl, hn, ⟨_, by omega, rfl, k2⟩, rfl, k1⟩)⟩
        · rw [hT.block TB hlt (by rintro (e | e); exact hst e.symm; exact hne e)]; exact h
        · rintro k cs t fr hk (e | e)
          · exact .inr e
          · exact absurd e (hm.ne hk)
        · rintro k (e | e) <;> omega
      · refine (of_full B0 TB r SP m a b c f d w h hm hl hs hst (by omega)).mono ?_
        rintro e w' ⟨rfl, hT, k1⟩
        refine ⟨_, m, rfl, ht0.turn hT (fun e => hst e.symm) (fun r' hm' e => hm'.ne hs e.symm), hT.keep (fun _ _ _ _ _ e => .inr e), hT.below (by omega) (fun k e => by omega), .inr (.inl ⟨hl, by omega, rfl, rfl, k1⟩)⟩

set_option maxHeartbeats 400000 in
theorem zzof_any (B0 TB SP : Nat) (m : Tbl) (a b c f d : Int) (w : World) (ht : TabAt w B0 TB m) (hs : TalAt w SP c f d) (hst : SP ≠ TB) (h1 : B0 ≤ TB) (h2 : B0 ≤ SP) :
    Calls Trym.prog 26 #[.pointer (some ⟨TB, 0, none⟩), .int .i64 a, .int .i64 b, .pointer (some ⟨SP, 0, none⟩)] w fun e w' =>
      ∃ p m', e = .returned (.pointer (some p)) ∧ OfPost B0 TB SP m a b c f d w p m' w' := by
  go_enter Trym.func26, Trym.ntmps26
  go_wp2_with fail
  refine (of_any B0 TB SP m a b c f d w ht hs hst h1 h2).mono ?_
  rintro _ w' ⟨p, m', rfl, hP⟩
  go_wp2_with fail
  go_ret
  exact ⟨p, m', rfl, hP⟩

theorem some73 : ∃ j, Trym.prog.info? 73 = some j ∧ j.size ≠ 0 := by
  have h : (Trym.prog.info? 73).map (·.size) = some 3 := by kernel_rfl
  obtain ⟨j, hj, e⟩ := Option.map_eq_some_iff.1 h
  exact ⟨j, hj, by omega⟩
theorem eql_same (w : World) (a : Addr) : (binOp .eql 42 (.pointer (some a)) (.pointer (some a))).run Trym.prog w = .ok (.bool true) w := by
  obtain ⟨j, hj, _⟩ := some73
  exact run_eql_ptr_same w a Trym.underlying42 hj
theorem neq_same (w : World) (a : Addr) : (binOp .neq 42 (.pointer (some a)) (.pointer (some a))).run Trym.prog w = .ok (.bool false) w := by
  obtain ⟨j, hte, _⟩ := some73
  have h : ∀ d : Nat, (Op.equalIn (d + 1) 42 (.pointer (some a)) (.pointer (some a))).run Trym.prog w = .ok true w := fun d => by
    simp [Op.equalIn, run_underlying Trym.underlying42, sizeOf, typeInfo, hte, run_sameAddr_same]
  simp only [binOp]
  simp [Op.equal, Op.maxDepth, h 9999]
theorem eql_other {w : World} {q s : Nat} {c f d c' f' d' : Int} (h1 : TalAt w q c f d) (h2 : TalAt w s c' f' d') (hne : q ≠ s) :
    (binOp .eql 42 (.pointer (some ⟨q, 0, none⟩)) (.pointer (some ⟨s, 0, none⟩))).run Trym.prog w = .ok (.bool false) w := by
  obtain ⟨j, hj, hsz⟩ := some73
  exact run_eql_ptr_other w Trym.underlying42 hj hsz (fun e => hne (by injection e)) h1 h2
theorem neq_other {w : World} {q s : Nat} {c f d c' f' d' : Int} (h1 : TalAt w q c f d) (h2 : TalAt w s c' f' d') (hne : q ≠ s) :
    (binOp .neq 42 (.pointer (some ⟨q, 0, none⟩)) (.pointer (some ⟨s, 0, none⟩))).run Trym.prog w = .ok (.bool true) w := by
  obtain ⟨j, hte, hsz⟩ := some73
  have hne' : (⟨q, 0, none⟩ : Addr) ≠ ⟨s, 0, none⟩ := fun e => hne (by injection e)
  have h : ∀ d : Nat, (Op.equalIn (d + 1) 42 (.pointer (some ⟨q, 0, none⟩)) (.pointer (some ⟨s, 0, none⟩))).run Trym.prog w = .ok false w := fun d => by
    simp [Op.equalIn, run_underlying Trym.underlying42, sizeOf, typeInfo, hte, hsz, run_sameAddr_other w hne' h1 h2]
  simp only [binOp]
  simp [Op.equal, Op.maxDepth, h 9999]
end Go.Proofs.Qxb6602336aMods.Tab
