import Derived.Test.Qxb6602336aModsModel
namespace Go.Proofs.Qxb6602336aMods.Plan
open Go.RowKit
set_option linter.unusedVariables false

theorem wrap64_idem (x : Int) : wrap64 (wrap64 x) = wrap64 x := by unfold wrap64; omega
theorem wrap64_idem0 (x : Int) : wrap64 (wrap64 x + 0) = wrap64 x := by rw [Int.add_zero, wrap64_idem]
theorem wrap64_0idem (x : Int) : wrap64 (0 + wrap64 x) = wrap64 x := by rw [Int.zero_add, wrap64_idem]
theorem wrap64_zero : wrap64 0 = 0 := by unfold wrap64; omega
theorem wrap64_32 : wrap64 32 = 32 := by unfold wrap64; omega
theorem wrap64_add (c x : Int) : wrap64 (c + wrap64 x) = wrap64 (c + x) := by unfold wrap64; omega
theorem wrap64_self (x y : Int) (h : x = wrap64 y) : wrap64 x = x := by rw [h, wrap64_idem]
theorem wrap64_in (x : Int) (h : (Lit.int .i64 x).wf = true) : wrap64 x = x := by
  simp [Lit.wf, IntKind.min, IntKind.max, IntKind.signed, IntKind.bits] at h
  unfold wrap64; omega

/-- A charge as a linear form in the header, as Go's wrapping arithmetic has it. -/
def lin (p num den q per fixed : Int) : Int := wrap64 (wrap64 (wrap64 ((wrap64 (p * num)).tdiv den) + wrap64 (q * per)) + fixed)
/-- The coarse charge. -/
def coarseD (cd p q el ct : Int) : Int := lin p 11 4 q el (if cd = 5 then ct else if cd = 4 then 32 else 0)
/-- The charge of a value that a plan of form f follows. -/
def followD (f p q e t : Int) : Int :=
  lin p (if f = 2 then 11 else if f = 3 then 9 else 0) (if f = 2 then 4 else if f = 3 then 8 else 1) q (if f = 4 then e else if f = 5 then e else 0) (if f = 5 then t else if f = 7 then 32 else 0)

theorem coarse_base (cd p q el ct : Int) (h5 : ¬ cd = 5) (h4 : ¬ cd = 4) : wrap64 (wrap64 ((wrap64 (p * 11)).tdiv 4) + wrap64 (q * el)) = coarseD cd p q el ct := by
  rw [coarseD, lin, if_neg h5, if_neg h4, wrap64_idem0]
theorem follow_2 (p q e t : Int) : followD 2 p q e t = wrap64 ((wrap64 (p * 11)).tdiv 4) := by
  simp [followD, lin, wrap64_zero, wrap64_idem]
theorem follow_3 (p q e t : Int) : followD 3 p q e t = wrap64 ((wrap64 (p * 9)).tdiv 8) := by
  simp [followD, lin, wrap64_zero, wrap64_idem]
theorem follow_4 (p q e t : Int) : followD 4 p q e t = wrap64 (q * e) := by
  simp [followD, lin, wrap64_zero, wrap64_idem]
theorem follow_5 (p q e t : Int) : followD 5 p q e t = wrap64 (t + wrap64 (q * e)) := by
  simp [followD, lin, wrap64_zero, wrap64_idem, Int.add_comm]
theorem follow_7 (p q e t : Int) : followD 7 p q e t = 32 := by
  simp [followD, lin, wrap64_zero, wrap64_32]
theorem follow_0 (f p q e t : Int) (h2 : ¬ f = 2) (h3 : ¬ f = 3) (h4 : ¬ f = 4) (h5 : ¬ f = 5) (h7 : ¬ f = 7) : followD f p q e t = 0 := by
  simp [followD, lin, wrap64_zero, h2, h3, h4, h5, h7]

theorem ret_i64 {a b : Int} (h : a = b) : Ending.returned (.int .i64 a) = .returned (.int .i64 b) := by rw [h]

set_option maxHeartbeats 400000 in
theorem linear_any (payload num den elems per fixed : Int) (hd : 0 < den) (w : World) :
    Calls Trym.prog 31 #[.int .i64 payload, .int .i64 num, .int .i64 den, .int .i64 elems, .int .i64 per, .int .i64 fixed] w fun r w' => r = .returned (.int .i64 (lin payload num den elems per fixed)) ∧ w' = w := by
  go_enter Trym.func31, Trym.ntmps31
  go_wp2
  go_ret
  exact ⟨rfl, rfl⟩

set_option maxHeartbeats 400000 in
theorem bound_any (el ct size payload elems cd : Int) (w : World) :
    Calls Trym.prog 35 #[.agg #[.int .i64 el, .int .i64 ct], .agg #[.int .i64 size, .int .i64 payload, .int .i64 elems, .int .i64 cd]] w fun r w' => r = .returned (.int .i64 (coarseD cd payload elems el ct)) ∧ Below w.heap.size w w' := by
  by_cases h5 : cd = 5
  · subst h5
    go_enter Trym.func35, Trym.ntmps35
    go_wp2
    go_ret
    exact ⟨rfl, ((Below.refl _ _).alloc (Nat.le_refl _) _).alloc (by simp) _⟩
  by_cases h4 : cd = 4
  · subst h4
    go_enter Trym.func35, Trym.ntmps35
    go_wp2
    go_ret
    exact ⟨rfl, ((Below.refl _ _).alloc (Nat.le_refl _) _).alloc (by simp) _⟩
  have d5 : (cd == 5) = false := by simpa using h5
  have d4 : (cd == 4) = false := by simpa using h4
  go_enter Trym.func35, Trym.ntmps35
  go_wp2
  go_ret
  exact ⟨ret_i64 (coarse_base _ _ _ _ _ h5 h4), ((Below.refl _ _).alloc (Nat.le_refl _) _).alloc (by simp) _⟩

set_option maxHeartbeats 400000 in
theorem coarse_any (cd payload elems el ct : Int) (w : World) :
    Calls Trym.prog 12 #[.int .i64 cd, .int .i64 payload, .int .i64 elems, .int .i64 el, .int .i64 ct] w fun r w' => r = .returned (.int .i64 (coarseD cd payload elems el ct)) ∧ w' = w := by
  by_cases h5 : cd = 5
  · subst h5
    go_enter Trym.func12, Trym.ntmps12
    go_wp2_with (go_at_call 31; refine (linear_any _ _ _ _ _ _ (by omega) _).mono ?_; rintro e w' ⟨rfl, rfl⟩)
    go_ret
    exact ⟨rfl, rfl⟩
  by_cases h4 : cd = 4
  · subst h4
    go_enter Trym.func12, Trym.ntmps12
    go_wp2_with (go_at_call 31; refine (linear_any _ _ _ _ _ _ (by omega) _).mono ?_; rintro e w' ⟨rfl, rfl⟩)
    go_ret
    exact ⟨rfl, rfl⟩
  have d5 : (cd == 5) = false := by simpa using h5
  have d4 : (cd == 4) = false := by simpa using h4
  have e : coarseD cd payload elems el ct = lin payload 11 4 elems el 0 := by rw [coarseD, if_neg h5, if_neg h4]
  rw [e]
  clear e
  go_enter Trym.func12, Trym.ntmps12
  go_wp2_with (go_at_call 31; refine (linear_any _ _ _ _ _ _ (by omega) _).mono ?_; rintro e w' ⟨rfl, rfl⟩)
  go_ret
  exact ⟨rfl, rfl⟩

set_option maxHeartbeats 400000 in
theorem followed_any (f payload elems e t : Int) (w : World) :
    Calls Trym.prog 15 #[.int .i64 f, .int .i64 payload, .int .i64 elems, .int .i64 e, .int .i64 t] w fun r w' => r = .returned (.int .i64 (followD f payload elems e t)) ∧ w' = w := by
  by_cases h2 : f = 2
  · subst h2
    go_enter Trym.func15, Trym.ntmps15
    go_wp2_with (go_at_call 31; refine (linear_any _ _ _ _ _ _ (by omega) _).mono ?_; rintro e w' ⟨rfl, rfl⟩)
    go_ret
    exact ⟨rfl, rfl⟩
  by_cases h3 : f = 3
  · subst h3
    go_enter Trym.func15, Trym.ntmps15
    go_wp2_with (go_at_call 31; refine (linear_any _ _ _ _ _ _ (by omega) _).mono ?_; rintro e w' ⟨rfl, rfl⟩)
    go_ret
    exact ⟨rfl, rfl⟩
  by_cases h4 : f = 4
  · subst h4
    go_enter Trym.func15, Trym.ntmps15
    go_wp2_with (go_at_call 31; refine (linear_any _ _ _ _ _ _ (by omega) _).mono ?_; rintro e w' ⟨rfl, rfl⟩)
    go_ret
    exact ⟨rfl, rfl⟩
  by_cases h5 : f = 5
  · subst h5
    go_enter Trym.func15, Trym.ntmps15
    go_wp2_with (go_at_call 31; refine (linear_any _ _ _ _ _ _ (by omega) _).mono ?_; rintro e w' ⟨rfl, rfl⟩)
    go_ret
    exact ⟨rfl, rfl⟩
  by_cases h7 : f = 7
  · subst h7
    go_enter Trym.func15, Trym.ntmps15
    go_wp2_with (go_at_call 31; refine (linear_any _ _ _ _ _ _ (by omega) _).mono ?_; rintro e w' ⟨rfl, rfl⟩)
    go_ret
    exact ⟨rfl, rfl⟩
  have d2 : (f == 2) = false := by simpa using h2
  have d3 : (f == 3) = false := by simpa using h3
  have d4 : (f == 4) = false := by simpa using h4
  have d5 : (f == 5) = false := by simpa using h5
  have d7 : (f == 7) = false := by simpa using h7
  have ee : followD f payload elems e t = lin payload 0 1 elems 0 0 := by simp [followD, h2, h3, h4, h5, h7]
  rw [ee]
  clear ee
  go_enter Trym.func15, Trym.ntmps15
  go_wp2_with (go_at_call 31; refine (linear_any _ _ _ _ _ _ (by omega) _).mono ?_; rintro e w' ⟨rfl, rfl⟩)
  go_ret
  exact ⟨rfl, rfl⟩

/-- The sum that wraps at each step, from s on. -/
def accS (s : Int) : List Int → Int
  | [] => s
  | e :: l => accS (wrap64 (s + e)) l

theorem accS_wrap (s : Int) (l : List Int) (h : wrap64 s = s) : wrap64 (accS s l) = accS s l := by
  induction l generalizing s with
  | nil => exact h
  | cons e l ih => exact ih _ (wrap64_idem _)

end Go.Proofs.Qxb6602336aMods.Plan
