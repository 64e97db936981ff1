import Derived.Test.Qxb6602336aModsOneShape
namespace Go.Proofs.Qxb6602336aMods.Plan
open Go.RowKit
set_option linter.unusedVariables false

/-- The one coding besides nil that a form follows. -/
def shapeI (f : Int) : Int := if f = 1 then 1 else if f = 2 then 2 else if f = 3 then 2 else if f = 4 then 4 else if f = 7 then 4 else if f = 5 then 5 else 0
def shapeB (f : Int) : Bool := f == 1 || f == 2 || f == 3 || f == 4 || f == 7 || f == 5

set_option maxHeartbeats 400000 in
theorem shapeOf_any (f : Int) (w : World) :
    Calls Trym.prog 32 #[.int .i64 f] w fun r w' => r = .returned (.tuple #[.int .i64 (shapeI f), .bool (shapeB f)]) ∧ w' = w := by
  by_cases h1 : f = 1
  · subst h1; go_enter Trym.func32, Trym.ntmps32; go_wp2; go_ret2; exact ⟨rfl, rfl⟩
  by_cases h2 : f = 2
  · subst h2; go_enter Trym.func32, Trym.ntmps32; go_wp2; go_ret2; exact ⟨rfl, rfl⟩
  by_cases h3 : f = 3
  · subst h3; go_enter Trym.func32, Trym.ntmps32; go_wp2; go_ret2; exact ⟨rfl, rfl⟩
  by_cases h4 : f = 4
  · subst h4; go_enter Trym.func32, Trym.ntmps32; go_wp2; go_ret2; exact ⟨rfl, rfl⟩
  by_cases h7 : f = 7
  · subst h7; go_enter Trym.func32, Trym.ntmps32; go_wp2; go_ret2; exact ⟨rfl, rfl⟩
  by_cases h5 : f = 5
  · subst h5; go_enter Trym.func32, Trym.ntmps32; go_wp2; go_ret2; exact ⟨rfl, rfl⟩
  have e1 : shapeI f = 0 := by simp [shapeI, *]
  have e2 : shapeB f = false := by simp [shapeB, *]
  rw [e1, e2]
  clear e1 e2
  have d1 : (f == 1) = false := by simpa using h1
  have d2 : (f == 2) = false := by simpa using h2
  have d3 : (f == 3) = false := by simpa using h3
  have d4 : (f == 4) = false := by simpa using h4
  have d7 : (f == 7) = false := by simpa using h7
  have d5 : (f == 5) = false := by simpa using h5
  go_enter Trym.func32, Trym.ntmps32; go_wp2; go_ret2; exact ⟨rfl, rfl⟩

theorem model_no (f n elems cd : Int) (h0 : (cd == 0) = false) (h : shapeB f = false ∨ (shapeI f == cd) = false) : takesB f n elems cd = false := by
  unfold shapeB shapeI at h
  simp at h h0
  simp [takesB]
  refine ⟨⟨⟨⟨?_, ?_⟩, ?_⟩, ?_⟩, ?_⟩ <;> (intros; try omega)
  all_goals (try (refine ⟨?_, ?_⟩)) <;> (intros; try omega)
  all_goals (split at h <;> omega)

theorem model_yes (f n elems cd : Int) (h0 : (cd == 0) = false) (h : shapeB f = true) (h' : (shapeI f == cd) = true) (h7 : (f == 7) = false) : takesB f n elems cd = true := by
  unfold shapeB at h
  unfold shapeI at h'
  simp at h h' h0 h7
  simp [takesB]
  omega

theorem model_seven (n elems cd : Int) (h' : (shapeI 7 == cd) = true) : takesB 7 n elems cd = (n == elems) := by
  simp [shapeI] at h'
  subst h'
  simp [takesB]

set_option maxHeartbeats 400000 in
theorem model_any (f n elems cd : Int) (w : World) :
    Calls Trym.prog 14 #[.int .i64 f, .int .i64 n, .int .i64 elems, .int .i64 cd] w fun r w' => r = .returned (.bool (takesB f n elems cd)) ∧ w' = w := by
  cases c0 : (cd == 0)
  · cases hB : shapeB f
    · rw [model_no f n elems cd c0 (.inl hB)]
      go_enter Trym.func14, Trym.ntmps14
      go_wp2_with (go_at_call 32; refine (shapeOf_any f _).mono ?_; rintro e w' ⟨rfl, rfl⟩)
      go_ret
      exact ⟨rfl, rfl⟩
    · cases hI : (shapeI f == cd)
      · rw [model_no f n elems cd c0 (.inr hI)]
        have hI' : (shapeI f != cd) = true := by simpa using hI
        go_enter Trym.func14, Trym.ntmps14
        go_wp2_with (go_at_call 32; refine (shapeOf_any f _).mono ?_; rintro e w' ⟨rfl, rfl⟩)
        go_ret
        exact ⟨rfl, rfl⟩
      · have hI' : (shapeI f != cd) = false := by simpa using hI
        cases h7 : (f == 7)
        · rw [model_yes f n elems cd c0 hB hI h7]
          go_enter Trym.func14, Trym.ntmps14
          go_wp2_with (go_at_call 32; refine (shapeOf_any f _).mono ?_; rintro e w' ⟨rfl, rfl⟩)
          go_ret
          exact ⟨rfl, rfl⟩
        · obtain rfl : f = 7 := by simpa using h7
          have HF := model_seven n elems cd hI
          rw [HF]
          clear HF
          go_enter Trym.func14, Trym.ntmps14
          go_wp2_with (go_at_call 32; refine (shapeOf_any 7 _).mono ?_; rintro e w' ⟨rfl, rfl⟩)
          go_ret
          exact ⟨rfl, rfl⟩
  · obtain rfl : cd = 0 := by simpa using c0
    go_enter Trym.func14, Trym.ntmps14
    go_wp2_with fail
    go_ret
    exact ⟨rfl, rfl⟩

set_option maxHeartbeats 400000 in
theorem takesSpec_walk (f e t el ct size payload elems cd : Int) (n : Nat) (hn : n ≤ 65536) (w : World) :
    Calls Trym.prog 5 #[.int .i64 f, .int .i64 e, .int .i64 t, .int .i64 (n : Int), .int .i64 el, .int .i64 ct, .int .i64 size, .int .i64 payload, .int .i64 elems, .int .i64 cd] w fun r w' =>
      r = .returned (.bool true) ∧ Below w.heap.size w w' := by
  go_enter Trym.func5, Trym.ntmps5
  go_wp2_with fail
  refine (make_any f e t el ct n hn _).mono ?_
  rintro _ w1 ⟨rfl, hw1⟩
  have hb1 : Below w.heap.size w w1 := by rw [hw1]; exact ((Below.refl _ _).alloc (Nat.le_refl _) _).alloc (by simp) _
  have hp1 : PlanAt w1 (w.heap.size + 1) f n := by rw [hw1]; exact PlanAt.made _ _ _ _ _ _ _ _ rfl _ _
  clear hw1
  go_wp2_with fail
  refine (zztakes_at hp1 size payload elems cd).mono ?_
  rintro _ w2 ⟨rfl, hb2, hp2⟩
  replace hb2 := hb1.trans (hb2.mono hb1.size)
  go_wp2_with fail
  refine (model_any f n elems cd _).mono ?_
  rintro _ _ ⟨rfl, rfl⟩
  go_wp2_with fail
  go_ret
  exact ⟨rfl, hb2⟩

set_option maxHeartbeats 400000 in
theorem takesSpec_out (f e t n el ct size payload elems cd : Int) (h : n < 0 ∨ 65536 < n) (w : World) :
    Calls Trym.prog 5 #[.int .i64 f, .int .i64 e, .int .i64 t, .int .i64 n, .int .i64 el, .int .i64 ct, .int .i64 size, .int .i64 payload, .int .i64 elems, .int .i64 cd] w fun r w' =>
      r = .returned (.bool true) ∧ Below w.heap.size w w' := by
  by_cases hn : n < 0
  all_goals
    go_enter Trym.func5, Trym.ntmps5
    go_wp2_with fail
    go_ret
    exact ⟨rfl, Below.refl _ _⟩

theorem takesSpec_any (f e t n el ct size payload elems cd : Int) (w : World) :
    Calls Trym.prog 5 #[.int .i64 f, .int .i64 e, .int .i64 t, .int .i64 n, .int .i64 el, .int .i64 ct, .int .i64 size, .int .i64 payload, .int .i64 elems, .int .i64 cd] w fun r w' =>
      r = .returned (.bool true) ∧ Below w.heap.size w w' := by
  by_cases h : n < 0 ∨ 65536 < n
  · exact takesSpec_out f e t n el ct size payload elems cd h w
  · obtain ⟨m, rfl⟩ := Int.eq_ofNat_of_zero_le (show 0 ≤ n by omega)
    exact takesSpec_walk f e t el ct size payload elems cd m (by omega) w
end Go.Proofs.Qxb6602336aMods.Plan
