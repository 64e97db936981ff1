import Derived.Test.Qxb6602336aModsPlan
namespace Go.Proofs.Qxb6602336aMods.Plan
open Go.RowKit

/-- Whether a plan of form f with n fields takes a header of 'elems' elements and coding 'as'. -/
def takesB (f n elems cd : Int) : Bool :=
  cd == 0 || (cd == 1 && f == 1) || (cd == 2 && (f == 2 || f == 3)) || (cd == 4 && (f == 4 || (f == 7 && n == elems))) || (cd == 5 && f == 5)

theorem takes_0 (f n elems : Int) : takesB f n elems 0 = true := rfl
theorem takes_1 (f n elems : Int) : takesB f n elems 1 = (f == 1) := by simp [takesB]
theorem takes_2 (f n elems : Int) : takesB f n elems 2 = (f == 2 || f == 3) := by simp [takesB]
theorem takes_4 (f n elems : Int) : takesB f n elems 4 = (f == 4 || (f == 7 && n == elems)) := by simp [takesB]
theorem takes_5 (f n elems : Int) : takesB f n elems 5 = (f == 5) := by simp [takesB]
theorem takes_no (f n elems cd : Int) (h0 : (cd == 0) = false) (h1 : (cd == 1) = false) (h2 : (cd == 2) = false) (h4 : (cd == 4) = false) (h5 : (cd == 5) = false) : takesB f n elems cd = false := by
  simp [takesB, h0, h1, h2, h4, h5]

theorem ret_bool {a b : Bool} (h : a = b) : Ending.returned (.bool a) = .returned (.bool b) := by rw [h]

set_option maxHeartbeats 400000 in
theorem takes_any (b : Nat) (f : Int) (av : Option Addr) (n cap : Nat) (size payload elems cd : Int) (w : World)
    (hb : b < w.heap.size) (h0 : w.cell? ⟨b, 0, none⟩ = some (.int .i64 f)) (h5 : w.cell? ⟨b, 5, none⟩ = some (.slice av n cap)) :
    Calls Trym.prog 33 #[.pointer (some ⟨b, 0, none⟩), .agg #[.int .i64 size, .int .i64 payload, .int .i64 elems, .int .i64 cd]] w fun r w' =>
      r = .returned (.bool (takesB f n elems cd)) ∧ Below w.heap.size w w' := by
  have hne : ¬ b = w.heap.size := by omega
  by_cases c0 : cd = 0
  · subst c0
    go_enter Trym.func33, Trym.ntmps33
    go_wp2
    go_ret
    exact ⟨rfl, (Below.refl _ _).alloc (Nat.le_refl _) _⟩
  by_cases c1 : cd = 1
  · subst c1
    go_enter Trym.func33, Trym.ntmps33
    go_wp2
    go_ret
    exact ⟨ret_bool (takes_1 f n elems).symm, (Below.refl _ _).alloc (Nat.le_refl _) _⟩
  by_cases c2 : cd = 2
  · subst c2
    cases c : (f == 2)
    all_goals
      go_enter Trym.func33, Trym.ntmps33
      go_wp2
      go_ret
      exact ⟨ret_bool (by rw [takes_2]; simp [c]), (Below.refl _ _).alloc (Nat.le_refl _) _⟩
  by_cases c4 : cd = 4
  · subst c4
    cases c : (f == 4)
    · cases c' : (f == 7)
      all_goals
        go_enter Trym.func33, Trym.ntmps33
        go_wp2
        go_quiet (fail)
        go_wp2
        go_ret
        exact ⟨ret_bool (by rw [takes_4]; simp [c, c']), below_drewN ((Below.refl _ _).alloc (Nat.le_refl _) _) _⟩
    · go_enter Trym.func33, Trym.ntmps33
      go_wp2
      go_quiet (fail)
      go_wp2
      go_ret
      exact ⟨ret_bool (by rw [takes_4]; simp [c]), below_drewN ((Below.refl _ _).alloc (Nat.le_refl _) _) _⟩
  by_cases c5 : cd = 5
  · subst c5
    go_enter Trym.func33, Trym.ntmps33
    go_wp2
    go_ret
    exact ⟨ret_bool (takes_5 f n elems).symm, (Below.refl _ _).alloc (Nat.le_refl _) _⟩
  have d0 : (cd == 0) = false := by simpa using c0
  have d1 : (cd == 1) = false := by simpa using c1
  have d2 : (cd == 2) = false := by simpa using c2
  have d4 : (cd == 4) = false := by simpa using c4
  have d5 : (cd == 5) = false := by simpa using c5
  go_enter Trym.func33, Trym.ntmps33
  go_wp2
  go_ret
  exact ⟨ret_bool (takes_no f n elems cd d0 d1 d2 d4 d5).symm, (Below.refl _ _).alloc (Nat.le_refl _) _⟩

set_option maxHeartbeats 400000 in
/-- ZZTakes. -/
theorem zztakes_any (b : Nat) (f : Int) (av : Option Addr) (n cap : Nat) (size payload elems cd : Int) (w : World)
    (hb : b < w.heap.size) (h0 : w.cell? ⟨b, 0, none⟩ = some (.int .i64 f)) (h5 : w.cell? ⟨b, 5, none⟩ = some (.slice av n cap)) :
    Calls Trym.prog 18 #[.pointer (some ⟨b, 0, none⟩), .int .i64 size, .int .i64 payload, .int .i64 elems, .int .i64 cd] w fun r w' =>
      r = .returned (.bool (takesB f n elems cd)) ∧ Below w.heap.size w w' := by
  go_enter Trym.func18, Trym.ntmps18
  go_wp2_with fail
  refine (takes_any b f av n cap size payload elems cd _ hb h0 h5).mono ?_
  rintro e w' ⟨rfl, hb'⟩
  go_wp2
  go_ret
  exact ⟨rfl, hb'⟩
end Go.Proofs.Qxb6602336aMods.Plan
