import Derived.Test.Qxb6602336aModsTakes
namespace Go.Proofs.Qxb6602336aMods.Plan
open Go.RowKit

/-- How many of the codings 1 .. k a plan takes. -/
def cnt (f n elems : Int) : Nat → Int
  | 0 => 0
  | k + 1 => cnt f n elems k + if takesB f n elems ((k : Int) + 1) = true then 1 else 0

theorem cnt_bd (f n elems : Int) (k : Nat) : 0 ≤ cnt f n elems k ∧ cnt f n elems k ≤ k := by
  induction k with
  | zero => simp [cnt]
  | succ k ih => simp only [cnt]; split <;> omega

theorem cnt5 (f n elems : Int) : cnt f n elems 5 ≤ 1 := by
  simp only [cnt, takesB]
  simp
  split <;> split <;> split <;> split <;> omega

theorem cnt5_0 (f n elems : Int) (h : f = 0 ∨ f = 6 ∨ f < 0 ∨ 7 < f) : cnt f n elems 5 = 0 := by
  simp only [cnt, takesB]
  simp
  split <;> split <;> split <;> split <;> omega

/-- What lies where a plan was laid. -/
theorem plan_cell (w : World) (f e t : Int) (x y : Value) (el ct : Int) (B : Nat) (hB : B = w.heap.size) :
    (w.alloc (planOf f e t x y el ct)).cell? ⟨B, 0, none⟩ = some (.int .i64 f) ∧ (w.alloc (planOf f e t x y el ct)).cell? ⟨B, 5, none⟩ = some y := by
  subst hB
  constructor <;> simp [planOf, go_sem]

/-- Block b is a plan of form f with n fields. -/
def PlanAt (w : World) (b : Nat) (f : Int) (n : Nat) : Prop :=
  b < w.heap.size ∧ w.cell? ⟨b, 0, none⟩ = some (.int .i64 f) ∧ ∃ av cap, w.cell? ⟨b, 5, none⟩ = some (.slice av n cap)

theorem PlanAt.below {w w' : World} {b : Nat} {f : Int} {n B : Nat} (h : PlanAt w b f n) (hb : Below B w w') (hB : b < B) : PlanAt w' b f n := by
  obtain ⟨h1, h2, av, cap, h3⟩ := h
  exact ⟨Nat.lt_of_lt_of_le h1 hb.size, by rw [hb.cell (p := ⟨b, 0, none⟩) hB]; exact h2, av, cap, by rw [hb.cell (p := ⟨b, 5, none⟩) hB]; exact h3⟩

theorem PlanAt.made (w : World) (f e t el ct : Int) (n B : Nat) (hB : B = w.heap.size + 1) (y : Value) (av : Option Addr) :
    PlanAt ((w.alloc (rowOf n)).alloc (planOf f e t y (.slice av n n) el ct)) B f n := by
  subst hB
  obtain ⟨h1, h2⟩ := plan_cell (w.alloc (rowOf n)) f e t y (.slice av n n) el ct (w.heap.size + 1) (by simp)
  exact ⟨by simp, h1, _, _, h2⟩

theorem zztakes_at {b : Nat} {f : Int} {n : Nat} {w : World} (h : PlanAt w b f n) (size payload elems cd : Int) :
    Calls Trym.prog 18 #[.pointer (some ⟨b, 0, none⟩), .int .i64 size, .int .i64 payload, .int .i64 elems, .int .i64 cd] w fun r w' =>
      r = .returned (.bool (takesB f n elems cd)) ∧ Below w.heap.size w w' ∧ PlanAt w' b f n := by
  have hp := h
  obtain ⟨h1, h2, av, cap, h3⟩ := h
  refine (zztakes_any b f av n cap size payload elems cd w h1 h2 h3).mono ?_
  rintro e w' ⟨rfl, hb⟩
  exact ⟨rfl, hb, hp.below hb h1⟩

theorem takes_3 (f n elems : Int) : takesB f n elems 3 = false := by simp [takesB]

set_option maxHeartbeats 1000000 in
theorem oneShape_walk (f e t el ct size payload elems : Int) (n : Nat) (hn : n ≤ 65536) (w : World) :
    Calls Trym.prog 6 #[.int .i64 f, .int .i64 e, .int .i64 t, .int .i64 (n : Int), .int .i64 el, .int .i64 ct, .int .i64 size, .int .i64 payload, .int .i64 elems] w fun r w' =>
      r = .returned (.bool true) ∧ Below w.heap.size w w' := by
  have t0 := takes_0 f n elems
  have t3 := takes_3 f n elems
  go_enter Trym.func6, Trym.ntmps6
  go_wp2_with fail
  refine (make_any f e t el ct n hn _).mono ?_
  rintro _ w1 ⟨rfl, hw1⟩
  have hb1 : Below w.heap.size w w1 := by rw [hw1]; exact ((Below.refl _ _).alloc (Nat.le_refl _) _).alloc (by simp) _
  have hp1 : PlanAt w1 (w.heap.size + 1) f n := by rw [hw1]; exact PlanAt.made _ _ _ _ _ _ _ _ rfl _ _
  clear hw1
  go_wp2_with fail
  refine (zztakes_at hp1 size payload elems 0).mono ?_
  rintro _ w2 ⟨rfl, hb2, hp2⟩
  replace hb2 := hb1.trans (hb2.mono hb1.size)
  clear hb1 hp1
  go_wp2_with fail
  refine (zztakes_at hp2 size payload elems 3).mono ?_
  rintro _ w3 ⟨rfl, hb3, hp3⟩
  replace hb3 := hb2.trans (hb3.mono hb2.size)
  clear hb2 hp2
  go_wp2_with fail
  go_loopw [20, 21] (fun c i wr => ∃ k : Nat, k ≤ 5 ∧ i = .int .i64 ((k : Int) + 1) ∧ c = .int .i64 (cnt f n elems k) ∧ Below w.heap.size w wr ∧ PlanAt wr (w.heap.size + 1) f n) (fun _ i _ => (6 - intOf i).toNat)
  case atStart => exact ⟨0, by omega, rfl, rfl, hb3, hp3⟩
  case round =>
    obtain ⟨k, hk, rfl, rfl, hb, hp⟩ := hrel
    by_cases hlt : k < 5
    · have hbd := cnt_bd f n elems k
      cases hc : takesB f n elems ((k : Int) + 1)
      all_goals
        have HS : Hid (cnt f n elems (k + 1) = cnt f n elems k + if takesB f n elems ((k : Int) + 1) = true then 1 else 0) := rfl
        go_wp2_with fail
        refine (zztakes_at hp size payload elems ((k : Int) + 1)).mono ?_
        rintro _ w4 ⟨rfl, hb4, hp4⟩
        replace hb4 := hb.trans (hb4.mono hb.size)
        clear hb hp
        go_wp2
        exact ⟨⟨k + 1, by omega, by go_num, by rw [HS.out, hc]; simp, hb4, hp4⟩, by simp [intOf]; omega⟩
    · obtain rfl : k = 5 := by omega
      have hc5 := cnt5 f n elems
      have hc0 := (cnt_bd f n elems 5).1
      have hz := cnt5_0 f n elems
      generalize cnt f n elems 5 = q at *
      by_cases d0 : f = 0 ∨ f = 6 ∨ f < 0 ∨ 7 < f
      · have e0 : (q == 0) = true := by have := hz d0; simp [this]
        clear hz
        cases c0 : (f == 0) <;> cases c6 : (f == 6) <;> by_cases cn : f < 0
        all_goals
          go_wp2
          all_goals
            go_ret
            exact ⟨rfl, hb⟩
      · clear hz
        have c0 : (f == 0) = false := by simp; omega
        have c6 : (f == 6) = false := by simp; omega
        have cn : ¬ f < 0 := by omega
        have cp : ¬ 7 < f := by omega
        go_wp2
        go_ret
        exact ⟨rfl, hb⟩

set_option maxHeartbeats 400000 in
/-- Too few or too many fields: true at once. -/
theorem oneShape_out (f e t n el ct size payload elems : Int) (h : n < 0 ∨ 65536 < n) (w : World) :
    Calls Trym.prog 6 #[.int .i64 f, .int .i64 e, .int .i64 t, .int .i64 n, .int .i64 el, .int .i64 ct, .int .i64 size, .int .i64 payload, .int .i64 elems] w fun r w' =>
      r = .returned (.bool true) ∧ Below w.heap.size w w' := by
  by_cases hn : n < 0
  all_goals
    go_enter Trym.func6, Trym.ntmps6
    go_wp2_with fail
    go_ret
    exact ⟨rfl, Below.refl _ _⟩

theorem oneShape_any (f e t n el ct size payload elems : Int) (w : World) :
    Calls Trym.prog 6 #[.int .i64 f, .int .i64 e, .int .i64 t, .int .i64 n, .int .i64 el, .int .i64 ct, .int .i64 size, .int .i64 payload, .int .i64 elems] w fun r w' =>
      r = .returned (.bool true) ∧ Below w.heap.size w w' := by
  by_cases h : n < 0 ∨ 65536 < n
  · exact oneShape_out f e t n el ct size payload elems h w
  · obtain ⟨m, rfl⟩ := Int.eq_ofNat_of_zero_le (show 0 ≤ n by omega)
    exact oneShape_walk f e t el ct size payload elems m (by omega) w
end Go.Proofs.Qxb6602336aMods.Plan
