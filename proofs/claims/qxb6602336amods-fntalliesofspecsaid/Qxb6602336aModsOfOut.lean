import Derived.Test.Qxb6602336aModsOfPre
namespace Go.Proofs.Qxb6602336aMods.Tab
open Go.RowKit Go.Proofs.Qxb6602336aMods.Plan
set_option linter.unusedVariables false
attribute [local go_sem ↓] Go.wp_at_zero Go.wp_at_succ

set_option maxHeartbeats 4000000 in
set_option maxRecDepth 100000 in
theorem ofspec_out (a b : Int) (a0 : Option Addr) (n c0 : Nat) (a1 : Option Addr) (n1 c1 : Nat) (a2 : Option Addr) (n2 c2 : Nat) (isNil : Bool) (sc sf sr : Int) (w : World)
    (h : 32768 < n ∨ n1 ≠ n ∨ n2 ≠ n ∨ (isNil = true ∧ 0 < n)) :
    Calls Trym.prog 7 #[.int .i64 a, .int .i64 b, .slice a0 n c0, .slice a1 n1 c1, .slice a2 n2 c2, .bool isNil, .int .u64 sc, .int .u64 sf, .int .u64 sr] w fun e w' => e = .returned (.bool true) ∧ Below w.heap.size w w' := by
  by_cases x1 : 1048576 < n
  · go_enter Trym.func7, Trym.ntmps7
    go_wp2_with (first | (go_at_call 19; go_in))
    go_ret
    exact ⟨rfl, Below.refl _ _⟩
  by_cases x2 : 1048576 < n1
  · go_enter Trym.func7, Trym.ntmps7
    go_wp2_with (first | (go_at_call 19; go_in))
    go_ret
    exact ⟨rfl, Below.refl _ _⟩
  by_cases x3 : 1048576 < n + n1
  · go_enter Trym.func7, Trym.ntmps7
    go_wp2_with (first | (go_at_call 19; go_in))
    go_ret
    exact ⟨rfl, Below.refl _ _⟩
  by_cases x4 : 1048576 < n2
  · go_enter Trym.func7, Trym.ntmps7
    go_wp2_with (first | (go_at_call 19; go_in))
    go_ret
    exact ⟨rfl, Below.refl _ _⟩
  by_cases x5 : 1048576 < n + n1 + n2
  · go_enter Trym.func7, Trym.ntmps7
    go_wp2_with (first | (go_at_call 19; go_in))
    go_ret
    exact ⟨rfl, Below.refl _ _⟩
  by_cases x6 : 32768 < n
  · go_enter Trym.func7, Trym.ntmps7
    go_wp2_with (first | (go_at_call 19; go_in))
    go_ret
    exact ⟨rfl, Below.refl _ _⟩
  by_cases x7 : 32768 < n1
  · go_enter Trym.func7, Trym.ntmps7
    go_wp2_with (first | (go_at_call 19; go_in))
    go_ret
    exact ⟨rfl, Below.refl _ _⟩
  by_cases x8 : 65536 < n2
  · go_enter Trym.func7, Trym.ntmps7
    go_wp2_with (first | (go_at_call 19; go_in))
    go_ret
    exact ⟨rfl, Below.refl _ _⟩
  cases x9 : ((n1 : Int) != (n : Int))
  · cases y1 : ((n2 : Int) != (n : Int))
    · have z1 : n1 = n := by simp at x9; omega
      have z2 : n2 = n := by simp at y1; omega
      obtain ⟨rfl, z3⟩ : isNil = true ∧ 0 < n := by
        rcases h with h | h | h | h
        · omega
        · omega
        · omega
        · exact h
      go_enter Trym.func7, Trym.ntmps7
      go_wp2_with (first | (go_at_call 19; go_in))
      go_ret
      exact ⟨rfl, Below.refl _ _⟩
    · go_enter Trym.func7, Trym.ntmps7
      go_wp2_with (first | (go_at_call 19; go_in))
      go_ret
      exact ⟨rfl, Below.refl _ _⟩
  · go_enter Trym.func7, Trym.ntmps7
    go_wp2_with (first | (go_at_call 19; go_in))
    go_ret
    exact ⟨rfl, Below.refl _ _⟩

theorem TabAt.of_below {w w' : World} {B0 TB : Nat} {m : Tbl} (h : TabAt w B0 TB m) (hb : Below w.heap.size w w') : TabAt w' B0 TB m := by
  rcases h with ⟨h, e⟩ | ⟨r, h1, h2, h3⟩
  · exact .inl ⟨by rw [hb.block TB (lt_of h)]; exact h, e⟩
  · exact .inr ⟨r, h1, by rw [hb.block TB (lt_of h2)]; exact h2, h3.of_heap (hb.block r h3.lt)⟩

set_option maxHeartbeats 4000000 in
set_option maxRecDepth 100000 in
theorem ofspec_nil (a b : Int) (a0 : Option Addr) (c0 : Nat) (a1 : Option Addr) (c1 : Nat) (a2 : Option Addr) (c2 : Nat) (sc sf sr : Int) (w : World) :
    Calls Trym.prog 7 #[.int .i64 a, .int .i64 b, .slice a0 0 c0, .slice a1 0 c1, .slice a2 0 c2, .bool true, .int .u64 sc, .int .u64 sf, .int .u64 sr] w fun e w' => e = .returned (.bool true) ∧ Below w.heap.size w w' := by
  have hmk : ∀ w, (Instr.makeSlice 46 (.int .i64 0) (.int .i64 0)).run Trym.prog w = .ok (.slice (some ⟨w.heap.size, 0, none⟩) 0 0) (w.alloc (nilsObj 0)) := fun w => run_nils 0 (by omega) w
  have hmk2 : ∀ w, (Instr.makeSlice 47 (.int .i64 0) (.int .i64 0)).run Trym.prog w = .ok (.slice (some ⟨w.heap.size, 0, none⟩) 0 0) (w.alloc (zerosU 0)) := fun w => run_zerosU 0 (by omega) w
  go_enter Trym.func7, Trym.ntmps7
  go_wp2_with (first | (go_at_call 19; go_in))
  refine (newTallies_nil w).mono ?_
  rintro _ w0 ⟨rfl, hw0⟩
  have hb0 : Below w.heap.size w w0 := by rw [hw0]; exact (Below.refl _ _).alloc (Nat.le_refl _) _
  have ht0 : TabAt w0 w.heap.size w.heap.size [] := .inl ⟨by rw [hw0]; exact heap_alloc_new _ _, rfl⟩
  clear hw0
  go_wp2_with fail
  go_loop [20] (fun i => i = .int .i64 0) (fun _ => 0)
  case atStart => rfl
  case round =>
    have hi := hrel
    subst hi
    go_wp2_with (first | (go_at_call 23; refine (len_any _ _ [] _ ht0).mono ?_; rintro _ w9 ⟨rfl, hw9⟩; have hw8 := hw9.symm; subst hw8))
    go_loop [25] (fun i => i = .int .i64 0) (fun _ => 0)
    case atStart => rfl
    case round =>
      have hi := hrel
      subst hi
      go_wp2_with fail
      go_loop [31, 32] (fun j i => j = .int .i64 (-1) ∧ i = .int .i64 (-1)) (fun _ _ => 0)
      case atStart => exact ⟨rfl, rfl⟩
      case round =>
        obtain ⟨rfl, rfl⟩ := hrel
        have hbx : Below w0.heap.size w0 ((w0.alloc (nilsObj 0)).alloc (zerosU 0)) := ((Below.refl _ _).alloc (Nat.le_refl _) _).alloc (by simp) _
        have ht1 := ht0.of_below hbx
        have hb1 := hb0.over hbx
        clear hbx ht0 hb0 hmk hmk2
        go_wp2_with fail
        generalize (w0.alloc (nilsObj 0)).alloc (zerosU 0) = w3 at *
        refine (newTally_any sc sf sr w3).mono ?_
        rintro _ w4 ⟨rfl, hw4⟩
        have hb4 : Below w3.heap.size w3 w4 := by rw [hw4]; exact (Below.refl _ _).alloc (Nat.le_refl _) _
        have hs4 : TalAt w4 w3.heap.size sc sf sr := by unfold TalAt; rw [hw4]; exact heap_alloc_new _ _
        have HS4 : Hid (w4.heap.size = w3.heap.size + 1) := by unfold Hid; rw [hw4]; simp
        have ht4 := ht1.of_below hb4
        have hbw4 := hb1.over hb4
        have hT3 := ht1.lt
        have hB3 := hb1.size
        clear hw4
        go_wp2_with fail
        refine (zzof_any w.heap.size w.heap.size w3.heap.size [] a b sc sf sr w4 ht4 hs4 (by omega) (by omega) (by omega)).mono ?_
        rintro _ w7 ⟨p, m', rfl, hP⟩
        obtain ⟨⟨q, hq4, rfl, htq7⟩, rfl, hsp7⟩ : (∃ q, w4.heap.size ≤ q ∧ (⟨q, 0, none⟩ : Addr) = p ∧ TalAt w7 q 0 0 0) ∧ putT [] a b (some p) = m' ∧ TalAt w7 w3.heap.size 0 0 0 := by
          rcases hP.2.2.2 with ⟨e1, e2, e3⟩ | ⟨e1, e2, _⟩ | ⟨e1, e2, ⟨q, q1, q2, q3⟩, e4, e5⟩
          · cases e1
          · simp at e2
          · exact ⟨⟨q, q1, q2.symm, q3⟩, e4.symm, e5⟩
        have hqsp : q ≠ w3.heap.size := by have := HS4.out; omega
        have htab7 := hP.1
        have hbw7 : Below w.heap.size w w7 := hbw4.trans hP.2.2.1
        generalize hmp : putT [] a b (some ⟨q, 0, none⟩) = mp at *
        have hfp : findT mp a b = some (some ⟨q, 0, none⟩) := by rw [← hmp, findT_put]; simp
        have HLP : Hid (look mp a b = some ⟨q, 0, none⟩) := by unfold Hid look; rw [hfp]; rfl
        have HFP : Hid ((findT mp a b).isSome = true) := by unfold Hid; rw [hfp]; rfl
        have HLN : Hid (mp.length = 1) := by unfold Hid; rw [← hmp]; rfl
        have hmne : mp ≠ [] := by rintro rfl; simp [findT] at hfp
        have hes := eql_same
        have hns := neq_same
        have hnn := neq_nn
        have hen := eql_ns
        clear hP ht4 hs4 hb4 hbw4 ht1 hb1 hmp hfp
        go_wp2_with (first | (go_at_call 27; refine (isnil_any _ _ mp _ htab7 hmne).mono ?_; rintro _ w9 ⟨rfl, hw9⟩; have hw8 := hw9.symm; subst hw8))
        have t1 : ((0 : Int) == 0 && (0 : Int) == 0 && (0 : Int) == 0) = true := by simp
        refine (tallyIs_any w3.heap.size 0 0 0 0 0 0 w7 hsp7).mono ?_
        rintro _ w8 ⟨rfl, nq1, rfl⟩
        rw [t1]
        have hne8 : (binOp .eql 42 (.pointer (some ⟨q, 0, none⟩)) (.pointer (some ⟨w3.heap.size, 0, none⟩))).run Trym.prog (w7.drewN nq1) = .ok (.bool false) (w7.drewN nq1) := eql_other (w := w7.drewN nq1) htq7 hsp7 hqsp
        go_wp2_with fail
        refine (tallyIs_any q 0 0 0 0 0 0 _ (by exact htq7)).mono ?_
        rintro _ w8 ⟨rfl, nq2, rfl⟩
        rw [t1]
        go_wp2_with fail
        refine (get_any w.heap.size w.heap.size mp a b _ (by exact htab7)).mono ?_
        rintro _ w8 ⟨rfl, hw8⟩
        rw [HLP.out, HFP.out, hw8]
        clear hw8 hne8
        go_wp2_with fail
        go_loop [42] (fun i => i = .int .i64 0) (fun _ => 0)
        case atStart => rfl
        case round =>
          have hi := hrel
          subst hi
          have hln2 : ((mp.length : Int) != 1) = false := by have := HLN.out; simp; omega
          go_wp2_with (first | (go_at_call 23; refine (len_any _ _ mp _ (by exact htab7)).mono ?_; rintro _ w9 ⟨rfl, hw9⟩; have hw8 := hw9.symm; subst hw8))
          go_loop [44] (fun i => i = .int .i64 0) (fun _ => 0)
          case atStart => rfl
          case round =>
            have hi := hrel
            subst hi
            go_wp2_with fail
            go_ret
            exact ⟨rfl, below_drewN hbw7 _⟩
end Go.Proofs.Qxb6602336aMods.Tab
