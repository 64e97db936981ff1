import Derived.Test.Qxb6602336aModsTop
namespace Go.Proofs.Qxb6602336aMods.Plan
open Go.RowKit
set_option linter.unusedVariables false

/-- What the top of a chain is: the pointer plan's own cells, or the end's. -/
theorem top_cells {w : World} {T b : Nat} {f e t : Int} {nf : Nat} {el ct : Int} {ys : List Int} (hp : PlanFull w T f e t nf el ct) (hch : ChainAt w T ct el b ys) :
    b < w.heap.size ∧ (∃ g, w.cell? ⟨b, 0, none⟩ = some (.int .i64 g)) ∧
      ((ys = [] ∧ w.cell? ⟨b, 6, none⟩ = some (.int .i64 el) ∧ w.cell? ⟨b, 7, none⟩ = some (.int .i64 ct)) ∨
       (0 < ys.length ∧ w.cell? ⟨b, 6, none⟩ = some (.int .i64 ct) ∧ w.cell? ⟨b, 7, none⟩ = some (.int .i64 el))) := by
  cases ys with
  | nil =>
    have hb : b = T := hch
    subst hb
    exact ⟨hp.1.1, ⟨_, hp.1.2.1⟩, .inl ⟨rfl, hp.2.2.2.1, hp.2.2.2.2⟩⟩
  | cons z l =>
    obtain ⟨h1, h0, _, h6, h7, _⟩ := hch
    exact ⟨h1, ⟨_, h0⟩, .inr ⟨by simp, h6, h7⟩⟩

theorem spec_coarse (S : Int) (f : Int) (nf : Nat) (e t el ct payload elems cd : Int) (h : takesB f nf elems cd = false) :
    (wrap64 (S + endD f nf e t el ct payload elems cd) == wrap64 (S + coarseD cd payload elems el ct)) = true := by
  unfold endD; rw [h]; simp
theorem spec_follow (S : Int) (f : Int) (nf : Nat) (e t el ct payload elems cd : Int) (h : takesB f nf elems cd = true) :
    (wrap64 (S + endD f nf e t el ct payload elems cd) == wrap64 (S + followD f payload elems e t)) = true := by
  unfold endD; rw [h]; simp

set_option maxHeartbeats 1000000 in
set_option maxRecDepth 100000 in
theorem loose_some (x : Addr) (n cap : Nat) (zs : List Int) (f e t : Int) (nf : Nat) (el ct size payload elems cd : Int) (w : World)
    (hl : n ≤ 65536) (hnf : nf ≤ 65536) (hf : (f == 6) = false) 
    (hcap : n ≤ cap) (hzs : zs.length = cap) (hcell : ∀ i, i < zs.length → w.cell? (x.add i) = some (.int .i64 (zs.getD i 0))) :
    Calls Trym.prog 3 #[.slice (some x) n cap, .int .i64 f, .int .i64 e, .int .i64 t, .int .i64 (nf : Int), .int .i64 el, .int .i64 ct, .int .i64 size, .int .i64 payload, .int .i64 elems, .int .i64 cd, .bool true] w fun r w' =>
      r = .returned (.bool true) ∧ Below w.heap.size w w' := by
  have hmk := run_zeros n hl
  have hcp := fun ty => run_copied w ty x n cap zs (by omega) hcell
  have hlen : (zs.take n).length = n := by simp; omega
  have hrow := RowAt.laid w (zs.take n)
  have hbw : Below w.heap.size w (w.alloc (intsObj (zs.take n))) := (Below.refl _ _).alloc (Nat.le_refl _) _
  clear hcell hcap hzs
  go_enter Trym.func3, Trym.ntmps3
  go_wp2_with (first | (go_at_call 9; go_in))
  clear hmk hcp
  generalize zs.take n = ys at *
  generalize w.alloc (intsObj ys) = w0 at *
  refine (chain_any _ ys n n hlen hl f e t el ct nf hnf w0 hrow).mono ?_
  rintro _ w1 ⟨b, rfl, hb1, hp1, hch1⟩
  replace hrow := hrow.below hb1
  replace hb1 := hbw.over hb1
  clear hbw
  have hpe := eql_plan
  obtain ⟨hlt, ⟨g, h0⟩, htop⟩ := top_cells hp1 hch1
  rcases htop with ⟨hys, h6, h7⟩ | ⟨hys, h6, h7⟩
  · have hn0 : n = 0 := by rw [← hlen, hys]; rfl
    clear hrow hp1 hch1 hys h0
    go_wp2_with fail
    refine (zzcharge_loose b el ct size payload elems cd w1 hlt h6 h7).mono ?_
    rintro _ w2 ⟨rfl, hb2⟩
    replace hb2 := hb1.over hb2
    go_wp2_with (first | (go_at_call 12; refine (coarse_any _ _ _ _ _ _).mono ?_; rintro _ _ ⟨rfl, rfl⟩))
    go_ret
    exact ⟨rfl, hb2⟩
  · have hn0 : 0 < n := by omega
    clear hrow hp1 hch1 hys h0
    go_wp2_with fail
    refine (zzcharge_loose b ct el size payload elems cd w1 hlt h6 h7).mono ?_
    rintro _ w2 ⟨rfl, hb2⟩
    replace hb2 := hb1.over hb2
    go_wp2_with (first | (go_at_call 12; refine (coarse_any _ _ _ _ _ _).mono ?_; rintro _ _ ⟨rfl, rfl⟩))
    go_ret
    exact ⟨rfl, hb2⟩

set_option maxHeartbeats 1000000 in
set_option maxRecDepth 100000 in
theorem loose_nil (f e t : Int) (nf : Nat) (el ct size payload elems cd : Int) (w : World)
    (hnf : nf ≤ 65536) (hf : (f == 6) = false)  :
    Calls Trym.prog 3 #[.slice none 0 0, .int .i64 f, .int .i64 e, .int .i64 t, .int .i64 (nf : Int), .int .i64 el, .int .i64 ct, .int .i64 size, .int .i64 payload, .int .i64 elems, .int .i64 cd, .bool true] w fun r w' =>
      r = .returned (.bool true) ∧ Below w.heap.size w w' := by
  have hrow : RowAt w none [] := .inl ⟨rfl, rfl⟩
  have hbw : Below w.heap.size w w := Below.refl _ _
  go_enter Trym.func3, Trym.ntmps3
  go_wp2_with (first | (go_at_call 9; go_in))
  refine (chain_any _ [] 0 0 rfl (by omega) f e t el ct nf hnf w hrow).mono ?_
  rintro _ w1 ⟨b, rfl, hb1, hp1, hch1⟩
  replace hrow := hrow.below hb1
  replace hb1 := hbw.over hb1
  clear hbw
  have hpe := eql_plan
  obtain ⟨hlt, ⟨g, h0⟩, htop⟩ := top_cells hp1 hch1
  rcases htop with ⟨hys, h6, h7⟩ | ⟨hys, h6, h7⟩
  · clear hrow hp1 hch1 hys h0
    go_wp2_with fail
    refine (zzcharge_loose b el ct size payload elems cd w1 hlt h6 h7).mono ?_
    rintro _ w2 ⟨rfl, hb2⟩
    replace hb2 := hb1.over hb2
    go_wp2_with (first | (go_at_call 12; refine (coarse_any _ _ _ _ _ _).mono ?_; rintro _ _ ⟨rfl, rfl⟩))
    go_ret
    exact ⟨rfl, hb2⟩
  · simp at hys

set_option maxHeartbeats 1000000 in
set_option maxRecDepth 100000 in
theorem nilv_some (x : Addr) (n cap : Nat) (zs : List Int) (f e t : Int) (nf : Nat) (el ct size payload elems : Int) (w : World)
    (hl : n ≤ 65536) (hnf : nf ≤ 65536) (hf : (f == 6) = false) 
    (hcap : n ≤ cap) (hzs : zs.length = cap) (hcell : ∀ i, i < zs.length → w.cell? (x.add i) = some (.int .i64 (zs.getD i 0))) :
    Calls Trym.prog 3 #[.slice (some x) n cap, .int .i64 f, .int .i64 e, .int .i64 t, .int .i64 (nf : Int), .int .i64 el, .int .i64 ct, .int .i64 size, .int .i64 payload, .int .i64 elems, .int .i64 0, .bool false] w fun r w' =>
      r = .returned (.bool true) ∧ Below w.heap.size w w' := by
  have hmk := run_zeros n hl
  have hcp := fun ty => run_copied w ty x n cap zs (by omega) hcell
  have hlen : (zs.take n).length = n := by simp; omega
  have hrow := RowAt.laid w (zs.take n)
  have hbw : Below w.heap.size w (w.alloc (intsObj (zs.take n))) := (Below.refl _ _).alloc (Nat.le_refl _) _
  clear hcell hcap hzs
  go_enter Trym.func3, Trym.ntmps3
  go_wp2_with (first | (go_at_call 9; go_in))
  clear hmk hcp
  generalize zs.take n = ys at *
  generalize w.alloc (intsObj ys) = w0 at *
  refine (chain_any _ ys n n hlen hl f e t el ct nf hnf w0 hrow).mono ?_
  rintro _ w1 ⟨b, rfl, hb1, hp1, hch1⟩
  replace hrow := hrow.below hb1
  replace hb1 := hbw.over hb1
  clear hbw
  have hpe := eql_plan
  obtain ⟨hlt, ⟨g, h0⟩, htop⟩ := top_cells hp1 hch1
  clear hrow hp1 hch1 htop
  go_wp2_with fail
  refine (zzcharge_nil b g size payload elems w1 hlt h0).mono ?_
  rintro _ w2 ⟨rfl, hb2⟩
  replace hb2 := hb1.over hb2
  go_wp2_with fail
  go_ret
  exact ⟨rfl, hb2⟩

set_option maxHeartbeats 1000000 in
set_option maxRecDepth 100000 in
theorem nilv_nil (f e t : Int) (nf : Nat) (el ct size payload elems : Int) (w : World)
    (hnf : nf ≤ 65536) (hf : (f == 6) = false)  :
    Calls Trym.prog 3 #[.slice none 0 0, .int .i64 f, .int .i64 e, .int .i64 t, .int .i64 (nf : Int), .int .i64 el, .int .i64 ct, .int .i64 size, .int .i64 payload, .int .i64 elems, .int .i64 0, .bool false] w fun r w' =>
      r = .returned (.bool true) ∧ Below w.heap.size w w' := by
  have hrow : RowAt w none [] := .inl ⟨rfl, rfl⟩
  have hbw : Below w.heap.size w w := Below.refl _ _
  go_enter Trym.func3, Trym.ntmps3
  go_wp2_with (first | (go_at_call 9; go_in))
  refine (chain_any _ [] 0 0 rfl (by omega) f e t el ct nf hnf w hrow).mono ?_
  rintro _ w1 ⟨b, rfl, hb1, hp1, hch1⟩
  replace hrow := hrow.below hb1
  replace hb1 := hbw.over hb1
  clear hbw
  have hpe := eql_plan
  obtain ⟨hlt, ⟨g, h0⟩, htop⟩ := top_cells hp1 hch1
  clear hrow hp1 hch1 htop
  go_wp2_with fail
  refine (zzcharge_nil b g size payload elems w1 hlt h0).mono ?_
  rintro _ w2 ⟨rfl, hb2⟩
  replace hb2 := hb1.over hb2
  go_wp2_with fail
  go_ret
  exact ⟨rfl, hb2⟩

set_option maxHeartbeats 1000000 in
set_option maxRecDepth 100000 in
theorem endv_some (x : Addr) (n cap : Nat) (zs : List Int) (f e t : Int) (nf : Nat) (el ct size payload elems cd : Int) (w : World)
    (hl : n ≤ 65536) (hnf : nf ≤ 65536) (hf : (f == 6) = false) (hcd : (cd == 0) = false)
    (hcap : n ≤ cap) (hzs : zs.length = cap) (hcell : ∀ i, i < zs.length → w.cell? (x.add i) = some (.int .i64 (zs.getD i 0))) :
    Calls Trym.prog 3 #[.slice (some x) n cap, .int .i64 f, .int .i64 e, .int .i64 t, .int .i64 (nf : Int), .int .i64 el, .int .i64 ct, .int .i64 size, .int .i64 payload, .int .i64 elems, .int .i64 cd, .bool false] w fun r w' =>
      r = .returned (.bool true) ∧ Below w.heap.size w w' := by
  have hmk := run_zeros n hl
  have hcp := fun ty => run_copied w ty x n cap zs (by omega) hcell
  have hlen : (zs.take n).length = n := by simp; omega
  have hrow := RowAt.laid w (zs.take n)
  have hbw : Below w.heap.size w (w.alloc (intsObj (zs.take n))) := (Below.refl _ _).alloc (Nat.le_refl _) _
  clear hcell hcap hzs
  go_enter Trym.func3, Trym.ntmps3
  go_wp2_with (first | (go_at_call 9; go_in))
  clear hmk hcp
  generalize zs.take n = ys at *
  generalize w.alloc (intsObj ys) = w0 at *
  refine (chain_any _ ys n n hlen hl f e t el ct nf hnf w0 hrow).mono ?_
  rintro _ w1 ⟨b, rfl, hb1, hp1, hch1⟩
  replace hrow := hrow.below hb1
  replace hb1 := hbw.over hb1
  clear hbw
  have hpe := eql_plan
  obtain ⟨hlt, ⟨g, h0⟩, htop⟩ := top_cells hp1 hch1
  clear htop hlt h0
  go_wp2_with fail
  refine (zzcharge_end b _ ys ct el f e t nf el ct size payload elems cd w1 hf hcd hch1 hp1).mono ?_
  rintro _ w2 ⟨rfl, hb2⟩
  replace hrow := hrow.below hb2
  replace hb2 := hb1.over hb2
  clear hb1 hp1 hch1
  cases hT : takesB f nf elems cd
  · have hE := spec_coarse (accS 0 ys) f nf e t el ct payload elems cd hT
    go_wp2_with (first | (go_at_call 13; refine (sum_any _ ys n n hlen hl _ hrow).mono ?_; rintro _ _ ⟨rfl, rfl⟩) | (go_at_call 14; refine (model_any _ _ _ _ _).mono ?_; rintro _ _ ⟨rfl, rfl⟩) | (go_at_call 12; refine (coarse_any _ _ _ _ _ _).mono ?_; rintro _ _ ⟨rfl, rfl⟩))
    go_ret
    exact ⟨rfl, hb2⟩
  · have hE := spec_follow (accS 0 ys) f nf e t el ct payload elems cd hT
    go_wp2_with (first | (go_at_call 13; refine (sum_any _ ys n n hlen hl _ hrow).mono ?_; rintro _ _ ⟨rfl, rfl⟩) | (go_at_call 14; refine (model_any _ _ _ _ _).mono ?_; rintro _ _ ⟨rfl, rfl⟩) | (go_at_call 15; refine (followed_any _ _ _ _ _ _).mono ?_; rintro _ _ ⟨rfl, rfl⟩))
    go_ret
    exact ⟨rfl, hb2⟩

set_option maxHeartbeats 1000000 in
set_option maxRecDepth 100000 in
theorem endv_nil (f e t : Int) (nf : Nat) (el ct size payload elems cd : Int) (w : World)
    (hnf : nf ≤ 65536) (hf : (f == 6) = false) (hcd : (cd == 0) = false) :
    Calls Trym.prog 3 #[.slice none 0 0, .int .i64 f, .int .i64 e, .int .i64 t, .int .i64 (nf : Int), .int .i64 el, .int .i64 ct, .int .i64 size, .int .i64 payload, .int .i64 elems, .int .i64 cd, .bool false] w fun r w' =>
      r = .returned (.bool true) ∧ Below w.heap.size w w' := by
  have hrow : RowAt w none [] := .inl ⟨rfl, rfl⟩
  have hbw : Below w.heap.size w w := Below.refl _ _
  go_enter Trym.func3, Trym.ntmps3
  go_wp2_with (first | (go_at_call 9; go_in))
  refine (chain_any _ [] 0 0 rfl (by omega) f e t el ct nf hnf w hrow).mono ?_
  rintro _ w1 ⟨b, rfl, hb1, hp1, hch1⟩
  replace hrow := hrow.below hb1
  replace hb1 := hbw.over hb1
  clear hbw
  have hpe := eql_plan
  obtain ⟨hlt, ⟨g, h0⟩, htop⟩ := top_cells hp1 hch1
  clear htop hlt h0
  go_wp2_with fail
  refine (zzcharge_end b _ [] ct el f e t nf el ct size payload elems cd w1 hf hcd hch1 hp1).mono ?_
  rintro _ w2 ⟨rfl, hb2⟩
  replace hrow := hrow.below hb2
  replace hb2 := hb1.over hb2
  clear hb1 hp1 hch1
  cases hT : takesB f nf elems cd
  · have hE := spec_coarse (accS 0 []) f nf e t el ct payload elems cd hT
    go_wp2_with (first | (go_at_call 13; refine (sum_any _ [] 0 0 rfl (by omega) _ hrow).mono ?_; rintro _ _ ⟨rfl, rfl⟩) | (go_at_call 14; refine (model_any _ _ _ _ _).mono ?_; rintro _ _ ⟨rfl, rfl⟩) | (go_at_call 12; refine (coarse_any _ _ _ _ _ _).mono ?_; rintro _ _ ⟨rfl, rfl⟩))
    go_ret
    exact ⟨rfl, hb2⟩
  · have hE := spec_follow (accS 0 []) f nf e t el ct payload elems cd hT
    go_wp2_with (first | (go_at_call 13; refine (sum_any _ [] 0 0 rfl (by omega) _ hrow).mono ?_; rintro _ _ ⟨rfl, rfl⟩) | (go_at_call 14; refine (model_any _ _ _ _ _).mono ?_; rintro _ _ ⟨rfl, rfl⟩) | (go_at_call 15; refine (followed_any _ _ _ _ _ _).mono ?_; rintro _ _ ⟨rfl, rfl⟩))
    go_ret
    exact ⟨rfl, hb2⟩

set_option maxHeartbeats 1000000 in
set_option maxRecDepth 100000 in
theorem spec_out (a : Option Addr) (n cap : Nat) (f e t nf el ct size payload elems cd : Int) (lo : Bool) (w : World)
    (h : 65536 < n ∨ nf < 0 ∨ 65536 < nf ∨ f = 6) :
    Calls Trym.prog 3 #[.slice a n cap, .int .i64 f, .int .i64 e, .int .i64 t, .int .i64 nf, .int .i64 el, .int .i64 ct, .int .i64 size, .int .i64 payload, .int .i64 elems, .int .i64 cd, .bool lo] w fun r w' =>
      r = .returned (.bool true) ∧ Below w.heap.size w w' := by
  by_cases h1 : 1048576 < n
  · go_enter Trym.func3, Trym.ntmps3
    go_wp2_with (first | (go_at_call 9; go_in))
    go_ret
    exact ⟨rfl, Below.refl _ _⟩
  by_cases h2 : 65536 < n
  · go_enter Trym.func3, Trym.ntmps3
    go_wp2_with (first | (go_at_call 9; go_in))
    go_ret
    exact ⟨rfl, Below.refl _ _⟩
  by_cases h3 : nf < 0
  · go_enter Trym.func3, Trym.ntmps3
    go_wp2_with (first | (go_at_call 9; go_in))
    go_ret
    exact ⟨rfl, Below.refl _ _⟩
  by_cases h4 : 65536 < nf
  · go_enter Trym.func3, Trym.ntmps3
    go_wp2_with (first | (go_at_call 9; go_in))
    go_ret
    exact ⟨rfl, Below.refl _ _⟩
  obtain rfl : f = 6 := by omega
  go_enter Trym.func3, Trym.ntmps3
  go_wp2_with (first | (go_at_call 9; go_in))
  go_ret
  exact ⟨rfl, Below.refl _ _⟩

theorem spec_any (a : Option Addr) (n cap : Nat) (zs : List Int) (f e t nf el ct size payload elems cd : Int) (lo : Bool) (w : World) (hr : RowIn w a n cap zs) :
    Calls Trym.prog 3 #[.slice a n cap, .int .i64 f, .int .i64 e, .int .i64 t, .int .i64 nf, .int .i64 el, .int .i64 ct, .int .i64 size, .int .i64 payload, .int .i64 elems, .int .i64 cd, .bool lo] w fun r w' =>
      r = .returned (.bool true) ∧ Below w.heap.size w w' := by
  by_cases h : 65536 < n ∨ nf < 0 ∨ 65536 < nf ∨ f = 6
  · exact spec_out a n cap f e t nf el ct size payload elems cd lo w h
  obtain ⟨m, rfl⟩ := Int.eq_ofNat_of_zero_le (show 0 ≤ nf by omega)
  have hf : (f == 6) = false := by simp; omega
  rcases hr with ⟨rfl, rfl, rfl, rfl⟩ | ⟨x, rfl, h1, h2, h3⟩
  · cases lo with
    | true => exact loose_nil f e t m el ct size payload elems cd w (by omega) hf
    | false =>
      cases hcd : (cd == 0) with
      | false => exact endv_nil f e t m el ct size payload elems cd w (by omega) hf hcd
      | true =>
        obtain rfl : cd = 0 := by simpa using hcd
        exact nilv_nil f e t m el ct size payload elems w (by omega) hf
  · cases lo with
    | true => exact loose_some x n cap zs f e t m el ct size payload elems cd w (by omega) (by omega) hf h1 h2 h3
    | false =>
      cases hcd : (cd == 0) with
      | false => exact endv_some x n cap zs f e t m el ct size payload elems cd w (by omega) (by omega) hf hcd h1 h2 h3
      | true =>
        obtain rfl : cd = 0 := by simpa using hcd
        exact nilv_some x n cap zs f e t m el ct size payload elems w (by omega) (by omega) hf h1 h2 h3

end Go.Proofs.Qxb6602336aMods.Plan
