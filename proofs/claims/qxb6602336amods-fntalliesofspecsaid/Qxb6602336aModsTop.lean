import Derived.Test.Qxb6602336aModsCharge
import Derived.LaidEqlPtr
namespace Go.Proofs.Qxb6602336aMods.Plan
open Go.RowKit
set_option linter.unusedVariables false

set_option maxHeartbeats 400000 in
/-- takes, nil: every plan. -/
theorem takes_nil (v : Value) (size payload elems : Int) (w : World) :
    Calls Trym.prog 33 #[v, .agg #[.int .i64 size, .int .i64 payload, .int .i64 elems, .int .i64 0]] w fun r w' =>
      r = .returned (.bool true) ∧ Below w.heap.size w w' := by
  go_enter Trym.func33, Trym.ntmps33
  go_wp2
  go_ret
  exact ⟨rfl, (Below.refl _ _).alloc (Nat.le_refl _) _⟩

set_option maxHeartbeats 1000000 in
/-- charge, nil, not loose: the plan itself, nothing. -/
theorem charge_nil (b : Nat) (f size payload elems : Int) (w : World) (hb : b < w.heap.size) (h0 : w.cell? ⟨b, 0, none⟩ = some (.int .i64 f)) :
    Calls Trym.prog 30 #[.pointer (some ⟨b, 0, none⟩), .agg #[.int .i64 size, .int .i64 payload, .int .i64 elems, .int .i64 0], .bool false] w fun r w' =>
      r = .returned (.tuple #[.pointer (some ⟨b, 0, none⟩), .bool false, .int .i64 0]) ∧ Below w.heap.size w w' := by
  have hne : ¬ b = w.heap.size := by omega
  have hbx : ∀ H, Below w.heap.size w (w.alloc H) := fun H => (Below.refl _ _).alloc (Nat.le_refl _) _
  cases h6 : (f == 6)
  all_goals
    go_enter Trym.func30, Trym.ntmps30
    go_wp2_with fail
    go_loop [0, 9] (fun p c => p = .pointer (some ⟨b, 0, none⟩) ∧ c = .int .i64 0) (fun _ _ => 0)
    case atStart => exact ⟨rfl, rfl⟩
    case round =>
      obtain ⟨rfl, rfl⟩ := hrel
      go_wp2_with fail
      refine (takes_nil _ size payload elems _).mono ?_
      rintro _ w3 ⟨rfl, hb3⟩
      have j3 : w3.cell? ⟨w.heap.size, 3, none⟩ = some (.int .i64 0) := by rw [hb3.cell (p := ⟨w.heap.size, 3, none⟩) (by simp)]; simp [go_sem]
      replace hb3 := (hbx _).over hb3
      go_wp2_with fail
      go_ret3
      exact ⟨rfl, hb3⟩

set_option maxHeartbeats 400000 in
theorem zzcharge_loose (b : Nat) (el ct size payload elems cd : Int) (w : World) (hb : b < w.heap.size)
    (h6 : w.cell? ⟨b, 6, none⟩ = some (.int .i64 el)) (h7 : w.cell? ⟨b, 7, none⟩ = some (.int .i64 ct)) :
    Calls Trym.prog 11 #[.pointer (some ⟨b, 0, none⟩), .int .i64 size, .int .i64 payload, .int .i64 elems, .int .i64 cd, .bool true] w fun r w' =>
      r = .returned (.tuple #[.pointer (some ⟨b, 0, none⟩), .bool true, .int .i64 (coarseD cd payload elems el ct)]) ∧ Below w.heap.size w w' := by
  go_enter Trym.func11, Trym.ntmps11
  go_wp2_with fail
  refine (charge_loose b el ct size payload elems cd _ hb h6 h7).mono ?_
  rintro _ w3 ⟨rfl, hb3⟩
  go_wp2_with fail
  go_ret3
  exact ⟨rfl, hb3⟩

set_option maxHeartbeats 400000 in
theorem zzcharge_nil (b : Nat) (f size payload elems : Int) (w : World) (hb : b < w.heap.size) (h0 : w.cell? ⟨b, 0, none⟩ = some (.int .i64 f)) :
    Calls Trym.prog 11 #[.pointer (some ⟨b, 0, none⟩), .int .i64 size, .int .i64 payload, .int .i64 elems, .int .i64 0, .bool false] w fun r w' =>
      r = .returned (.tuple #[.pointer (some ⟨b, 0, none⟩), .bool false, .int .i64 0]) ∧ Below w.heap.size w w' := by
  go_enter Trym.func11, Trym.ntmps11
  go_wp2_with fail
  refine (charge_nil b f size payload elems _ hb h0).mono ?_
  rintro _ w3 ⟨rfl, hb3⟩
  go_wp2_with fail
  go_ret3
  exact ⟨rfl, hb3⟩

set_option maxHeartbeats 400000 in
theorem zzcharge_end (b T : Nat) (zs : List Int) (x y f e t : Int) (n : Nat) (el ct size payload elems cd : Int) (w : World) (hf : (f == 6) = false) (hcd : (cd == 0) = false)
    (hch : ChainAt w T x y b zs) (hp : PlanFull w T f e t n el ct) :
    Calls Trym.prog 11 #[.pointer (some ⟨b, 0, none⟩), .int .i64 size, .int .i64 payload, .int .i64 elems, .int .i64 cd, .bool false] w fun r w' =>
      r = .returned (.tuple #[.pointer (some ⟨T, 0, none⟩), .bool (!takesB f n elems cd), .int .i64 (wrap64 (accS 0 zs + endD f n e t el ct payload elems cd))]) ∧ Below w.heap.size w w' := by
  go_enter Trym.func11, Trym.ntmps11
  go_wp2_with fail
  refine (charge_end b T zs x y f e t n el ct size payload elems cd _ hf hcd hch hp).mono ?_
  rintro _ w3 ⟨rfl, hb3⟩
  go_wp2_with fail
  go_ret3
  exact ⟨rfl, hb3⟩

theorem info3 : (Trym.prog.info? 3).map (fun i => (i.zero, i.size, i.bytes)) = some (some (.int .i64 0), 1, 8) := by kernel_rfl
theorem size3 : (Trym.prog.info? 3).map (·.size) = some 1 := by kernel_rfl
def zerosObj (n : Nat) : Obj := .cells (madeCells #[.int .i64 0] n) 3
def intsObj (zs : List Int) : Obj := .cells (zs.map (Value.int .i64)).toArray 3

theorem run_zeros (n : Nat) (hn : n ≤ 65536) (w : World) :
    (Instr.makeSlice 22 (.int .i64 (n : Int)) (.int .i64 (n : Int))).run Trym.prog w = .ok (.slice (some ⟨w.heap.size, 0, none⟩) n n) (w.alloc (zerosObj n)) := by
  obtain ⟨i, hi, hz0, hz1, hz2⟩ := info_parts info3
  have h := run_make (P := Trym.prog) w 22 3 i (.int .i64 0) Trym.underlying22 hi hz0 .i64 .i64 n n (by omega) (by omega) (by rw [hz2]; omega) (by omega)
  rw [hz1] at h
  simpa [zerosObj, Value.cells] using h

theorem setRow_last (w : World) (cur cs : Array Value) (t : TypeId) : (w.alloc (.cells cur t)).setRow w.heap.size cs = w.alloc (.cells cs t) := by
  unfold World.setRow World.alloc
  congr 1
  apply Array.ext
  · simp
  · intro k h1 h2
    simp only [Array.getElem_modify]
    split
    · rename_i hk; subst hk; simp
    · have hk : k < w.heap.size := by simp at h2; omega
      simp [Array.getElem_push, hk]

theorem run_copied (w : World) (ty : TypeId) (x : Addr) (n cap : Nat) (zs : List Int) (hn : n ≤ zs.length) (hcell : ∀ i, i < zs.length → w.cell? (x.add i) = some (.int .i64 (zs.getD i 0))) :
    (Builtin.copy_ #[22, 22] ty #[.slice (some ⟨w.heap.size, 0, none⟩) n n, .slice (some x) n cap]).run Trym.prog (w.alloc (zerosObj n)) = .ok (goInt n) (w.alloc (intsObj (zs.take n))) := by
  have hb : ∀ H, Below w.heap.size w (w.alloc H) := fun H => (Below.refl _ _).alloc (Nat.le_refl _) _
  have h := run_copy_row Trym.prog (w.alloc (zerosObj n)) 22 22 ty 3 w.heap.size 0 n n x n cap (madeCells #[.int .i64 0] n) 3 ((zs.take n).map (Value.int .i64)) Trym.underlying22 size3
    (by show (w.heap.push _)[w.heap.size]? = _; simp [zerosObj]) (by show _ = min n n; simp [Nat.min_eq_left hn]) ?_ (by simp [size_madeCells]; omega) (ints_oneCell .i64 _)
  · rw [h]
    have e1 : ((zs.take n).map (Value.int .i64)).length = n := by simp [Nat.min_eq_left hn]
    rw [e1]
    have e2 : (madeCells #[Value.int .i64 0] n).toList.drop (0 + n) = [] := List.drop_of_length_le (by simp [size_madeCells])
    rw [e2]
    simp only [List.take_zero, List.nil_append, List.append_nil]
    rw [zerosObj, setRow_last]
    rfl
  · intro j v hj
    have hlt : j < ((zs.take n).map (Value.int .i64)).length := (List.getElem?_eq_some_iff.1 hj).1
    have hjn : j < n := by simp at hlt; omega
    have e : ((zs.take n).map (Value.int .i64))[j]? = some (.int .i64 (zs.getD j 0)) := by
      simp [hjn, List.getD, show j < zs.length by omega]
    rw [e] at hj
    have hc := hcell j (by omega)
    obtain rfl := Option.some.inj hj
    have hxb : (x.add j).block < w.heap.size := World.block_lt_of_cell? w _ hc
    rw [(hb _).cell hxb]
    exact hc

/-- A slice of ints as it came in (IsRow of the shell): at any address. -/
def RowIn (w : World) (a : Option Addr) (n cap : Nat) (zs : List Int) : Prop :=
  (a = none ∧ n = 0 ∧ cap = 0 ∧ zs = []) ∨ ∃ x, a = some x ∧ n ≤ cap ∧ zs.length = cap ∧ ∀ i, i < zs.length → w.cell? (x.add i) = some (.int .i64 (zs.getD i 0))

theorem RowAt.laid (w : World) (zs : List Int) : RowAt (w.alloc (intsObj zs)) (some ⟨w.heap.size, 0, none⟩) zs := by
  refine .inr ⟨w.heap.size, rfl, by simp, fun i hi => ?_⟩
  simp [intsObj, go_sem, hi, List.getD]

theorem some61 : ∃ j, Trym.prog.info? 61 = some j := by
  have h : (Trym.prog.info? 61).isSome = true := by kernel_rfl
  exact Option.isSome_iff_exists.1 h
theorem eql_plan (w : World) (a : Addr) : (binOp .eql 24 (.pointer (some a)) (.pointer (some a))).run Trym.prog w = .ok (.bool true) w := by
  obtain ⟨j, hj⟩ := some61
  exact run_eql_ptr_same w a Trym.underlying24 hj

theorem transp_sum (S D : Int) : (wrap64 (S + D) == wrap64 (S + wrap64 (accS 0 [] + D))) = true := by
  have e : accS 0 [] = 0 := rfl
  rw [e, Int.zero_add, wrap64_add]
  simp

set_option maxHeartbeats 1000000 in
theorem transp_some (x : Addr) (n cap : Nat) (zs : List Int) (f e t : Int) (nf : Nat) (el ct size payload elems cd : Int) (w : World)
    (hl : n ≤ 65536) (hnf : nf ≤ 65536) (hf : (f == 6) = false) (hcd : (cd == 0) = false)
    (hcap : n ≤ cap) (hzs : zs.length = cap) (hcell : ∀ i, i < zs.length → w.cell? (x.add i) = some (.int .i64 (zs.getD i 0))) :
    Calls Trym.prog 4 #[.slice (some x) n cap, .int .i64 f, .int .i64 e, .int .i64 t, .int .i64 (nf : Int), .int .i64 el, .int .i64 ct, .int .i64 size, .int .i64 payload, .int .i64 elems, .int .i64 cd] w fun r w' =>
      r = .returned (.bool true) ∧ Below w.heap.size w w' := by
  have hmk := run_zeros n hl
  have hcp := fun ty => run_copied w ty x n cap zs (by omega) hcell
  have hlen : (zs.take n).length = n := by simp; omega
  have hrow := RowAt.laid w (zs.take n)
  have hbw : Below w.heap.size w (w.alloc (intsObj (zs.take n))) := (Below.refl _ _).alloc (Nat.le_refl _) _
  clear hcell hcap hzs
  go_enter Trym.func4, Trym.ntmps4
  go_wp2_with (first | (go_at_call 16; go_in))
  clear hmk hcp
  generalize zs.take n = ys at *
  generalize w.alloc (intsObj ys) = w0 at *
  refine (chain_any _ ys n n hlen hl f e t el ct nf hnf w0 hrow).mono ?_
  rintro _ w1 ⟨b, rfl, hb1, hp1, hch1⟩
  replace hrow := hrow.below hb1
  replace hb1 := hbw.over hb1
  clear hbw
  go_wp2_with fail
  refine (make_any f e t el ct nf hnf w1).mono ?_
  rintro _ w2 ⟨rfl, hw2⟩
  have hb2 : Below w1.heap.size w1 w2 := by rw [hw2]; exact ((Below.refl _ _).alloc (Nat.le_refl _) _).alloc (by simp) _
  have hq2 : PlanFull w2 (w1.heap.size + 1) f e t nf el ct := by rw [hw2]; exact PlanFull.made _ _ _ _ _ _ _ _ rfl _ _
  clear hw2
  replace hrow := hrow.below hb2
  replace hp1 := hp1.below hb2
  replace hch1 := ChainAt.below hb2 hch1
  replace hb2 := hb1.over hb2
  clear hb1
  go_wp2_with fail
  refine (zzcharge_end b _ ys ct el f e t nf el ct size payload elems cd w2 hf hcd hch1 hp1).mono ?_
  rintro _ w3 ⟨rfl, hb3⟩
  replace hrow := hrow.below hb3
  replace hq2 := hq2.below hb3
  replace hb3 := hb2.over hb3
  clear hb2 hp1 hch1
  go_wp2_with fail
  refine (zzcharge_end (w1.heap.size + 1) (w1.heap.size + 1) [] ct el f e t nf el ct size payload elems cd w3 hf hcd rfl hq2).mono ?_
  rintro _ w4 ⟨rfl, hb4⟩
  replace hrow := hrow.below hb4
  replace hb4 := hb3.over hb4
  clear hb3 hq2
  have hpe := eql_plan
  have hE := transp_sum (accS 0 ys) (endD f nf e t el ct payload elems cd)
  go_wp2_with (first | (go_at_call 13; refine (sum_any _ ys n n hlen hl _ hrow).mono ?_; rintro _ _ ⟨rfl, rfl⟩))
  go_ret
  exact ⟨rfl, hb4⟩

set_option maxHeartbeats 1000000 in
theorem transp_nil (f e t : Int) (nf : Nat) (el ct size payload elems cd : Int) (w : World)
    (hnf : nf ≤ 65536) (hf : (f == 6) = false) (hcd : (cd == 0) = false) :
    Calls Trym.prog 4 #[.slice none 0 0, .int .i64 f, .int .i64 e, .int .i64 t, .int .i64 (nf : Int), .int .i64 el, .int .i64 ct, .int .i64 size, .int .i64 payload, .int .i64 elems, .int .i64 cd] w fun r w' =>
      r = .returned (.bool true) ∧ Below w.heap.size w w' := by
  have hrow : RowAt w none [] := .inl ⟨rfl, rfl⟩
  have hbw : Below w.heap.size w w := Below.refl _ _
  go_enter Trym.func4, Trym.ntmps4
  go_wp2_with (first | (go_at_call 16; go_in))
  refine (chain_any _ [] 0 0 rfl (by omega) f e t el ct nf hnf w hrow).mono ?_
  rintro _ w1 ⟨b, rfl, hb1, hp1, hch1⟩
  replace hrow := hrow.below hb1
  replace hb1 := hbw.over hb1
  clear hbw
  go_wp2_with fail
  refine (make_any f e t el ct nf hnf w1).mono ?_
  rintro _ w2 ⟨rfl, hw2⟩
  have hb2 : Below w1.heap.size w1 w2 := by rw [hw2]; exact ((Below.refl _ _).alloc (Nat.le_refl _) _).alloc (by simp) _
  have hq2 : PlanFull w2 (w1.heap.size + 1) f e t nf el ct := by rw [hw2]; exact PlanFull.made _ _ _ _ _ _ _ _ rfl _ _
  clear hw2
  replace hrow := hrow.below hb2
  replace hp1 := hp1.below hb2
  replace hch1 := ChainAt.below hb2 hch1
  replace hb2 := hb1.over hb2
  clear hb1
  go_wp2_with fail
  refine (zzcharge_end b _ [] ct el f e t nf el ct size payload elems cd w2 hf hcd hch1 hp1).mono ?_
  rintro _ w3 ⟨rfl, hb3⟩
  replace hrow := hrow.below hb3
  replace hq2 := hq2.below hb3
  replace hb3 := hb2.over hb3
  clear hb2 hp1 hch1
  go_wp2_with fail
  refine (zzcharge_end (w1.heap.size + 1) (w1.heap.size + 1) [] ct el f e t nf el ct size payload elems cd w3 hf hcd rfl hq2).mono ?_
  rintro _ w4 ⟨rfl, hb4⟩
  replace hrow := hrow.below hb4
  replace hb4 := hb3.over hb4
  clear hb3 hq2
  have hpe := eql_plan
  have hE := transp_sum (accS 0 []) (endD f nf e t el ct payload elems cd)
  go_wp2_with (first | (go_at_call 13; refine (sum_any _ [] 0 0 rfl (by omega) _ hrow).mono ?_; rintro _ _ ⟨rfl, rfl⟩))
  go_ret
  exact ⟨rfl, hb4⟩

set_option maxHeartbeats 1000000 in
theorem transp_out (a : Option Addr) (n cap : Nat) (f e t nf el ct size payload elems cd : Int) (w : World)
    (h : 65536 < n ∨ nf < 0 ∨ 65536 < nf ∨ f = 6 ∨ cd = 0) :
    Calls Trym.prog 4 #[.slice a n cap, .int .i64 f, .int .i64 e, .int .i64 t, .int .i64 nf, .int .i64 el, .int .i64 ct, .int .i64 size, .int .i64 payload, .int .i64 elems, .int .i64 cd] w fun r w' =>
      r = .returned (.bool true) ∧ Below w.heap.size w w' := by
  by_cases h1 : 1048576 < n
  · go_enter Trym.func4, Trym.ntmps4
    go_wp2_with (first | (go_at_call 16; go_in))
    go_ret
    exact ⟨rfl, Below.refl _ _⟩
  by_cases h2 : 65536 < n
  · go_enter Trym.func4, Trym.ntmps4
    go_wp2_with (first | (go_at_call 16; go_in))
    go_ret
    exact ⟨rfl, Below.refl _ _⟩
  by_cases h3 : nf < 0
  · go_enter Trym.func4, Trym.ntmps4
    go_wp2_with (first | (go_at_call 16; go_in))
    go_ret
    exact ⟨rfl, Below.refl _ _⟩
  by_cases h4 : 65536 < nf
  · go_enter Trym.func4, Trym.ntmps4
    go_wp2_with (first | (go_at_call 16; go_in))
    go_ret
    exact ⟨rfl, Below.refl _ _⟩
  by_cases h5 : f = 6
  · subst h5
    go_enter Trym.func4, Trym.ntmps4
    go_wp2_with (first | (go_at_call 16; go_in))
    go_ret
    exact ⟨rfl, Below.refl _ _⟩
  obtain rfl : cd = 0 := by omega
  have h6 : (f == 6) = false := by simpa using h5
  go_enter Trym.func4, Trym.ntmps4
  go_wp2_with (first | (go_at_call 16; go_in))
  go_ret
  exact ⟨rfl, Below.refl _ _⟩

theorem transp_any (a : Option Addr) (n cap : Nat) (zs : List Int) (f e t nf el ct size payload elems cd : Int) (w : World) (hr : RowIn w a n cap zs) :
    Calls Trym.prog 4 #[.slice a n cap, .int .i64 f, .int .i64 e, .int .i64 t, .int .i64 nf, .int .i64 el, .int .i64 ct, .int .i64 size, .int .i64 payload, .int .i64 elems, .int .i64 cd] w fun r w' =>
      r = .returned (.bool true) ∧ Below w.heap.size w w' := by
  by_cases h : 65536 < n ∨ nf < 0 ∨ 65536 < nf ∨ f = 6 ∨ cd = 0
  · exact transp_out a n cap f e t nf el ct size payload elems cd w h
  · obtain ⟨m, rfl⟩ := Int.eq_ofNat_of_zero_le (show 0 ≤ nf by omega)
    rcases hr with ⟨rfl, rfl, rfl, rfl⟩ | ⟨x, rfl, h1, h2, h3⟩
    · exact transp_nil f e t m el ct size payload elems cd w (by omega) (by simp; omega) (by simp; omega)
    · exact transp_some x n cap zs f e t m el ct size payload elems cd w (by omega) (by omega) (by simp; omega) (by simp; omega) h1 h2 h3

end Go.Proofs.Qxb6602336aMods.Plan
