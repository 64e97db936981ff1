import Derived.Test.Qxb6602336aModsCost
namespace Go.Proofs.Qxb6602336aMods.Plan
open Go.RowKit
set_option linter.unusedVariables false

/-- A slice of ints, nil or at the head of a block, that reads zs. -/
def RowAt (w : World) (a : Option Addr) (zs : List Int) : Prop :=
  (a = none ∧ zs = []) ∨ ∃ B, a = some ⟨B, 0, none⟩ ∧ B < w.heap.size ∧ ∀ i, i < zs.length → w.cell? ⟨B, i, none⟩ = some (.int .i64 (zs.getD i 0))

theorem RowAt.at {w : World} {a : Option Addr} {zs : List Int} (h : RowAt w a zs) {i : Nat} (hi : i < zs.length) :
    ∃ B, a = some ⟨B, 0, none⟩ ∧ B < w.heap.size ∧ w.cell? ⟨B, i, none⟩ = some (.int .i64 (zs.getD i 0)) := by
  rcases h with ⟨_, rfl⟩ | ⟨B, h1, h2, h3⟩
  · simp at hi
  · exact ⟨B, h1, h2, h3 i hi⟩

theorem accS_step (zs : List Int) (k : Nat) (h : k < zs.length) (s : Int) : accS s (zs.drop k) = accS (wrap64 (s + zs.getD k 0)) (zs.drop (k + 1)) := by
  rw [List.drop_eq_getElem_cons h]
  simp [accS, List.getD, h]

theorem RowAt.below {w w' : World} {a : Option Addr} {zs : List Int} (h : RowAt w a zs) (hb : Below w.heap.size w w') : RowAt w' a zs := by
  rcases h with h | ⟨B, h1, h2, h3⟩
  · exact .inl h
  · exact .inr ⟨B, h1, Nat.lt_of_lt_of_le h2 hb.size, fun i hi => by rw [hb.cell (p := ⟨B, i, none⟩) h2]; exact h3 i hi⟩

set_option maxHeartbeats 400000 in
theorem sum_any (a : Option Addr) (zs : List Int) (n cap : Nat) (hn : zs.length = n) (hl : n ≤ 65536) (w : World) (h : RowAt w a zs) :
    Calls Trym.prog 13 #[.slice a n cap] w fun r w' => r = .returned (.int .i64 (accS 0 zs)) ∧ w' = w := by
  go_enter Trym.func13, Trym.ntmps13
  go_wp2
  go_loop [3, 4] (fun s i => ∃ (k : Nat) (q : Int), k ≤ n ∧ i = .int .i64 k ∧ s = .int .i64 q ∧ Hid (accS q (zs.drop k) = accS 0 zs)) (fun _ i => n - (intOf i).toNat)
  case atStart => exact ⟨0, 0, by omega, rfl, rfl, by simp [Hid]⟩
  case round =>
    obtain ⟨k, q, hk, rfl, rfl, HS⟩ := hrel
    by_cases hlt : k < n
    · obtain ⟨B, rfl, hB, hc⟩ := h.at (show k < zs.length by omega)
      have HS2 : Hid (accS (wrap64 (q + zs.getD k 0)) (zs.drop (k + 1)) = accS 0 zs) := by
        have := HS.out; rw [accS_step zs k (by omega)] at this; exact this
      clear HS
      generalize zs.getD k 0 = z at *
      have hlt' : (k : Int) < (n : Int) := by omega
      go_wp2
      exact ⟨⟨k + 1, _, by omega, by go_num, rfl, HS2⟩, by simp [intOf]; omega⟩
    · have HS2 : Hid (q = accS 0 zs) := by
        have := HS.out; rw [List.drop_of_length_le (by omega)] at this; exact this
      clear HS
      go_wp2
      go_ret
      exact ⟨ret_i64 HS2.out, rfl⟩

/-- Block b is a plan of form f with n fields, its rates and its coarse bound. -/
def PlanFull (w : World) (b : Nat) (f e t : Int) (n : Nat) (el ct : Int) : Prop :=
  PlanAt w b f n ∧ w.cell? ⟨b, 1, none⟩ = some (.int .i64 e) ∧ w.cell? ⟨b, 2, none⟩ = some (.int .i64 t) ∧ w.cell? ⟨b, 6, none⟩ = some (.int .i64 el) ∧ w.cell? ⟨b, 7, none⟩ = some (.int .i64 ct)

theorem PlanFull.below {w w' : World} {b : Nat} {f e t : Int} {n : Nat} {el ct : Int} (h : PlanFull w b f e t n el ct) (hb : Below w.heap.size w w') : PlanFull w' b f e t n el ct := by
  obtain ⟨h0, h1, h2, h6, h7⟩ := h
  have hB := h0.1
  exact ⟨h0.below hb hB, by rw [hb.cell (p := ⟨b, 1, none⟩) hB]; exact h1, by rw [hb.cell (p := ⟨b, 2, none⟩) hB]; exact h2, by rw [hb.cell (p := ⟨b, 6, none⟩) hB]; exact h6, by rw [hb.cell (p := ⟨b, 7, none⟩) hB]; exact h7⟩

theorem PlanFull.made (w : World) (f e t el ct : Int) (n B : Nat) (hB : B = w.heap.size + 1) (y : Value) (av : Option Addr) :
    PlanFull ((w.alloc (rowOf n)).alloc (planOf f e t y (.slice av n n) el ct)) B f e t n el ct := by
  refine ⟨PlanAt.made w f e t el ct n B hB y av, ?_⟩
  subst hB
  refine ⟨?_, ?_, ?_, ?_⟩ <;> simp [planOf, go_sem]

/-- From block b on: pointer plans of the charges in the list, each over the next, the last over block T; each with the coarse bound (x, y). -/
def ChainAt (w : World) (T : Nat) (x y : Int) : Nat → List Int → Prop
  | b, [] => b = T
  | b, e :: l => b < w.heap.size ∧ w.cell? ⟨b, 0, none⟩ = some (.int .i64 6) ∧ w.cell? ⟨b, 1, none⟩ = some (.int .i64 e) ∧ w.cell? ⟨b, 6, none⟩ = some (.int .i64 x) ∧ w.cell? ⟨b, 7, none⟩ = some (.int .i64 y) ∧
      ∃ b', b' < b ∧ w.cell? ⟨b, 3, none⟩ = some (.pointer (some ⟨b', 0, none⟩)) ∧ ChainAt w T x y b' l

theorem ChainAt.below {w w' : World} {T : Nat} {x y : Int} (hb : Below w.heap.size w w') : ∀ {l : List Int} {b : Nat}, ChainAt w T x y b l → ChainAt w' T x y b l
  | [], _, h => h
  | _ :: _, b, ⟨hB, h0, h1, h6, h7, b', hlt, h3, h⟩ =>
    ⟨Nat.lt_of_lt_of_le hB hb.size, by rw [hb.cell (p := ⟨b, 0, none⟩) hB]; exact h0, by rw [hb.cell (p := ⟨b, 1, none⟩) hB]; exact h1, by rw [hb.cell (p := ⟨b, 6, none⟩) hB]; exact h6,
      by rw [hb.cell (p := ⟨b, 7, none⟩) hB]; exact h7, b', hlt, by rw [hb.cell (p := ⟨b, 3, none⟩) hB]; exact h3, ChainAt.below hb h⟩

theorem ChainAt.more {w : World} {T : Nat} {x y : Int} {l : List Int} {b : Nat} (h : ChainAt w T x y b l) (hB : b < w.heap.size) (e : Int) (t : Int) (v : Value) :
    ChainAt (w.alloc (planOf 6 e t (.pointer (some ⟨b, 0, none⟩)) v x y)) T x y w.heap.size (e :: l) := by
  refine ⟨by simp, ?_, ?_, ?_, ?_, b, hB, ?_, ChainAt.below ((Below.refl _ _).alloc (Nat.le_refl _) _) h⟩ <;> simp [planOf, go_sem]

theorem ChainAt.lt {w : World} {T : Nat} {x y : Int} {l : List Int} {b : Nat} (h : ChainAt w T x y b l) (hT : T < w.heap.size) : b < w.heap.size := by
  cases l with
  | nil => have h' : b = T := h; rw [h']; exact hT
  | cons e l => exact h.1

theorem chain_drop (zs : List Int) (k : Nat) (h : k < zs.length) : zs.drop k = zs.getD k 0 :: zs.drop (k + 1) := by
  rw [List.drop_eq_getElem_cons h]
  simp [List.getD, h]

set_option maxHeartbeats 1000000 in
theorem chain_any (a : Option Addr) (zs : List Int) (n cap : Nat) (hn : zs.length = n) (hl : n ≤ 65536) (f e t el ct : Int) (nf : Nat) (hnf : nf ≤ 65536) (w : World) (h : RowAt w a zs) :
    Calls Trym.prog 10 #[.slice a n cap, .int .i64 f, .int .i64 e, .int .i64 t, .int .i64 (nf : Int), .int .i64 el, .int .i64 ct] w fun r w' =>
      ∃ b, r = .returned (.tuple #[.pointer (some ⟨b, 0, none⟩), .pointer (some ⟨w.heap.size + 1, 0, none⟩)]) ∧ Below w.heap.size w w' ∧ PlanFull w' (w.heap.size + 1) f e t nf el ct ∧ ChainAt w' (w.heap.size + 1) ct el b zs := by
  go_enter Trym.func10, Trym.ntmps10
  go_wp2_with fail
  refine (make_any f e t el ct nf hnf _).mono ?_
  rintro _ w1 ⟨rfl, hw1⟩
  have hb1 : Below w.heap.size w w1 := by rw [hw1]; exact ((Below.refl _ _).alloc (Nat.le_refl _) _).alloc (by simp) _
  have hp1 : PlanFull w1 (w.heap.size + 1) f e t nf el ct := by rw [hw1]; exact PlanFull.made _ _ _ _ _ _ _ _ rfl _ _
  clear hw1
  go_wp2_with fail
  go_loopw [17, 18] (fun p i wr => ∃ (k b : Nat), k ≤ n ∧ i = .int .i64 ((k : Int) - 1) ∧ p = .pointer (some ⟨b, 0, none⟩) ∧ Below w.heap.size w wr ∧ PlanFull wr (w.heap.size + 1) f e t nf el ct ∧ ChainAt wr (w.heap.size + 1) ct el b (zs.drop k)) (fun _ i _ => (intOf i + 1).toNat)
  case atStart => exact ⟨n, w.heap.size + 1, by omega, rfl, rfl, hb1, hp1, by rw [List.drop_of_length_le (by omega)]; rfl⟩
  case round =>
    obtain ⟨k, b, hk, rfl, rfl, hb, hp, hch⟩ := hrel
    cases k with
    | zero =>
      rw [List.drop_zero] at hch
      have HC : Hid (ChainAt wr (w.heap.size + 1) ct el b zs) := hch
      clear hch
      go_wp2
      go_ret2
      exact ⟨b, rfl, hb, hp, HC.out⟩
    | succ k =>
      obtain ⟨B, rfl, hB, hc⟩ := (h.below hb).at (show k < zs.length by omega)
      have hdr := chain_drop zs k (by omega)
      have hlt' : (k : Int) < (n : Int) := by omega
      generalize zs.getD k 0 = z at *
      have HC : ∀ v t, Hid (ChainAt (wr.alloc (planOf 6 z t (.pointer (some ⟨b, 0, none⟩)) v ct el)) (w.heap.size + 1) ct el wr.heap.size (zs.drop k)) := by
        intro v t; rw [hdr]; exact hch.more (hch.lt hp.1.1) z t v
      clear hch hdr
      go_wp2
      refine ⟨⟨k, wr.heap.size, by omega, rfl, rfl, hb.alloc hb.size _, hp.below ((Below.refl _ _).alloc (Nat.le_refl _) _), (HC (.slice none 0 0) 0).out⟩, by simp [intOf]⟩
end Go.Proofs.Qxb6602336aMods.Plan
