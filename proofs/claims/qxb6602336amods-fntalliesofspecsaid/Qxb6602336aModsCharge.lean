import Derived.Test.Qxb6602336aModsChain
import Derived.Deep.RegionHeld3
import Derived.Deep.DrawnRows
namespace Go.Proofs.Qxb6602336aMods.Plan
open Go.RowKit
set_option linter.unusedVariables false
attribute [local go_sem ↓] Go.wp_at_zero Go.wp_at_succ

theorem bcell {W w1 : World} (hb : Below W.heap.size W w1) : ∀ b o, b < W.heap.size → w1.cell? ⟨b, o, none⟩ = W.cell? ⟨b, o, none⟩ :=
  fun b o h => hb.cell (p := ⟨b, o, none⟩) h

theorem _root_.Go.RowKit.Below.over {w w1 w2 : World} (h1 : Below w.heap.size w w1) (h2 : Below w1.heap.size w1 w2) : Below w.heap.size w w2 := h1.trans (h2.mono h1.size)
theorem kwrap (x : Int) : IntKind.i64.wrap x = wrap64 x := by rw [IntKind.wrap_i64]; unfold wrap64; rfl
theorem coarse_kwrap (cd p q el ct : Int) : IntKind.i64.wrap (coarseD cd p q el ct) = coarseD cd p q el ct := by
  rw [kwrap, coarseD, lin, wrap64_idem]

set_option maxHeartbeats 1000000 in
/-- charge, loose: at the plan's own coarse bound. -/
theorem charge_loose (b : Nat) (el ct size payload elems cd : Int) (w : World) (hb : b < w.heap.size)
    (h6 : w.cell? ⟨b, 6, none⟩ = some (.int .i64 el)) (h7 : w.cell? ⟨b, 7, none⟩ = some (.int .i64 ct)) :
    Calls Trym.prog 30 #[.pointer (some ⟨b, 0, none⟩), .agg #[.int .i64 size, .int .i64 payload, .int .i64 elems, .int .i64 cd], .bool true] w fun r w' =>
      r = .returned (.tuple #[.pointer (some ⟨b, 0, none⟩), .bool true, .int .i64 (coarseD cd payload elems el ct)]) ∧ Below w.heap.size w w' := by
  have hne : ¬ b = w.heap.size := by omega
  have hlt : b < w.heap.size + 1 := by omega
  have hkw := coarse_kwrap cd payload elems el ct
  go_enter Trym.func30, Trym.ntmps30
  go_wp2_with fail
  go_loop [0, 9] (fun p c => p = .pointer (some ⟨b, 0, none⟩) ∧ c = .int .i64 0) (fun _ _ => 0)
  case atStart => exact ⟨rfl, rfl⟩
  case round =>
    obtain ⟨rfl, rfl⟩ := hrel
    go_wp2_with fail
    go_region_held3 (fun w' => w'.cell? ⟨b, 6, none⟩ = some (.int .i64 el) ∧ w'.cell? ⟨b, 7, none⟩ = some (.int .i64 ct) ∧ w'.cell? ⟨w.heap.size, 0, none⟩ = some (.int .i64 size) ∧ w'.cell? ⟨w.heap.size, 1, none⟩ = some (.int .i64 payload) ∧ w'.cell? ⟨w.heap.size, 2, none⟩ = some (.int .i64 elems) ∧ w'.cell? ⟨w.heap.size, 3, none⟩ = some (.int .i64 cd)) (go_keep)
      (first | (go_at_call 35; refine (bound_any el ct size payload elems cd _).mono ?_; rintro e w2 ⟨rfl, hb2⟩; have hc2 := bcell hb2))
    go_wp2
    go_ret3
    exact ⟨rfl, (((Below.refl _ _).alloc (Nat.le_refl _) _).drew).over hb2⟩

def blkOf : Value → Nat
  | .pointer (some a) => a.block
  | _ => 0

/-- What the end of a chain adds: by the form where the plan takes the header, else its coarse charge. -/
def endD (f : Int) (n : Nat) (e t el ct payload elems cd : Int) : Int :=
  if takesB f n elems cd = true then followD f payload elems e t else coarseD cd payload elems el ct

set_option maxHeartbeats 2000000 in
theorem charge_end (b T : Nat) (zs : List Int) (x y f e t : Int) (n : Nat) (el ct size payload elems cd : Int) (w : World) (hf : (f == 6) = false) (hcd : (cd == 0) = false)
    (hch : ChainAt w T x y b zs) (hp : PlanFull w T f e t n el ct) :
    Calls Trym.prog 30 #[.pointer (some ⟨b, 0, none⟩), .agg #[.int .i64 size, .int .i64 payload, .int .i64 elems, .int .i64 cd], .bool false] w fun r w' =>
      r = .returned (.tuple #[.pointer (some ⟨T, 0, none⟩), .bool (!takesB f n elems cd), .int .i64 (wrap64 (accS 0 zs + endD f n e t el ct payload elems cd))]) ∧ Below w.heap.size w w' := by
  have hcd' : (cd != 0) = true := by simpa using hcd
  go_enter Trym.func30, Trym.ntmps30
  go_wp2_with fail
  go_loop [0, 9] (fun p c => ∃ (b' : Nat) (l : List Int) (q : Int), p = .pointer (some ⟨b', 0, none⟩) ∧ c = .int .i64 q ∧ ChainAt w T x y b' l ∧ Hid (accS q l = accS 0 zs) ∧ Hid (wrap64 q = q)) (fun p _ => blkOf p)
  case atStart => exact ⟨b, zs, 0, rfl, rfl, hch, rfl, wrap64_zero⟩
  case round =>
    obtain ⟨b', l, q, rfl, rfl, hc, HS, HQ⟩ := hrel
    cases l with
    | cons z l =>
      obtain ⟨hB, h0, h1, h6, h7, b2, hlt, h3, hc2⟩ := hc
      have hne : ¬ b' = w.heap.size := by omega
      have HS2 : Hid (accS (wrap64 (q + z)) l = accS 0 zs) := HS
      have HC : Hid (ChainAt w T x y b2 l) := hc2
      clear hch hp hc2 HS h6 h7
      go_wp2
      exact ⟨⟨b2, l, _, rfl, rfl, HC.out, HS2, wrap64_idem _⟩, hlt⟩
    | nil =>
      have hbT : b' = T := hc
      subst hbT
      have HS2 : Hid (q = accS 0 zs) := HS
      have hpw := hp
      obtain ⟨⟨hB, h0, av, cap, h5⟩, h1, h2, h6, h7⟩ := hp
      have hne : ¬ b' = w.heap.size := by omega
      clear hc HS hch
      have hbx : ∀ H, Below w.heap.size w (w.alloc H) := fun H => (Below.refl _ _).alloc (Nat.le_refl _) _
      cases hT : takesB f n elems cd
      · have HD : Hid (endD f n e t el ct payload elems cd = coarseD cd payload elems el ct) := by unfold Hid endD; rw [hT]; simp
        go_wp2_with fail
        refine (takes_any b' f av n cap size payload elems cd _ (by simp; omega) (by rw [(hbx _).cell (p := ⟨b', 0, none⟩) hB]; exact h0) (by rw [(hbx _).cell (p := ⟨b', 5, none⟩) hB]; exact h5)).mono ?_
        rintro _ w3 ⟨rfl, hb3⟩
        have k0 : w3.cell? ⟨b', 0, none⟩ = some (.int .i64 f) := by rw [hb3.cell (p := ⟨b', 0, none⟩) (by simp; omega), (hbx _).cell (p := ⟨b', 0, none⟩) hB]; exact h0
        have k1 : w3.cell? ⟨b', 1, none⟩ = some (.int .i64 e) := by rw [hb3.cell (p := ⟨b', 1, none⟩) (by simp; omega), (hbx _).cell (p := ⟨b', 1, none⟩) hB]; exact h1
        have k2 : w3.cell? ⟨b', 2, none⟩ = some (.int .i64 t) := by rw [hb3.cell (p := ⟨b', 2, none⟩) (by simp; omega), (hbx _).cell (p := ⟨b', 2, none⟩) hB]; exact h2
        have k6 : w3.cell? ⟨b', 6, none⟩ = some (.int .i64 el) := by rw [hb3.cell (p := ⟨b', 6, none⟩) (by simp; omega), (hbx _).cell (p := ⟨b', 6, none⟩) hB]; exact h6
        have k7 : w3.cell? ⟨b', 7, none⟩ = some (.int .i64 ct) := by rw [hb3.cell (p := ⟨b', 7, none⟩) (by simp; omega), (hbx _).cell (p := ⟨b', 7, none⟩) hB]; exact h7
        have j0 : w3.cell? ⟨w.heap.size, 0, none⟩ = some (.int .i64 size) := by rw [hb3.cell (p := ⟨w.heap.size, 0, none⟩) (by simp)]; simp [go_sem]
        have j1 : w3.cell? ⟨w.heap.size, 1, none⟩ = some (.int .i64 payload) := by rw [hb3.cell (p := ⟨w.heap.size, 1, none⟩) (by simp)]; simp [go_sem]
        have j2 : w3.cell? ⟨w.heap.size, 2, none⟩ = some (.int .i64 elems) := by rw [hb3.cell (p := ⟨w.heap.size, 2, none⟩) (by simp)]; simp [go_sem]
        have j3 : w3.cell? ⟨w.heap.size, 3, none⟩ = some (.int .i64 cd) := by rw [hb3.cell (p := ⟨w.heap.size, 3, none⟩) (by simp)]; simp [go_sem]
        have hz3 : w.heap.size < w3.heap.size := by have := hb3.size; simp at this; omega
        have hz4 : b' < w3.heap.size := by omega
        replace hb3 := (hbx _).over hb3
        clear h0 h1 h2 h5 h6 h7 hpw hbx
        go_wp2_with fail
        go_region_held3 (fun w' => w'.cell? ⟨b', 6, none⟩ = some (.int .i64 el) ∧ w'.cell? ⟨b', 7, none⟩ = some (.int .i64 ct) ∧ w'.cell? ⟨w.heap.size, 0, none⟩ = some (.int .i64 size) ∧ w'.cell? ⟨w.heap.size, 1, none⟩ = some (.int .i64 payload) ∧ w'.cell? ⟨w.heap.size, 2, none⟩ = some (.int .i64 elems) ∧ w'.cell? ⟨w.heap.size, 3, none⟩ = some (.int .i64 cd)) (go_keep)
          (first | (go_at_call 35; refine (bound_any el ct size payload elems cd _).mono ?_; rintro e w2 ⟨rfl, hb2⟩; have hc2 : ∀ b o, b < w3.heap.size → w2.cell? ⟨b, o, none⟩ = w3.cell? ⟨b, o, none⟩ := fun b o h => hb2.cell (p := ⟨b, o, none⟩) h))
        go_wp2
        go_ret3
        exact ⟨by rw [HD.out, ← HS2.out, ← kwrap, hT]; rfl, (hb3.drew).over hb2⟩
      · have HD : Hid (endD f n e t el ct payload elems cd = followD f payload elems e t) := by unfold Hid endD; rw [hT]; simp
        go_wp2_with fail
        refine (takes_any b' f av n cap size payload elems cd _ (by simp; omega) (by rw [(hbx _).cell (p := ⟨b', 0, none⟩) hB]; exact h0) (by rw [(hbx _).cell (p := ⟨b', 5, none⟩) hB]; exact h5)).mono ?_
        rintro _ w3 ⟨rfl, hb3⟩
        have k0 : w3.cell? ⟨b', 0, none⟩ = some (.int .i64 f) := by rw [hb3.cell (p := ⟨b', 0, none⟩) (by simp; omega), (hbx _).cell (p := ⟨b', 0, none⟩) hB]; exact h0
        have k1 : w3.cell? ⟨b', 1, none⟩ = some (.int .i64 e) := by rw [hb3.cell (p := ⟨b', 1, none⟩) (by simp; omega), (hbx _).cell (p := ⟨b', 1, none⟩) hB]; exact h1
        have k2 : w3.cell? ⟨b', 2, none⟩ = some (.int .i64 t) := by rw [hb3.cell (p := ⟨b', 2, none⟩) (by simp; omega), (hbx _).cell (p := ⟨b', 2, none⟩) hB]; exact h2
        have k6 : w3.cell? ⟨b', 6, none⟩ = some (.int .i64 el) := by rw [hb3.cell (p := ⟨b', 6, none⟩) (by simp; omega), (hbx _).cell (p := ⟨b', 6, none⟩) hB]; exact h6
        have k7 : w3.cell? ⟨b', 7, none⟩ = some (.int .i64 ct) := by rw [hb3.cell (p := ⟨b', 7, none⟩) (by simp; omega), (hbx _).cell (p := ⟨b', 7, none⟩) hB]; exact h7
        have j0 : w3.cell? ⟨w.heap.size, 0, none⟩ = some (.int .i64 size) := by rw [hb3.cell (p := ⟨w.heap.size, 0, none⟩) (by simp)]; simp [go_sem]
        have j1 : w3.cell? ⟨w.heap.size, 1, none⟩ = some (.int .i64 payload) := by rw [hb3.cell (p := ⟨w.heap.size, 1, none⟩) (by simp)]; simp [go_sem]
        have j2 : w3.cell? ⟨w.heap.size, 2, none⟩ = some (.int .i64 elems) := by rw [hb3.cell (p := ⟨w.heap.size, 2, none⟩) (by simp)]; simp [go_sem]
        have j3 : w3.cell? ⟨w.heap.size, 3, none⟩ = some (.int .i64 cd) := by rw [hb3.cell (p := ⟨w.heap.size, 3, none⟩) (by simp)]; simp [go_sem]
        have hz3 : w.heap.size < w3.heap.size := by have := hb3.size; simp at this; omega
        have hz4 : b' < w3.heap.size := by omega
        replace hb3 := (hbx _).over hb3
        clear h0 h1 h2 h5 h6 h7 hpw hbx
        by_cases c2 : f = 2
        · subst c2
          have HF := follow_2 payload elems e t
          have HX : Hid (followD 2 payload elems e t = wrap64 ((wrap64 (payload * 11)).tdiv 4)) := HF
          clear HF
          go_wp2_with fail
          go_ret3
          exact ⟨by rw [HD.out, ← HS2.out, HX.out, hT]; rfl, hb3⟩
        by_cases c3 : f = 3
        · subst c3
          have HX : Hid (followD 3 payload elems e t = wrap64 ((wrap64 (payload * 9)).tdiv 8)) := follow_3 payload elems e t
          go_wp2_with fail
          go_ret3
          exact ⟨by rw [HD.out, ← HS2.out, HX.out, hT]; rfl, hb3⟩
        by_cases c4 : f = 4
        · subst c4
          have HX : Hid (followD 4 payload elems e t = wrap64 (elems * e)) := follow_4 payload elems e t
          go_wp2_with fail
          go_quiet (fail)
          go_wp2_with fail
          go_ret3
          exact ⟨by rw [HD.out, ← HS2.out, HX.out, hT]; rfl, below_drewN hb3 _⟩
        by_cases c5 : f = 5
        · subst c5
          have HX : Hid (followD 5 payload elems e t = wrap64 (t + wrap64 (elems * e))) := follow_5 payload elems e t
          go_wp2_with fail
          go_quiet (fail)
          go_wp2_with fail
          go_ret3
          exact ⟨by rw [HD.out, ← HS2.out, HX.out, hT]; rfl, below_drewN hb3 _⟩
        have d2 : (f == 2) = false := by simpa using c2
        have d3 : (f == 3) = false := by simpa using c3
        have d4 : (f == 4) = false := by simpa using c4
        have d5 : (f == 5) = false := by simpa using c5
        by_cases c7 : f = 7
        · subst c7
          have HX : Hid (followD 7 payload elems e t = 32) := follow_7 payload elems e t
          go_wp2_with fail
          go_ret3
          exact ⟨by rw [HD.out, ← HS2.out, HX.out, hT]; rfl, hb3⟩
        have d7 : (f == 7) = false := by simpa using c7
        have HX : Hid (followD f payload elems e t = 0) := follow_0 f payload elems e t c2 c3 c4 c5 c7
        go_wp2_with fail
        go_ret3
        exact ⟨by rw [HD.out, ← HS2.out, HX.out, Int.add_zero, HQ.out, hT]; rfl, hb3⟩
end Go.Proofs.Qxb6602336aMods.Plan
