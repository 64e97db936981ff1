import Derived.Test.Qxb6602000aModsAgain
namespace Go.Proofs.Qxb6602000aMods.Led
open Go.RowKit
set_option linter.unusedVariables false
attribute [local simp] heapIs_drew heapIs_drewN
attribute [local go_sem ↓] ld36 ld41 ld65 st41 st65 bu41 bu65
attribute [local go_sem ↓] Go.wp_at_zero Go.wp_at_succ

/-- What own gives, and where the account lies. -/
def OwnQ (l A : Nat) (near : Option Lv) (w : World) (e : Ending) (w' : World) : Prop :=
  match near with
  | none => e = .returned (.pointer none) ∧ Below w.heap.size w w'
  | some L => ∃ c, e = .returned (.pointer (some ⟨c, 0, none⟩)) ∧ l ≤ c ∧ HeapIs w' c (.cells (accC (resL L) (resL L)) 65) ∧ HeapIs w' A (mapO (.pointer (some ⟨c, 0, none⟩))) ∧ Keeps A A w w'

theorem ownQ_any (bk A N lim lim' : Nat) (b' : Option Addr) (L0 : Lv) (Ls : List Lv) (w : World) (h1 : HeapIs w bk (bookO b' A N)) (hlb : lim' ≤ bk) (hlA : lim' ≤ A) (hh : HoldsAt w A lim lim' L0) (hch : ChainAt w lim' b' Ls) :
    Calls Trym.prog 31 #[.pointer (some ⟨bk, 0, none⟩), .agg idA] w (OwnQ lim' A (nearL (L0 :: Ls)) w) := by
  unfold HoldsAt at hh
  by_cases e : L0.holds = true
  · rw [if_pos e] at hh
    obtain ⟨q, k1, k2, k3, k4⟩ := hh
    refine (own_held bk A N q b' w h1 k3).mono ?_
    rintro e1 w' ⟨rfl, hb⟩
    simp only [nearL, e, if_true, OwnQ]
    exact ⟨q, rfl, k2, (hb.block q (lt_of k4)).trans k4, (hb.block A (lt_of k3)).trans k3, .of hb⟩
  · rw [if_neg e] at hh
    have hn : nearL (L0 :: Ls) = nearL Ls := by simp [nearL, e]
    rw [hn]
    cases b' with
    | none =>
      have hLs : Ls = [] := by
        cases Ls with
        | nil => rfl
        | cons L Ls => obtain ⟨_, _, _, _, _, h, _⟩ := hch; simp at h
      subst hLs
      refine (own_nobase bk A N w h1 hh).mono ?_
      rintro e1 w' ⟨rfl, hb⟩
      exact ⟨rfl, hb⟩
    | some a' =>
      refine (own_base bk A N lim' a' Ls w h1 hh hch (by have := lt_of h1; omega) hlb hlA).mono ?_
      rintro e1 w' (⟨hn, rfl, hb⟩ | ⟨L, c, hn, hc, rfl, g1, g2, g3, g4, g5, g6, g7⟩)
      · rw [hn]; exact ⟨rfl, hb⟩
      · rw [hn]; exact ⟨c, rfl, by have := lt_of h1; omega, g1, g2, g3, g4, g5, g6, fun k hk a _ => g7 k hk a⟩

/-- ZZOwnSet's answer. -/
def ZSetQ (l A : Nat) (near : Option Lv) (M : Lv) (w : World) (e : Ending) (w' : World) : Prop :=
  match near with
  | none => e = .returned (.bool false) ∧ Below w.heap.size w w'
  | some L => ∃ c, e = .returned (.bool true) ∧ l ≤ c ∧ HeapIs w' c (.cells (accC (resL L) (resL M)) 65) ∧ HeapIs w' A (mapO (.pointer (some ⟨c, 0, none⟩))) ∧ Keeps A c w w' ∧
      ∀ k x t, HeapIs w k (.cells x t) → t ≠ 65 → HeapIs w' k (.cells x t)

set_option maxHeartbeats 1000000 in
set_option maxRecDepth 10000 in
theorem zsetQ_any (l bk A : Nat) (near : Option Lv) (M : Lv) (w : World) (hA : ∃ a n, HeapIs w A (.map a n))
    (hown : ∀ w1, Below w.heap.size w w1 → Calls Trym.prog 31 #[.pointer (some ⟨bk, 0, none⟩), .agg idA] w1 (OwnQ l A near w1)) :
    Calls Trym.prog 25 #[.pointer (some ⟨bk, 0, none⟩), .agg idA, .agg (resL M)] w (ZSetQ l A near M w) := by
  have hAl : A < w.heap.size := by obtain ⟨_, _, h⟩ := hA; exact lt_of h
  have hAt : ∀ k x t, HeapIs w k (.cells x t) → k ≠ A := by
    rintro k x t h rfl
    obtain ⟨_, _, h2⟩ := hA
    have := h.symm.trans h2; simp at this
  have hbx : Below w.heap.size w ((w.alloc (.cells idA 36)).alloc (.cells (resL M) 41)) := ((Below.refl _ _).alloc (Nat.le_refl _) _).alloc (by simp) _
  have k0 : HeapIs ((w.alloc (.cells idA 36)).alloc (.cells (resL M) 41)) w.heap.size (.cells idA 36) := by
    unfold HeapIs; rw [Below.heap_alloc _ _ _ (by simp)]; exact heap_alloc_new _ _
  have k1 : HeapIs ((w.alloc (.cells idA 36)).alloc (.cells (resL M) 41)) (w.heap.size + 1) (.cells (resL M) 41) := heap_alloc2_new _ _ _
  have hld := ld_id _ _ k0
  have hcall := hown _ hbx
  clear hown hA
  cases near with
  | none =>
    go_enter Trym.func25, Trym.ntmps25
    go_wp2_with (first | (go_at_call 31; refine hcall.mono ?_; rintro e w2 ⟨rfl, hb2⟩))
    go_ret
    exact ⟨rfl, hbx.over hb2⟩
  | some L =>
    have HK1 : Hid (HeapIs ((w.alloc (.cells idA 36)).alloc (.cells (resL M) 41)) (w.heap.size + 1) (.cells (resL M) 41)) := k1
    clear k1
    go_enter Trym.func25, Trym.ntmps25
    go_wp2_with (first | (go_at_call 31; refine hcall.mono ?_; rintro e w2 ⟨c, rfl, hlc, hc, hm, HKp⟩; have q1 : HeapIs w2 (w.heap.size + 1) (.cells (resL M) 41) := HKp.at HK1.out (by omega) (by omega); have hl1 := ld_res w2 _ M q1; have hst := st_now w2 c L M hc))
    go_ret
    have hcA : A ≠ c := by rintro rfl; have := hc.symm.trans hm; simp [mapO] at this
    refine ⟨c, rfl, hlc, setRow_heap _ _ _ _ _ _ hc, (heapIs_setRow_ne _ _ _ _ _ hcA).2 hm, (((Keeps.of hbx).trans HKp).wide).setRow _ (.inr rfl), fun k x t hk ht => ?_⟩
    have h2 : HeapIs w2 k (.cells x t) := ((Keeps.of hbx).trans HKp).at hk (hAt k x t hk) (hAt k x t hk)
    have hkc : k ≠ c := by rintro rfl; have := h2.symm.trans hc; simp at this; exact ht this.2
    exact (heapIs_setRow_ne _ _ _ _ _ hkc).2 h2
end Go.Proofs.Qxb6602000aMods.Led
