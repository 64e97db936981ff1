import Derived.Test.Qxb6602000aModsAcct
namespace Go.Proofs.Qxb6602000aMods.Led
open Go.RowKit
set_option linter.unusedVariables false
attribute [local simp] heapIs_drew heapIs_drewN
attribute [local go_sem ↓] ld36 ld41 ld65 st41 st65 bu41 bu65
attribute [local go_sem ↓] Go.wp_at_zero Go.wp_at_succ

theorem _root_.Go.RowKit.Below.over {w w1 w2 : World} (h1 : Below w.heap.size w w1) (h2 : Below w1.heap.size w1 w2) : Below w.heap.size w w2 := h1.trans (h2.mono h1.size)

/-- The zero account's cells. -/
def accZ : Array Value := accC resZ resZ
theorem zero65 (w : World) : (zeroValue 65).run Trym.prog w = .ok (.agg accZ) w := by kernel_rfl
theorem accZ_size : accZ.size = 315 := by kernel_rfl

theorem st_new65 (L M : Lv) (w : World) : stV Trym.prog 65 (.pointer (some ⟨w.heap.size, 0, none⟩)) (.agg (accC (resL L) (resL M))) (w.alloc (.cells accZ 65)) = .ok () (w.alloc (.cells (accC (resL L) (resL M)) 65)) := by
  rw [run_st 65 315 big65 w.heap.size _ accZ 65 _ (heap_alloc_new w _) (accC_size L M) accZ_size (accC_one L M), World.setRow_alloc_new]

set_option maxHeartbeats 1000000 in
set_option maxRecDepth 10000 in
/-- own: the book itself holds. -/
theorem own_held (bk A N q : Nat) (b' : Option Addr) (w : World) (h1 : HeapIs w bk (bookO b' A N)) (h2 : HeapIs w A (mapO (.pointer (some ⟨q, 0, none⟩)))) :
    Calls Trym.prog 31 #[.pointer (some ⟨bk, 0, none⟩), .agg idA] w fun e w' => e = .returned (.pointer (some ⟨q, 0, none⟩)) ∧ Below w.heap.size w w' := by
  have hb := lt_of h1
  have hA := lt_of h2
  have hne : ¬ bk = w.heap.size := by omega
  have hc1 : w.cell? ⟨bk, 1, none⟩ = some (.map (some A)) := cell_of h1 1
  have hk : HeapIs (w.alloc (.cells idA 36)) w.heap.size (.cells idA 36) := heap_alloc_new _ _
  have hA2 : HeapIs (w.alloc (.cells idA 36)) A (mapO (.pointer (some ⟨q, 0, none⟩))) := by unfold HeapIs; rw [Below.heap_alloc w _ A hA]; exact h2
  have hld : ∀ W : World, HeapIs W w.heap.size (.cells idA 36) → ldV Trym.prog 36 (.pointer (some ⟨w.heap.size, 0, none⟩)) W = .ok (.agg idA) W := fun W h => ld_id W _ h
  have hlk : ∀ W : World, HeapIs W A (mapO (.pointer (some ⟨q, 0, none⟩))) → (Instr.lookup 57 (.map (some A)) (.agg idA) false).run Trym.prog W = .ok (.pointer (some ⟨q, 0, none⟩)) W := fun W h => look_one W A _ h
  go_enter Trym.func31, Trym.ntmps31
  go_wp2_with fail
  go_quiet (fail)
  go_wp2_with fail
  go_ret
  exact ⟨rfl, below_drewN ((Below.refl _ _).alloc (Nat.le_refl _) _) _⟩

set_option maxHeartbeats 1000000 in
set_option maxRecDepth 10000 in
/-- own: the book holds none, and has no base. -/
theorem own_nobase (bk A N : Nat) (w : World) (h1 : HeapIs w bk (bookO none A N)) (h2 : HeapIs w A (.map #[] 0)) :
    Calls Trym.prog 31 #[.pointer (some ⟨bk, 0, none⟩), .agg idA] w fun e w' => e = .returned (.pointer none) ∧ Below w.heap.size w w' := by
  have hb := lt_of h1
  have hA := lt_of h2
  have hne : ¬ bk = w.heap.size := by omega
  have hc1 : w.cell? ⟨bk, 1, none⟩ = some (.map (some A)) := cell_of h1 1
  have hc0 : w.cell? ⟨bk, 0, none⟩ = some (.pointer none) := cell_of h1 0
  have hk : HeapIs (w.alloc (.cells idA 36)) w.heap.size (.cells idA 36) := heap_alloc_new _ _
  have hA2 : HeapIs (w.alloc (.cells idA 36)) A (.map #[] 0) := by unfold HeapIs; rw [Below.heap_alloc w _ A hA]; exact h2
  have hld : ∀ W : World, HeapIs W w.heap.size (.cells idA 36) → ldV Trym.prog 36 (.pointer (some ⟨w.heap.size, 0, none⟩)) W = .ok (.agg idA) W := fun W h => ld_id W _ h
  have hlk : ∀ W : World, HeapIs W A (.map #[] 0) → (Instr.lookup 57 (.map (some A)) (.agg idA) false).run Trym.prog W = .ok (.pointer none) W := fun W h => look_none W A h
  go_enter Trym.func31, Trym.ntmps31
  go_wp2_with fail
  go_quiet (fail)
  go_wp2_with fail
  go_ret
  exact ⟨rfl, below_drewN ((Below.refl _ _).alloc (Nat.le_refl _) _) _⟩

set_option maxHeartbeats 1000000 in
set_option maxRecDepth 10000 in
/-- own: the book holds none; its base is asked. -/
theorem own_base (bk A N lim : Nat) (a' : Addr) (Ls : List Lv) (w : World) (h1 : HeapIs w bk (bookO (some a') A N)) (h2 : HeapIs w A (.map #[] 0)) (hch : ChainAt w lim (some a') Ls) (hl : lim ≤ w.heap.size) (hlb : lim ≤ bk) (hlA : lim ≤ A) :
    Calls Trym.prog 31 #[.pointer (some ⟨bk, 0, none⟩), .agg idA] w fun e w' => (nearL Ls = none ∧ e = .returned (.pointer none) ∧ Below w.heap.size w w') ∨
      ∃ L c, nearL Ls = some L ∧ w.heap.size ≤ c ∧ e = .returned (.pointer (some ⟨c, 0, none⟩)) ∧ HeapIs w' c (.cells (accC (resL L) (resL L)) 65) ∧ HeapIs w' A (mapO (.pointer (some ⟨c, 0, none⟩))) ∧
        w'.os = w.os ∧ w'.tape = w.tape ∧ w'.output = w.output ∧ w.heap.size ≤ w'.heap.size ∧ ∀ k, k < w.heap.size → k ≠ A → w'.heap[k]? = w.heap[k]? := by
  have hb := lt_of h1
  have hA := lt_of h2
  have hne : ¬ bk = w.heap.size := by omega
  have hc1 : w.cell? ⟨bk, 1, none⟩ = some (.map (some A)) := cell_of h1 1
  have hc0 : w.cell? ⟨bk, 0, none⟩ = some (.pointer (some a')) := cell_of h1 0
  have hk : HeapIs (w.alloc (.cells idA 36)) w.heap.size (.cells idA 36) := heap_alloc_new _ _
  have hA2 : HeapIs (w.alloc (.cells idA 36)) A (.map #[] 0) := by unfold HeapIs; rw [Below.heap_alloc w _ A hA]; exact h2
  have hld : ∀ W : World, HeapIs W w.heap.size (.cells idA 36) → ldV Trym.prog 36 (.pointer (some ⟨w.heap.size, 0, none⟩)) W = .ok (.agg idA) W := fun W h => ld_id W _ h
  have hlk : ∀ W : World, HeapIs W A (.map #[] 0) → (Instr.lookup 57 (.map (some A)) (.agg idA) false).run Trym.prog W = .ok (.pointer none) W := fun W h => look_none W A h
  have hbx : Below w.heap.size w (w.alloc (.cells idA 36)) := (Below.refl _ _).alloc (Nat.le_refl _) _
  have hchx : ∀ nq, ChainAt ((w.alloc (.cells idA 36)).drewN nq) lim (some a') Ls := fun nq => hch.below (below_drewN hbx nq) hl
  go_enter Trym.func31, Trym.ntmps31
  go_wp2_with fail
  go_quiet (fail)
  have hcn := hchx nq
  have hbn : Below w.heap.size w ((w.alloc (.cells idA 36)).drewN nq) := below_drewN hbx nq
  have hkn : HeapIs ((w.alloc (.cells idA 36)).drewN nq) w.heap.size (.cells idA 36) := hk
  have hAn : HeapIs ((w.alloc (.cells idA 36)).drewN nq) A (.map #[] 0) := hA2
  have hsn : ((w.alloc (.cells idA 36)).drewN nq).heap.size = w.heap.size + 1 := by simp
  have hc0n : ((w.alloc (.cells idA 36)).drewN nq).cell? ⟨bk, 0, none⟩ = some (.pointer (some a')) := by rw [hbn.cell (p := ⟨bk, 0, none⟩) hb]; exact hc0
  have hc1n : ((w.alloc (.cells idA 36)).drewN nq).cell? ⟨bk, 1, none⟩ = some (.map (some A)) := by rw [hbn.cell (p := ⟨bk, 1, none⟩) hb]; exact hc1
  have HSN : Hid (((w.alloc (.cells idA 36)).drewN nq).heap.size = w.heap.size + 1) := hsn
  clear hsn hchx hk hA2 hbx
  generalize (w.alloc (.cells idA 36)).drewN nq = w1 at *
  have hs1 : w.heap.size < w1.heap.size := by have := HSN.out; omega
  have hcd : ChainAt w1.drew lim (some a') Ls := hcn.below ((Below.refl w1.heap.size w1).drew) (by omega)
  go_wp2_with fail
  go_region_held3 (fun w' => w'.cell? ⟨bk, 0, none⟩ = some (.pointer (some a')) ∧ HeapIs w' w.heap.size (.cells idA 36)) (go_keep)
    (first | (go_at_call 30; refine (account_any lim (some a') Ls _ (by exact hcd) (by show lim ≤ w1.heap.size; omega)).mono ?_; rintro e w2 ⟨p, rfl, hb2, hp2⟩; have q0 : w2.cell? ⟨bk, 0, none⟩ = some (.pointer (some a')) := (hb2.cell (p := ⟨bk, 0, none⟩) (show bk < w1.heap.size by omega)).trans hc0n; have q1 : HeapIs w2 w.heap.size (.cells idA 36) := (hb2.block w.heap.size (show w.heap.size < w1.heap.size from hs1)).trans hkn))
  have hb12 : Below w1.heap.size w1 w2 := ⟨hb2.os, hb2.tape, hb2.output, hb2.size, hb2.block⟩
  rcases hp2 with ⟨hn, rfl⟩ | ⟨L, q, hn, rfl, hql, hqa⟩
  · have HN : Hid (nearL Ls = none) := hn
    clear hn
    go_wp2_with fail
    go_ret
    exact .inl ⟨HN.out, rfl, hbn.over hb12⟩
  · have HN : Hid (nearL Ls = some L) := hn
    have hqa1 : w1.heap[q]? = some (.cells (accC (resL L) (resL L)) 65 (0, 0)) := hqa
    have hq2 : HeapIs w2 q (.cells (accC (resL L) (resL L)) 65) := (hb12.block q (by omega)).trans hqa1
    have hA2 : HeapIs w2 A (.map #[] 0) := (hb12.block A (by omega)).trans hAn
    have hc1' : w2.cell? ⟨bk, 1, none⟩ = some (.map (some A)) := (hb12.cell (p := ⟨bk, 1, none⟩) (show bk < w1.heap.size by omega)).trans hc1n
    have hbw : Below w.heap.size w w2 := hbn.over hb12
    have hl65 := ld_acc w2 q L L hq2
    have hz65 := zero65
    have hs65 := st_new65 L L w2
    have hs2 : w.heap.size < w2.heap.size := by have := hb12.size; omega
    clear hn hqa hqa1 hb2 hb12 hcd hcn hbn hkn hAn hc0n hc1n q0
    go_wp2_with fail
    have b6 : Below w.heap.size w (w2.alloc (.cells (accC (resL L) (resL L)) 65)) := hbw.alloc hbw.size _
    have b1 : HeapIs (w2.alloc (.cells (accC (resL L) (resL L)) 65)) w.heap.size (.cells idA 36) := by unfold HeapIs; rw [Below.heap_alloc w2 _ _ hs2]; exact q1
    have b2 : HeapIs (w2.alloc (.cells (accC (resL L) (resL L)) 65)) A (.map #[] 0) := by unfold HeapIs; rw [Below.heap_alloc w2 _ _ (by omega)]; exact hA2
    have b3 : (w2.alloc (.cells (accC (resL L) (resL L)) 65)).cell? ⟨bk, 1, none⟩ = some (.map (some A)) := by rw [b6.cell (p := ⟨bk, 1, none⟩) hb]; exact hc1
    have b4 : HeapIs (w2.alloc (.cells (accC (resL L) (resL L)) 65)) w2.heap.size (.cells (accC (resL L) (resL L)) 65) := heap_alloc_new _ _
    have b5 : Hid ((w2.alloc (.cells (accC (resL L) (resL L)) 65)).heap.size = w2.heap.size + 1) := by show _ = _; simp
    clear hs65 hz65 hl65
    generalize w2.alloc (.cells (accC (resL L) (resL L)) 65) = W5 at *
    have hput := put_first W5.drew A (.pointer (some ⟨w2.heap.size, 0, none⟩)) b2
    have hbA : ¬ bk = A := by
      intro e; subst e
      have := h1.symm.trans h2
      simp [bookO] at this
    have ht1 : (setM W5.drew A (mapO (.pointer (some ⟨w2.heap.size, 0, none⟩)))).cell? ⟨bk, 1, none⟩ = some (.map (some A)) :=
      (World.cell?_of_block (w := W5) (a := ⟨bk, 1, none⟩) (setM_heap W5.drew A _ bk hbA)).trans b3
    have ht2 : HeapIs (setM W5.drew A (mapO (.pointer (some ⟨w2.heap.size, 0, none⟩)))) w.heap.size (.cells idA 36) :=
      (setM_heap W5.drew A _ _ (by omega)).trans b1
    go_region_held3 (fun w' => w'.cell? ⟨bk, 1, none⟩ = some (.map (some A)) ∧ HeapIs w' w.heap.size (.cells idA 36)) (go_keep) (fail)
    go_wp2_with fail
    go_ret
    have hs5 := b5.out
    refine .inr ⟨L, w2.heap.size, HN.out, by omega, rfl, ?_, ?_, b6.os, b6.tape, b6.output, ?_, ?_⟩
    · exact (setM_heap W5.drew A _ _ (by omega)).trans b4
    · exact setM_at W5.drew A _ (show A < W5.heap.size by omega)
    · rw [setM_size]; exact b6.size
    · intro k hk hkA
      exact (setM_heap W5.drew A _ k hkA).trans (b6.block k hk)
end Go.Proofs.Qxb6602000aMods.Led
