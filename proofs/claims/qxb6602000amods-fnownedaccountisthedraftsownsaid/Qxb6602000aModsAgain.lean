import Derived.Test.Qxb6602000aModsZs
namespace Go.Proofs.Qxb6602000aMods.Led
open Go.RowKit
set_option linter.unusedVariables false
attribute [local simp] heapIs_drew heapIs_drewN
attribute [local go_sem ↓] ld36 ld41 ld65 st41 st65 bu41 bu65
attribute [local go_sem ↓] Go.wp_at_zero Go.wp_at_succ

set_option maxHeartbeats 1000000 in
set_option maxRecDepth 10000 in
/-- ZZOwn where the book holds: nothing that was there changes. -/
theorem zown_again (bk A N c : Nat) (b' : Option Addr) (L M : Lv) (w : World) (h1 : HeapIs w bk (bookO b' A N)) (h2 : HeapIs w A (mapO (.pointer (some ⟨c, 0, none⟩)))) (h3 : HeapIs w c (.cells (accC (resL L) (resL M)) 65)) :
    Calls Trym.prog 19 #[.pointer (some ⟨bk, 0, none⟩), .agg idA] w fun e w' => e = .returned (.tuple #[.agg (resL M), .agg (resL L), .bool true]) ∧ Below w.heap.size w w' := by
  have hz := zero41
  have hbz := bu_z
  have hcl := lt_of h3
  have hbx : Below w.heap.size w (((w.alloc (.cells idA 36)).alloc (.cells resZ 41)).alloc (.cells resZ 41)) := (((Below.refl _ _).alloc (Nat.le_refl _) _).alloc (by simp) _).alloc (by simp; omega) _
  have k0 : HeapIs (((w.alloc (.cells idA 36)).alloc (.cells resZ 41)).alloc (.cells resZ 41)) w.heap.size (.cells idA 36) := by
    unfold HeapIs; rw [Below.heap_alloc _ _ _ (by simp; omega), Below.heap_alloc _ _ _ (by simp)]; exact heap_alloc_new _ _
  have k1 : HeapIs (((w.alloc (.cells idA 36)).alloc (.cells resZ 41)).alloc (.cells resZ 41)) (w.heap.size + 1) (.cells resZ 41) := by
    unfold HeapIs; rw [Below.heap_alloc _ _ _ (by simp)]; exact heap_alloc2_new _ _ _
  have k2 : HeapIs (((w.alloc (.cells idA 36)).alloc (.cells resZ 41)).alloc (.cells resZ 41)) (w.heap.size + 1 + 1) (.cells resZ 41) := alloc3_new ..
  have hld := ld_id _ _ k0
  have hcall := own_held bk A N c b' _ ((hbx.block bk (lt_of h1)).trans h1) ((hbx.block A (lt_of h2)).trans h2)
  have hs1 : ∀ W : World, HeapIs W (w.heap.size + 1) (.cells resZ 41) → stV Trym.prog 41 (.pointer (some ⟨w.heap.size + 1, 0, none⟩)) (.agg (resL M)) W = .ok () (W.setRow (w.heap.size + 1) (resL M)) := fun W h => st_res W _ M h
  have hs2 : ∀ W : World, HeapIs W (w.heap.size + 1 + 1) (.cells resZ 41) → stV Trym.prog 41 (.pointer (some ⟨w.heap.size + 1 + 1, 0, none⟩)) (.agg (resL L)) W = .ok () (W.setRow (w.heap.size + 1 + 1) (resL L)) := fun W h => st_res W _ L h
  have e3 : ∀ (W : World) C o, HeapIs (W.setRow (w.heap.size + 1) C) (w.heap.size + 1 + 1) o ↔ HeapIs W (w.heap.size + 1 + 1) o := fun W C o => heapIs_setRow_ne W _ _ C o (by omega)
  have e4 : ∀ (W : World) C o, HeapIs (W.setRow (w.heap.size + 1 + 1) C) (w.heap.size + 1) o ↔ HeapIs W (w.heap.size + 1) o := fun W C o => heapIs_setRow_ne W _ _ C o (by omega)
  have HK1 : Hid (HeapIs (((w.alloc (.cells idA 36)).alloc (.cells resZ 41)).alloc (.cells resZ 41)) (w.heap.size + 1) (.cells resZ 41)) := k1
  have HK2 : Hid (HeapIs (((w.alloc (.cells idA 36)).alloc (.cells resZ 41)).alloc (.cells resZ 41)) (w.heap.size + 1 + 1) (.cells resZ 41)) := k2
  have HC : Hid (HeapIs w c (.cells (accC (resL L) (resL M)) 65)) := h3
  clear k1 k2 h1 h2 h3
  go_enter Trym.func19, Trym.ntmps19
  go_wp2_with (first | (go_at_call 31; refine hcall.mono ?_; rintro e w2 ⟨rfl, hb2⟩; have q1 : HeapIs w2 (w.heap.size + 1) (.cells resZ 41) := (hb2.block _ (lt_of HK1.out)).trans HK1.out; have q2 : HeapIs w2 (w.heap.size + 1 + 1) (.cells resZ 41) := (hb2.block _ (lt_of HK2.out)).trans HK2.out; have hbW := hbx.over hb2; have hc : HeapIs w2 c (.cells (accC (resL L) (resL M)) 65) := (hbW.block _ hcl).trans HC.out))
  have hln : ∀ W : World, HeapIs W c (.cells (accC (resL L) (resL M)) 65) → ldV Trym.prog 41 (.pointer (some ⟨c, 156, none⟩)) W = .ok (.agg (resL M)) W := fun W h => ld_now W c L M h
  have hls : ∀ W : World, HeapIs W c (.cells (accC (resL L) (resL M)) 65) → ldV Trym.prog 41 (.pointer (some ⟨c, 0, none⟩)) W = .ok (.agg (resL L)) W := fun W h => ld_start W c L M h
  have e1 : ∀ (W : World) C o, HeapIs (W.setRow (w.heap.size + 1) C) c o ↔ HeapIs W c o := fun W C o => heapIs_setRow_ne W _ _ C o (by omega)
  have e2 : ∀ (W : World) C o, HeapIs (W.setRow (w.heap.size + 1 + 1) C) c o ↔ HeapIs W c o := fun W C o => heapIs_setRow_ne W _ _ C o (by omega)
  go_region_held3 (fun w' => HeapIs w' c (.cells (accC (resL L) (resL M)) 65)) (go_keep) (fail)
  go_wp2_with fail
  refine bodyPost_ret (v := .tuple #[.agg (resL M), .agg (resL L), .bool true]) ?_ rfl ⟨rfl, ?_⟩
  · refine results_2 Trym.results19 _ _ _ _ _ _ _ (by rfl) (by rfl) (by rfl) ?_ ?_ (resL_size M) (resL_size L)
    · exact (e4 _ _ _).2 (setRow_heap _ _ _ _ _ _ q1)
    · exact setRow_heap _ _ _ _ _ _ ((e3 _ _ _).2 q2)
  · exact below_setRow (below_setRow (below_drewN hbW _) (by omega) _) (by omega) _
end Go.Proofs.Qxb6602000aMods.Led
