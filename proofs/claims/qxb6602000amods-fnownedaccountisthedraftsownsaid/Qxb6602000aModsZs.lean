import Derived.Test.Qxb6602000aModsZz
namespace Go.Proofs.Qxb6602000aMods.Led
open Go.RowKit
set_option linter.unusedVariables false
attribute [local simp] heapIs_drew heapIs_drewN
attribute [local go_sem ↓] ld36 ld41 ld65 st41 st65 bu41 bu65
attribute [local go_sem ↓] Go.wp_at_zero Go.wp_at_succ

/-- vs laid over cur from o on. -/
def setL (cur : Array Value) : Nat → List Value → Array Value
  | _, [] => cur
  | o, v :: r => setL (cur.setIfInBounds o v) (o + 1) r
theorem setCells_row (g : Nat) (t : TypeId) : ∀ (vs : List Value) (o : Nat) (cur : Array Value) (w : World), w.heap[g]? = some (.cells cur t (0, 0)) → w.setCells g o vs = w.setRow g (setL cur o vs)
  | [], o, cur, w, h => (setRow_self w g cur t _ h).symm
  | v :: r, o, cur, w, h => by
    simp only [World.setCells, setL]
    rw [setCell_eq_setRow w g o cur t (0, 0) v h, setCells_row g t r (o + 1) (cur.setIfInBounds o v) _ (setRow_heap w g cur _ t _ h), setRow_setRow]
theorem setL_now (L M : Lv) : setL (accC (resL L) (resL L)) 156 (resL M).toList = accC (resL L) (resL M) := by kernel_rfl
theorem there_of {w : World} {b : Nat} {C : Array Value} {t : TypeId} (h : HeapIs w b (.cells C t)) (o n : Nat) (hn : o + n ≤ C.size) : w.there b o n := fun j hj => by
  have h' : w.heap[b]? = some (.cells C t (0, 0)) := h
  constructor
  · simp [World.cell?, h']; omega
  · simp [World.frozen?, h']
theorem st_now (w : World) (b : Nat) (L M : Lv) (h : HeapIs w b (.cells (accC (resL L) (resL L)) 65)) :
    stV Trym.prog 41 (.pointer (some ⟨b, 156, none⟩)) (.agg (resL M)) w = .ok () (w.setRow b (accC (resL L) (resL M))) := by
  have := run_storeAt_mid (P := Trym.prog) w b 156 41 (resL M) (there_of h 156 _ (by rw [accC_size, resL_size]; omega)) (by rw [size41, resL_size]) (resL_one M)
  unfold stV
  rw [this, setCells_row b 65 _ _ _ w h, setL_now]

/-- ZZOwnSet's answer. -/
def ZSetR (A : Nat) (near : Option Lv) (M : Lv) (w : World) (e : Ending) (w' : World) : Prop :=
  match near with
  | none => e = .returned (.bool false) ∧ Below w.heap.size w w'
  | some L => ∃ c, e = .returned (.bool true) ∧ HeapIs w' c (.cells (accC (resL L) (resL M)) 65) ∧ HeapIs w' A (mapO (.pointer (some ⟨c, 0, none⟩))) ∧ Keeps A c w w'

set_option maxHeartbeats 1000000 in
set_option maxRecDepth 10000 in
theorem zset_any (bk A : Nat) (near : Option Lv) (M : Lv) (w : World) (hA : A < w.heap.size)
    (hown : ∀ w1, Below w.heap.size w w1 → Calls Trym.prog 31 #[.pointer (some ⟨bk, 0, none⟩), .agg idA] w1 (OwnR A (both near) w1)) :
    Calls Trym.prog 25 #[.pointer (some ⟨bk, 0, none⟩), .agg idA, .agg (resL M)] w (ZSetR A near M w) := by
  have hbx : Below w.heap.size w ((w.alloc (.cells idA 36)).alloc (.cells (resL M) 41)) := ((Below.refl _ _).alloc (Nat.le_refl _) _).alloc (by simp) _
  have k0 : HeapIs ((w.alloc (.cells idA 36)).alloc (.cells (resL M) 41)) w.heap.size (.cells idA 36) := by
    unfold HeapIs; rw [Below.heap_alloc _ _ _ (by simp)]; exact heap_alloc_new _ _
  have k1 : HeapIs ((w.alloc (.cells idA 36)).alloc (.cells (resL M) 41)) (w.heap.size + 1) (.cells (resL M) 41) := heap_alloc2_new _ _ _
  have hld := ld_id _ _ k0
  have hcall := hown _ hbx
  clear hown
  cases near with
  | none =>
    go_enter Trym.func25, Trym.ntmps25
    go_wp2_with (first | (go_at_call 31; refine hcall.mono ?_; rintro e w2 ⟨rfl, hb2⟩))
    go_ret
    exact ⟨rfl, hbx.over hb2⟩
  | some L =>
    have HK1 : Hid (HeapIs ((w.alloc (.cells idA 36)).alloc (.cells (resL M) 41)) (w.heap.size + 1) (.cells (resL M) 41)) := k1
    clear k1
    go_enter Trym.func25, Trym.ntmps25
    go_wp2_with (first | (go_at_call 31; refine hcall.mono ?_; rintro e w2 ⟨c, rfl, hc, hm, HKp⟩; have q1 : HeapIs w2 (w.heap.size + 1) (.cells (resL M) 41) := HKp.at HK1.out (by omega) (by omega); have hl1 := ld_res w2 _ M q1; have hst := st_now w2 c L M hc))
    go_ret
    have hcA : A ≠ c := by rintro rfl; have := hc.symm.trans hm; simp [mapO] at this
    refine ⟨c, rfl, setRow_heap _ _ _ _ _ _ hc, (heapIs_setRow_ne _ _ _ _ _ hcA).2 hm, ?_⟩
    exact (((Keeps.of hbx).trans HKp).wide).setRow _ (.inr rfl)

set_option maxHeartbeats 1000000 in
set_option maxRecDepth 10000 in
/-- account where the book itself holds. -/
theorem account_held (bk A N q : Nat) (b' : Option Addr) (w : World) (h1 : HeapIs w bk (bookO b' A N)) (h2 : HeapIs w A (mapO (.pointer (some ⟨q, 0, none⟩)))) :
    Calls Trym.prog 30 #[.pointer (some ⟨bk, 0, none⟩), .agg idA] w fun e w' => e = .returned (.pointer (some ⟨q, 0, none⟩)) ∧ Below w.heap.size w w' := by
  have hb := lt_of h1
  have hA := lt_of h2
  have hbx : Below w.heap.size w (w.alloc (.cells idA 36)) := (Below.refl _ _).alloc (Nat.le_refl _) _
  have hk : HeapIs (w.alloc (.cells idA 36)) w.heap.size (.cells idA 36) := heap_alloc_new _ _
  have hA2 : HeapIs (w.alloc (.cells idA 36)) A (mapO (.pointer (some ⟨q, 0, none⟩))) := (hbx.block A hA).trans h2
  have hc1 : (w.alloc (.cells idA 36)).cell? ⟨bk, 1, none⟩ = some (.map (some A)) := by rw [hbx.cell (p := ⟨bk, 1, none⟩) hb]; exact cell_of h1 1
  have hld : ∀ W : World, HeapIs W w.heap.size (.cells idA 36) → ldV Trym.prog 36 (.pointer (some ⟨w.heap.size, 0, none⟩)) W = .ok (.agg idA) W := fun W h => ld_id W _ h
  have hlk : ∀ W : World, HeapIs W A (mapO (.pointer (some ⟨q, 0, none⟩))) → (Instr.lookup 57 (.map (some A)) (.agg idA) false).run Trym.prog W = .ok (.pointer (some ⟨q, 0, none⟩)) W := fun W h => look_one W A _ h
  clear h1 h2
  go_enter Trym.func30, Trym.ntmps30
  go_wp2_with fail
  generalize w.alloc (.cells idA 36) = w1 at *
  go_loopw [0] (fun v wr => v = .pointer (some ⟨bk, 0, none⟩) ∧ wr = w1) (fun v _ => 0)
  case atStart => exact ⟨rfl, rfl⟩
  case round =>
    obtain ⟨rfl, rfl⟩ := hrel
    go_wp2_with fail
    go_quiet (fail)
    go_wp2_with fail
    go_ret
    exact ⟨rfl, below_drewN hbx _⟩

/-- Resource's answer. -/
def ResR (near : Option Lv) (w : World) (e : Ending) (w' : World) : Prop :=
  match near with
  | none => e = .returned (.tuple #[.agg resZ, .bool false]) ∧ Below w.heap.size w w'
  | some L => e = .returned (.tuple #[.agg (resL L), .bool true]) ∧ Below w.heap.size w w'

set_option maxHeartbeats 1000000 in
set_option maxRecDepth 10000 in
theorem resource_nil (b : Option Addr) (w : World)
    (hacc : ∀ w1, Below w.heap.size w w1 → Calls Trym.prog 30 #[.pointer b, .agg idA] w1 fun e w' => e = .returned (.pointer none) ∧ Below w1.heap.size w1 w') :
    Calls Trym.prog 16 #[.pointer b, .agg idA] w (ResR none w) := by
  have hz := zero41
  have hbz := bu_z
  have hbx : Below w.heap.size w ((w.alloc (.cells idA 36)).alloc (.cells resZ 41)) := ((Below.refl _ _).alloc (Nat.le_refl _) _).alloc (by simp) _
  have k0 : HeapIs ((w.alloc (.cells idA 36)).alloc (.cells resZ 41)) w.heap.size (.cells idA 36) := by
    unfold HeapIs; rw [Below.heap_alloc _ _ _ (by simp)]; exact heap_alloc_new _ _
  have k1 : HeapIs ((w.alloc (.cells idA 36)).alloc (.cells resZ 41)) (w.heap.size + 1) (.cells resZ 41) := heap_alloc2_new _ _ _
  have hld := ld_id _ _ k0
  have hcall := hacc _ hbx
  clear hacc
  have HK1 : Hid (HeapIs ((w.alloc (.cells idA 36)).alloc (.cells resZ 41)) (w.heap.size + 1) (.cells resZ 41)) := k1
  clear k1
  go_enter Trym.func16, Trym.ntmps16
  go_wp2_with (first | (go_at_call 30; refine hcall.mono ?_; rintro e w2 ⟨rfl, hb2⟩; have q1 : HeapIs w2 (w.heap.size + 1) (.cells resZ 41) := (hb2.block _ (lt_of HK1.out)).trans HK1.out; have hs1 := st_same w2 _ q1))
  refine bodyPost_ret (v := .tuple #[.agg resZ, .bool false]) ?_ rfl ⟨rfl, hbx.over hb2⟩
  exact results_1 Trym.results16 _ _ _ _ _ (by rfl) (by rfl) q1 resZ_size

set_option maxHeartbeats 1000000 in
set_option maxRecDepth 10000 in
theorem resource_some (b : Option Addr) (q : Nat) (L M : Lv) (w : World) (hq : HeapIs w q (.cells (accC (resL L) (resL M)) 65))
    (hacc : ∀ w1, Below w.heap.size w w1 → Calls Trym.prog 30 #[.pointer b, .agg idA] w1 fun e w' => e = .returned (.pointer (some ⟨q, 0, none⟩)) ∧ Below w1.heap.size w1 w') :
    Calls Trym.prog 16 #[.pointer b, .agg idA] w (ResR (some M) w) := by
  have hz := zero41
  have hbx : Below w.heap.size w ((w.alloc (.cells idA 36)).alloc (.cells resZ 41)) := ((Below.refl _ _).alloc (Nat.le_refl _) _).alloc (by simp) _
  have k0 : HeapIs ((w.alloc (.cells idA 36)).alloc (.cells resZ 41)) w.heap.size (.cells idA 36) := by
    unfold HeapIs; rw [Below.heap_alloc _ _ _ (by simp)]; exact heap_alloc_new _ _
  have k1 : HeapIs ((w.alloc (.cells idA 36)).alloc (.cells resZ 41)) (w.heap.size + 1) (.cells resZ 41) := heap_alloc2_new _ _ _
  have hld := ld_id _ _ k0
  have hcall := hacc _ hbx
  clear hacc
  have HK1 : Hid (HeapIs ((w.alloc (.cells idA 36)).alloc (.cells resZ 41)) (w.heap.size + 1) (.cells resZ 41)) := k1
  clear k1
  go_enter Trym.func16, Trym.ntmps16
  go_wp2_with (first | (go_at_call 30; refine hcall.mono ?_; rintro e w2 ⟨rfl, hb2⟩; have hb12 := hbx.over hb2; have q1 : HeapIs w2 (w.heap.size + 1) (.cells resZ 41) := (hb2.block _ (lt_of HK1.out)).trans HK1.out; have q2 : HeapIs w2 q (.cells (accC (resL L) (resL M)) 65) := (hb12.block q (lt_of hq)).trans hq; have hs1 := st_res w2 _ M q1; have hl1 := ld_now w2 q L M q2))
  refine bodyPost_ret (v := .tuple #[.agg (resL M), .bool true]) ?_ rfl ⟨rfl, below_setRow hb12 (by omega) _⟩
  exact results_1 Trym.results16 _ _ _ _ _ (by rfl) (by rfl) (setRow_heap _ _ _ _ _ _ q1) (resL_size M)
end Go.Proofs.Qxb6602000aMods.Led
