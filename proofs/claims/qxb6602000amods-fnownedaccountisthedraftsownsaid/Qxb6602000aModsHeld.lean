import Derived.Test.Qxb6602000aModsOwn
namespace Go.Proofs.Qxb6602000aMods.Led
open Go.RowKit
set_option linter.unusedVariables false
attribute [local simp] heapIs_drew heapIs_drewN
attribute [local go_sem ↓] ld36 ld41 ld65 st41 st65 bu41 bu65
attribute [local go_sem ↓] Go.wp_at_zero Go.wp_at_succ

theorem run_loadVar41 (w : World) (g : Nat) (cs : Array Value) (hg : HeapIs w g (.cells cs 41)) (h : cs.size = 156) : (loadVar 41 ⟨g, 0, none⟩).run Trym.prog w = .ok (.agg cs) w :=
  run_loadVar_row w g 41 41 cs (0, 0) _ hg Trym.underlying41 rfl (by rw [size41]; exact congrArg some h.symm)

theorem results_2 {fn : Func} {p q r : Tmp} (h : fn.results = #[.cell p 41, .cell q 41, .tmp r]) (tmps : Array Value) (w : World) (g1 g2 : Nat) (c1 c2 : Array Value) (v : Value)
    (hp : tmps.getD p undef = .pointer (some ⟨g1, 0, none⟩)) (hq : tmps.getD q undef = .pointer (some ⟨g2, 0, none⟩)) (hr : tmps.getD r undef = v)
    (h1 : HeapIs w g1 (.cells c1 41)) (h2 : HeapIs w g2 (.cells c2 41)) (s1 : c1.size = 156) (s2 : c2.size = 156) : (results fn tmps).run Trym.prog w = .ok (.tuple #[.agg c1, .agg c2, v]) w := by
  have hp' : tmps[p]?.getD undef = .pointer (some ⟨g1, 0, none⟩) := by simpa using hp
  have hq' : tmps[q]?.getD undef = .pointer (some ⟨g2, 0, none⟩) := by simpa using hq
  have hr' : tmps[r]?.getD undef = v := by simpa using hr
  simp [results, h, hp', hq', hr', asAddr, run_loadVar41 w g1 c1 h1 s1, run_loadVar41 w g2 c2 h2 s2]

theorem results_1 {fn : Func} {p r : Tmp} (h : fn.results = #[.cell p 41, .tmp r]) (tmps : Array Value) (w : World) (g1 : Nat) (c1 : Array Value) (v : Value)
    (hp : tmps.getD p undef = .pointer (some ⟨g1, 0, none⟩)) (hr : tmps.getD r undef = v)
    (h1 : HeapIs w g1 (.cells c1 41)) (s1 : c1.size = 156) : (results fn tmps).run Trym.prog w = .ok (.tuple #[.agg c1, v]) w := by
  have hp' : tmps[p]?.getD undef = .pointer (some ⟨g1, 0, none⟩) := by simpa using hp
  have hr' : tmps[r]?.getD undef = v := by simpa using hr
  simp [results, h, hp', hr', asAddr, run_loadVar41 w g1 c1 h1 s1]

theorem heapIs_setRow_ne (w : World) (b k : Nat) (C : Array Value) (o : Obj) (h : k ≠ b) : HeapIs (w.setRow b C) k o ↔ HeapIs w k o := by
  unfold HeapIs; rw [setRow_other w b k C h]


theorem resZ_one : resZ.all (·.oneCell') = true := by kernel_rfl
theorem alloc3_new (w : World) (a b c : Obj) : HeapIs (((w.alloc a).alloc b).alloc c) (w.heap.size + 1 + 1) c := by
  have h := heap_alloc_new ((w.alloc a).alloc b) c
  have e : ((w.alloc a).alloc b).heap.size = w.heap.size + 1 + 1 := by simp
  rw [e] at h; exact h
theorem st_same (w : World) (b : Nat) (h : HeapIs w b (.cells resZ 41)) : stV Trym.prog 41 (.pointer (some ⟨b, 0, none⟩)) (.agg resZ) w = .ok () w := by
  rw [run_st 41 156 big41 b _ resZ 41 _ h resZ_size resZ_size (resZ_one), setRow_self w b resZ 41 _ h]
theorem st_res (w : World) (b : Nat) (L : Lv) (h : HeapIs w b (.cells resZ 41)) : stV Trym.prog 41 (.pointer (some ⟨b, 0, none⟩)) (.agg (resL L)) w = .ok () (w.setRow b (resL L)) :=
  run_st 41 156 big41 b _ resZ 41 _ h (resL_size L) resZ_size (resL_one L)
theorem bu_z (w : World) : buV Trym.prog 41 #[] w = .ok (.agg resZ) w := build41z w

set_option maxHeartbeats 1000000 in
set_option maxRecDepth 10000 in
/-- ZZHeld: the book itself holds no account. -/
theorem held_none (bk A N : Nat) (b' : Option Addr) (w : World) (h1 : HeapIs w bk (bookO b' A N)) (h2 : HeapIs w A (.map #[] 0)) :
    Calls Trym.prog 20 #[.pointer (some ⟨bk, 0, none⟩), .agg idA] w fun e w' => e = .returned (.tuple #[.agg resZ, .agg resZ, .bool false]) ∧ Below w.heap.size w w' := by
  have hb := lt_of h1
  have hA := lt_of h2
  have hne : ¬ bk = w.heap.size := by omega
  have hz := zero41
  have hbz := bu_z
  have hbx : Below w.heap.size w (((w.alloc (.cells idA 36)).alloc (.cells resZ 41)).alloc (.cells resZ 41)) := (((Below.refl _ _).alloc (Nat.le_refl _) _).alloc (by simp) _).alloc (by simp; omega) _
  have k0 : HeapIs (((w.alloc (.cells idA 36)).alloc (.cells resZ 41)).alloc (.cells resZ 41)) w.heap.size (.cells idA 36) := by
    unfold HeapIs; rw [Below.heap_alloc _ _ _ (by simp; omega), Below.heap_alloc _ _ _ (by simp)]; exact heap_alloc_new _ _
  have k1 : HeapIs (((w.alloc (.cells idA 36)).alloc (.cells resZ 41)).alloc (.cells resZ 41)) (w.heap.size + 1) (.cells resZ 41) := by
    unfold HeapIs; rw [Below.heap_alloc _ _ _ (by simp)]; exact heap_alloc2_new _ _ _
  have k2 : HeapIs (((w.alloc (.cells idA 36)).alloc (.cells resZ 41)).alloc (.cells resZ 41)) (w.heap.size + 1 + 1) (.cells resZ 41) := alloc3_new ..
  have hc1 : (((w.alloc (.cells idA 36)).alloc (.cells resZ 41)).alloc (.cells resZ 41)).cell? ⟨bk, 1, none⟩ = some (.map (some A)) := by rw [hbx.cell (p := ⟨bk, 1, none⟩) hb]; exact cell_of h1 1
  have hA2 : HeapIs (((w.alloc (.cells idA 36)).alloc (.cells resZ 41)).alloc (.cells resZ 41)) A (.map #[] 0) := (hbx.block A hA).trans h2
  have hld : ∀ W : World, HeapIs W w.heap.size (.cells idA 36) → ldV Trym.prog 36 (.pointer (some ⟨w.heap.size, 0, none⟩)) W = .ok (.agg idA) W := fun W h => ld_id W _ h
  have hlk : ∀ W : World, HeapIs W A (.map #[] 0) → (Instr.lookup 57 (.map (some A)) (.agg idA) false).run Trym.prog W = .ok (.pointer none) W := fun W h => look_none W A h
  have hs1 : ∀ W : World, HeapIs W (w.heap.size + 1) (.cells resZ 41) → stV Trym.prog 41 (.pointer (some ⟨w.heap.size + 1, 0, none⟩)) (.agg resZ) W = .ok () W := fun W h => st_same W _ h
  have hs2 : ∀ W : World, HeapIs W (w.heap.size + 1 + 1) (.cells resZ 41) → stV Trym.prog 41 (.pointer (some ⟨w.heap.size + 1 + 1, 0, none⟩)) (.agg resZ) W = .ok () W := fun W h => st_same W _ h
  go_enter Trym.func20, Trym.ntmps20
  go_wp2_with fail
  generalize ((w.alloc (.cells idA 36)).alloc (.cells resZ 41)).alloc (.cells resZ 41) = w1 at *
  go_quiet (fail)
  go_wp2_with fail
  refine bodyPost_ret (v := .tuple #[.agg resZ, .agg resZ, .bool false]) ?_ rfl ⟨rfl, below_drewN hbx _⟩
  exact results_2 Trym.results20 _ _ _ _ _ _ _ (by rfl) (by rfl) (by rfl) k1 k2 resZ_size resZ_size

set_option maxHeartbeats 1000000 in
set_option maxRecDepth 10000 in
/-- ZZHeld: the book holds an account. -/
theorem held_some (bk A N q : Nat) (b' : Option Addr) (L M : Lv) (w : World) (h1 : HeapIs w bk (bookO b' A N)) (h2 : HeapIs w A (mapO (.pointer (some ⟨q, 0, none⟩)))) (h3 : HeapIs w q (.cells (accC (resL L) (resL M)) 65)) :
    Calls Trym.prog 20 #[.pointer (some ⟨bk, 0, none⟩), .agg idA] w fun e w' => e = .returned (.tuple #[.agg (resL M), .agg (resL L), .bool true]) ∧ Below w.heap.size w w' := by
  have hb := lt_of h1
  have hA := lt_of h2
  have hq := lt_of h3
  have hne : ¬ bk = w.heap.size := by omega
  have hz := zero41
  have hbz := bu_z
  have hbx : Below w.heap.size w (((w.alloc (.cells idA 36)).alloc (.cells resZ 41)).alloc (.cells resZ 41)) := (((Below.refl _ _).alloc (Nat.le_refl _) _).alloc (by simp) _).alloc (by simp; omega) _
  have k0 : HeapIs (((w.alloc (.cells idA 36)).alloc (.cells resZ 41)).alloc (.cells resZ 41)) w.heap.size (.cells idA 36) := by
    unfold HeapIs; rw [Below.heap_alloc _ _ _ (by simp; omega), Below.heap_alloc _ _ _ (by simp)]; exact heap_alloc_new _ _
  have k1 : HeapIs (((w.alloc (.cells idA 36)).alloc (.cells resZ 41)).alloc (.cells resZ 41)) (w.heap.size + 1) (.cells resZ 41) := by
    unfold HeapIs; rw [Below.heap_alloc _ _ _ (by simp)]; exact heap_alloc2_new _ _ _
  have k2 : HeapIs (((w.alloc (.cells idA 36)).alloc (.cells resZ 41)).alloc (.cells resZ 41)) (w.heap.size + 1 + 1) (.cells resZ 41) := alloc3_new ..
  have hc1 : (((w.alloc (.cells idA 36)).alloc (.cells resZ 41)).alloc (.cells resZ 41)).cell? ⟨bk, 1, none⟩ = some (.map (some A)) := by rw [hbx.cell (p := ⟨bk, 1, none⟩) hb]; exact cell_of h1 1
  have hA2 : HeapIs (((w.alloc (.cells idA 36)).alloc (.cells resZ 41)).alloc (.cells resZ 41)) A (mapO (.pointer (some ⟨q, 0, none⟩))) := (hbx.block A hA).trans h2
  have hq2 : HeapIs (((w.alloc (.cells idA 36)).alloc (.cells resZ 41)).alloc (.cells resZ 41)) q (.cells (accC (resL L) (resL M)) 65) := (hbx.block q hq).trans h3
  have hld : ∀ W : World, HeapIs W w.heap.size (.cells idA 36) → ldV Trym.prog 36 (.pointer (some ⟨w.heap.size, 0, none⟩)) W = .ok (.agg idA) W := fun W h => ld_id W _ h
  have hlk : ∀ W : World, HeapIs W A (mapO (.pointer (some ⟨q, 0, none⟩))) → (Instr.lookup 57 (.map (some A)) (.agg idA) false).run Trym.prog W = .ok (.pointer (some ⟨q, 0, none⟩)) W := fun W h => look_one W A _ h
  have hln : ∀ W : World, HeapIs W q (.cells (accC (resL L) (resL M)) 65) → ldV Trym.prog 41 (.pointer (some ⟨q, 156, none⟩)) W = .ok (.agg (resL M)) W := fun W h => ld_now W q L M h
  have hls : ∀ W : World, HeapIs W q (.cells (accC (resL L) (resL M)) 65) → ldV Trym.prog 41 (.pointer (some ⟨q, 0, none⟩)) W = .ok (.agg (resL L)) W := fun W h => ld_start W q L M h
  have hs1 : ∀ W : World, HeapIs W (w.heap.size + 1) (.cells resZ 41) → stV Trym.prog 41 (.pointer (some ⟨w.heap.size + 1, 0, none⟩)) (.agg (resL M)) W = .ok () (W.setRow (w.heap.size + 1) (resL M)) := fun W h => st_res W _ M h
  have hs2 : ∀ W : World, HeapIs W (w.heap.size + 1 + 1) (.cells resZ 41) → stV Trym.prog 41 (.pointer (some ⟨w.heap.size + 1 + 1, 0, none⟩)) (.agg (resL L)) W = .ok () (W.setRow (w.heap.size + 1 + 1) (resL L)) := fun W h => st_res W _ L h
  have e1 : ∀ (W : World) C o, HeapIs (W.setRow (w.heap.size + 1) C) q o ↔ HeapIs W q o := fun W C o => heapIs_setRow_ne W _ _ C o (by omega)
  have e2 : ∀ (W : World) C o, HeapIs (W.setRow (w.heap.size + 1 + 1) C) q o ↔ HeapIs W q o := fun W C o => heapIs_setRow_ne W _ _ C o (by omega)
  have e3 : ∀ (W : World) C o, HeapIs (W.setRow (w.heap.size + 1) C) (w.heap.size + 1 + 1) o ↔ HeapIs W (w.heap.size + 1 + 1) o := fun W C o => heapIs_setRow_ne W _ _ C o (by omega)
  have e4 : ∀ (W : World) C o, HeapIs (W.setRow (w.heap.size + 1 + 1) C) (w.heap.size + 1) o ↔ HeapIs W (w.heap.size + 1) o := fun W C o => heapIs_setRow_ne W _ _ C o (by omega)
  go_enter Trym.func20, Trym.ntmps20
  go_wp2_with fail
  generalize ((w.alloc (.cells idA 36)).alloc (.cells resZ 41)).alloc (.cells resZ 41) = w1 at *
  go_quiet (fail)
  go_wp2_with fail
  go_region_held3 (fun w' => HeapIs w' q (.cells (accC (resL L) (resL M)) 65)) (go_keep) (fail)
  go_wp2_with fail
  refine bodyPost_ret (v := .tuple #[.agg (resL M), .agg (resL L), .bool true]) ?_ rfl ⟨rfl, ?_⟩
  · refine results_2 Trym.results20 _ _ _ _ _ _ _ (by rfl) (by rfl) (by rfl) ?_ ?_ (resL_size M) (resL_size L)
    · exact (e4 _ _ _).2 (setRow_heap _ _ _ _ _ _ k1)
    · exact setRow_heap _ _ _ _ _ _ ((e3 _ _ _).2 k2)
  · exact below_setRow (below_setRow (below_drewN hbx _) (by omega) _) (by omega) _
end Go.Proofs.Qxb6602000aMods.Led
