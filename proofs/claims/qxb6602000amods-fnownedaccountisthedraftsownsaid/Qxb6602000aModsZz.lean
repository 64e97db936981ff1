import Derived.Test.Qxb6602000aModsHeld
namespace Go.Proofs.Qxb6602000aMods.Led
open Go.RowKit
set_option linter.unusedVariables false
attribute [local simp] heapIs_drew heapIs_drewN
attribute [local go_sem ↓] ld36 ld41 ld65 st41 st65 bu41 bu65
attribute [local go_sem ↓] Go.wp_at_zero Go.wp_at_succ

/-- Every block that was there but A and c is as it was. -/
structure Keeps (A c : Nat) (w w' : World) : Prop where
  os : w'.os = w.os
  tape : w'.tape = w.tape
  output : w'.output = w.output
  size : w.heap.size ≤ w'.heap.size
  block : ∀ k, k < w.heap.size → k ≠ A → k ≠ c → w'.heap[k]? = w.heap[k]?

theorem Keeps.of {A c : Nat} {w w' : World} (h : Below w.heap.size w w') : Keeps A c w w' := ⟨h.os, h.tape, h.output, h.size, fun k hk _ _ => h.block k hk⟩
theorem Keeps.trans {A c : Nat} {w w1 w2 : World} (h : Keeps A c w w1) (h2 : Keeps A c w1 w2) : Keeps A c w w2 :=
  ⟨h2.os.trans h.os, h2.tape.trans h.tape, h2.output.trans h.output, Nat.le_trans h.size h2.size, fun k hk a b => (h2.block k (Nat.lt_of_lt_of_le hk h.size) a b).trans (h.block k hk a b)⟩
theorem Keeps.wide {A c : Nat} {w w' : World} (h : Keeps A A w w') : Keeps A c w w' := ⟨h.os, h.tape, h.output, h.size, fun k hk a _ => h.block k hk a a⟩
theorem Keeps.at {A c k : Nat} {o : Obj} {w w' : World} (h : Keeps A c w w') (hk : HeapIs w k o) (a : k ≠ A) (b : k ≠ c) : HeapIs w' k o := (h.block k (lt_of hk) a b).trans hk
theorem Keeps.below {A c B : Nat} {w w' : World} (h : Keeps A c w w') (a : B ≤ A) (b : B ≤ c) (hB : B ≤ w.heap.size) : Below B w w' :=
  ⟨h.os, h.tape, h.output, h.size, fun k hk => h.block k (by omega) (by omega) (by omega)⟩
theorem Keeps.setRow {A c g : Nat} {w w' : World} (h : Keeps A c w w') (C : Array Value) (hg : w.heap.size ≤ g ∨ g = c) : Keeps A c w (w'.setRow g C) :=
  ⟨h.os, h.tape, h.output, by rw [setRow_size]; exact h.size, fun k hk a b => (setRow_other w' g k C (by omega)).trans (h.block k hk a b)⟩
theorem Keeps.drew {A c : Nat} {w w' : World} (h : Keeps A c w w') : Keeps A c w w'.drew := ⟨h.os, h.tape, h.output, h.size, h.block⟩

/-- What own gives: nil, or the account's pointer, which the book then holds. -/
def OwnR (A : Nat) (near : Option (Lv × Lv)) (w : World) (e : Ending) (w' : World) : Prop :=
  match near with
  | none => e = .returned (.pointer none) ∧ Below w.heap.size w w'
  | some (L, M) => ∃ c, e = .returned (.pointer (some ⟨c, 0, none⟩)) ∧ HeapIs w' c (.cells (accC (resL L) (resL M)) 65) ∧ HeapIs w' A (mapO (.pointer (some ⟨c, 0, none⟩))) ∧ Keeps A A w w'

def both (o : Option Lv) : Option (Lv × Lv) := o.map fun L => (L, L)

/-- What a fresh book holds of its own. -/
def HoldsAt (w : World) (A lim lim' : Nat) (L : Lv) : Prop :=
  if L.holds = true then ∃ q, q < lim ∧ lim' ≤ q ∧ w.heap[A]? = some (mapO (.pointer (some ⟨q, 0, none⟩))) ∧ w.heap[q]? = some (.cells (accC (resL L) (resL L)) 65 (0, 0)) else w.heap[A]? = some (.map #[] 0)

/-- own over a fresh chain. -/
theorem own_any (bk A N lim lim' : Nat) (b' : Option Addr) (L0 : Lv) (Ls : List Lv) (w : World) (h1 : HeapIs w bk (bookO b' A N)) (hlb : lim' ≤ bk) (hlA : lim' ≤ A) (hh : HoldsAt w A lim lim' L0) (hch : ChainAt w lim' b' Ls) :
    Calls Trym.prog 31 #[.pointer (some ⟨bk, 0, none⟩), .agg idA] w (OwnR A (both (nearL (L0 :: Ls))) w) := by
  unfold HoldsAt at hh
  by_cases e : L0.holds = true
  · rw [if_pos e] at hh
    obtain ⟨q, k1, k2, k3, k4⟩ := hh
    refine (own_held bk A N q b' w h1 k3).mono ?_
    rintro e1 w' ⟨rfl, hb⟩
    simp only [nearL, e, if_true, both, Option.map, OwnR]
    exact ⟨q, rfl, (hb.block q (lt_of k4)).trans k4, (hb.block A (lt_of k3)).trans k3, .of hb⟩
  · rw [if_neg e] at hh
    have hn : nearL (L0 :: Ls) = nearL Ls := by simp [nearL, e]
    rw [hn]
    cases b' with
    | none =>
      have hLs : Ls = [] := by
        cases Ls with
        | nil => rfl
        | cons L Ls => obtain ⟨_, _, _, _, _, h, _⟩ := hch; simp at h
      subst hLs
      refine (own_nobase bk A N w h1 hh).mono ?_
      rintro e1 w' ⟨rfl, hb⟩
      exact ⟨rfl, hb⟩
    | some a' =>
      refine (own_base bk A N lim' a' Ls w h1 hh hch (by have := lt_of h1; omega) hlb hlA).mono ?_
      rintro e1 w' (⟨hn, rfl, hb⟩ | ⟨L, c, hn, hc, rfl, g1, g2, g3, g4, g5, g6, g7⟩)
      · rw [hn]; exact ⟨rfl, hb⟩
      · rw [hn]; exact ⟨c, rfl, g1, g2, g3, g4, g5, g6, fun k hk a _ => g7 k hk a⟩

/-- own where the book holds: whatever the account now is. -/
theorem own_again (bk A N q : Nat) (b' : Option Addr) (L M : Lv) (w : World) (h1 : HeapIs w bk (bookO b' A N)) (h2 : HeapIs w A (mapO (.pointer (some ⟨q, 0, none⟩)))) (h3 : HeapIs w q (.cells (accC (resL L) (resL M)) 65)) :
    Calls Trym.prog 31 #[.pointer (some ⟨bk, 0, none⟩), .agg idA] w (OwnR A (some (L, M)) w) := by
  refine (own_held bk A N q b' w h1 h2).mono ?_
  rintro e1 w' ⟨rfl, hb⟩
  exact ⟨q, rfl, (hb.block q (lt_of h3)).trans h3, (hb.block A (lt_of h2)).trans h2, .of hb⟩

/-- ZZOwn's answer. -/
def ZOwnR (A : Nat) (near : Option (Lv × Lv)) (w : World) (e : Ending) (w' : World) : Prop :=
  match near with
  | none => e = .returned (.tuple #[.agg resZ, .agg resZ, .bool false]) ∧ Below w.heap.size w w'
  | some (L, M) => ∃ c, e = .returned (.tuple #[.agg (resL M), .agg (resL L), .bool true]) ∧ HeapIs w' c (.cells (accC (resL L) (resL M)) 65) ∧ HeapIs w' A (mapO (.pointer (some ⟨c, 0, none⟩))) ∧ Keeps A A w w'

set_option maxHeartbeats 1000000 in
set_option maxRecDepth 10000 in
theorem zown_any (bk A : Nat) (near : Option (Lv × Lv)) (w : World) (hA : A < w.heap.size)
    (hown : ∀ w1, Below w.heap.size w w1 → Calls Trym.prog 31 #[.pointer (some ⟨bk, 0, none⟩), .agg idA] w1 (OwnR A near w1)) :
    Calls Trym.prog 19 #[.pointer (some ⟨bk, 0, none⟩), .agg idA] w (ZOwnR A near w) := by
  have hz := zero41
  have hbz := bu_z
  have hbx : Below w.heap.size w (((w.alloc (.cells idA 36)).alloc (.cells resZ 41)).alloc (.cells resZ 41)) := (((Below.refl _ _).alloc (Nat.le_refl _) _).alloc (by simp) _).alloc (by simp; omega) _
  have k0 : HeapIs (((w.alloc (.cells idA 36)).alloc (.cells resZ 41)).alloc (.cells resZ 41)) w.heap.size (.cells idA 36) := by
    unfold HeapIs; rw [Below.heap_alloc _ _ _ (by simp; omega), Below.heap_alloc _ _ _ (by simp)]; exact heap_alloc_new _ _
  have k1 : HeapIs (((w.alloc (.cells idA 36)).alloc (.cells resZ 41)).alloc (.cells resZ 41)) (w.heap.size + 1) (.cells resZ 41) := by
    unfold HeapIs; rw [Below.heap_alloc _ _ _ (by simp)]; exact heap_alloc2_new _ _ _
  have k2 : HeapIs (((w.alloc (.cells idA 36)).alloc (.cells resZ 41)).alloc (.cells resZ 41)) (w.heap.size + 1 + 1) (.cells resZ 41) := alloc3_new ..
  have hld := ld_id _ _ k0
  have hs1 : ∀ W : World, HeapIs W (w.heap.size + 1) (.cells resZ 41) → stV Trym.prog 41 (.pointer (some ⟨w.heap.size + 1, 0, none⟩)) (.agg resZ) W = .ok () W := fun W h => st_same W _ h
  have hs2 : ∀ W : World, HeapIs W (w.heap.size + 1 + 1) (.cells resZ 41) → stV Trym.prog 41 (.pointer (some ⟨w.heap.size + 1 + 1, 0, none⟩)) (.agg resZ) W = .ok () W := fun W h => st_same W _ h
  have hcall := hown _ hbx
  clear hown
  generalize hn : near = nr at *
  cases nr with
  | none =>
    subst hn
    go_enter Trym.func19, Trym.ntmps19
    go_wp2_with (first | (go_at_call 31; refine hcall.mono ?_; rintro e w2 ⟨rfl, hb2⟩; have q1 : HeapIs w2 (w.heap.size + 1) (.cells resZ 41) := (hb2.block _ (lt_of k1)).trans k1; have q2 : HeapIs w2 (w.heap.size + 1 + 1) (.cells resZ 41) := (hb2.block _ (lt_of k2)).trans k2))
    refine bodyPost_ret (v := .tuple #[.agg resZ, .agg resZ, .bool false]) ?_ rfl ⟨rfl, hbx.over hb2⟩
    exact results_2 Trym.results19 _ _ _ _ _ _ _ (by rfl) (by rfl) (by rfl) q1 q2 resZ_size resZ_size
  | some LM =>
    obtain ⟨L, M⟩ := LM
    subst hn
    have hs1 : ∀ W : World, HeapIs W (w.heap.size + 1) (.cells resZ 41) → stV Trym.prog 41 (.pointer (some ⟨w.heap.size + 1, 0, none⟩)) (.agg (resL M)) W = .ok () (W.setRow (w.heap.size + 1) (resL M)) := fun W h => st_res W _ M h
    have hs2 : ∀ W : World, HeapIs W (w.heap.size + 1 + 1) (.cells resZ 41) → stV Trym.prog 41 (.pointer (some ⟨w.heap.size + 1 + 1, 0, none⟩)) (.agg (resL L)) W = .ok () (W.setRow (w.heap.size + 1 + 1) (resL L)) := fun W h => st_res W _ L h
    have e3 : ∀ (W : World) C o, HeapIs (W.setRow (w.heap.size + 1) C) (w.heap.size + 1 + 1) o ↔ HeapIs W (w.heap.size + 1 + 1) o := fun W C o => heapIs_setRow_ne W _ _ C o (by omega)
    have e4 : ∀ (W : World) C o, HeapIs (W.setRow (w.heap.size + 1 + 1) C) (w.heap.size + 1) o ↔ HeapIs W (w.heap.size + 1) o := fun W C o => heapIs_setRow_ne W _ _ C o (by omega)
    have HK1 : Hid (HeapIs (((w.alloc (.cells idA 36)).alloc (.cells resZ 41)).alloc (.cells resZ 41)) (w.heap.size + 1) (.cells resZ 41)) := k1
    have HK2 : Hid (HeapIs (((w.alloc (.cells idA 36)).alloc (.cells resZ 41)).alloc (.cells resZ 41)) (w.heap.size + 1 + 1) (.cells resZ 41)) := k2
    clear k1 k2
    go_enter Trym.func19, Trym.ntmps19
    go_wp2_with (first | (go_at_call 31; refine hcall.mono ?_; rintro e w2 ⟨c, rfl, hc, hm, HKp⟩; have q1 : HeapIs w2 (w.heap.size + 1) (.cells resZ 41) := HKp.at HK1.out (by omega) (by omega); have q2 : HeapIs w2 (w.heap.size + 1 + 1) (.cells resZ 41) := HKp.at HK2.out (by omega) (by omega)))
    have hc1 : c ≠ w.heap.size + 1 := by rintro rfl; have := hc.symm.trans q1; simp at this
    have hc2 : c ≠ w.heap.size + 1 + 1 := by rintro rfl; have := hc.symm.trans q2; simp at this
    have hA1 : A ≠ w.heap.size + 1 := by omega
    have hA2 : A ≠ w.heap.size + 1 + 1 := by omega
    have hln : ∀ W : World, HeapIs W c (.cells (accC (resL L) (resL M)) 65) → ldV Trym.prog 41 (.pointer (some ⟨c, 156, none⟩)) W = .ok (.agg (resL M)) W := fun W h => ld_now W c L M h
    have hls : ∀ W : World, HeapIs W c (.cells (accC (resL L) (resL M)) 65) → ldV Trym.prog 41 (.pointer (some ⟨c, 0, none⟩)) W = .ok (.agg (resL L)) W := fun W h => ld_start W c L M h
    have e1 : ∀ (W : World) C o, HeapIs (W.setRow (w.heap.size + 1) C) c o ↔ HeapIs W c o := fun W C o => heapIs_setRow_ne W _ _ C o (by omega)
    have e2 : ∀ (W : World) C o, HeapIs (W.setRow (w.heap.size + 1 + 1) C) c o ↔ HeapIs W c o := fun W C o => heapIs_setRow_ne W _ _ C o (by omega)
    go_region_held3 (fun w' => HeapIs w' c (.cells (accC (resL L) (resL M)) 65)) (go_keep) (fail)
    go_wp2_with fail
    refine bodyPost_ret (v := .tuple #[.agg (resL M), .agg (resL L), .bool true]) ?_ rfl ⟨c, rfl, ?_, ?_, ?_⟩
    · refine results_2 Trym.results19 _ _ _ _ _ _ _ (by rfl) (by rfl) (by rfl) ?_ ?_ (resL_size M) (resL_size L)
      · exact (e4 _ _ _).2 (setRow_heap _ _ _ _ _ _ q1)
      · exact setRow_heap _ _ _ _ _ _ ((e3 _ _ _).2 q2)
    · exact (e2 _ _ _).2 ((e1 _ _ _).2 hc)
    · exact (heapIs_setRow_ne _ _ _ _ _ hA2).2 ((heapIs_setRow_ne _ _ _ _ _ hA1).2 hm)
    · exact (((Keeps.of hbx).trans HKp).drew.setRow _ (.inl (by omega))).setRow _ (.inl (by omega))
end Go.Proofs.Qxb6602000aMods.Led
