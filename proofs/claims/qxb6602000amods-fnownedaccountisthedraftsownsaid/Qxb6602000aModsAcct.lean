import Derived.Test.Qxb6602000aModsBooks
namespace Go.Proofs.Qxb6602000aMods.Led
open Go.RowKit
set_option linter.unusedVariables false
attribute [local go_sem ↓] Go.wp_at_zero Go.wp_at_succ

attribute [local simp] heapIs_drew heapIs_drewN
attribute [local go_sem ↓] ld36 ld41 ld65 st41 st65 bu41 bu65

/-- A book's block: its base, its map of accounts, its map of namers. -/
def bookO (base : Option Addr) (A N : Nat) : Obj := .cells #[.pointer base, .map (some A), .map (some N)] 60

/-- The chain of books from b on: each level's book, its blocks under lim and above the tail's. -/
def ChainAt (w : World) : Nat → Option Addr → List Lv → Prop
  | _, b, [] => b = none
  | lim, b, L :: Ls => ∃ bk A N b' lim', b = some ⟨bk, 0, none⟩ ∧ bk < lim ∧ lim' ≤ bk ∧ A < lim ∧ lim' ≤ A ∧ w.heap[bk]? = some (bookO b' A N) ∧
      (if L.holds = true then ∃ q, q < lim ∧ lim' ≤ q ∧ w.heap[A]? = some (mapO (.pointer (some ⟨q, 0, none⟩))) ∧ w.heap[q]? = some (.cells (accC (resL L) (resL L)) 65 (0, 0)) else w.heap[A]? = some (.map #[] 0)) ∧
      lim' ≤ lim ∧ ChainAt w lim' b' Ls

theorem ChainAt.below {w w' : World} {B : Nat} (hb : Below B w w') : ∀ {Ls : List Lv} {lim : Nat} {b : Option Addr}, lim ≤ B → ChainAt w lim b Ls → ChainAt w' lim b Ls
  | [], _, _, _, h => h
  | L :: Ls, lim, b, hl, ⟨bk, A, N, b', lim', h1, h2, h3, h4, h5, h6, h7, h8, h9⟩ => by
    refine ⟨bk, A, N, b', lim', h1, h2, h3, h4, h5, by rw [hb.block bk (by omega)]; exact h6, ?_, h8, ChainAt.below hb (by omega) h9⟩
    by_cases e : L.holds = true
    · rw [if_pos e] at h7 ⊢
      obtain ⟨q, k1, k2, k3, k4⟩ := h7
      exact ⟨q, k1, k2, by rw [hb.block A (by omega)]; exact k3, by rw [hb.block q (by omega)]; exact k4⟩
    · rw [if_neg e] at h7 ⊢
      rw [hb.block A (by omega)]; exact h7

/-- The nearest level that holds. -/
def nearL : List Lv → Option Lv
  | [] => none
  | L :: Ls => if L.holds = true then some L else nearL Ls

def blkOf : Value → Nat
  | .pointer (some a) => a.block + 1
  | _ => 0

theorem lt_of {w : World} {k : Nat} {o : Obj} (h : w.heap[k]? = some o) : k < w.heap.size := (Array.getElem?_eq_some_iff.1 h).1
theorem cell_of {w : World} {k : Nat} {cs : Array Value} {t : TypeId} {fr : Nat × Nat} (h : w.heap[k]? = some (.cells cs t fr)) (i : Nat) : w.cell? ⟨k, i, none⟩ = cs[i]? := by
  simp [World.cell?, h]

theorem chain_meas {w : World} {lim' bk : Nat} {b' : Option Addr} {Ls : List Lv} (h : ChainAt w lim' b' Ls) (hb : lim' ≤ bk) : blkOf (.pointer b') < blkOf (.pointer (some ⟨bk, 0, none⟩)) := by
  cases Ls with
  | nil => have e : b' = none := h; subst e; simp [blkOf]
  | cons L Ls =>
    obtain ⟨bk', A, N, b'', lim'', rfl, h2, _⟩ := h
    simp [blkOf]; omega

set_option maxHeartbeats 1000000 in
set_option maxRecDepth 10000 in
/-- account: the account of the nearest level that holds. -/
theorem account_any (lim : Nat) (b : Option Addr) (Ls : List Lv) (w : World) (hch : ChainAt w lim b Ls) (hlim : lim ≤ w.heap.size) :
    Calls Trym.prog 30 #[.pointer b, .agg idA] w fun e w' => ∃ p, e = .returned (.pointer p) ∧ Below w.heap.size w w' ∧
      ((nearL Ls = none ∧ p = none) ∨ ∃ L q, nearL Ls = some L ∧ p = some ⟨q, 0, none⟩ ∧ q < lim ∧ w.heap[q]? = some (.cells (accC (resL L) (resL L)) 65 (0, 0))) := by
  have hk : (w.alloc (.cells idA 36)).heap[w.heap.size]? = some (.cells idA 36 (0, 0)) := heap_alloc_new _ _
  go_enter Trym.func30, Trym.ntmps30
  go_wp2_with fail
  go_loopw [0] (fun v wr => ∃ (b1 : Option Addr) (Ls1 : List Lv) (lim1 : Nat), v = .pointer b1 ∧ ChainAt wr lim1 b1 Ls1 ∧ lim1 ≤ lim ∧ Hid (nearL Ls1 = nearL Ls) ∧ Below w.heap.size w wr ∧ wr.heap[w.heap.size]? = some (.cells idA 36 (0, 0))) (fun v _ => blkOf v)
  case atStart => exact ⟨b, Ls, lim, rfl, hch.below ((Below.refl _ _).alloc (Nat.le_refl _) _) hlim, Nat.le_refl _, rfl, (Below.refl _ _).alloc (Nat.le_refl _) _, hk⟩
  case round =>
    clear hk hch
    obtain ⟨b1, Ls1, lim1, rfl, hch, hl1, HN, hb, hk⟩ := hrel
    cases Ls1 with
    | nil =>
      obtain rfl : b1 = none := hch
      go_wp2_with fail
      go_ret
      exact ⟨none, rfl, hb, .inl ⟨HN.out.symm, rfl⟩⟩
    | cons L Ls1 =>
      obtain ⟨bk, A, N, b', lim', rfl, h2, h3, h4, h5, h6, h7, h8, h9⟩ := hch
      have hk' : HeapIs wr w.heap.size (.cells idA 36) := hk
      have hld : ∀ W : World, HeapIs W w.heap.size (.cells idA 36) → ldV Trym.prog 36 (.pointer (some ⟨w.heap.size, 0, none⟩)) W = .ok (.agg idA) W := fun W h => ld_id W _ h
      have hc1 : wr.cell? ⟨bk, 1, none⟩ = some (.map (some A)) := cell_of h6 1
      have hc0 : wr.cell? ⟨bk, 0, none⟩ = some (.pointer b') := cell_of h6 0
      cases hh : L.holds
      · rw [hh] at h7
        have hA : HeapIs wr A (.map #[] 0) := by simp at h7; exact h7
        have hlk : ∀ W : World, HeapIs W A (.map #[] 0) → (Instr.lookup 57 (.map (some A)) (.agg idA) false).run Trym.prog W = .ok (.pointer none) W := fun W h => look_none W A h
        have HC : Hid (ChainAt wr lim' b' Ls1) := h9
        have HN2 : Hid (nearL Ls1 = nearL Ls) := by have := HN.out; unfold Hid; rw [← this]; simp [nearL, hh]
        clear h7 h9 HN hk h6
        go_wp2_with fail
        go_quiet (fail)
        go_wp2_with fail
        exact ⟨⟨b', Ls1, lim', rfl, HC.out.below (below_drewN (Below.refl wr.heap.size wr) _) (by have := hb.size; omega), by omega, HN2, below_drewN hb _, hk'⟩, chain_meas HC.out h3⟩
      · rw [hh] at h7
        obtain ⟨q, k1, k2, k3, k4⟩ := (if_pos rfl).mp h7
        have hA : HeapIs wr A (mapO (.pointer (some ⟨q, 0, none⟩))) := k3
        have hlk : ∀ W : World, HeapIs W A (mapO (.pointer (some ⟨q, 0, none⟩))) → (Instr.lookup 57 (.map (some A)) (.agg idA) false).run Trym.prog W = .ok (.pointer (some ⟨q, 0, none⟩)) W := fun W h => look_one W A _ h
        have HN2 : Hid (nearL Ls = some L) := by have := HN.out; unfold Hid; rw [← this]; simp [nearL, hh]
        have HQ : Hid (w.heap[q]? = some (.cells (accC (resL L) (resL L)) 65 (0, 0))) := by unfold Hid; rw [← hb.block q (by omega)]; exact k4
        clear h7 h9 HN hk h6 k3 k4
        go_wp2_with fail
        go_quiet (fail)
        go_wp2_with fail
        go_ret
        exact ⟨some ⟨q, 0, none⟩, rfl, below_drewN hb _, .inr ⟨L, q, HN2.out, rfl, by omega, HQ.out⟩⟩
end Go.Proofs.Qxb6602000aMods.Led
