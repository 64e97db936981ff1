import Derived.Test.Qxb6602000aModsSizes
namespace Go.Proofs.Qxb6602000aMods.Led
open Go.RowKit
set_option linter.unusedVariables false
attribute [local go_sem ↓] ld44 st44

theorem ld_lv0 (W : World) (b : Nat) (L : Lv) (h : HeapIs W b (.cells (lvCells L) 44)) : ldV Trym.prog 44 (.pointer (some ⟨b, 0, none⟩)) W = .ok (.agg (lvCells L)) W := by
  refine ld_lv W b 0 L fun j v hv => ?_
  rw [Nat.zero_add]
  have h' : W.heap[b]? = some (.cells (lvCells L) 44 (0, 0)) := h
  simp only [World.cell?, h']
  simpa using hv

/-- levelsAndNextOutside. -/
theorem nextOut_zero (p : Option Addr) (cap : Nat) (M : Lv) (w : World) : Calls Trym.prog 23 #[.slice p 0 cap, .agg (lvCells M)] w fun e w' => e = .returned (.bool true) ∧ Below w.heap.size w w' := by
  have hbx : Below w.heap.size w (w.alloc (.cells (lvCells M) 44)) := (Below.refl _ _).alloc (Nat.le_refl _) _
  go_enter Trym.func23, Trym.ntmps23
  go_wp2_with (first | (go_at_call 26; refine (bytes_zero p cap _).mono ?_; rintro e w2 ⟨rfl, rfl⟩))
  go_ret
  exact ⟨rfl, hbx⟩

set_option maxHeartbeats 1000000 in
theorem nextOut_any (B o n cap lim : Nat) (Ls : List Lv) (M : Lv) (w : World) (h : LvsAt w B o Ls) (hn : n = Ls.length) (hB : B < w.heap.size) (hl : lim ≤ w.heap.size) (hbig : n ≤ 9223372036854775807)
    (ht : ∀ L ∈ Ls, TextAt w lim L.loc ∧ TextAt w lim L.note) (h1 : TextAt w lim M.loc) (h2 : TextAt w lim M.note) :
    Calls Trym.prog 23 #[.slice (some ⟨B, o, none⟩) n cap, .agg (lvCells M)] w fun e w' => (e = .returned (.bool true) ∨ 1 ≤ n ∧ n ≤ 4096 ∧ e = .returned (.bool false)) ∧ Below w.heap.size w w' := by
  have hbx : Below w.heap.size w (w.alloc (.cells (lvCells M) 44)) := (Below.refl _ _).alloc (Nat.le_refl _) _
  have hsx : w.heap.size ≤ (w.alloc (.cells (lvCells M) 44)).heap.size := hbx.size
  have k0 : HeapIs (w.alloc (.cells (lvCells M) 44)) w.heap.size (.cells (lvCells M) 44) := heap_alloc_new _ _
  have hc := bytes_any B o n cap lim Ls _ (h.below hbx hB) hn (fun _ => Nat.lt_of_lt_of_le hB hsx) (Nat.le_trans hl hsx) hbig fun L hL => ⟨(ht L hL).1.below hbx hl, (ht L hL).2.below hbx hl⟩
  clear h hn hB ht
  go_enter Trym.func23, Trym.ntmps23
  go_wp2_with (first | (go_at_call 26; refine hc.mono ?_; rintro e w2 ⟨hor, hb2⟩; have hl2 := ld_lv0 w2 w.heap.size M ((hb2.block _ (lt_of k0)).trans k0); rcases hor with rfl | ⟨m, hm, g1, g2, rfl⟩) | (go_at_call 32; refine (levelSize_any M lim _ ((h1.below hbx hl).below hb2 (by omega)) ((h2.below hbx hl).below hb2 (by omega)) (by have := hb2.size; omega)).mono ?_; rintro e w3 ⟨rfl | ⟨d, hd, rfl⟩, hb3⟩))
  · go_ret
    exact ⟨.inl rfl, hbx.over hb2⟩
  · go_ret
    exact ⟨.inl rfl, (hbx.over hb2).over hb3⟩
  · go_ret
    refine ⟨?_, (hbx.over hb2).over hb3⟩
    by_cases hq : (1048576 : Int) < (m : Int) + (d : Int)
    · left; simp [hq]
    · right; exact ⟨g1, g2, by simp [hq]⟩
end Go.Proofs.Qxb6602000aMods.Led
