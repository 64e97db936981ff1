import Derived.Test.Qxb6602000aModsCopy
namespace Go.Proofs.Qxb6602000aMods.Led
open Go.RowKit
set_option linter.unusedVariables false
attribute [local go_sem ↓] ld44 st44

set_option maxHeartbeats 1000000 in
theorem strLen_any (p : Option Addr) (lim : Nat) (w : World) (hp : TextAt w lim p) :
    Calls Trym.prog 34 #[.pointer p] w fun e w' => ∃ l : Nat, e = .returned (.int .i64 l) ∧ w' = w := by
  cases p with
  | none =>
    go_enter Trym.func34, Trym.ntmps34
    go_wp2
    go_ret
    exact ⟨0, rfl, rfl⟩
  | some a =>
    obtain ⟨_, s, hs⟩ := hp a rfl
    go_enter Trym.func34, Trym.ntmps34
    go_wp2
    go_ret
    exact ⟨_, rfl, rfl⟩

set_option maxHeartbeats 2000000 in
theorem levelSize_any (L : Lv) (lim : Nat) (w : World) (h1 : TextAt w lim L.loc) (h2 : TextAt w lim L.note) (hl : lim ≤ w.heap.size) :
    Calls Trym.prog 32 #[.agg (lvCells L)] w fun e w' => (e = .returned (.tuple #[.int .i64 0, .bool false]) ∨ ∃ m : Nat, m ≤ 6000000 ∧ e = .returned (.tuple #[.int .i64 m, .bool true])) ∧ Below w.heap.size w w' := by
  have hbx : Below w.heap.size w (w.alloc (.cells (lvCells L) 44)) := (Below.refl _ _).alloc (Nat.le_refl _) _
  have k0 : HeapIs (w.alloc (.cells (lvCells L) 44)) w.heap.size (.cells (lvCells L) 44) := heap_alloc_new _ _
  have t1 := h1.below hbx hl
  have t2 := h2.below hbx hl
  have c1 : (w.alloc (.cells (lvCells L) 44)).cell? ⟨w.heap.size, 1, none⟩ = some (.string L.name) := cell_of k0 1
  have c2 : (w.alloc (.cells (lvCells L) 44)).cell? ⟨w.heap.size, 2, none⟩ = some (.string L.unit) := cell_of k0 2
  have c6 : (w.alloc (.cells (lvCells L) 44)).cell? ⟨w.heap.size, 6, none⟩ = some (.string L.state) := cell_of k0 6
  have c5 : (w.alloc (.cells (lvCells L) 44)).cell? ⟨w.heap.size, 5, none⟩ = some (.pointer L.loc) := cell_of k0 5
  have c7 : (w.alloc (.cells (lvCells L) 44)).cell? ⟨w.heap.size, 7, none⟩ = some (.pointer L.note) := cell_of k0 7
  clear k0
  generalize lvCells L = CL at *
  go_enter Trym.func32, Trym.ntmps32
  go_wp2_with (first
    | (go_at_call 34; (with_reducible (show Calls _ _ #[.pointer L.loc] _ _)); refine (strLen_any L.loc lim _ (by exact t1)).mono ?_; rintro e w2 ⟨l1, rfl, rfl⟩)
    | (go_at_call 34; (with_reducible (show Calls _ _ #[.pointer L.note] _ _)); refine (strLen_any L.note lim _ (by exact t2)).mono ?_; rintro e w3 ⟨l2, rfl, rfl⟩))
  all_goals go_ret2
  all_goals refine ⟨?_, hbx⟩
  all_goals first
    | exact .inl rfl
    | exact .inr ⟨128 + L.name.size + L.unit.size + L.state.size + l1 + l2, by omega, by simp⟩

set_option maxHeartbeats 2000000 in
theorem bytes_any (B o n cap lim : Nat) (Ls : List Lv) (w : World) (h : LvsAt w B o Ls) (hn : n = Ls.length) (hB : n ≠ 0 → B < w.heap.size) (hl : lim ≤ w.heap.size) (hbig : n ≤ 9223372036854775807)
    (ht : ∀ L ∈ Ls, TextAt w lim L.loc ∧ TextAt w lim L.note) :
    Calls Trym.prog 26 #[.slice (some ⟨B, o, none⟩) n cap] w fun e w' => (e = .returned (.int .i64 (-1)) ∨ ∃ m : Nat, m ≤ 1048576 ∧ 1 ≤ n ∧ n ≤ 4096 ∧ e = .returned (.int .i64 m)) ∧ Below w.heap.size w w' := by
  have HL : Hid (n = Ls.length) := hn
  have HT : Hid (∀ L ∈ Ls, TextAt w lim L.loc ∧ TextAt w lim L.note) := ht
  clear hn ht
  by_cases hn0 : n = 0
  · subst hn0
    go_enter Trym.func26, Trym.ntmps26
    go_wp2_with fail
    go_ret
    exact ⟨.inl rfl, Below.refl _ _⟩
  by_cases hn1 : 4096 < n
  · have hb0 : ((n : Int) == 0) = false := by simp; omega
    go_enter Trym.func26, Trym.ntmps26
    go_wp2_with fail
    go_ret
    exact ⟨.inl rfl, Below.refl _ _⟩
  have hb0 : ((n : Int) == 0) = false := by simp; omega
  have hB' := hB hn0
  go_enter Trym.func26, Trym.ntmps26
  go_wp2_with fail
  go_loopw [3, 4, 5, 6] (fun t v _ _ wr => ∃ (k m : Nat), v = .int .i64 k ∧ t = .int .i64 m ∧ m ≤ 1048576 ∧ k ≤ n ∧ Below w.heap.size w wr) (fun _ v _ _ _ => (n - intOf v).toNat)
  case atStart => exact ⟨0, 0, rfl, rfl, by omega, by omega, Below.refl _ _⟩
  case round =>
    obtain ⟨k, m, rfl, rfl, hm, hkn, hb⟩ := hrel
    by_cases hlt : k < n
    · obtain ⟨L, hL⟩ : ∃ L, Ls[k]? = some L := ⟨Ls[k]'(by have := HL.out; omega), List.getElem?_eq_getElem _⟩
      have hmem : L ∈ Ls := List.mem_of_getElem? hL
      have t1 := (HT.out L hmem).1.below hb hl
      have t2 := (HT.out L hmem).2.below hb hl
      have hld := ld_lv wr B (o + k * 9) L (h.below hb hB' k L hL)
      have hsb := hb.size
      clear hL
      go_wp2_with (first | (go_at_call 32; refine (levelSize_any L lim _ (by exact t1) (by exact t2) (by omega)).mono ?_; rintro e w2 ⟨rfl | ⟨d, hd, rfl⟩, hb2⟩))
      · go_ret
        exact ⟨.inl rfl, hb.over hb2⟩
      · go_ret
        exact ⟨.inl rfl, hb.over hb2⟩
      · refine ⟨⟨k + 1, m + d, rfl, by simp, by omega, by omega, hb.over hb2⟩, ?_⟩
        show (_ - ((k : Int) + 1)).toNat < (_ - (k : Int)).toNat; omega
    · have hk : k = n := by omega
      subst hk
      go_wp2_with fail
      go_ret
      exact ⟨.inr ⟨m, hm, by omega, by omega, rfl⟩, hb⟩

theorem bytes_zero (p : Option Addr) (cap : Nat) (w : World) : Calls Trym.prog 26 #[.slice p 0 cap] w fun e w' => e = .returned (.int .i64 (-1)) ∧ w' = w := by
  go_enter Trym.func26, Trym.ntmps26
  go_wp2_with fail
  go_ret
  exact ⟨rfl, rfl⟩

/-- levelsOutside. -/
theorem outside_zero (p : Option Addr) (cap : Nat) (w : World) : Calls Trym.prog 8 #[.slice p 0 cap] w fun e w' => e = .returned (.bool true) ∧ w' = w := by
  go_enter Trym.func8, Trym.ntmps8
  go_wp2_with (first | (go_at_call 26; refine (bytes_zero p cap w).mono ?_; rintro e w2 ⟨rfl, rfl⟩))
  go_ret
  exact ⟨rfl, rfl⟩

theorem outside_any (B o n cap lim : Nat) (Ls : List Lv) (w : World) (h : LvsAt w B o Ls) (hn : n = Ls.length) (hB : n ≠ 0 → B < w.heap.size) (hl : lim ≤ w.heap.size) (hbig : n ≤ 9223372036854775807)
    (ht : ∀ L ∈ Ls, TextAt w lim L.loc ∧ TextAt w lim L.note) :
    Calls Trym.prog 8 #[.slice (some ⟨B, o, none⟩) n cap] w fun e w' => (e = .returned (.bool true) ∨ 1 ≤ n ∧ n ≤ 4096 ∧ e = .returned (.bool false)) ∧ Below w.heap.size w w' := by
  have hc := bytes_any B o n cap lim Ls w h hn hB hl hbig ht
  clear h hn hB hl ht
  go_enter Trym.func8, Trym.ntmps8
  go_wp2_with (first | (go_at_call 26; refine hc.mono ?_; rintro e w2 ⟨rfl | ⟨m, hm, h1, h2, rfl⟩, hb2⟩))
  · go_ret
    exact ⟨.inl rfl, hb2⟩
  · have : ¬ (m : Int) < 0 := by omega
    go_ret
    exact ⟨.inr ⟨h1, h2, by simp [this]⟩, hb2⟩
end Go.Proofs.Qxb6602000aMods.Led
