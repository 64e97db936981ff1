import Derived.Test.Qxb6602000aModsLvls
namespace Go.Proofs.Qxb6602000aMods.Led
open Go.RowKit
set_option linter.unusedVariables false
attribute [local go_sem ↓] ld44 st44

theorem make22 (n : Nat) (hn : n ≤ 4096) : ∃ Z : Array Value, Z.size = n * 9 ∧ ∀ w : World, (Instr.makeSlice 22 (.int .i64 n) (.int .i64 n)).run Trym.prog w = .ok (.slice (some ⟨w.heap.size, 0, none⟩) n n) (w.alloc (.cells Z 44)) := by
  refine ⟨madeCells (Value.agg (lvCells lvZ)).cells (n * 9), size_madeCells _ _, fun w => ?_⟩
  have := run_makeSlice (P := Trym.prog) w 22 44 Trym.t44 (.agg (lvCells lvZ)) Trym.underlying22 (by kernel_rfl) (by kernel_rfl) .i64 .i64 n n (by omega) (Int.le_refl _) (by show (n : Int).toNat * 9 ≤ _; omega) (by show ((96 : Nat) : Int) * n ≤ _; omega) (by omega)
  have e : Trym.t44.size = 9 := by kernel_rfl
  rw [e, Int.toNat_natCast] at this; exact this
theorem make25 (n : Nat) (hn : n ≤ 4096) : ∃ Z : Array Value, Z.size = n ∧ ∀ w : World, (Instr.makeSlice 25 (.int .i64 n) (.int .i64 n)).run Trym.prog w = .ok (.slice (some ⟨w.heap.size, 0, none⟩) n n) (w.alloc (.cells Z 28)) := by
  refine ⟨madeCells (Value.pointer none).cells (n * 1), by rw [size_madeCells]; omega, fun w => ?_⟩
  have := run_makeSlice (P := Trym.prog) w 25 28 Trym.t28 (.pointer none) Trym.underlying25 (by kernel_rfl) (by kernel_rfl) .i64 .i64 n n (by omega) (Int.le_refl _) (by show (n : Int).toNat * 1 ≤ _; omega) (by show ((8 : Nat) : Int) * n ≤ _; omega) (by omega)
  have e : Trym.t28.size = 1 := by kernel_rfl
  rw [e, Int.toNat_natCast] at this; exact this


theorem LvsAt.below {w w' : World} {B o lim : Nat} {Ls : List Lv} (h : LvsAt w B o Ls) (hb : Below lim w w') (hl : B < lim) : LvsAt w' B o Ls := fun i L hL j v hv => by
  rw [hb.cell (p := ⟨B, o + i * 9 + j, none⟩) hl]; exact h i L hL j v hv
theorem there_below {w w' : World} {b o n lim : Nat} (h : w.there b o n) (hb : Below lim w w') (hl : b < lim) : w'.there b o n := fun j hj => by
  rw [hb.cell (p := ⟨b, o + j, none⟩) hl, hb.frozen (p := ⟨b, o + j, none⟩) hl]; exact h j hj
theorem there_elem {w : World} {b n k : Nat} (h : w.there b 0 (n * 9)) (hk : k < n) : w.there b (k * 9) 9 := fun j hj => by
  have := h (k * 9 + j) (by omega)
  simpa using this
theorem ld_lv (w : World) (B o : Nat) (L : Lv) (h : w.rangeAt B o (lvCells L).toList) : ldV Trym.prog 44 (.pointer (some ⟨B, o, none⟩)) w = .ok (.agg (lvCells L)) w :=
  run_ld 44 9 big44 B o _ (lv_size L) w h
theorem st_lv (w : World) (B o : Nat) (L : Lv) (h : w.there B o 9) : stV Trym.prog 44 (.pointer (some ⟨B, o, none⟩)) (.agg (lvCells L)) w = .ok () (w.setCells B o (lvCells L).toList) :=
  run_storeAt_mid (P := Trym.prog) w B o 44 (lvCells L) h (by kernel_rfl) (lv_one L)

theorem below_setCells' {B b : Nat} {a : World} (hb : B ≤ b) : ∀ (vs : List Value) (o : Nat) (w : World), Below B a w → Below B a (w.setCells b o vs)
  | [], _, _, h => h
  | v :: r, o, w, h => below_setCells' hb r (o + 1) _ (h.setCell (p := ⟨b, o, none⟩) hb v)

set_option maxHeartbeats 1000000 in
theorem copyLevels_any (B o n cap lim : Nat) (Ls : List Lv) (w : World) (h : LvsAt w B o Ls) (hn : n = Ls.length) (hs : n ≤ 4096) (hB : B < w.heap.size) (hl : lim ≤ w.heap.size)
    (ht : ∀ L ∈ Ls, TextAt w lim L.loc ∧ TextAt w lim L.note) :
    Calls Trym.prog 9 #[.slice (some ⟨B, o, none⟩) n cap] w fun e w' => ∃ (C : Nat) (Ls' : List Lv), e = .returned (.slice (some ⟨C, 0, none⟩) n n) ∧ Ls'.length = n ∧ LvsAt w' C 0 Ls' ∧ w.heap.size ≤ C ∧ C < w'.heap.size ∧ Below w.heap.size w w' := by
  obtain ⟨Z, hZ, hmk⟩ := make22 n hs
  have heq : (binOp .eql 22 (.slice (some ⟨B, o, none⟩) n cap) (.slice none 0 0)).run Trym.prog w = .ok (.bool false) w := by kernel_rfl
  have HL : Hid (n = Ls.length) := hn
  have HT : Hid (∀ L ∈ Ls, TextAt w lim L.loc ∧ TextAt w lim L.note) := ht
  clear hn ht
  go_enter Trym.func9, Trym.ntmps9
  go_wp2_with fail
  go_loopw [4] (fun v wr => ∃ (k : Nat) (Ls' : List Lv), v = .int .i64 k ∧ k ≤ n ∧ Hid (Ls'.length = k) ∧ LvsAt wr w.heap.size 0 Ls' ∧ wr.there w.heap.size 0 (n * 9) ∧ w.heap.size < wr.heap.size ∧ Below w.heap.size w wr) (fun v _ => (n - intOf v).toNat)
  case atStart =>
    refine ⟨0, [], rfl, Nat.zero_le _, rfl, fun i L hL => by simp at hL, ?_, by simp, (Below.refl _ _).alloc (Nat.le_refl _) _⟩
    exact there_of (heap_alloc_new w (.cells Z 44)) 0 _ (by omega)
  case round =>
    obtain ⟨k, Ls', rfl, hkn, HL', hA, hth, hsz, hb⟩ := hrel
    by_cases hlt : k < n
    · obtain ⟨L, hL⟩ : ∃ L, Ls[k]? = some L := ⟨Ls[k]'(by have := HL.out; omega), List.getElem?_eq_getElem _⟩
      have hmem : L ∈ Ls := List.mem_of_getElem? hL
      have t1 := (HT.out L hmem).1.below hb hl
      have t2 := (HT.out L hmem).2.below hb hl
      have hld := ld_lv wr B (o + k * 9) L (h.below hb hB k L hL)
      clear hL
      go_wp2_with (first | (go_at_call 24; refine (copyLevel_any L lim _ (by exact t1) (by exact t2) (by omega)).mono ?_; rintro e w2 ⟨L', rfl, hb2⟩; have th2 := there_elem (there_below hth hb2 hsz) hlt; have hst := st_lv w2 w.heap.size (k * 9) L' th2))
      have hs2 := hb2.size
      refine ⟨⟨k + 1, Ls' ++ [L'], rfl, by omega, ?_, ?_, ?_, ?_, ?_⟩, ?_⟩
      · show (Ls' ++ [L']).length = k + 1; have := HL'.out; simp [this]
      · intro i M hM
        have hl' := HL'.out
        by_cases hi : i < k
        · rw [List.getElem?_append_left (by omega)] at hM
          exact World.rangeAt_setCells_apart (hA.below hb2 hsz i M hM) _ _ _ (.inr (.inl (by simp [lv_size]; omega)))
        · have hi2 : i = k := by
            have := (List.getElem?_eq_some_iff.1 hM).1
            simp at this; omega
          subst hi2
          have e : M = L' := by
            rw [List.getElem?_append_right (by omega)] at hM
            simp [hl'] at hM; exact hM.symm
          subst e
          have := World.rangeAt_setCells_same w2 w.heap.size (i * 9) (lvCells M).toList th2
          rw [Nat.zero_add]; exact this
      · exact World.there_setCells (there_below hth hb2 hsz) _ _ _
      · have := (below_setCells' (Nat.le_refl w.heap.size) (lvCells L').toList (k * 9) w2 (Below.refl w.heap.size w2)).size
        omega
      · exact below_setCells' (Nat.le_refl _) _ _ _ (hb.trans (hb2.mono (by omega)))
      · show (_ - ((k : Int) + 1)).toNat < (_ - (k : Int)).toNat; omega
    · have hk : k = n := by omega
      subst hk
      go_wp2_with fail
      go_ret
      exact ⟨w.heap.size, Ls', rfl, HL'.out, hA, Nat.le_refl _, hsz, hb⟩
end Go.Proofs.Qxb6602000aMods.Led
