import Derived.Test.Qxb6602000aModsSz2
namespace Go.Proofs.Qxb6602000aMods.Led
open Go.RowKit
set_option linter.unusedVariables false

set_option maxHeartbeats 4000000 in
set_option maxRecDepth 10000 in
theorem zzn_any (p : Option Addr) (B o n cap lim : Nat) (Ls : List Lv) (M : Lv) (w0 : World) (hp : n = 0 ∨ p = some ⟨B, o, none⟩ ∧ B < w0.heap.size) (h0 : LvsAt w0 B o Ls) (hn : n = Ls.length) (hbig : n ≤ 9223372036854775807)
    (hl : lim ≤ w0.heap.size) (ht0 : ∀ L ∈ Ls, TextAt w0 lim L.loc ∧ TextAt w0 lim L.note) (hM1 : TextAt w0 lim M.loc) (hM2 : TextAt w0 lim M.note) :
    Calls Trym.prog 22 #[.slice p n cap, .agg (lvCells M)] w0 fun e w' => (∃ b, e = .returned (.bool b)) ∧ Below w0.heap.size w0 w' := by
  have hbx : Below w0.heap.size w0 (w0.alloc (.cells (lvCells M) 44)) := (Below.refl _ _).alloc (Nat.le_refl _) _
  have k0 : HeapIs (w0.alloc (.cells (lvCells M) 44)) w0.heap.size (.cells (lvCells M) 44) := heap_alloc_new _ _
  have h : LvsAt (w0.alloc (.cells (lvCells M) 44)) B o Ls := by
    rcases hp with e0 | ⟨_, hB⟩
    · have : Ls = [] := List.eq_nil_of_length_eq_zero (by omega)
      subst this
      intro i L hL; simp at hL
    · exact h0.below hbx hB
  have ht : ∀ L ∈ Ls, TextAt (w0.alloc (.cells (lvCells M) 44)) lim L.loc ∧ TextAt (w0.alloc (.cells (lvCells M) 44)) lim L.note := fun L hL => ⟨(ht0 L hL).1.below hbx hl, (ht0 L hL).2.below hbx hl⟩
  have HM1 : Hid (TextAt (w0.alloc (.cells (lvCells M) 44)) lim M.loc) := hM1.below hbx hl
  have HM2 : Hid (TextAt (w0.alloc (.cells (lvCells M) 44)) lim M.note) := hM2.below hbx hl
  have c1 : (w0.alloc (.cells (lvCells M) 44)).cell? ⟨w0.heap.size, 1, none⟩ = some (.string M.name) := cell_of k0 1
  have c2 : (w0.alloc (.cells (lvCells M) 44)).cell? ⟨w0.heap.size, 2, none⟩ = some (.string M.unit) := cell_of k0 2
  have c6 : (w0.alloc (.cells (lvCells M) 44)).cell? ⟨w0.heap.size, 6, none⟩ = some (.string M.state) := cell_of k0 6
  have c5 : (w0.alloc (.cells (lvCells M) 44)).cell? ⟨w0.heap.size, 5, none⟩ = some (.pointer M.loc) := cell_of k0 5
  have c7 : (w0.alloc (.cells (lvCells M) 44)).cell? ⟨w0.heap.size, 7, none⟩ = some (.pointer M.note) := cell_of k0 7
  have HC : Hid ((w0.alloc (.cells (lvCells M) 44)).cell? ⟨w0.heap.size, 1, none⟩ = some (.string M.name) ∧ (w0.alloc (.cells (lvCells M) 44)).cell? ⟨w0.heap.size, 2, none⟩ = some (.string M.unit) ∧ (w0.alloc (.cells (lvCells M) 44)).cell? ⟨w0.heap.size, 6, none⟩ = some (.string M.state) ∧ (w0.alloc (.cells (lvCells M) 44)).cell? ⟨w0.heap.size, 5, none⟩ = some (.pointer M.loc) ∧ (w0.alloc (.cells (lvCells M) 44)).cell? ⟨w0.heap.size, 7, none⟩ = some (.pointer M.note)) := ⟨c1, c2, c6, c5, c7⟩
  replace hp := hp.imp id (·.1)
  clear hM1 hM2 ht0 h0 k0 c1 c2 c6 c5 c7 hl
  have HL : Hid (n = Ls.length) := hn
  have HT : Hid (∀ L ∈ Ls, TextAt (w0.alloc (.cells (lvCells M) 44)) lim L.loc ∧ TextAt (w0.alloc (.cells (lvCells M) 44)) lim L.note) := ht
  clear hn ht
  by_cases hn1 : 1048576 < n
  · go_enter Trym.func22, Trym.ntmps22
    go_wp2_with fail
    go_ret
    exact ⟨⟨_, rfl⟩, hbx⟩
  · go_enter Trym.func22, Trym.ntmps22
    go_wp2_with fail
    generalize w0.alloc (.cells (lvCells M) 44) = w at *
    go_loopw [5, 6] (fun t v wr => ∃ (k m : Nat), v = .int .i64 k ∧ t = .int .i64 m ∧ m ≤ 1048576 ∧ k ≤ n ∧ wr = w) (fun _ v _ => (n - intOf v).toNat)
    case atStart => exact ⟨0, n, rfl, rfl, by omega, by omega, rfl⟩
    case round =>
      obtain ⟨k, m, rfl, rfl, hm, hkn, rfl⟩ := hrel
      by_cases hlt : k < n
      · obtain ⟨L, hL⟩ : ∃ L, Ls[k]? = some L := ⟨Ls[k]'(by have := HL.out; omega), List.getElem?_eq_getElem _⟩
        have hmem : L ∈ Ls := List.mem_of_getElem? hL
        have hp' : p = some ⟨B, o, none⟩ := by
          rcases hp with h0 | h0
          · omega
          · exact h0
        subst hp'
        have hr := h k L hL
        have c1 : wr.cell? ⟨B, o + k * 9 + 1, none⟩ = some (.string L.name) := hr 1 _ rfl
        have c2 : wr.cell? ⟨B, o + k * 9 + 2, none⟩ = some (.string L.unit) := hr 2 _ rfl
        have c5 : wr.cell? ⟨B, o + k * 9 + 5, none⟩ = some (.pointer L.loc) := hr 5 _ rfl
        have c6 : wr.cell? ⟨B, o + k * 9 + 6, none⟩ = some (.string L.state) := hr 6 _ rfl
        have c7 : wr.cell? ⟨B, o + k * 9 + 7, none⟩ = some (.pointer L.note) := hr 7 _ rfl
        have t1 := (HT.out L hmem).1
        have t2 := (HT.out L hmem).2
        clear hL hr hmem hp
        generalize L.loc = q1 at *
        generalize L.note = q2 at *
        cases q1 with
        | none =>
          cases q2 with
          | none =>
            clear t1 t2
            go_wp2_with fail
            all_goals first
              | (go_ret; exact ⟨⟨_, rfl⟩, hbx⟩)
              | (refine ⟨⟨k + 1, m + L.name.size + L.unit.size + L.state.size, rfl, by simp, by omega, by omega, trivial⟩, ?_⟩; show (_ - ((k : Int) + 1)).toNat < (_ - (k : Int)).toNat; omega)
          | some a2 =>
            obtain ⟨_, s2, hs2⟩ := t2 a2 rfl; clear t1 t2
            go_wp2_with fail
            all_goals first
              | (go_ret; exact ⟨⟨_, rfl⟩, hbx⟩)
              | (refine ⟨⟨k + 1, m + L.name.size + L.unit.size + L.state.size + s2.size, rfl, by simp, by omega, by omega, trivial⟩, ?_⟩; show (_ - ((k : Int) + 1)).toNat < (_ - (k : Int)).toNat; omega)
        | some a1 =>
          obtain ⟨_, s1, hs1⟩ := t1 a1 rfl
          cases q2 with
          | none =>
            clear t1 t2
            go_wp2_with fail
            all_goals first
              | (go_ret; exact ⟨⟨_, rfl⟩, hbx⟩)
              | (refine ⟨⟨k + 1, m + L.name.size + L.unit.size + s1.size + L.state.size, rfl, by simp, by omega, by omega, trivial⟩, ?_⟩; show (_ - ((k : Int) + 1)).toNat < (_ - (k : Int)).toNat; omega)
          | some a2 =>
            obtain ⟨_, s2, hs2⟩ := t2 a2 rfl; clear t1 t2
            go_wp2_with fail
            all_goals first
              | (go_ret; exact ⟨⟨_, rfl⟩, hbx⟩)
              | (refine ⟨⟨k + 1, m + L.name.size + L.unit.size + s1.size + L.state.size + s2.size, rfl, by simp, by omega, by omega, trivial⟩, ?_⟩; show (_ - ((k : Int) + 1)).toNat < (_ - (k : Int)).toNat; omega)
      · have hk : k = n := by omega
        subst hk
        obtain ⟨c1, c2, c6, c5, c7⟩ := HC.out
        have t1 := HM1.out
        have t2 := HM2.out
        clear HC HM1 HM2 HT h
        generalize M.loc = q1 at *
        generalize M.note = q2 at *
        cases q1 with
        | none =>
          cases q2 with
          | none =>
            clear t1 t2
            go_wp2_with fail
            all_goals (go_ret; exact ⟨⟨_, rfl⟩, hbx⟩)
          | some a2 =>
            obtain ⟨_, s2, hs2⟩ := t2 a2 rfl; clear t1 t2
            go_wp2_with fail
            all_goals (go_ret; exact ⟨⟨_, rfl⟩, hbx⟩)
        | some a1 =>
          obtain ⟨_, s1, hs1⟩ := t1 a1 rfl
          cases q2 with
          | none =>
            clear t1 t2
            go_wp2_with fail
            all_goals (go_ret; exact ⟨⟨_, rfl⟩, hbx⟩)
          | some a2 =>
            obtain ⟨_, s2, hs2⟩ := t2 a2 rfl; clear t1 t2
            go_wp2_with fail
            all_goals (go_ret; exact ⟨⟨_, rfl⟩, hbx⟩)
end Go.Proofs.Qxb6602000aMods.Led
