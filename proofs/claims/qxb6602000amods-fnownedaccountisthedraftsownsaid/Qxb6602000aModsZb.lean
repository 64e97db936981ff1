import Derived.Test.Qxb6602000aModsCopy
namespace Go.Proofs.Qxb6602000aMods.Led
open Go.RowKit
set_option linter.unusedVariables false

set_option maxHeartbeats 4000000 in
set_option maxRecDepth 10000 in
theorem zz_any (p : Option Addr) (B o n cap lim : Nat) (Ls : List Lv) (w : World) (hp : n = 0 ∨ p = some ⟨B, o, none⟩) (h : LvsAt w B o Ls) (hn : n = Ls.length) (hbig : n ≤ 9223372036854775807)
    (ht : ∀ L ∈ Ls, TextAt w lim L.loc ∧ TextAt w lim L.note) :
    Calls Trym.prog 18 #[.slice p n cap] w fun e w' => (∃ b, e = .returned (.bool b)) ∧ w' = w := by
  have HL : Hid (n = Ls.length) := hn
  have HT : Hid (∀ L ∈ Ls, TextAt w lim L.loc ∧ TextAt w lim L.note) := ht
  clear hn ht
  by_cases hn1 : 1048576 < n
  · go_enter Trym.func18, Trym.ntmps18
    go_wp2_with fail
    go_ret
    exact ⟨⟨_, rfl⟩, rfl⟩
  · go_enter Trym.func18, Trym.ntmps18
    go_wp2_with fail
    go_loopw [3, 4] (fun t v wr => ∃ (k m : Nat), v = .int .i64 k ∧ t = .int .i64 m ∧ m ≤ 1048576 ∧ k ≤ n ∧ wr = w) (fun _ v _ => (n - intOf v).toNat)
    case atStart => exact ⟨0, n, rfl, rfl, by omega, by omega, rfl⟩
    case round =>
      obtain ⟨k, m, rfl, rfl, hm, hkn, rfl⟩ := hrel
      by_cases hlt : k < n
      · obtain ⟨L, hL⟩ : ∃ L, Ls[k]? = some L := ⟨Ls[k]'(by have := HL.out; omega), List.getElem?_eq_getElem _⟩
        have hmem : L ∈ Ls := List.mem_of_getElem? hL
        have hp' : p = some ⟨B, o, none⟩ := by
          rcases hp with h0 | h0
          · omega
          · exact h0
        subst hp'
        have hr := h k L hL
        have c1 : wr.cell? ⟨B, o + k * 9 + 1, none⟩ = some (.string L.name) := hr 1 _ rfl
        have c2 : wr.cell? ⟨B, o + k * 9 + 2, none⟩ = some (.string L.unit) := hr 2 _ rfl
        have c5 : wr.cell? ⟨B, o + k * 9 + 5, none⟩ = some (.pointer L.loc) := hr 5 _ rfl
        have c6 : wr.cell? ⟨B, o + k * 9 + 6, none⟩ = some (.string L.state) := hr 6 _ rfl
        have c7 : wr.cell? ⟨B, o + k * 9 + 7, none⟩ = some (.pointer L.note) := hr 7 _ rfl
        have t1 := (HT.out L hmem).1
        have t2 := (HT.out L hmem).2
        clear hL hr hmem hp
        generalize L.loc = q1 at *
        generalize L.note = q2 at *
        cases q1 with
        | none =>
          cases q2 with
          | none =>
            clear t1 t2
            go_wp2_with fail
            all_goals first
              | (go_ret; exact ⟨⟨_, rfl⟩, rfl⟩)
              | (refine ⟨⟨k + 1, m + L.name.size + L.unit.size + L.state.size, rfl, by simp, by omega, by omega, trivial⟩, ?_⟩; show (_ - ((k : Int) + 1)).toNat < (_ - (k : Int)).toNat; omega)
          | some a2 =>
            obtain ⟨_, s2, hs2⟩ := t2 a2 rfl; clear t1 t2
            go_wp2_with fail
            all_goals first
              | (go_ret; exact ⟨⟨_, rfl⟩, rfl⟩)
              | (refine ⟨⟨k + 1, m + L.name.size + L.unit.size + L.state.size + s2.size, rfl, by simp, by omega, by omega, trivial⟩, ?_⟩; show (_ - ((k : Int) + 1)).toNat < (_ - (k : Int)).toNat; omega)
        | some a1 =>
          obtain ⟨_, s1, hs1⟩ := t1 a1 rfl
          cases q2 with
          | none =>
            clear t1 t2
            go_wp2_with fail
            all_goals first
              | (go_ret; exact ⟨⟨_, rfl⟩, rfl⟩)
              | (refine ⟨⟨k + 1, m + L.name.size + L.unit.size + s1.size + L.state.size, rfl, by simp, by omega, by omega, trivial⟩, ?_⟩; show (_ - ((k : Int) + 1)).toNat < (_ - (k : Int)).toNat; omega)
          | some a2 =>
            obtain ⟨_, s2, hs2⟩ := t2 a2 rfl; clear t1 t2
            go_wp2_with fail
            all_goals first
              | (go_ret; exact ⟨⟨_, rfl⟩, rfl⟩)
              | (refine ⟨⟨k + 1, m + L.name.size + L.unit.size + s1.size + L.state.size + s2.size, rfl, by simp, by omega, by omega, trivial⟩, ?_⟩; show (_ - ((k : Int) + 1)).toNat < (_ - (k : Int)).toNat; omega)
      · have hk : k = n := by omega
        subst hk
        go_wp2_with fail
        go_ret
        exact ⟨⟨_, rfl⟩, rfl⟩
end Go.Proofs.Qxb6602000aMods.Led
