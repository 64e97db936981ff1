import Derived.Test.Qxb6602000aModsRows
import Derived.Test.Qxb6602000aModsBelow
import Derived.WalkKit
import Derived.ProofKit
import Derived.OpenShut
import Derived.ShutString
import Derived.Carry
import Derived.Deep.Slices
import Derived.Laws.Cover2
namespace Go.Proofs.Qxb6602000aMods.Led
open Go.ChangeShapes Go.WideShapes Go.ChangeAt Go.RowKit
set_option linter.unusedVariables false
section
variable {H : Type} {enc : TypeId × Value → H} {w : World} {base : Nat} {spare : Nat → Bool} {held : Bool} {fuel : Nat} {cs : List Value} {x : DataW H × List MemPlace}

theorem trod_f64 {P : Program} {t : TypeId} (ht : P.underlying t = some (.float .f64)) (h : DataW.trod enc P w base spare held fuel t cs = some x) : ∃ b, cs = [.float .f64 b] := by
  cases fuel with
  | zero => simp [DataW.trod] at h
  | succ n =>
    unfold DataW.trod at h
    rw [ht] at h
    split at h <;> simp_all


theorem spot_none {w : World} {a : Addr} {v : Value} (h : w.cell? a = some v) : a = ⟨a.block, a.off, none⟩ := by
  obtain ⟨b, o, s⟩ := a
  cases s with
  | none => rfl
  | some s =>
    exfalso
    simp only [World.cell?] at h
    split at h <;> simp at h
theorem cell_add {w : World} {a : Addr} {k : Nat} {v : Value} (h : w.cell? (a.add k) = some v) : w.cell? ⟨a.block, a.off + k, none⟩ = some v := by
  by_cases hk : k = 0
  · subst hk
    have h2 : w.cell? a = some v := by simpa [Addr.add] using h
    rw [spot_none h2] at h2
    exact h2
  · unfold Addr.add at h
    rw [if_neg hk] at h
    exact h

theorem open_text {P : Program} {t e : TypeId} (ht : P.underlying t = some (.pointer e)) (he : P.underlying e = some .string) (hc : P.cellsOf e = 1) (h : DataW.trod enc P w base spare held fuel t cs = some x) :
    ∃ p, cs = [.pointer p] ∧ TextAt w w.heap.size p := by
  rcases DataW.trod_pointer ht h with ⟨rfl, _⟩ | ⟨a, cs', y, n, _, rfl, _, h1, h2⟩
  · exact ⟨none, rfl, fun a e => by simp at e⟩
  · obtain ⟨s, rfl, _⟩ := DataW.trod_string he h2
    refine ⟨some a, rfl, fun a' e' => ?_⟩
    obtain rfl : a = a' := by simpa using e'
    rw [hc] at h1
    obtain ⟨_, _, h3⟩ := World.cells?_some h1
    have h4 : w.cell? a = some (.string s) := by simpa [Addr.add] using h3 0 (by omega)
    exact ⟨blk_lt h4, s, h4⟩
theorem cells9 : Trym.prog.cellsOf 9 = 1 := by kernel_rfl
theorem cells4 : Trym.prog.cellsOf 4 = 1 := by kernel_rfl
theorem cells37 : Trym.prog.cellsOf 37 = 1 := by kernel_rfl
theorem cells38 : Trym.prog.cellsOf 38 = 1 := by kernel_rfl
theorem cells44 : Trym.prog.cellsOf 44 = 9 := by kernel_rfl

theorem open_level (h : DataW.trod enc Trym.prog w base spare held fuel 44 cs = some x) :
    ∃ L : Lv, cs = (lvCells L).toList ∧ TextAt w w.heap.size L.loc ∧ TextAt w w.heap.size L.note := by
  obtain ⟨xs, n, rfl, rfl, hlen, hxs, hall⟩ := DataW.trod_struct Trym.underlying44 h
  rw [cells44] at hlen
  match cs, hlen with
  | [c0, c1, c2, c3, c4, c5, c6, c7, c8], _ =>
    match xs, hxs with
    | [x0, x1, x2, x3, x4, x5, x6, x7, x8], _ =>
      have f0 : DataW.trod enc Trym.prog w base spare held n 4 [c0] = some x0 := by
        have h0 : DataW.trod enc Trym.prog w base spare held n 4 (([c0, c1, c2, c3, c4, c5, c6, c7, c8].drop 0).take (Trym.prog.cellsOf 4)) = some x0 := hall 0 _ rfl
        rw [cells4] at h0
        exact h0
      have f1 : DataW.trod enc Trym.prog w base spare held n 9 [c1] = some x1 := by
        have h0 : DataW.trod enc Trym.prog w base spare held n 9 (([c0, c1, c2, c3, c4, c5, c6, c7, c8].drop 1).take (Trym.prog.cellsOf 9)) = some x1 := hall 1 _ rfl
        rw [cells9] at h0
        exact h0
      have f2 : DataW.trod enc Trym.prog w base spare held n 9 [c2] = some x2 := by
        have h0 : DataW.trod enc Trym.prog w base spare held n 9 (([c0, c1, c2, c3, c4, c5, c6, c7, c8].drop 2).take (Trym.prog.cellsOf 9)) = some x2 := hall 2 _ rfl
        rw [cells9] at h0
        exact h0
      have f3 : DataW.trod enc Trym.prog w base spare held n 37 [c3] = some x3 := by
        have h0 : DataW.trod enc Trym.prog w base spare held n 37 (([c0, c1, c2, c3, c4, c5, c6, c7, c8].drop 3).take (Trym.prog.cellsOf 37)) = some x3 := hall 3 _ rfl
        rw [cells37] at h0
        exact h0
      have f4 : DataW.trod enc Trym.prog w base spare held n 37 [c4] = some x4 := by
        have h0 : DataW.trod enc Trym.prog w base spare held n 37 (([c0, c1, c2, c3, c4, c5, c6, c7, c8].drop 4).take (Trym.prog.cellsOf 37)) = some x4 := hall 4 _ rfl
        rw [cells37] at h0
        exact h0
      have f5 : DataW.trod enc Trym.prog w base spare held n 38 [c5] = some x5 := by
        have h0 : DataW.trod enc Trym.prog w base spare held n 38 (([c0, c1, c2, c3, c4, c5, c6, c7, c8].drop 5).take (Trym.prog.cellsOf 38)) = some x5 := hall 5 _ rfl
        rw [cells38] at h0
        exact h0
      have f6 : DataW.trod enc Trym.prog w base spare held n 9 [c6] = some x6 := by
        have h0 : DataW.trod enc Trym.prog w base spare held n 9 (([c0, c1, c2, c3, c4, c5, c6, c7, c8].drop 6).take (Trym.prog.cellsOf 9)) = some x6 := hall 6 _ rfl
        rw [cells9] at h0
        exact h0
      have f7 : DataW.trod enc Trym.prog w base spare held n 38 [c7] = some x7 := by
        have h0 : DataW.trod enc Trym.prog w base spare held n 38 (([c0, c1, c2, c3, c4, c5, c6, c7, c8].drop 7).take (Trym.prog.cellsOf 38)) = some x7 := hall 7 _ rfl
        rw [cells38] at h0
        exact h0
      have f8 : DataW.trod enc Trym.prog w base spare held n 4 [c8] = some x8 := by
        have h0 : DataW.trod enc Trym.prog w base spare held n 4 (([c0, c1, c2, c3, c4, c5, c6, c7, c8].drop 8).take (Trym.prog.cellsOf 4)) = some x8 := hall 8 _ rfl
        rw [cells4] at h0
        exact h0
      obtain ⟨b0, e0, _⟩ := DataW.trod_bool Trym.underlying4 f0
      obtain ⟨b1, e1, _⟩ := DataW.trod_string Trym.underlying9 f1
      obtain ⟨b2, e2, _⟩ := DataW.trod_string Trym.underlying9 f2
      obtain ⟨b3, e3⟩ := trod_f64 Trym.underlying37 f3
      obtain ⟨b4, e4⟩ := trod_f64 Trym.underlying37 f4
      obtain ⟨b5, e5, t5⟩ := open_text Trym.underlying38 Trym.underlying9 cells9 f5
      obtain ⟨b6, e6, _⟩ := DataW.trod_string Trym.underlying9 f6
      obtain ⟨b7, e7, t7⟩ := open_text Trym.underlying38 Trym.underlying9 cells9 f7
      obtain ⟨b8, e8, _⟩ := DataW.trod_bool Trym.underlying4 f8
      simp only [List.cons.injEq, and_true] at e0 e1 e2 e3 e4 e5 e6 e7 e8
      subst e0 e1 e2 e3 e4 e5 e6 e7 e8
      exact ⟨⟨b0, b1, b2, b3, b4, b5, b6, b7, b8⟩, rfl, t5, t7⟩

/-- The slice of levels, opened. -/
theorem open_levels (h : DataW.trod enc Trym.prog w base spare held fuel 22 cs = some x) :
    ∃ (p : Option Addr) (B o n cap : Nat) (Ls : List Lv), cs = [.slice p n cap] ∧ (n = 0 ∨ p = some ⟨B, o, none⟩ ∧ B < w.heap.size) ∧ LvsAt w B o Ls ∧ n = Ls.length ∧ n ≤ 9223372036854775807 ∧ ∀ L ∈ Ls, TextAt w w.heap.size L.loc ∧ TextAt w w.heap.size L.note := by
  rcases Deep.open_slice Trym.underlying22 h with ⟨rfl, _⟩ | ⟨a, len, cap, m, n, D, Pl, rfl, hb, hl, hm, hmm, rfl, hx⟩
  · exact ⟨none, 0, 0, 0, 0, [], rfl, .inl rfl, fun i L hL => by simp at hL, rfl, by omega, fun L hL => by simp at hL⟩
  have hlm : len ≤ m := by rw [hmm]; split <;> omega
  have hx' : ∀ i, i < len → ∃ L : Lv, w.cells? base (a.add (i * 9)) 9 = some (lvCells L).toList ∧ TextAt w w.heap.size L.loc ∧ TextAt w w.heap.size L.note := fun i hi => by
    obtain ⟨cs', h1, h2⟩ := hx i (by omega)
    obtain ⟨L, rfl, h3⟩ := open_level h2
    rw [cells44] at h1
    exact ⟨L, h1, h3⟩
  haveI : Inhabited Lv := ⟨⟨false, .empty, .empty, 0, 0, none, .empty, none, false⟩⟩
  obtain ⟨F, hF⟩ := Deep.choose_lt hx'
  have hbig : len ≤ 9223372036854775807 := by unfold maxLen at hm; omega
  refine ⟨some a, a.block, a.off, len, cap, (List.range len).map F, rfl, ?_, ?_, by simp, hbig, ?_⟩
  · by_cases h0 : len = 0
    · exact .inl h0
    · right
      have h1 := (World.cells?_some (hF 0 (by omega)).1).2.2 0 (by omega)
      have h2 : w.cell? a = some (.bool (F 0).holds) := by simpa [Addr.add, lvCells] using h1
      have h3 := blk_lt h2
      exact ⟨congrArg some (spot_none h2), h3⟩
  · intro i L hL
    obtain ⟨hi, rfl⟩ : i < len ∧ F i = L := by
      simp only [List.getElem?_map, Option.map_eq_some_iff] at hL
      obtain ⟨k, hk, hkL⟩ := hL
      obtain ⟨h1, h2⟩ := List.getElem?_eq_some_iff.1 hk
      simp at h1 h2
      subst h2
      exact ⟨h1, hkL⟩
    intro j v hv
    have h1 := (World.cells?_some (hF i hi).1).2.2 j (by have := (List.getElem?_eq_some_iff.1 hv).1; simpa [lvCells] using this)
    rw [hv, Deep.add_add] at h1
    rw [Nat.add_assoc]
    exact cell_add h1
  · intro L hL
    simp at hL
    obtain ⟨i, hi, rfl⟩ := hL
    exact (hF i hi).2
end
end Go.Proofs.Qxb6602000aMods.Led
