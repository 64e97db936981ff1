/-
  FnOwnedAccountIsTheDraftsOwn: the row out of its walk. The frame follows the guide's shells for laws over slices.
-/
import Derived.Test.Qxb6602000aModsRows
import Derived.Test.Qxb6602000aModsOpen
import Derived.Test.Qxb6602000aModsLaw6
namespace Go.Proofs.Qxb6602000aMods.fnOwned
open Go.ChangeShapes Go.WideShapes Go.ChangeAt Go.RowKit
set_option linter.unusedVariables false

theorem own : ownKnob Trym.prog.godebug = none := by kernel_rfl
theorem laidOut : laidOutB Trym.prog = true := by kernel_rfl

set_option maxRecDepth 100000 in
theorem lifted (os : Os) (started : os.Started) (H : Type) (enc : TypeId × Value → H) :
    ReturnsInHanded {} Trym.checked os 6 .any (Rows.fnOwnedAccountIsTheDraftsOwnSpec.pre6 enc Trym.prog Trym.f6 Rows.fnOwnedAccountIsTheDraftsOwnRow.domain false) (Rows.fnOwnedAccountIsTheDraftsOwnSpec.post enc Trym.prog Trym.f6 false true false false) := by
  refine returnsInHanded_of_change (C := Trym.checked) own started (by kernel_rfl) Trym.func6
    (ChangeSpec.witness6 (enc := enc) (C := Trym.checked) false ⟨#[], #[.slice none 0 0, .agg (Led.lvCells Led.lvZ)], []⟩ 8 (by kernel_rfl) (by kernel_rfl) (by kernel_rfl) (by kernel_rfl)) ?_
  intro W base args ds gs before hval0 hW hcnd _
  have hval : ∀ (j : Nat) t v, Trym.f6.params[j]? = some t → args[j]? = some v → Value.okWide Trym.prog W .any base t v := hval0
  have hW' := hW
  obtain ⟨p, q, hA0, hV, rfl, hfz, hnd⟩ := hW
  have hA : DataW.TrodAll enc Trym.prog W 0 (fun _ => true) true Trym.f6.params.toList args.toList ds p := hA0
  rw [Trym.params6] at hA hval
  obtain ⟨v0, vs0, d0, ds0, p0, q0, hargs, rfl, rfl, h0, r0⟩ := trodAll_cons hA
  obtain ⟨v1, vs1, d1, ds1, p1, q1, rfl, rfl, rfl, h1, r1⟩ := trodAll_cons r0
  obtain ⟨rfl, rfl, rfl⟩ := trodAll_nil r1
  obtain rfl : args = #[v0, v1] := by cases args; simp_all
  obtain ⟨rfl, rfl⟩ := trodVars_none hV
  obtain ⟨a0, len0, cap0, rfl⟩ := okWide_slice Trym.underlying22 (hval 0 22 v0 rfl rfl)
  have k0 := h0
  have lt0 : ∀ x ∈ p0, x.block < W.heap.size := by obtain ⟨m, hm⟩ := k0; exact DataW.trod_lt m _ _ _ hm
  obtain ⟨fuel, hf⟩ := h0
  obtain ⟨pp, B, o, n, cap, Ls, hcs, hp, hL, hn, hbig, ht⟩ := Led.open_levels hf
  simp [Value.cells] at hcs
  obtain ⟨rfl, rfl, rfl⟩ := hcs
  obtain ⟨cs1, rfl, hsz⟩ := okWide_struct Trym.underlying44 (hval 1 44 v1 rfl rfl)
  have k1 := h1
  have lt1 : ∀ x ∈ p1, x.block < W.heap.size := by obtain ⟨m, hm⟩ := k1; exact DataW.trod_lt m _ _ _ hm
  obtain ⟨fuel1, hf1⟩ := h1
  obtain ⟨M, hM, hM1, hM2⟩ := Led.open_level hf1
  obtain rfl : cs1 = Led.lvCells M := Array.ext' (by simpa [Value.cells] using hM)
  clear hA0 hval0 hf hf1
  refine (Led.law6_any a0 B o len0 cap0 W.heap.size Ls M W hp hL hn hbig (Nat.le_refl _) ht hM1 hM2).mono fun e W' ⟨he, bel⟩ => ?_
  subst he
  exact ⟨_, rfl, _, _, _, [], _, [], hW', trodAll_mk1 (shut_bool Trym.underlying4 _), (trodAll_cons_mk (Below.trod laidOut (by kernel_rfl) (of_decide_eq_true (by kernel_rfl)) k0 bel lt0) (trodAll_cons_mk (Below.trod laidOut (by kernel_rfl) (of_decide_eq_true (by kernel_rfl)) k1 bel lt1) trodAll_mk0)), rfl, bel.frame _, fun h => by cases h⟩

theorem over : Rows.fnOwnedAccountIsTheDraftsOwnRow.holds Trym.pinned (OpenSpec.ofChange Rows.fnOwnedAccountIsTheDraftsOwnSpec) :=
  OpenClaim.holds_of_wide 6 Trym.f6 rfl rfl rfl rfl rfl rfl rfl ⟨rfl, rfl, rfl, rfl, rfl⟩ rfl rfl rfl rfl rfl (by kernel_rfl) Trym.func6 (by kernel_rfl)
    (of_decide_eq_true (by kernel_rfl)) (by unfold Func.isWrapper; first | (rw [if_pos (by decide +kernel)]; kernel_rfl) | (rw [if_neg (by decide +kernel)]; exact ⟨rfl, rfl⟩))
    (fun os started H enc _ => lifted os started H enc)

theorem proved : Rows.FnOwnedAccountIsTheDraftsOwnSaid := over
end Go.Proofs.Qxb6602000aMods.fnOwned
namespace Go.Proofs.Qxb6602000aMods
theorem fnOwnedAccountIsTheDraftsOwnProved : Rows.FnOwnedAccountIsTheDraftsOwnSaid := fnOwned.proved
end Go.Proofs.Qxb6602000aMods
