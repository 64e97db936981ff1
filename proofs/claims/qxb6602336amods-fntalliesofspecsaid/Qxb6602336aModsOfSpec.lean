import Derived.Test.Qxb6602336aModsOfC1
import Derived.Test.Qxb6602336aModsOfC2
import Derived.Test.Qxb6602336aModsOfC3
import Derived.Test.Qxb6602336aModsOfC4
import Derived.Test.Qxb6602336aModsOfC5
import Derived.Test.Qxb6602336aModsOfOut
namespace Go.Proofs.Qxb6602336aMods.Tab
open Go.RowKit Go.Proofs.Qxb6602336aMods.Plan

theorem ofspec_any (a b : Int) (a0 : Option Addr) (n c0 : Nat) (z0 : List Int) (a1 : Option Addr) (n1 c1 : Nat) (z1 : List Int) (a2 : Option Addr) (n2 c2 : Nat) (B : Nat → Bool) (isNil : Bool) (sc sf sr : Int) (w : World)
    (h0 : RowIn w a0 n c0 z0) (h1 : RowIn w a1 n1 c1 z1) (h2 : BoolsIn w a2 n2 c2 B) :
    Calls Trym.prog 7 #[.int .i64 a, .int .i64 b, .slice a0 n c0, .slice a1 n1 c1, .slice a2 n2 c2, .bool isNil, .int .u64 sc, .int .u64 sf, .int .u64 sr] w fun e w' => e = .returned (.bool true) ∧ Below w.heap.size w w' := by
  by_cases h : 32768 < n ∨ n1 ≠ n ∨ n2 ≠ n ∨ (isNil = true ∧ 0 < n)
  · exact ofspec_out a b a0 n c0 a1 n1 c1 a2 n2 c2 isNil sc sf sr w h
  · have hn : n ≤ 32768 := by
      by_cases x : 32768 < n
      · exact absurd (.inl x) h
      · omega
    obtain rfl : n1 = n := by
      by_cases x : n1 = n
      · exact x
      · exact absurd (.inr (.inl x)) h
    obtain rfl : n2 = n1 := by
      by_cases x : n2 = n1
      · exact x
      · exact absurd (.inr (.inr (.inl x))) h
    cases isNil with
    | true =>
      obtain rfl : n2 = 0 := by
        by_cases x : 0 < n2
        · exact absurd (.inr (.inr (.inr ⟨rfl, x⟩))) h
        · omega
      exact ofspec_nil a b a0 c0 a1 c1 a2 c2 sc sf sr w
    | false =>
      cases hj : lastI z0 z1 a b n2 with
      | none =>
        by_cases hl : lenK z0 z1 n2 < 1024
        · exact of_c5 a b a0 n2 c0 z0 a1 c1 z1 a2 c2 B sc sf sr w h0 h1 h2 hn hj hl
        · exact of_c4 a b a0 n2 c0 z0 a1 c1 z1 a2 c2 B sc sf sr w h0 h1 h2 hn hj (by omega)
      | some j =>
        cases hlj : B j with
        | true => exact of_c1 a b a0 n2 c0 z0 a1 c1 z1 a2 c2 B sc sf sr w h0 h1 h2 hn j hj hlj
        | false =>
          by_cases hl : lenK z0 z1 n2 < 1024
          · exact of_c3 a b a0 n2 c0 z0 a1 c1 z1 a2 c2 B sc sf sr w h0 h1 h2 hn j hj hlj hl
          · exact of_c2 a b a0 n2 c0 z0 a1 c1 z1 a2 c2 B sc sf sr w h0 h1 h2 hn j hj hlj (by omega)
end Go.Proofs.Qxb6602336aMods.Tab
