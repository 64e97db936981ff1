import Derived.Test.Qxb6602000aModsCopy
namespace Go.Proofs.Qxb6602000aMods.Led
open Go.RowKit
set_option linter.unusedVariables false
attribute [local go_sem ↓] ld44 st44

/-- The books from number j on: the pointer in the slice's block BB, and the chain. -/
def BooksAt (w : World) (BB : Nat) : Nat → Nat → Option Addr → List Lv → Prop
  | _, _, b, [] => b = none
  | j, lim, b, L :: Ls => ∃ bk A N b' lim', b = some ⟨bk, 0, none⟩ ∧ w.cell? ⟨BB, j, none⟩ = some (.pointer b) ∧ BB < lim' ∧ bk < lim ∧ lim' ≤ bk ∧ A < lim ∧ lim' ≤ A ∧ HeapIs w bk (bookO b' A N) ∧ HoldsAt w A lim lim' L ∧ lim' ≤ lim ∧ BooksAt w BB (j + 1) lim' b' Ls

theorem HoldsAt.below {w w' : World} {B A lim lim' : Nat} {L : Lv} (hb : Below B w w') (hA : A < B) (hl : lim ≤ B) (h : HoldsAt w A lim lim' L) : HoldsAt w' A lim lim' L := by
  unfold HoldsAt at h ⊢
  by_cases e : L.holds = true
  · rw [if_pos e] at h ⊢
    obtain ⟨q, k1, k2, k3, k4⟩ := h
    exact ⟨q, k1, k2, (hb.block A hA).trans k3, (hb.block q (by omega)).trans k4⟩
  · rw [if_neg e] at h ⊢
    exact (hb.block A hA).trans h

theorem BooksAt.chain {w : World} {BB : Nat} : ∀ {Ls : List Lv} {j lim : Nat} {b : Option Addr}, BooksAt w BB j lim b Ls → ChainAt w lim b Ls
  | [], _, _, _, h => h
  | L :: Ls, j, lim, b, ⟨bk, A, N, b', lim', h1, h2, h3, h4, h5, h6, h7, h8, h9, h10, h11⟩ => ⟨bk, A, N, b', lim', h1, h4, h5, h6, h7, h8, h9, h10, h11.chain⟩

theorem BooksAt.below {w w' : World} {BB B : Nat} (hb : Below B w w') : ∀ {Ls : List Lv} {j lim : Nat} {b : Option Addr}, lim ≤ B → BooksAt w BB j lim b Ls → BooksAt w' BB j lim b Ls
  | [], _, _, _, _, h => h
  | L :: Ls, j, lim, b, hl, ⟨bk, A, N, b', lim', h1, h2, h3, h4, h5, h6, h7, h8, h9, h10, h11⟩ =>
    ⟨bk, A, N, b', lim', h1, (hb.cell (p := ⟨BB, j, none⟩) (show BB < B by omega)).trans h2, h3, h4, h5, h6, h7, (hb.block bk (by omega)).trans h8, h9.below hb (by omega) hl, h10, BooksAt.below hb (by omega) h11⟩

/-- A store into the slice's block, ahead of the books' cells. -/
theorem BooksAt.set {w : World} {BB i : Nat} {v : Value} : ∀ {Ls : List Lv} {j lim : Nat} {b : Option Addr}, i < j → BooksAt w BB j lim b Ls → BooksAt (w.setCell ⟨BB, i, none⟩ v) BB j lim b Ls
  | [], _, _, _, _, h => h
  | L :: Ls, j, lim, b, hi, ⟨bk, A, N, b', lim', h1, h2, h3, h4, h5, h6, h7, h8, h9, h10, h11⟩ => by
    refine ⟨bk, A, N, b', lim', h1, ?_, h3, h4, h5, h6, h7, (Below.heap_setCell _ _ _ _ (by simp; omega)).trans h8, ?_, h10, BooksAt.set (by omega) h11⟩
    · rw [World.cell?_setCell_other]
      · exact h2
      · intro e; have := congrArg Addr.off e; simp at this; omega
    · unfold HoldsAt at h9 ⊢
      by_cases e : L.holds = true
      · rw [if_pos e] at h9 ⊢
        obtain ⟨q, k1, k2, k3, k4⟩ := h9
        exact ⟨q, k1, k2, (Below.heap_setCell _ _ _ _ (by simp; omega)).trans k3, (Below.heap_setCell _ _ _ _ (by simp; omega)).trans k4⟩
      · rw [if_neg e] at h9 ⊢
        exact (Below.heap_setCell _ _ _ _ (by simp; omega)).trans h9

theorem hold_facts (b : Option Addr) (L : Lv) (w : World) : (holdW b L w).heap.size = w.heap.size + 5 ∧ Below w.heap.size w (holdW b L w) ∧ HeapIs (holdW b L w) (w.heap.size + 1 + 1 + 1 + 1) (bookO b (w.heap.size + 1) (w.heap.size + 1 + 1 + 1)) ∧
    HeapIs (holdW b L w) (w.heap.size + 1) (mapO (.pointer (some ⟨w.heap.size + 1 + 1, 0, none⟩))) ∧ HeapIs (holdW b L w) (w.heap.size + 1 + 1) (.cells (accC (resL L) (resL L)) 65) := by
  unfold holdW
  have hm3 : HeapIs (((w.alloc (.cells (resL L) 41)).alloc (.map #[] 0)).alloc (.cells (accC (resL L) (resL L)) 65)) (w.heap.size + 1 + 1) (.cells (accC (resL L) (resL L)) 65) := alloc3_new ..
  have hb3 : Below w.heap.size w (((w.alloc (.cells (resL L) 41)).alloc (.map #[] 0)).alloc (.cells (accC (resL L) (resL L)) 65)) := (((Below.refl _ _).alloc (Nat.le_refl _) _).alloc (by simp) _).alloc (by simp; omega) _
  have hs3 : (((w.alloc (.cells (resL L) 41)).alloc (.map #[] 0)).alloc (.cells (accC (resL L) (resL L)) 65)).heap.size = w.heap.size + 3 := by simp
  generalize ((w.alloc (.cells (resL L) 41)).alloc (.map #[] 0)).alloc (.cells (accC (resL L) (resL L)) 65) = W at *
  generalize hV : setM W (w.heap.size + 1) (mapO (.pointer (some ⟨w.heap.size + 1 + 1, 0, none⟩))) = V
  have hsV : V.heap.size = w.heap.size + 3 := by rw [← hV, setM_size]; exact hs3
  have v1 : HeapIs V (w.heap.size + 1) (mapO (.pointer (some ⟨w.heap.size + 1 + 1, 0, none⟩))) := by rw [← hV]; exact setM_at _ _ _ (by omega)
  have v2 : HeapIs V (w.heap.size + 1 + 1) (.cells (accC (resL L) (resL L)) 65) := by rw [← hV]; exact (setM_heap _ _ _ _ (by omega)).trans hm3
  have hbV : Below w.heap.size w V := by rw [← hV]; exact ⟨hb3.os, hb3.tape, hb3.output, by rw [setM_size]; exact hb3.size, fun k hk => (setM_heap _ _ _ _ (by omega)).trans (hb3.block k hk)⟩
  have hx : HeapIs ((V.alloc (.map #[] 0)).alloc (.cells #[.pointer b, .map (some (w.heap.size + 1)), .map (some (w.heap.size + 1 + 1 + 1))] 60)) (V.heap.size + 1) (bookO b (w.heap.size + 1) (w.heap.size + 1 + 1 + 1)) := heap_alloc2_new _ _ _
  refine ⟨by simp; omega, (hbV.alloc (by omega) _).alloc (by simp; omega) _, ?_, ?_, ?_⟩
  · rw [hsV] at hx; exact hx
  · unfold HeapIs; rw [Below.heap_alloc _ _ _ (by simp; omega), Below.heap_alloc _ _ _ (by omega)]; exact v1
  · unfold HeapIs; rw [Below.heap_alloc _ _ _ (by simp; omega), Below.heap_alloc _ _ _ (by omega)]; exact v2

theorem empty_facts (b : Option Addr) (w : World) : (((w.alloc (.map #[] 0)).alloc (.map #[] 0)).alloc (.cells #[.pointer b, .map (some w.heap.size), .map (some (w.heap.size + 1))] 60)).heap.size = w.heap.size + 3 ∧
    Below w.heap.size w (((w.alloc (.map #[] 0)).alloc (.map #[] 0)).alloc (.cells #[.pointer b, .map (some w.heap.size), .map (some (w.heap.size + 1))] 60)) ∧
    HeapIs (((w.alloc (.map #[] 0)).alloc (.map #[] 0)).alloc (.cells #[.pointer b, .map (some w.heap.size), .map (some (w.heap.size + 1))] 60)) (w.heap.size + 1 + 1) (bookO b w.heap.size (w.heap.size + 1)) ∧
    HeapIs (((w.alloc (.map #[] 0)).alloc (.map #[] 0)).alloc (.cells #[.pointer b, .map (some w.heap.size), .map (some (w.heap.size + 1))] 60)) w.heap.size (.map #[] 0) := by
  refine ⟨by simp, (((Below.refl _ _).alloc (Nat.le_refl _) _).alloc (by simp) _).alloc (by simp; omega) _, alloc3_new .., ?_⟩
  unfold HeapIs; rw [Below.heap_alloc _ _ _ (by simp; omega), Below.heap_alloc _ _ _ (by simp)]; exact heap_alloc_new _ _

theorem there_set {w : World} {b n : Nat} (h : w.there b 0 n) (a : Addr) (v : Value) : (w.setCell a v).there b 0 n := by
  have := World.there_setCells h a.block a.off [v]
  intro j hj
  obtain ⟨h1, h2⟩ := h j hj
  obtain ⟨u, hu⟩ := Option.isSome_iff_exists.1 h1
  obtain ⟨v', hv'⟩ := cell?_setCell_some (p := a) (x := v) hu
  exact ⟨by rw [hv']; rfl, by rw [World.frozen?_setCell]; exact h2⟩

/-- A new book over b. -/
def NewBook (w : World) (b : Option Addr) (L : Lv) (e : Ending) (w' : World) : Prop := ∃ bk A N, e = .returned (.pointer (some ⟨bk, 0, none⟩)) ∧ w.heap.size ≤ bk ∧ bk < w'.heap.size ∧ w.heap.size ≤ A ∧ A < w'.heap.size ∧
  HeapIs w' bk (bookO b A N) ∧ HoldsAt w' A w'.heap.size w.heap.size L ∧ Below w.heap.size w w'
theorem empty_new (b : Option Addr) (L : Lv) (hh : L.holds = false) (w : World) : Calls Trym.prog 28 #[.pointer b] w (NewBook w b L) := by
  refine (empty_any b w).mono ?_
  rintro e w' ⟨rfl, rfl⟩
  obtain ⟨f1, f2, f3, f4⟩ := empty_facts b w
  refine ⟨_, _, _, rfl, by omega, by omega, by omega, by omega, f3, ?_, f2⟩
  unfold HoldsAt; rw [if_neg (by simp [hh])]; exact f4
theorem hold_new (b : Option Addr) (L : Lv) (hh : L.holds = true) (w : World) : Calls Trym.prog 27 #[.pointer b, .agg (resL L)] w (NewBook w b L) := by
  refine (holding_any b L w).mono ?_
  rintro e w' ⟨rfl, rfl⟩
  obtain ⟨f1, f2, f3, f4, f5⟩ := hold_facts b L w
  refine ⟨_, _, _, rfl, by omega, by omega, by omega, by omega, f3, ?_, f2⟩
  unfold HoldsAt; rw [if_pos hh]; exact ⟨_, by omega, by omega, f4, f5⟩

/-- The new book on the chain, its pointer in the slice. -/
theorem books_more {wr w2 w3 : World} {BB k n bk A N : Nat} {b : Option Addr} {L : Lv} {Ls : List Lv} (hB : BooksAt wr BB (k + 1) wr.heap.size b Ls) (hBB : BB < wr.heap.size) (h12 : Below wr.heap.size wr w2) (hth : w3.there BB 0 n) (hk : k < n)
    (a1 : w2.heap.size ≤ bk) (a2 : bk < w3.heap.size) (a3 : w2.heap.size ≤ A) (a4 : A < w3.heap.size) (a5 : HeapIs w3 bk (bookO b A N)) (a6 : HoldsAt w3 A w3.heap.size w2.heap.size L) (a7 : Below w2.heap.size w2 w3) :
    BooksAt (w3.setCell ⟨BB, k, none⟩ (.pointer (some ⟨bk, 0, none⟩))) BB k (w3.setCell ⟨BB, k, none⟩ (.pointer (some ⟨bk, 0, none⟩))).heap.size (some ⟨bk, 0, none⟩) (L :: Ls) := by
  have hs12 := h12.size
  have hs23 := a7.size
  have hb13 : Below wr.heap.size wr w3 := h12.trans (a7.mono h12.size)
  have hsz : (w3.setCell ⟨BB, k, none⟩ (.pointer (some ⟨bk, 0, none⟩))).heap.size = w3.heap.size := by simp
  rw [hsz]
  refine ⟨bk, A, N, b, wr.heap.size, rfl, ?_, hBB, a2, by omega, a4, by omega, (Below.heap_setCell _ _ _ _ (by simp; omega)).trans a5, ?_, by omega, (hB.below hb13 (Nat.le_refl _)).set (by omega)⟩
  · have := (hth k hk).1
    rw [Nat.zero_add] at this
    exact World.cell?_setCell_same' _ _ _ this
  · unfold HoldsAt at a6 ⊢
    by_cases e : L.holds = true
    · rw [if_pos e] at a6 ⊢
      obtain ⟨q, k1, k2, k3, k4⟩ := a6
      exact ⟨q, k1, by omega, (Below.heap_setCell _ _ _ _ (by simp; omega)).trans k3, (Below.heap_setCell _ _ _ _ (by simp; omega)).trans k4⟩
    · rw [if_neg e] at a6 ⊢
      exact (Below.heap_setCell _ _ _ _ (by simp; omega)).trans a6

set_option maxHeartbeats 2000000 in
theorem chain_any (C n : Nat) (Ls : List Lv) (w : World) (h : LvsAt w C 0 Ls) (hn : n = Ls.length) (hs : n ≤ 4096) (hC : C < w.heap.size) :
    Calls Trym.prog 10 #[.slice (some ⟨C, 0, none⟩) n n] w fun e w' => ∃ (BB : Nat) (b : Option Addr), e = .returned (.slice (some ⟨BB, 0, none⟩) n n) ∧ BooksAt w' BB 0 w'.heap.size b Ls ∧ w.heap.size ≤ BB ∧ BB < w'.heap.size ∧ Below w.heap.size w w' := by
  obtain ⟨Z, hZ, hmk⟩ := make25 n hs
  have HL : Hid (n = Ls.length) := hn
  clear hn
  go_enter Trym.func10, Trym.ntmps10
  go_wp2_with fail
  go_loopw [4, 5] (fun p v wr => ∃ (k : Nat) (b : Option Addr), k ≤ n ∧ v = .int .i64 ((k : Int) - 1) ∧ p = .pointer b ∧ Hid (BooksAt wr w.heap.size k wr.heap.size b (Ls.drop k)) ∧ wr.there w.heap.size 0 n ∧ w.heap.size < wr.heap.size ∧ Below w.heap.size w wr) (fun _ v _ => (intOf v + 1).toNat)
  case atStart =>
    refine ⟨n, none, Nat.le_refl _, rfl, rfl, ?_, there_of (heap_alloc_new w (.cells Z 28)) 0 _ (by omega), by simp, (Below.refl _ _).alloc (Nat.le_refl _) _⟩
    show BooksAt _ _ _ _ _ _
    rw [List.drop_of_length_le (by have := HL.out; omega)]; rfl
  case round =>
    obtain ⟨k, b, hkn, rfl, rfl, HB, hth, hsz, hb⟩ := hrel
    cases k with
    | zero =>
      go_wp2_with fail
      go_ret
      have hB := HB.out
      rw [List.drop_zero] at hB
      exact ⟨w.heap.size, b, rfl, hB, Nat.le_refl _, hsz, hb⟩
    | succ k =>
      obtain ⟨L, hL⟩ : ∃ L, Ls[k]? = some L := ⟨Ls[k]'(by have := HL.out; omega), List.getElem?_eq_getElem _⟩
      have e1 : (((k + 1 : Nat) : Int) - 1) = (k : Int) := by omega
      rw [e1]
      have hlv := h.below hb hC k L hL
      have h0 : wr.cell? ⟨C, k * 9, none⟩ = some (.bool L.holds) := by have := hlv 0 _ rfl; simpa using this
      have hld := ld_lv wr C (k * 9) L (by have := hlv; rwa [Nat.zero_add] at this)
      have HD : Hid (Ls.drop k = L :: Ls.drop (k + 1)) := drop_at hL
      clear hlv hL
      cases hh : L.holds
      · rw [hh] at h0
        go_wp2_with (first | (go_at_call 28; refine (empty_new b L hh _).mono ?_; rintro e w3 ⟨bk, A, N, rfl, a1, a2, a3, a4, a5, a6, a7⟩; have hth3 := there_below hth a7 hsz; have hci := hth3 k (by omega); rw [Nat.zero_add] at hci; obtain ⟨v0, hv0⟩ := Option.isSome_iff_exists.1 hci.1; have hf0 := hci.2))
        refine ⟨⟨k, some ⟨bk, 0, none⟩, by omega, rfl, rfl, ?_, ?_, ?_, ?_⟩, ?_⟩
        · show BooksAt _ _ _ _ _ _
          rw [HD.out]; exact books_more HB.out hsz (Below.refl _ _) hth3 (by omega) a1 a2 a3 a4 a5 a6 a7
        · exact there_set hth3 _ _
        · simp; have := a7.size; omega
        · exact (hb.trans ((a7).mono (by omega))).setCell (Nat.le_refl _) _
        · show ((k : Int) - 1 + 1).toNat < ((k : Int) + 1).toNat; omega
      · rw [hh] at h0
        go_wp2_with (first | (go_at_call 14; refine (resourceOf_any L _).mono ?_; rintro e w2 ⟨rfl, hb2⟩) | (go_at_call 27; refine (hold_new b L hh _).mono ?_; rintro e w3 ⟨bk, A, N, rfl, a1, a2, a3, a4, a5, a6, a7⟩; have hth3 := there_below (there_below hth hb2 hsz) a7 (by have := hb2.size; omega); have hci := hth3 k (by omega); rw [Nat.zero_add] at hci; obtain ⟨v0, hv0⟩ := Option.isSome_iff_exists.1 hci.1; have hf0 := hci.2))
        refine ⟨⟨k, some ⟨bk, 0, none⟩, by omega, rfl, rfl, ?_, ?_, ?_, ?_⟩, ?_⟩
        · show BooksAt _ _ _ _ _ _
          rw [HD.out]; exact books_more HB.out hsz hb2 hth3 (by omega) a1 a2 a3 a4 a5 a6 a7
        · exact there_set hth3 _ _
        · simp; have := a7.size; have := hb2.size; omega
        · exact (hb.trans ((hb2.over a7).mono (by omega))).setCell (Nat.le_refl _) _
        · show ((k : Int) - 1 + 1).toNat < ((k : Int) + 1).toNat; omega
end Go.Proofs.Qxb6602000aMods.Led
