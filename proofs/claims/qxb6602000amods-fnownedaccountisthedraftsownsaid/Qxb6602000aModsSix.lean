import Derived.Test.Qxb6602000aModsLaw5
import Derived.Test.Qxb6602000aModsSet
import Derived.Test.Qxb6602000aModsZn
namespace Go.Proofs.Qxb6602000aMods.Led
open Go.RowKit
set_option linter.unusedVariables false

theorem setL_lv (L M : Lv) : setL (lvCells L) 0 (lvCells M).toList = lvCells M := by kernel_rfl
theorem st_lv0 (w : World) (b : Nat) (L M : Lv) (h : HeapIs w b (.cells (lvCells L) 44)) : stV Trym.prog 44 (.pointer (some ⟨b, 0, none⟩)) (.agg (lvCells M)) w = .ok () (w.setRow b (lvCells M)) := by
  rw [st_lv w b 0 M (there_of h 0 9 (by rw [lv_size]; omega)), setCells_row b 44 _ _ _ w h, setL_lv]

/-- Where the top book's account is set: what the rest of law 6 leans on. -/
structure Six (w : World) (C n BB bk A N c z bw lim' : Nat) (b' : Option Addr) (L M L0 : Lv) (Lt : List Lv) : Prop where
  c28 : w.cell? ⟨BB, 0, none⟩ = some (.pointer (some ⟨bk, 0, none⟩))
  id : HeapIs w z (.cells idA 36)
  want : HeapIs w bw (.cells (resL M) 41)
  book : HeapIs w bk (bookO b' A N)
  map : HeapIs w A (mapO (.pointer (some ⟨c, 0, none⟩)))
  acc : HeapIs w c (.cells (accC (resL L) (resL M)) 65)
  lv : LvsAt w C 0 (L0 :: Lt)
  hC : C < lim'
  hBB : BB < lim'
  hl : lim' ≤ w.heap.size
  books : BooksAt w BB 1 lim' b' Lt

theorem Six.below {w w' : World} {C n BB bk A N c z bw lim' : Nat} {b' : Option Addr} {L M L0 : Lv} {Lt : List Lv} (h : Six w C n BB bk A N c z bw lim' b' L M L0 Lt) (hb : Below w.heap.size w w') : Six w' C n BB bk A N c z bw lim' b' L M L0 Lt :=
  ⟨Below.cellIs hb h.c28, Below.is hb h.id, Below.is hb h.want, Below.is hb h.book, Below.is hb h.map, Below.is hb h.acc, h.lv.below hb (by have := h.hC; have := h.hl; omega), h.hC, h.hBB, Nat.le_trans h.hl hb.size, h.books.below hb h.hl⟩

theorem HoldsAt.map {w : World} {A lim lim' : Nat} {L : Lv} (h : HoldsAt w A lim lim' L) : ∃ a n, HeapIs w A (.map a n) := by
  unfold HoldsAt at h
  split at h
  · obtain ⟨q, _, _, k3, _⟩ := h; exact ⟨_, _, k3⟩
  · exact ⟨_, _, h⟩

/-- ZZOwnSet over the fresh chain. -/
theorem zset_books {w : World} {BB bk A N lim lim' : Nat} {b' : Option Addr} {L0 : Lv} {Lt : List Lv} (M : Lv) (g4 : lim' ≤ bk) (g5 : A < lim) (g6 : lim' ≤ A) (g7 : HeapIs w bk (bookO b' A N)) (g8 : HoldsAt w A lim lim' L0) (g9 : lim' ≤ lim)
    (g10 : BooksAt w BB 1 lim' b' Lt) (hl : lim ≤ w.heap.size) (W : World) (hW : Below w.heap.size w W) :
    Calls Trym.prog 25 #[.pointer (some ⟨bk, 0, none⟩), .agg idA, .agg (resL M)] W (ZSetQ lim' A (nearL (L0 :: Lt)) M W) := by
  refine zsetQ_any lim' bk A _ M W ((g8.below hW (by omega) hl).map) fun w1 hw1 => ?_
  have hb := hW.over hw1
  exact ownQ_any bk A N lim lim' b' L0 Lt w1 (Below.is hb g7) g4 g6 (g8.below hb (by omega) hl) (g10.chain.below hb (by omega))

section
attribute [local simp] heapIs_drew heapIs_drewN
attribute [local go_sem ↓] ld36 ld41 ld65 st41 st65 bu41 bu65
attribute [local go_sem ↓] Go.wp_at_zero Go.wp_at_succ
set_option maxHeartbeats 1000000 in
set_option maxRecDepth 10000 in
theorem resource_ex (b : Option Addr) (L M : Lv) (w : World)
    (hacc : ∀ w1, Below w.heap.size w w1 → Calls Trym.prog 30 #[.pointer b, .agg idA] w1 fun e w' => ∃ q, e = .returned (.pointer (some ⟨q, 0, none⟩)) ∧ HeapIs w1 q (.cells (accC (resL L) (resL M)) 65) ∧ Below w1.heap.size w1 w') :
    Calls Trym.prog 16 #[.pointer b, .agg idA] w (ResR (some M) w) := by
  have hz := zero41
  have hbx : Below w.heap.size w ((w.alloc (.cells idA 36)).alloc (.cells resZ 41)) := ((Below.refl _ _).alloc (Nat.le_refl _) _).alloc (by simp) _
  have k0 : HeapIs ((w.alloc (.cells idA 36)).alloc (.cells resZ 41)) w.heap.size (.cells idA 36) := by
    unfold HeapIs; rw [Below.heap_alloc _ _ _ (by simp)]; exact heap_alloc_new _ _
  have k1 : HeapIs ((w.alloc (.cells idA 36)).alloc (.cells resZ 41)) (w.heap.size + 1) (.cells resZ 41) := heap_alloc2_new _ _ _
  have hld := ld_id _ _ k0
  have hcall := hacc _ hbx
  clear hacc
  have HK1 : Hid (HeapIs ((w.alloc (.cells idA 36)).alloc (.cells resZ 41)) (w.heap.size + 1) (.cells resZ 41)) := k1
  clear k1
  go_enter Trym.func16, Trym.ntmps16
  go_wp2_with (first | (go_at_call 30; refine hcall.mono ?_; rintro e w2 ⟨q, rfl, hq, hb2⟩; have hb12 := hbx.over hb2; have q1 : HeapIs w2 (w.heap.size + 1) (.cells resZ 41) := (hb2.block _ (lt_of HK1.out)).trans HK1.out; have q2 : HeapIs w2 q (.cells (accC (resL L) (resL M)) 65) := (hb2.block q (lt_of hq)).trans hq; clear hq; have hs1 := st_res w2 _ M q1; have hl1 := ld_now w2 q L M q2))
  refine bodyPost_ret (v := .tuple #[.agg (resL M), .bool true]) ?_ rfl ⟨rfl, below_setRow hb12 (by omega) _⟩
  exact results_1 Trym.results16 _ _ _ _ _ (by rfl) (by rfl) (setRow_heap _ _ _ _ _ _ q1) (resL_size M)
end

/-- Resource of a book's chain: nothing that was there changes. -/
theorem resource_chain {w : World} (lim : Nat) (b : Option Addr) (Ls : List Lv) (hch : ChainAt w lim b Ls) (hl : lim ≤ w.heap.size) (W : World) (hW : Below w.heap.size w W) :
    Calls Trym.prog 16 #[.pointer b, .agg idA] W (ResR (nearL Ls) W) := by
  have hacc : ∀ w1, Below W.heap.size W w1 → Calls Trym.prog 30 #[.pointer b, .agg idA] w1 _ := fun w1 h1 => account_any lim b Ls w1 (hch.below (hW.over h1) hl) (by have := hW.size; have := h1.size; omega)
  cases hn : nearL Ls with
  | none =>
    refine resource_nil b W fun w1 h1 => (hacc w1 h1).mono ?_
    rintro e w' ⟨p, rfl, hb, ⟨_, rfl⟩ | ⟨L, q, hL, _⟩⟩
    · exact ⟨rfl, hb⟩
    · rw [hn] at hL; simp at hL
  | some L =>
    refine resource_ex b L L W fun w1 h1 => (hacc w1 h1).mono ?_
    rintro e w' ⟨p, rfl, hb, ⟨hL, rfl⟩ | ⟨L', q, hL, rfl, hq, hk⟩⟩
    · rw [hn] at hL; simp at hL
    · rw [hn] at hL
      obtain rfl : L = L' := by simpa using hL
      exact ⟨q, rfl, hk, hb⟩

/-- What lies under l, and every block of cells but the accounts, is as it was. -/
structure KeepT (l : Nat) (w w' : World) : Prop where
  bel : Below l w w'
  size : w.heap.size ≤ w'.heap.size
  oth : ∀ k x t, HeapIs w k (.cells x t) → t ≠ 65 → HeapIs w' k (.cells x t)

theorem kt_of {l : Nat} {w w' : World} (hl : l ≤ w.heap.size) (h : Below w.heap.size w w') : KeepT l w w' := ⟨h.mono hl, h.size, fun _ _ _ hk _ => Below.is h hk⟩
theorem kt_drew {l : Nat} {w w' : World} (h : KeepT l w w') : KeepT l w w'.drew := ⟨bel_drew h.bel, h.size, fun k x t hk ht => is_drew (h.oth k x t hk ht)⟩
theorem kt_set {l A c : Nat} {w w1 w' : World} (hl : l ≤ w.heap.size) (h : Below w.heap.size w w1) (hA : l ≤ A) (hc : l ≤ c) (hK : Keeps A c w1 w') (ho : ∀ k x t, HeapIs w1 k (.cells x t) → t ≠ 65 → HeapIs w' k (.cells x t)) : KeepT l w w' :=
  ⟨(h.mono hl).trans (hK.below hA hc (Nat.le_trans hl h.size)), Nat.le_trans h.size hK.size, fun k x t hk ht => ho k x t (Below.is h hk) ht⟩

theorem kt_six {w w' : World} {C n BB bk A N c z bw lim' : Nat} {b' : Option Addr} {L M L0 : Lv} {Lt : List Lv} (h : KeepT lim' w w')
    (h1 : w.cell? ⟨BB, 0, none⟩ = some (.pointer (some ⟨bk, 0, none⟩))) (h2 : HeapIs w z (.cells idA 36)) (h3 : HeapIs w bw (.cells (resL M) 41)) (h4 : HeapIs w bk (bookO b' A N)) (h5 : LvsAt w C 0 (L0 :: Lt)) (h6 : C < lim') (h7 : BB < lim') (h8 : lim' ≤ w.heap.size)
    (h9 : BooksAt w BB 1 lim' b' Lt) (hc : HeapIs w' c (.cells (accC (resL L) (resL M)) 65)) (hm : HeapIs w' A (mapO (.pointer (some ⟨c, 0, none⟩)))) : Six w' C n BB bk A N c z bw lim' b' L M L0 Lt :=
  ⟨(h.bel.cell (p := ⟨BB, 0, none⟩) h7).trans h1, h.oth _ _ _ h2 (by decide), h.oth _ _ _ h3 (by decide), h.oth _ _ _ h4 (by decide), hm, hc, h5.below h.bel h6, h6, h7, Nat.le_trans h8 h.size, h9.below h.bel (Nat.le_refl _)⟩
theorem six_drew {w : World} {C n BB bk A N c z bw lim' : Nat} {b' : Option Addr} {L M L0 : Lv} {Lt : List Lv} (h : Six w C n BB bk A N c z bw lim' b' L M L0 Lt) : Six w.drew C n BB bk A N c z bw lim' b' L M L0 Lt := h.below (bel_drew (Below.refl _ _))

/-- Resource of the top book, once its account is set. -/
theorem Six.res {w : World} {C n BB bk A N c z bw lim' : Nat} {b' : Option Addr} {L M L0 : Lv} {Lt : List Lv} (h : Six w C n BB bk A N c z bw lim' b' L M L0 Lt) (W : World) (hW : Below w.heap.size w W) :
    Calls Trym.prog 16 #[.pointer (some ⟨bk, 0, none⟩), .agg idA] W (ResR (some M) W) :=
  resource_some _ c L M W (h.below hW).acc fun w1 h1 => account_held bk A N c b' w1 ((h.below hW).below h1).book ((h.below hW).below h1).map
theorem Six.held {w : World} {C n BB bk A N c z bw lim' : Nat} {b' : Option Addr} {L M L0 : Lv} {Lt : List Lv} (h : Six w C n BB bk A N c z bw lim' b' L M L0 Lt) (W : World) (hW : Below w.heap.size w W) :
    Calls Trym.prog 20 #[.pointer (some ⟨bk, 0, none⟩), .agg idA] W fun e w' => e = .returned (.tuple #[.agg (resL M), .agg (resL L), .bool true]) ∧ Below W.heap.size W w' :=
  held_some bk A N c b' L M W (h.below hW).book (h.below hW).map (h.below hW).acc
theorem Six.own {w : World} {C n BB bk A N c z bw lim' : Nat} {b' : Option Addr} {L M L0 : Lv} {Lt : List Lv} (h : Six w C n BB bk A N c z bw lim' b' L M L0 Lt) (W : World) (hW : Below w.heap.size w W) :
    Calls Trym.prog 19 #[.pointer (some ⟨bk, 0, none⟩), .agg idA] W fun e w' => e = .returned (.tuple #[.agg (resL M), .agg (resL L), .bool true]) ∧ Below W.heap.size W w' :=
  zown_again bk A N c b' L M W (h.below hW).book (h.below hW).map (h.below hW).acc
theorem Six.top {w : World} {C n BB bk A N c z bw lim' : Nat} {b' : Option Addr} {L M L0 : Lv} {Lt : List Lv} (h : Six w C n BB bk A N c z bw lim' b' L M L0 Lt) (W : World) (hW : Below w.heap.size w W) :
    W.cell? ⟨BB, 0, none⟩ = some (.pointer (some ⟨bk, 0, none⟩)) := (h.below hW).c28
theorem Six.zero {w : World} {C n BB bk A N c z bw lim' : Nat} {b' : Option Addr} {L M L0 : Lv} {Lt : List Lv} (h : Six w C n BB bk A N c z bw lim' b' L M L0 Lt) (W : World) (hW : Below w.heap.size w W) :
    ldV Trym.prog 36 (.pointer (some ⟨z, 0, none⟩)) W = .ok (.agg idA) W := ld_id W _ (h.below hW).id
theorem Six.wanted {w : World} {C n BB bk A N c z bw lim' : Nat} {b' : Option Addr} {L M L0 : Lv} {Lt : List Lv} (h : Six w C n BB bk A N c z bw lim' b' L M L0 Lt) (W : World) (hW : Below w.heap.size w W) :
    ldV Trym.prog 41 (.pointer (some ⟨bw, 0, none⟩)) W = .ok (.agg (resL M)) W := ld_res W _ M (h.below hW).want
theorem Six.level {w : World} {C n BB bk A N c z bw lim' i : Nat} {b' : Option Addr} {L M L0 K : Lv} {Lt : List Lv} (h : Six w C n BB bk A N c z bw lim' b' L M L0 Lt) (hi : (L0 :: Lt)[i]? = some K) (W : World) (hW : Below w.heap.size w W) :
    ldV Trym.prog 44 (.pointer (some ⟨C, i * 9, none⟩)) W = .ok (.agg (lvCells K)) W := by
  refine ld_lv W C (i * 9) K ?_
  have := (h.below hW).lv i K hi
  rwa [Nat.zero_add] at this
theorem Six.rest {w : World} {C n BB bk A N c z bw lim' : Nat} {b' : Option Addr} {L M L0 : Lv} {Lt : List Lv} (h : Six w C n BB bk A N c z bw lim' b' L M L0 Lt) (hn : n = (L0 :: Lt).length) (hs : n ≤ 4096) (W : World) (hW : Below w.heap.size w W) :
    Calls Trym.prog 21 #[.slice (some ⟨BB, 0, none⟩) n n, .slice (some ⟨C, 0, none⟩) n n] W fun e w' => e = .returned (.bool true) ∧ Below W.heap.size W w' :=
  have g := h.below hW
  below_any C n BB lim' b' (L0 :: Lt) W g.lv hn hs (by rw [hn]; simp) (Nat.lt_of_lt_of_le g.hC g.hl) (Nat.lt_of_lt_of_le g.hBB g.hl) g.books g.hl
theorem Six.near_none {w : World} {C n BB bk A N c z bw lim' : Nat} {b' : Option Addr} {L M L0 : Lv} {Lt : List Lv} (h : Six w C n BB bk A N c z bw lim' b' L M L0 Lt) (hn : n = (L0 :: Lt).length) (hs : n ≤ 4096) (h1 : 1 ≤ n) (hr : nearL Lt = none) (W : World) (hW : Below w.heap.size w W) :
    Calls Trym.prog 12 #[.slice (some ⟨C, 0, none⟩) n n, .int .i64 1] W fun e w' => e = .returned (.int .i64 (-1)) ∧ w' = W := by
  refine (near_any C 0 n n (L0 :: Lt) W (h.below hW).lv hn hs 1 h1).mono ?_
  rintro e w' ⟨hw, ⟨rfl, _⟩ | ⟨i, K, _, _, rfl, hK⟩⟩
  · exact ⟨rfl, hw⟩
  · rw [List.drop_one, List.tail_cons, hr] at hK; simp at hK
theorem Six.near_some {w : World} {C n BB bk A N c z bw lim' : Nat} {b' : Option Addr} {L M L0 K : Lv} {Lt : List Lv} (h : Six w C n BB bk A N c z bw lim' b' L M L0 Lt) (hn : n = (L0 :: Lt).length) (hs : n ≤ 4096) (h1 : 1 ≤ n) (hr : nearL Lt = some K) (W : World) (hW : Below w.heap.size w W) :
    Calls Trym.prog 12 #[.slice (some ⟨C, 0, none⟩) n n, .int .i64 1] W fun e w' => ∃ i : Nat, e = .returned (.int .i64 i) ∧ i < n ∧ (L0 :: Lt)[i]? = some K ∧ w' = W := by
  refine (near_any C 0 n n (L0 :: Lt) W (h.below hW).lv hn hs 1 h1).mono ?_
  rintro e w' ⟨hw, ⟨rfl, hK⟩ | ⟨i, K', _, hi, rfl, hK⟩⟩
  · rw [List.drop_one, List.tail_cons, hr] at hK; simp at hK
  · rw [List.drop_one, List.tail_cons, hr] at hK
    obtain rfl : K = K' := by simpa using hK
    exact ⟨i, rfl, by rw [hn]; exact (List.getElem?_eq_some_iff.1 hi).1, hi, hw⟩
end Go.Proofs.Qxb6602000aMods.Led
