import Derived.Test.Qxb6602000aModsBelow
import Derived.Test.Qxb6602000aModsSizes
import Derived.Test.Qxb6602000aModsZb
namespace Go.Proofs.Qxb6602000aMods.Led
open Go.RowKit
set_option linter.unusedVariables false
attribute [local simp] heapIs_drew heapIs_drewN is_new0 is_new1 is_new2
attribute [local go_sem ↓] ld36 ld41 ld65 st41 st65 bu41 bu65 ld44 st44 bu36 st36

theorem kp_drew {A c : Nat} {a w : World} (h : Keeps A c a w) : Keeps A c a w.drew := h.drew
theorem kp_alloc {A c : Nat} {a w : World} (o : Obj) (h : Keeps A c a w) : Keeps A c a (w.alloc o) := h.trans (Keeps.of ((Below.refl _ _).alloc (Nat.le_refl _) _))
theorem kp_row {A c b : Nat} {a w : World} (C : Array Value) (h : Keeps A c a w) (hB : a.heap.size ≤ b) : Keeps A c a (w.setRow b C) := h.setRow C (.inl hB)
theorem kp_trans {A c : Nat} {a w w' : World} (h2 : Keeps A c w w') (h : Keeps A c a w) : Keeps A c a w' := h.trans h2
theorem Keeps.cell {A c : Nat} {a w : World} {p : Addr} {v : Value} (h : Keeps A c a w) (hp : a.cell? p = some v) (h1 : p.block ≠ A) (h2 : p.block ≠ c) : w.cell? p = some v :=
  (World.cell?_of_block (w := a) (h.block p.block (blk_lt hp) h1 h2)).trans hp

/-- ZZOwn over the fresh chain. -/
theorem zown_books {w : World} {BB bk A N lim lim' : Nat} {b' : Option Addr} {L0 : Lv} {Lt : List Lv} (g2 : BB < lim') (g4 : lim' ≤ bk) (g5 : A < lim) (g6 : lim' ≤ A) (g7 : HeapIs w bk (bookO b' A N)) (g8 : HoldsAt w A lim lim' L0) (g9 : lim' ≤ lim)
    (g10 : BooksAt w BB 1 lim' b' Lt) (hl : lim ≤ w.heap.size) (W : World) (hW : Below w.heap.size w W) :
    Calls Trym.prog 19 #[.pointer (some ⟨bk, 0, none⟩), .agg idA] W (ZOwnR A (both (nearL (L0 :: Lt))) W) := by
  refine zown_any bk A _ W (by have := hW.size; omega) fun w1 hw1 => ?_
  have hb := hW.over hw1
  exact own_any bk A N lim lim' b' L0 Lt w1 (Below.is hb g7) g4 g6 (g8.below hb (by omega) hl) (g10.chain.below hb (by omega))

theorem ne_65 {w : World} {c k : Nat} {X Y : Array Value} (h : HeapIs w c (.cells X 65)) (h2 : HeapIs w k (.cells Y 41)) : c ≠ k := by
  rintro rfl; have := h.symm.trans h2; simp at this
theorem LvsAt.keeps {w w' : World} {A c C : Nat} {Ls : List Lv} (h : LvsAt w C 0 Ls) (hk : Keeps A c w w') (h1 : C ≠ A) (h2 : C ≠ c) : LvsAt w' C 0 Ls := fun i L hL j v hv =>
  hk.cell (h i L hL j v hv) h1 h2

set_option maxHeartbeats 4000000 in
set_option maxRecDepth 10000 in
theorem law5_any (p : Option Addr) (B o n cap lim : Nat) (Ls : List Lv) (w : World) (hp : n = 0 ∨ p = some ⟨B, o, none⟩ ∧ B < w.heap.size) (h : LvsAt w B o Ls) (hn : n = Ls.length) (hbig : n ≤ 9223372036854775807) (hl : lim ≤ w.heap.size)
    (ht : ∀ L ∈ Ls, TextAt w lim L.loc ∧ TextAt w lim L.note) :
    Calls Trym.prog 5 #[.slice p n cap] w fun e w' => e = .returned (.bool true) ∧ Below w.heap.size w w' := by
  have hzz := zz_any p B o n cap lim Ls w (hp.imp id (·.1)) h hn hbig ht
  by_cases hn0 : n = 0
  · subst hn0
    have hout := outside_zero p cap w
    clear h hn ht hp
    go_enter Trym.func5, Trym.ntmps5
    go_wp2_with (first | (go_at_call 18; refine hzz.mono ?_; rintro e w2 ⟨⟨bb, rfl⟩, hw⟩; have hw' := hw.symm; subst hw'; cases bb) | (go_at_call 8; refine hout.mono ?_; rintro e w2 ⟨rfl, rfl⟩))
    all_goals go_ret
    all_goals exact ⟨rfl, Below.refl _ _⟩
  obtain ⟨rfl, hB⟩ : p = some ⟨B, o, none⟩ ∧ B < w.heap.size := by
    rcases hp with h0 | h0
    · exact absurd h0 hn0
    · exact h0
  have hout := outside_any B o n cap lim Ls w h hn (fun _ => hB) hl hbig ht
  have HL : Hid (n = Ls.length) := hn
  have HT : Hid (∀ L ∈ Ls, TextAt w lim L.loc ∧ TextAt w lim L.note) := ht
  clear hn ht
  have hbz := bu_id
  have hz36 := zero36
  have hz41 := zero41
  go_enter Trym.func5, Trym.ntmps5
  go_wp2_with (first | (go_at_call 18; refine hzz.mono ?_; rintro e wz ⟨⟨bb, rfl⟩, hw⟩; have hw' := hw.symm; subst hw'; cases bb) | (go_at_call 8; refine hout.mono ?_; rintro e wA ⟨rfl | ⟨hn1, hn2, rfl⟩, hb2⟩))
  · go_ret
    exact ⟨rfl, Below.refl _ _⟩
  · go_ret
    exact ⟨rfl, hb2⟩
  have hsA := hb2.size
  refine (copyLevels_any B o n cap lim Ls wA (h.below hb2 hB) HL.out hn2 (by omega) (by omega) fun L hL => ⟨(HT.out L hL).1.below hb2 hl, (HT.out L hL).2.below hb2 hl⟩).mono ?_
  rintro e wB ⟨C, Ls', rfl, hlen, hLv, hC1, hC2, hb3⟩
  clear h HL HT hout hzz hp
  have HL : Hid (n = Ls'.length) := hlen.symm
  have HV : Hid (LvsAt wB C 0 Ls') := hLv
  clear hlen hLv
  go_wp2_with (first | (go_at_call 10; refine (chain_any C n Ls' wB HV.out HL.out hn2 hC2).mono ?_; rintro e wC ⟨BB, b, rfl, HBk0, hBB1, hBB2, hb4⟩; have HBk : Hid (BooksAt wC BB 0 wC.heap.size b Ls') := HBk0; clear HBk0; have hst36 := st_id (wC.alloc (.cells idA 36)) wC.heap.size (heap_alloc_new _ _); have hbD : Below wC.heap.size wC (wC.alloc (.cells idA 36)) := (Below.refl _ _).alloc (Nat.le_refl _) _; have hnear : Calls Trym.prog 12 #[.slice (some ⟨C, 0, none⟩) n n, .int .i64 0] (wC.alloc (.cells idA 36)) _ := near_any C 0 n n Ls' _ ((HV.out.below hb4 hC2).below hbD (by omega)) HL.out hn2 0 (Nat.zero_le _)))
  refine hnear.mono ?_
  rintro e wn ⟨hw, hnr⟩
  have k36 : HeapIs (wC.alloc (.cells idA 36)) wC.heap.size (.cells idA 36) := heap_alloc_new _ _
  have hbw : Below w.heap.size w (wC.alloc (.cells idA 36)) := ((hb2.over hb3).over hb4).over hbD
  have hsD : (wC.alloc (.cells idA 36)).heap.size = wC.heap.size + 1 := by simp
  have HV4 : Hid (LvsAt (wC.alloc (.cells idA 36)) C 0 Ls') := (HV.out.below hb4 hC2).below hbD (by omega)
  have HB4 : Hid (BooksAt (wC.alloc (.cells idA 36)) BB 0 wC.heap.size b Ls') := HBk.out.below hbD (Nat.le_refl _)
  clear hnear hst36 HBk HV
  generalize hw4 : wC.alloc (.cells idA 36) = w4 at *
  have hw' := hw.symm
  subst hw'
  clear hw4
  have hs4 : wC.heap.size < w4.heap.size := by omega
  have hn1' : 0 < n := by omega
  clear hsD
  cases Ls' with
  | nil => exact absurd HL.out (by simp; omega)
  | cons L0 Lt =>
  obtain ⟨bk, A, N, b', lim', rfl, g1, g2, g3, g4, g5, g6, g7, g8, g9, g10⟩ := HB4.out
  have HB1 : Hid (BooksAt w4 BB 1 lim' b' Lt) := g10
  have HH : Hid (HoldsAt w4 A wC.heap.size lim' L0) := g8
  have hc28 : ∀ W : World, Below w4.heap.size w4 W → W.cell? ⟨BB, 0, none⟩ = some (.pointer (some ⟨bk, 0, none⟩)) := fun W hW => Below.cellIs hW g1
  have hl36 : ∀ W : World, Below w4.heap.size w4 W → ldV Trym.prog 36 (.pointer (some ⟨wC.heap.size, 0, none⟩)) W = .ok (.agg idA) W := fun W hW => ld_id W _ (Below.is hW k36)
  have hown := zown_books g2 g4 g5 g6 g7 g8 g9 g10 (show wC.heap.size ≤ w4.heap.size by omega)
  rw [List.drop_zero] at hnr
  clear g10 g8 HB4
  rcases hnr with ⟨rfl, hnone⟩ | ⟨i, L, hi0, hiL, rfl, hsome⟩
  · have hh : L0.holds = false := by
      cases e : L0.holds
      · rfl
      · simp [nearL, e] at hnone
    have g8' : HeapIs w4 A (.map #[] 0) := by have := HH.out; unfold HoldsAt at this; rw [hh] at this; exact this
    rw [hnone] at hown
    have hcall : ∀ W, Below w4.heap.size w4 W → Calls Trym.prog 20 #[.pointer (some ⟨bk, 0, none⟩), .agg idA] W fun e w' => e = .returned (.tuple #[.agg resZ, .agg resZ, .bool false]) ∧ Below W.heap.size W w' := fun W hW => held_none bk A N b' W (Below.is hW g7) (Below.is hW g8')
    have hst : ∀ (W : World) (b : Nat), HeapIs W b (.cells resZ 41) → stV Trym.prog 41 (.pointer (some ⟨b, 0, none⟩)) (.agg resZ) W = .ok () W := fun W b h => st_same W b h
    clear hnone HH
    go_upto_region 9 with fail
    go_cut [6, 7, 8] from 26 (fun x y f wx => ∃ bx cx, x = .pointer (some ⟨bx, 0, none⟩) ∧ y = .pointer (some ⟨cx, 0, none⟩) ∧ f = .bool false ∧ Below w4.heap.size w4 wx)
    case first =>
      go_region_held3 (fun w' => Below w4.heap.size w4 w') (first | exact (by repeat' (first | assumption | exact Below.refl _ _ | with_reducible apply bel_drew | (refine bel_alloc _ ?_ (by first | omega | (simp <;> omega))) | (refine bel_row _ ?_ (by omega)) | (refine bel_trans hb2 ?_))) | go_keep)
        (first | (go_at_call 19; refine (hown _ (by repeat' (first | assumption | exact Below.refl _ _ | with_reducible apply bel_drew | (refine bel_alloc _ ?_ (by first | omega | (simp <;> omega))) | (refine bel_row _ ?_ (by omega)) | fail))).mono ?_; rintro e w2 ⟨rfl, hb2⟩; have hs2 := hb2.size; simp at hs2; have hbw : Below w4.heap.size w4 w2 := bel_trans hb2 (by repeat' (first | assumption | exact Below.refl _ _ | with_reducible apply bel_drew | (refine bel_alloc _ ?_ (by first | omega | (simp <;> omega))) | (refine bel_row _ ?_ (by omega)) | fail)); have hm : ∀ k x, HeapIs _ k x → HeapIs w2 k x := fun k x h => Below.is hb2 h; have hm2 : ∀ k x o, HeapIs _ k x → HeapIs (w2.alloc o) k x := fun k x o h => is_alloc o (Below.is hb2 h)))
      all_goals (go_wp2_with fail; go_meet)
      all_goals exact ⟨_, _, rfl, rfl, rfl, (by repeat' (first | assumption | exact Below.refl _ _ | with_reducible apply bel_drew | (refine bel_alloc _ ?_ (by first | omega | (simp <;> omega))) | (refine bel_row _ ?_ (by omega)) | (refine bel_trans hb2 ?_)))⟩
    case rest =>
    obtain ⟨bx1, cx1, rfl, rfl, rfl, hbc1⟩ := hcut
    have hsc1 := hbc1.size
    go_upto_region 16 with fail
    go_cut [10, 11, 12] from 26 (fun x y f wx => ∃ bx cx, x = .pointer (some ⟨bx, 0, none⟩) ∧ y = .pointer (some ⟨cx, 0, none⟩) ∧ f = .bool false ∧ Below w4.heap.size w4 wx)
    case first =>
      go_region_held3 (fun w' => Below w4.heap.size w4 w') (first | exact (by repeat' (first | assumption | exact Below.refl _ _ | with_reducible apply bel_drew | (refine bel_alloc _ ?_ (by first | omega | (simp <;> omega))) | (refine bel_row _ ?_ (by omega)) | (refine bel_trans hb2 ?_))) | go_keep)
        (first | (go_at_call 20; refine (hcall _ (by repeat' (first | assumption | exact Below.refl _ _ | with_reducible apply bel_drew | (refine bel_alloc _ ?_ (by first | omega | (simp <;> omega))) | (refine bel_row _ ?_ (by omega)) | fail))).mono ?_; rintro e w2 ⟨rfl, hb2⟩; have hs2 := hb2.size; simp at hs2; have hbw : Below w4.heap.size w4 w2 := bel_trans hb2 (by repeat' (first | assumption | exact Below.refl _ _ | with_reducible apply bel_drew | (refine bel_alloc _ ?_ (by first | omega | (simp <;> omega))) | (refine bel_row _ ?_ (by omega)) | fail)); have hm : ∀ k x, HeapIs _ k x → HeapIs w2 k x := fun k x h => Below.is hb2 h; have hm2 : ∀ k x o, HeapIs _ k x → HeapIs (w2.alloc o) k x := fun k x o h => is_alloc o (Below.is hb2 h)))
      all_goals (go_wp2_with fail; go_meet)
      all_goals exact ⟨_, _, rfl, rfl, rfl, (by repeat' (first | assumption | exact Below.refl _ _ | with_reducible apply bel_drew | (refine bel_alloc _ ?_ (by first | omega | (simp <;> omega))) | (refine bel_row _ ?_ (by omega)) | (refine bel_trans hb2 ?_)))⟩
    case rest =>
    obtain ⟨bx2, cx2, rfl, rfl, rfl, hbc2⟩ := hcut
    have hs5 := hbc2.size
    go_wp2_with (first | (go_at_call 21; refine (below_any C n BB lim' b' (L0 :: Lt) _ (HV4.out.below hbc2 (by omega)) HL.out hn2 hn1 (by omega) (by omega) (HB1.out.below hbc2 (by omega)) (by omega)).mono ?_; rintro e w9 ⟨rfl, hb9⟩))
    go_ret
    exact ⟨rfl, (hbw.over hbc2).over hb9⟩
  · have hin : i < n := by have := HL.out; have := (List.getElem?_eq_some_iff.1 hiL).1; omega
    rw [hsome] at hown
    have hCA : C ≠ A := by omega
    have hBA : BB ≠ A := by omega
    have hzA : wC.heap.size ≠ A := by omega
    have hl44 : ∀ W, Keeps A A w4 W → ldV Trym.prog 44 (.pointer (some ⟨C, i * 9, none⟩)) W = .ok (.agg (lvCells L)) W := fun W hW => by
      refine ld_lv W C (i * 9) L ?_
      have := (HV4.out.keeps hW hCA hCA) i L hiL
      rwa [Nat.zero_add] at this
    have hst : ∀ (W : World) (b : Nat), HeapIs W b (.cells resZ 41) → stV Trym.prog 41 (.pointer (some ⟨b, 0, none⟩)) (.agg (resL L)) W = .ok () (W.setRow b (resL L)) := fun W b h => st_res W b L h
    have hc28k : ∀ W : World, Keeps A A w4 W → W.cell? ⟨BB, 0, none⟩ = some (.pointer (some ⟨bk, 0, none⟩)) := fun W hW => hW.cell g1 hBA hBA
    have hl36k : ∀ W : World, Keeps A A w4 W → ldV Trym.prog 36 (.pointer (some ⟨wC.heap.size, 0, none⟩)) W = .ok (.agg idA) W := fun W hW => ld_id W _ (hW.at k36 hzA hzA)
    have hA1 : ¬ w4.heap.size = A := by omega
    have hA2 : ¬ w4.heap.size + 1 = A := by omega
    have HBK : Hid (HeapIs w4 bk (bookO b' A N)) := g7
    have hbkA : bk ≠ A := by
      rintro rfl
      have h7 : HeapIs w4 bk (bookO b' bk N) := g7
      have := HH.out; unfold HoldsAt at this
      split at this
      · obtain ⟨q, _, _, k3, _⟩ := this
        have := h7.symm.trans k3; simp [bookO, mapO] at this
      · have := h7.symm.trans this; simp [bookO] at this
    clear hc28 hl36 hsome hiL HH g7
    go_upto_region 9 with fail
    go_cut [6, 7, 8] from 26 (fun x y f wx => ∃ bx cx c, x = .pointer (some ⟨bx, 0, none⟩) ∧ y = .pointer (some ⟨cx, 0, none⟩) ∧ f = .bool true ∧ HeapIs wx bx (.cells (resL L) 41) ∧ HeapIs wx cx (.cells (resL L) 41) ∧ HeapIs wx c (.cells (accC (resL L) (resL L)) 65) ∧ HeapIs wx A (mapO (.pointer (some ⟨c, 0, none⟩))) ∧ Keeps A A w4 wx)
    case first =>
      have hn0 : ∀ (W : World) (b k : Nat) (C : Array Value) (o : Obj), k ≠ b → (HeapIs (W.setRow b C) k o ↔ HeapIs W k o) := heapIs_setRow_ne
      go_region_held3 (fun w' => Keeps A A w4 w') (first | exact (by repeat' (first | assumption | exact Keeps.of (Below.refl _ _) | with_reducible apply kp_drew | with_reducible apply kp_alloc | (refine kp_row _ ?_ (by omega)) | (refine kp_trans hK ?_))) | go_keep)
        (first | (go_at_call 19; refine (hown _ (by repeat' (first | assumption | exact Below.refl _ _ | with_reducible apply bel_drew | (refine bel_alloc _ ?_ (by first | omega | (simp <;> omega))) | (refine bel_row _ ?_ (by omega)) | fail))).mono ?_; rintro e w2 ⟨c, rfl, hc, hmA, hK⟩; have hs2 := hK.size; simp at hs2; have hcs := lt_of hc; have hKw : Keeps A A w4 w2 := kp_trans hK (by repeat' (first | assumption | exact Keeps.of (Below.refl _ _) | with_reducible apply kp_drew | with_reducible apply kp_alloc | (refine kp_row _ ?_ (by omega)) | fail)); have hm : ∀ k x, HeapIs _ k x → k ≠ A → HeapIs w2 k x := fun k x h hne => hK.at h hne hne; have hm2 : ∀ k x o, HeapIs _ k x → k ≠ A → HeapIs (w2.alloc o) k x := fun k x o h hne => is_alloc o (hK.at h hne hne); (first | have hx5 := ne_65 hc (hm w4.heap.size (.cells resZ 41) (is_drew (is_new0 w4 (.cells resZ 41))) hA1) | have hx5 := ne_65 hc (hm w4.heap.size (.cells resZ 41) (is_drew (is_new1 w4 (.cells resZ 41) (.cells resZ 41))) hA1) | skip); (first | have hx6 := ne_65 hc (hm (w4.heap.size + 1) (.cells resZ 41) (is_drew (is_new2 w4 (.cells resZ 41) (.cells resZ 41))) hA2) | skip); (try (have hx1 : ¬ w4.heap.size = w2.heap.size := by omega)); (try (have hx2 : ¬ w2.heap.size = w4.heap.size := by omega))))
      all_goals (go_wp2_with fail; go_meet)
      all_goals exact ⟨_, _, c, rfl, rfl, rfl, (by repeat' (first | assumption | with_reducible apply is_drew | with_reducible apply is_new0 | with_reducible apply is_new1 | with_reducible apply is_new2 | with_reducible apply is_alloc | with_reducible refine is_row (C0 := resZ) ?_ | (refine is_setRow _ ?_ (by omega)) | (refine hm _ _ ?_ (by omega)))), (by repeat' (first | assumption | with_reducible apply is_drew | with_reducible apply is_new0 | with_reducible apply is_new1 | with_reducible apply is_new2 | with_reducible apply is_alloc | with_reducible refine is_row (C0 := resZ) ?_ | (refine is_setRow _ ?_ (by omega)) | (refine hm _ _ ?_ (by omega)))), (by repeat' (first | assumption | with_reducible apply is_drew | with_reducible apply is_new0 | with_reducible apply is_new1 | with_reducible apply is_new2 | with_reducible apply is_alloc | with_reducible refine is_row (C0 := resZ) ?_ | (refine is_setRow _ ?_ (by omega)) | (refine hm _ _ ?_ (by omega)))), (by repeat' (first | assumption | with_reducible apply is_drew | with_reducible apply is_new0 | with_reducible apply is_new1 | with_reducible apply is_new2 | with_reducible apply is_alloc | with_reducible refine is_row (C0 := resZ) ?_ | (refine is_setRow _ ?_ (by omega)) | (refine hm _ _ ?_ (by omega)))), (by repeat' (first | assumption | exact Keeps.of (Below.refl _ _) | with_reducible apply kp_drew | with_reducible apply kp_alloc | (refine kp_row _ ?_ (by omega)) | (refine kp_trans hK ?_)))⟩
    case rest =>
    obtain ⟨bx1, cx1, c, rfl, rfl, rfl, hx1, hy1, hc1, hm1, hk1⟩ := hcut
    have hl1 := hl44 wc hk1
    have hiI : (0 : Int) ≤ (i : Int) := by omega
    go_upto_region 16 with (first
      | (go_at_call 14; refine (resourceOf_any L _).mono ?_; rintro e x5 ⟨rfl, hr5⟩; have hX5 := Below.is hr5 hx1; have hY5 := Below.is hr5 hy1; have hz5 := zero41 x5; have hS5 := st_res (x5.alloc (.cells resZ 41)) x5.heap.size L (is_new0 _ _); have hV5 : Below x5.heap.size x5 ((x5.alloc (.cells resZ 41)).setRow x5.heap.size (resL L)) := below_setRow ((Below.refl _ _).alloc (Nat.le_refl _) _) (Nat.le_refl _) _; have hB5 : Below wc.heap.size wc ((x5.alloc (.cells resZ 41)).setRow x5.heap.size (resL L)) := bel_trans hV5 hr5; have lx5 := ld_res _ bx1 L (Below.is hV5 hX5); have hyV5 := Below.is hV5 hY5; have ly5 := ld_res _ cx1 L hyV5; have hzV5 : HeapIs ((x5.alloc (.cells resZ 41)).setRow x5.heap.size (resL L)) x5.heap.size (.cells (resL L) 41) := is_row (is_new0 x5 (.cells resZ 41)); have lz5 := ld_res _ x5.heap.size L hzV5)
      | (go_at_call 13; refine (same_self L _).mono ?_; rintro e y5 ⟨rfl, hy45⟩; (try have lA5 := ld_res y5 cx1 L (Below.is hy45 hyV5)); (try have lB5 := ld_res y5 x5.heap.size L (Below.is hy45 hzV5)); (first | have hbq5 := bel_trans hy45 hB5 | have hbe5 := bel_trans hy45 hbq5)))
    have hk5 : Keeps A A w4 y5 := hk1.trans (Keeps.of hbe5)
    have hs5 := hk5.size
    have hbk5 : HeapIs y5 bk (bookO b' A N) := hk5.at HBK.out hbkA hbkA
    have hA5 := Below.is hbe5 hm1
    have hc5 := Below.is hbe5 hc1
    have hcall : ∀ W, Below y5.heap.size y5 W → Calls Trym.prog 20 #[.pointer (some ⟨bk, 0, none⟩), .agg idA] W fun e w' => e = .returned (.tuple #[.agg (resL L), .agg (resL L), .bool true]) ∧ Below W.heap.size W w' := fun W hW => held_some bk A N c b' L L W (Below.is hW hbk5) (Below.is hW hA5) (Below.is hW hc5)
    have hc28 : ∀ W : World, Below y5.heap.size y5 W → W.cell? ⟨BB, 0, none⟩ = some (.pointer (some ⟨bk, 0, none⟩)) := fun W hW => hc28k W (hk5.trans (Keeps.of hW))
    have hl36 : ∀ W : World, Below y5.heap.size y5 W → ldV Trym.prog 36 (.pointer (some ⟨wC.heap.size, 0, none⟩)) W = .ok (.agg idA) W := fun W hW => hl36k W (hk5.trans (Keeps.of hW))
    have hl44' : ∀ W : World, Below y5.heap.size y5 W → ldV Trym.prog 44 (.pointer (some ⟨C, i * 9, none⟩)) W = .ok (.agg (lvCells L)) W := fun W hW => hl44 W (hk5.trans (Keeps.of hW))
    clear hX5 hY5 hz5 hS5 hV5 hB5 lx5 hyV5 ly5 hzV5 lz5 hbk5 hA5 hc5 hc28k hl36k hl44 hm1 hc1 hx1 hy1 hown HBK hbe5 hbq5 hl1 hk1
    go_cut [10, 11, 12] from 26 (fun x y f wx => ∃ bx cx, x = .pointer (some ⟨bx, 0, none⟩) ∧ y = .pointer (some ⟨cx, 0, none⟩) ∧ f = .bool true ∧ HeapIs wx bx (.cells (resL L) 41) ∧ HeapIs wx cx (.cells (resL L) 41) ∧ Below y5.heap.size y5 wx)
    case first =>
      have hn0 : ∀ (W : World) (b k : Nat) (C : Array Value) (o : Obj), k ≠ b → (HeapIs (W.setRow b C) k o ↔ HeapIs W k o) := heapIs_setRow_ne
      go_region_held3 (fun w' => Below y5.heap.size y5 w') (first | exact (by repeat' (first | assumption | exact Below.refl _ _ | with_reducible apply bel_drew | (refine bel_alloc _ ?_ (by first | omega | (simp <;> omega))) | (refine bel_row _ ?_ (by omega)) | (refine bel_trans hb2 ?_))) | go_keep)
        (first | (go_at_call 20; refine (hcall _ (by repeat' (first | assumption | exact Below.refl _ _ | with_reducible apply bel_drew | (refine bel_alloc _ ?_ (by first | omega | (simp <;> omega))) | (refine bel_row _ ?_ (by omega)) | fail))).mono ?_; rintro e w2 ⟨rfl, hb2⟩; have hs2 := hb2.size; simp at hs2; have hbw : Below y5.heap.size y5 w2 := bel_trans hb2 (by repeat' (first | assumption | exact Below.refl _ _ | with_reducible apply bel_drew | (refine bel_alloc _ ?_ (by first | omega | (simp <;> omega))) | (refine bel_row _ ?_ (by omega)) | fail)); have hm : ∀ k x, HeapIs _ k x → HeapIs w2 k x := fun k x h => Below.is hb2 h; have hm2 : ∀ k x o, HeapIs _ k x → HeapIs (w2.alloc o) k x := fun k x o h => is_alloc o (Below.is hb2 h); (try (have hx1 : ¬ y5.heap.size = w2.heap.size := by omega)); (try (have hx2 : ¬ w2.heap.size = y5.heap.size := by omega))))
      all_goals (go_wp2_with fail; go_meet)
      all_goals exact ⟨_, _, rfl, rfl, rfl, (by repeat' (first | assumption | with_reducible apply is_drew | with_reducible apply is_new0 | with_reducible apply is_new1 | with_reducible apply is_new2 | with_reducible apply is_alloc | with_reducible refine is_row (C0 := resZ) ?_ | (refine is_setRow _ ?_ (by omega)) | (refine Below.is hb2 ?_))), (by repeat' (first | assumption | with_reducible apply is_drew | with_reducible apply is_new0 | with_reducible apply is_new1 | with_reducible apply is_new2 | with_reducible apply is_alloc | with_reducible refine is_row (C0 := resZ) ?_ | (refine is_setRow _ ?_ (by omega)) | (refine Below.is hb2 ?_))), (by repeat' (first | assumption | exact Below.refl _ _ | with_reducible apply bel_drew | (refine bel_alloc _ ?_ (by first | omega | (simp <;> omega))) | (refine bel_row _ ?_ (by omega)) | (refine bel_trans hb2 ?_)))⟩
    case rest =>
    obtain ⟨bx2, cx2, rfl, rfl, rfl, hx2, hy2, hbc2⟩ := hcut
    have hl2 := hl44' wc hbc2
    go_wp2_with (first
      | (go_at_call 14; refine (resourceOf_any L _).mono ?_; rintro e x6 ⟨rfl, hr6⟩; have hX6 := Below.is hr6 hx2; have hY6 := Below.is hr6 hy2; have hz6 := zero41 x6; have hS6 := st_res (x6.alloc (.cells resZ 41)) x6.heap.size L (is_new0 _ _); have hV6 : Below x6.heap.size x6 ((x6.alloc (.cells resZ 41)).setRow x6.heap.size (resL L)) := below_setRow ((Below.refl _ _).alloc (Nat.le_refl _) _) (Nat.le_refl _) _; have hB6 : Below wc.heap.size wc ((x6.alloc (.cells resZ 41)).setRow x6.heap.size (resL L)) := bel_trans hV6 hr6; have lx6 := ld_res _ bx2 L (Below.is hV6 hX6); have hyV6 := Below.is hV6 hY6; have ly6 := ld_res _ cx2 L hyV6; have hzV6 : HeapIs ((x6.alloc (.cells resZ 41)).setRow x6.heap.size (resL L)) x6.heap.size (.cells (resL L) 41) := is_row (is_new0 x6 (.cells resZ 41)); have lz6 := ld_res _ x6.heap.size L hzV6)
      | (go_at_call 13; refine (same_self L _).mono ?_; rintro e y6 ⟨rfl, hy46⟩; (try have lA6 := ld_res y6 cx2 L (Below.is hy46 hyV6)); (try have lB6 := ld_res y6 x6.heap.size L (Below.is hy46 hzV6)); (first | have hbq6 := bel_trans hy46 hB6 | have hbe6 := bel_trans hy46 hbq6)))
    have hbe : Below y5.heap.size y5 y6 := hbc2.over hbe6
    have hk6 : Keeps A A w4 y6 := hk5.trans (Keeps.of hbe)
    have hs6 := hk6.size
    have hsB := hb3.size
    have hsC := hb4.size
    have hbL : Below lim' w4 y6 := hk6.below g6 g6 (by omega)
    have hbW : Below w.heap.size w4 y6 := hk6.below (by omega) (by omega) (by omega)
    refine (below_any C n BB lim' b' (L0 :: Lt) _ (HV4.out.keeps hk6 hCA hCA) HL.out hn2 hn1 (by omega) (by omega) (HB1.out.below hbL (Nat.le_refl _)) (by omega)).mono ?_
    rintro e w9 ⟨rfl, hb9⟩
    go_wp2_with fail
    go_ret
    exact ⟨rfl, (hbw.trans hbW).over hb9⟩
end Go.Proofs.Qxb6602000aMods.Led
