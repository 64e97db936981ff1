import Derived.Test.Qxb6602000aModsSix
namespace Go.Proofs.Qxb6602000aMods.Led
open Go.RowKit
set_option linter.unusedVariables false
attribute [local simp] heapIs_drew heapIs_drewN is_new0 is_new1 is_new2
attribute [local go_sem ↓] ld36 ld41 ld65 st41 st65 bu41 bu65 ld44 st44 bu36 st36

set_option maxHeartbeats 8000000 in
set_option maxRecDepth 10000 in
theorem law6_any (p : Option Addr) (B o n cap lim : Nat) (Ls : List Lv) (M : Lv) (w : World) (hp : n = 0 ∨ p = some ⟨B, o, none⟩ ∧ B < w.heap.size) (h : LvsAt w B o Ls) (hn : n = Ls.length) (hbig : n ≤ 9223372036854775807) (hl : lim ≤ w.heap.size)
    (ht : ∀ L ∈ Ls, TextAt w lim L.loc ∧ TextAt w lim L.note) (hM1 : TextAt w lim M.loc) (hM2 : TextAt w lim M.note) :
    Calls Trym.prog 6 #[.slice p n cap, .agg (lvCells M)] w fun e w' => e = .returned (.bool true) ∧ Below w.heap.size w w' := by
  have hb1 : Below w.heap.size w (w.alloc (.cells (lvCells M) 44)) := (Below.refl _ _).alloc (Nat.le_refl _) _
  have hs1 : w.heap.size < (w.alloc (.cells (lvCells M) 44)).heap.size := by simp
  have k1 : HeapIs (w.alloc (.cells (lvCells M) 44)) w.heap.size (.cells (lvCells M) 44) := heap_alloc_new _ _
  have h1 : LvsAt (w.alloc (.cells (lvCells M) 44)) B o Ls := by
    rcases hp with e0 | ⟨_, hB⟩
    · obtain rfl : Ls = [] := List.eq_nil_of_length_eq_zero (by omega)
      intro i L hL; simp at hL
    · exact h.below hb1 hB
  have HT : Hid (∀ L ∈ Ls, TextAt w lim L.loc ∧ TextAt w lim L.note) := ht
  have HM : Hid (TextAt w lim M.loc ∧ TextAt w lim M.note) := ⟨hM1, hM2⟩
  have hzz := zzn_any p B o n cap lim Ls M (w.alloc (.cells (lvCells M) 44)) (hp.imp id fun x => ⟨x.1, Nat.lt_trans x.2 hs1⟩) h1 hn hbig (Nat.le_of_lt (Nat.lt_of_le_of_lt hl hs1)) (fun L hL => ⟨(ht L hL).1.below hb1 hl, (ht L hL).2.below hb1 hl⟩) (hM1.below hb1 hl) (hM2.below hb1 hl)
  have hl1 := ld_lv0 _ _ M k1
  have HL : Hid (n = Ls.length) := hn
  clear hM1 hM2 ht h hn
  by_cases hn0 : n = 0
  · subst hn0
    clear h1 hp HT HM HL
    go_enter Trym.func6, Trym.ntmps6
    go_upto_region 1 with fail
    generalize w.alloc (.cells (lvCells M) 44) = w1 at *
    go_wp2_with (first | (go_at_call 22; refine hzz.mono ?_; rintro e w2 ⟨⟨bb, rfl⟩, hb2⟩; have hl2 := ld_lv0 w2 w.heap.size M (Below.is hb2 k1); cases bb) | (go_at_call 23; refine (nextOut_zero p cap M _).mono ?_; rintro e w3 ⟨rfl, hb3⟩))
    · go_ret
      exact ⟨rfl, hb1.over hb2⟩
    · go_ret
      exact ⟨rfl, (hb1.over hb2).over hb3⟩
  obtain ⟨rfl, hB⟩ : p = some ⟨B, o, none⟩ ∧ B < w.heap.size := hp.resolve_left hn0
  have hbz := bu_id
  have hz36 := zero36
  have hz41 := zero41
  go_enter Trym.func6, Trym.ntmps6
  go_upto_region 1 with fail
  generalize w.alloc (.cells (lvCells M) 44) = w1 at *
  go_wp2_with (first | (go_at_call 22; refine hzz.mono ?_; rintro e w2 ⟨⟨bb, rfl⟩, hb2⟩; have hl2 := ld_lv0 w2 w.heap.size M (Below.is hb2 k1); have hs2 := hb2.size; have hb02 := hb1.over hb2; cases bb) | (go_at_call 23; refine (nextOut_any B o n cap lim Ls M _ (h1.below hb2 (by omega)) HL.out (by omega) (by omega) hbig (fun L hL => ⟨(HT.out L hL).1.below hb02 hl, (HT.out L hL).2.below hb02 hl⟩) (HM.out.1.below hb02 hl) (HM.out.2.below hb02 hl)).mono ?_; rintro e w3 ⟨rfl | ⟨hn1, hn2, rfl⟩, hb3⟩))
  · go_ret
    exact ⟨rfl, hb1.over hb2⟩
  · go_ret
    exact ⟨rfl, hb02.over hb3⟩
  have hs3 := hb3.size
  have hb03 : Below w.heap.size w w3 := hb02.over hb3
  have k3 : HeapIs w3 w.heap.size (.cells (lvCells M) 44) := Below.is hb3 (Below.is hb2 k1)
  have hb13 : Below w1.heap.size w1 w3 := hb2.over hb3
  refine (copyLevels_any B o n cap lim Ls w3 (h1.below hb13 (by omega)) HL.out hn2 (by omega) (by omega) fun L hL => ⟨(HT.out L hL).1.below hb03 hl, (HT.out L hL).2.below hb03 hl⟩).mono ?_
  rintro e w4 ⟨C, Ls', rfl, hlen, hLv, hC1, hC2, hb4⟩
  have hs4 := hb4.size
  have k4 : HeapIs w4 w.heap.size (.cells (lvCells M) 44) := Below.is hb4 k3
  have hb04 := hb03.over hb4
  have hl4 := ld_lv0 w4 _ M k4
  have hCw : w.heap.size < C := by omega
  clear h1 HL HT hzz hp k1 hl1 hl2 k3 hb13 hb03 hb02 hb1 hb2 hb3 hb4
  have HL : Hid (n = Ls'.length) := hlen.symm
  have HV : Hid (LvsAt w4 C 0 Ls') := hLv
  clear hlen hLv
  go_upto_region 7 with (first | (go_at_call 24; refine (copyLevel_any M lim _ (HM.out.1.below hb04 hl) (HM.out.2.below hb04 hl) (by omega)).mono ?_; rintro e w5 ⟨M', rfl, hb5⟩; have k5 : HeapIs w5 w.heap.size (.cells (lvCells M) 44) := Below.is hb5 k4; have hst5 := st_lv0 w5 w.heap.size M M' k5))
  have hs5 := hb5.size
  have hk56 : Keeps w.heap.size w.heap.size w5 (w5.setRow w.heap.size (lvCells M')) := (Keeps.of (Below.refl _ _)).setRow _ (.inr rfl)
  have k6 : HeapIs (w5.setRow w.heap.size (lvCells M')) w.heap.size (.cells (lvCells M') 44) := setRow_heap _ _ _ _ _ _ k5
  have hb06 : Below w.heap.size w (w5.setRow w.heap.size (lvCells M')) := below_setRow (hb04.over hb5) (Nat.le_refl _) _
  have HV6 : Hid (LvsAt (w5.setRow w.heap.size (lvCells M')) C 0 Ls') := (HV.out.below hb5 hC2).keeps hk56 (by omega) (by omega)
  have hs6 := hk56.size
  clear hst5 hk56 HV k5 k4 hl4
  generalize w5.setRow w.heap.size (lvCells M') = w6 at *
  clear hb5 hb04
  go_wp2_with (first | (go_at_call 10; refine (chain_any C n Ls' w6 HV6.out HL.out hn2 (by omega)).mono ?_; rintro e wC ⟨BB, b, rfl, HBk0, hBB1, hBB2, hb7⟩; have HBk : Hid (BooksAt wC BB 0 wC.heap.size b Ls') := HBk0; clear HBk0; have hst36 := st_id (wC.alloc (.cells idA 36)) wC.heap.size (heap_alloc_new _ _); have hbD : Below wC.heap.size wC (wC.alloc (.cells idA 36)) := (Below.refl _ _).alloc (Nat.le_refl _) _; have hnear : Calls Trym.prog 12 #[.slice (some ⟨C, 0, none⟩) n n, .int .i64 0] (wC.alloc (.cells idA 36)) _ := near_any C 0 n n Ls' _ ((HV6.out.below hb7 (by omega)).below hbD (by omega)) HL.out hn2 0 (Nat.zero_le _)))
  refine hnear.mono ?_
  rintro e wn ⟨hw, hnr⟩
  have hs7 := hb7.size
  have k36 : HeapIs (wC.alloc (.cells idA 36)) wC.heap.size (.cells idA 36) := heap_alloc_new _ _
  have hbw : Below w.heap.size w (wC.alloc (.cells idA 36)) := (hb06.over hb7).over hbD
  have hsD : (wC.alloc (.cells idA 36)).heap.size = wC.heap.size + 1 := by simp
  have HV4 : Hid (LvsAt (wC.alloc (.cells idA 36)) C 0 Ls') := (HV6.out.below hb7 (by omega)).below hbD (by omega)
  have HB4 : Hid (BooksAt (wC.alloc (.cells idA 36)) BB 0 wC.heap.size b Ls') := HBk.out.below hbD (Nat.le_refl _)
  have kN := ld_lv0 _ _ M' (Below.is hbD (Below.is hb7 k6))
  clear hnear hst36 HBk HV6 k6
  generalize hw4 : wC.alloc (.cells idA 36) = wD at *
  have hw' := hw.symm
  subst hw'
  clear hw4
  have hsD' : wC.heap.size < wD.heap.size := by omega
  have hn1' : 0 < n := by omega
  clear hsD
  cases Ls' with
  | nil => exact absurd HL.out (by simp; omega)
  | cons L0 Lt =>
  obtain ⟨bk, A, N, b', lim', rfl, g1, g2, g3, g4, g5, g6, g7, g8, g9, g10⟩ := HB4.out
  rw [List.drop_zero] at hnr
  clear HB4
  rcases hnr with ⟨rfl, hnone⟩ | ⟨i, L, hi0, hiL, rfl, hsome⟩
  · have hh : L0.holds = false := by
      cases e : L0.holds
      · rfl
      · simp [nearL, e] at hnone
    have g8' : HeapIs wD A (.map #[] 0) := by have := g8; unfold HoldsAt at this; rw [hh] at this; exact this
    go_upto_region 11 with (first | (go_at_call 14; refine (resourceOf_any M' _).mono ?_; rintro e x1 ⟨rfl, hr1⟩; have hS1 := st_res (x1.alloc (.cells resZ 41)) x1.heap.size M' (is_new0 _ _)))
    have hV1 : Below x1.heap.size x1 ((x1.alloc (.cells resZ 41)).setRow x1.heap.size (resL M')) := below_setRow ((Below.refl _ _).alloc (Nat.le_refl _) _) (Nat.le_refl _) _
    have hb8 : Below wD.heap.size wD ((x1.alloc (.cells resZ 41)).setRow x1.heap.size (resL M')) := bel_trans hV1 hr1
    have kW : HeapIs ((x1.alloc (.cells resZ 41)).setRow x1.heap.size (resL M')) x1.heap.size (.cells (resL M') 41) := is_row (is_new0 x1 (.cells resZ 41))
    clear hS1 hV1 kN
    have hsx := hr1.size
    clear hr1
    generalize (x1.alloc (.cells resZ 41)).setRow x1.heap.size (resL M') = w8 at *
    generalize x1.heap.size = bw at *
    have hs8 := hb8.size
    have k36' : HeapIs w8 wC.heap.size (.cells idA 36) := Below.is hb8 k36
    have hc28 : ∀ W : World, Below w8.heap.size w8 W → W.cell? ⟨BB, 0, none⟩ = some (.pointer (some ⟨bk, 0, none⟩)) := fun W hW => Below.cellIs (hb8.over hW) g1
    have hl36 : ∀ W : World, Below w8.heap.size w8 W → ldV Trym.prog 36 (.pointer (some ⟨wC.heap.size, 0, none⟩)) W = .ok (.agg idA) W := fun W hW => ld_id W _ (Below.is hW k36')
    have hl41 : ∀ W : World, Below w8.heap.size w8 W → ldV Trym.prog 41 (.pointer (some ⟨bw, 0, none⟩)) W = .ok (.agg (resL M')) W := fun W hW => ld_res W _ M' (Below.is hW kW)
    have hset := zset_books (w := w8) M' g4 g5 g6 (Below.is hb8 g7) (HoldsAt.below hb8 (by omega) (by omega) g8) g9 (g10.below hb8 (by omega)) (show wC.heap.size ≤ w8.heap.size by omega)
    rw [hnone] at hset
    have HB1 : Hid (BooksAt wD BB 1 lim' b' Lt) := g10
    have G7 : Hid (HeapIs wD bk (bookO b' A N)) := g7
    have G8 : Hid (HeapIs wD A (.map #[] 0)) := g8'
    have hres0 : ∀ W, Below wD.heap.size wD W → Calls Trym.prog 16 #[.pointer (some ⟨bk, 0, none⟩), .agg idA] W (ResR (nearL (L0 :: Lt)) W) := resource_chain (w := wD) wC.heap.size (some ⟨bk, 0, none⟩) (L0 :: Lt) ⟨bk, A, N, b', lim', rfl, g3, g4, g5, g6, g7, g8, g9, g10.chain⟩ (by omega)
    rw [hnone] at hres0
    clear g10 g8 g8' g7 hnone kW k36'
    go_cut [9] from 45 to 51 (fun f wx => f = .bool false ∧ Below w8.heap.size w8 wx)
    case first =>
      go_region_held3 (fun w' => Below w8.heap.size w8 w') (first | exact (by repeat' (first | assumption | exact Below.refl _ _ | with_reducible apply bel_drew | (refine bel_alloc _ ?_ (by first | omega | (simp <;> omega))) | (refine bel_row _ ?_ (by omega)) | (refine bel_trans hb2 ?_))) | go_keep)
        (first | (go_at_call 25; refine (hset _ (by repeat' (first | assumption | exact Below.refl _ _ | with_reducible apply bel_drew | (refine bel_alloc _ ?_ (by first | omega | (simp <;> omega))) | (refine bel_row _ ?_ (by omega)) | fail))).mono ?_; rintro e w2 ⟨rfl, hb2⟩; have hbw : Below w8.heap.size w8 w2 := bel_trans hb2 (by repeat' (first | assumption | exact Below.refl _ _ | with_reducible apply bel_drew | (refine bel_alloc _ ?_ (by first | omega | (simp <;> omega))) | (refine bel_row _ ?_ (by omega)) | fail))))
      all_goals (go_wp2_with fail; go_meet)
      all_goals exact ⟨rfl, (by repeat' (first | assumption | exact Below.refl _ _ | with_reducible apply bel_drew | (refine bel_alloc _ ?_ (by first | omega | (simp <;> omega))) | (refine bel_row _ ?_ (by omega)) | (refine bel_trans hb2 ?_)))⟩
    case rest =>
    obtain ⟨rfl, hbc1⟩ := hcut
    have hk1 := hbc1.size
    have hres : ∀ W, Below wc.heap.size wc W → Calls Trym.prog 16 #[.pointer (some ⟨bk, 0, none⟩), .agg idA] W (ResR none W) := fun W hW => hres0 W ((hb8.over hbc1).over hW)
    have hc28' : ∀ W : World, Below wc.heap.size wc W → W.cell? ⟨BB, 0, none⟩ = some (.pointer (some ⟨bk, 0, none⟩)) := fun W hW => hc28 W (hbc1.over hW)
    have hl36' : ∀ W : World, Below wc.heap.size wc W → ldV Trym.prog 36 (.pointer (some ⟨wC.heap.size, 0, none⟩)) W = .ok (.agg idA) W := fun W hW => hl36 W (hbc1.over hW)
    have hst : ∀ (W : World) (b : Nat), HeapIs W b (.cells resZ 41) → stV Trym.prog 41 (.pointer (some ⟨b, 0, none⟩)) (.agg resZ) W = .ok () W := fun W b h => st_same W b h
    have hcall : ∀ W, Below wc.heap.size wc W → Calls Trym.prog 20 #[.pointer (some ⟨bk, 0, none⟩), .agg idA] W fun e w' => e = .returned (.tuple #[.agg resZ, .agg resZ, .bool false]) ∧ Below W.heap.size W w' := fun W hW => held_none bk A N b' W (Below.is ((hb8.over hbc1).over hW) G7.out) (Below.is ((hb8.over hbc1).over hW) G8.out)
    have hb9 := (hbw.over hb8).over hbc1
    have HB2 : Hid (BooksAt wc BB 1 lim' b' Lt) := HB1.out.below (hb8.over hbc1) (by omega)
    have HV5 : Hid (LvsAt wc C 0 (L0 :: Lt)) := HV4.out.below (hb8.over hbc1) (by omega)
    clear hc28 hl36 hl41 hset hres0 HB1 G7 G8
    go_upto_region 13 with fail
    go_cut [10, 11] from 53 to 61 (fun x f wx => ∃ bx, x = .pointer (some ⟨bx, 0, none⟩) ∧ f = .bool false ∧ Below wc.heap.size wc wx)
    case first =>
      go_region_held3 (fun w' => Below wc.heap.size wc w') (first | exact (by repeat' (first | assumption | exact Below.refl _ _ | with_reducible apply bel_drew | (refine bel_alloc _ ?_ (by first | omega | (simp <;> omega))) | (refine bel_row _ ?_ (by omega)) | (refine bel_trans hb2 ?_))) | go_keep)
        (first | (go_at_call 16; refine (hres _ (by repeat' (first | assumption | exact Below.refl _ _ | with_reducible apply bel_drew | (refine bel_alloc _ ?_ (by first | omega | (simp <;> omega))) | (refine bel_row _ ?_ (by omega)) | fail))).mono ?_; rintro e w2 ⟨rfl, hb2⟩; have hs2 := hb2.size; simp at hs2; have hbw : Below wc.heap.size wc w2 := bel_trans hb2 (by repeat' (first | assumption | exact Below.refl _ _ | with_reducible apply bel_drew | (refine bel_alloc _ ?_ (by first | omega | (simp <;> omega))) | (refine bel_row _ ?_ (by omega)) | fail)); have hm : ∀ k x, HeapIs _ k x → HeapIs w2 k x := fun k x h => Below.is hb2 h; have hm2 : ∀ k x o, HeapIs _ k x → HeapIs (w2.alloc o) k x := fun k x o h => is_alloc o (Below.is hb2 h)))
      all_goals (go_wp2_with fail; go_meet)
      all_goals exact ⟨_, rfl, rfl, (by repeat' (first | assumption | exact Below.refl _ _ | with_reducible apply bel_drew | (refine bel_alloc _ ?_ (by first | omega | (simp <;> omega))) | (refine bel_row _ ?_ (by omega)) | (refine bel_trans hb2 ?_)))⟩
    case rest =>
    obtain ⟨bx1, rfl, rfl, hbc2⟩ := hcut
    have hk2 := hbc2.size
    have hcall' : ∀ W, Below wc.heap.size wc W → Calls Trym.prog 20 #[.pointer (some ⟨bk, 0, none⟩), .agg idA] W fun e w' => e = .returned (.tuple #[.agg resZ, .agg resZ, .bool false]) ∧ Below W.heap.size W w' := fun W hW => hcall W (hbc2.over hW)
    have hc28 : ∀ W : World, Below wc.heap.size wc W → W.cell? ⟨BB, 0, none⟩ = some (.pointer (some ⟨bk, 0, none⟩)) := fun W hW => hc28' W (hbc2.over hW)
    have hl36 : ∀ W : World, Below wc.heap.size wc W → ldV Trym.prog 36 (.pointer (some ⟨wC.heap.size, 0, none⟩)) W = .ok (.agg idA) W := fun W hW => hl36' W (hbc2.over hW)
    clear hcall hc28' hl36' hres
    go_upto_region 14 with fail
    go_cut [12, 13, 14] from 61 to 70 (fun x y f wx => ∃ bx cx, x = .pointer (some ⟨bx, 0, none⟩) ∧ y = .pointer (some ⟨cx, 0, none⟩) ∧ f = .bool false ∧ Below wc.heap.size wc wx)
    case first =>
      go_region_held3 (fun w' => Below wc.heap.size wc w') (first | exact (by repeat' (first | assumption | exact Below.refl _ _ | with_reducible apply bel_drew | (refine bel_alloc _ ?_ (by first | omega | (simp <;> omega))) | (refine bel_row _ ?_ (by omega)) | (refine bel_trans hb2 ?_))) | go_keep)
        (first | (go_at_call 20; refine (hcall' _ (by repeat' (first | assumption | exact Below.refl _ _ | with_reducible apply bel_drew | (refine bel_alloc _ ?_ (by first | omega | (simp <;> omega))) | (refine bel_row _ ?_ (by omega)) | fail))).mono ?_; rintro e w2 ⟨rfl, hb2⟩; have hs2 := hb2.size; simp at hs2; have hbw : Below wc.heap.size wc w2 := bel_trans hb2 (by repeat' (first | assumption | exact Below.refl _ _ | with_reducible apply bel_drew | (refine bel_alloc _ ?_ (by first | omega | (simp <;> omega))) | (refine bel_row _ ?_ (by omega)) | fail)); have hm : ∀ k x, HeapIs _ k x → HeapIs w2 k x := fun k x h => Below.is hb2 h; have hm2 : ∀ k x o, HeapIs _ k x → HeapIs (w2.alloc o) k x := fun k x o h => is_alloc o (Below.is hb2 h)))
      all_goals (go_wp2_with fail; go_meet)
      all_goals exact ⟨_, _, rfl, rfl, rfl, (by repeat' (first | assumption | exact Below.refl _ _ | with_reducible apply bel_drew | (refine bel_alloc _ ?_ (by first | omega | (simp <;> omega))) | (refine bel_row _ ?_ (by omega)) | (refine bel_trans hb2 ?_)))⟩
    case rest =>
    obtain ⟨bx2, cx2, rfl, rfl, rfl, hbc3⟩ := hcut
    have hk3 := hbc3.size
    have hbq := hbc2.over hbc3
    go_wp2_with (first | (go_at_call 21; refine (below_any C n BB lim' b' (L0 :: Lt) _ (HV5.out.below hbq (by omega)) HL.out hn2 hn1 (by omega) (by omega) (HB2.out.below hbq (by omega)) (by omega)).mono ?_; rintro e w9 ⟨rfl, hb10⟩))
    go_ret
    exact ⟨rfl, (hb9.over hbq).over hb10⟩
  · have hin : i < n := by have := HL.out; have := (List.getElem?_eq_some_iff.1 hiL).1; omega
    have hiI : (0 : Int) ≤ (i : Int) := by omega
    have hiN : ¬ (i : Int) < 0 := by omega
    go_upto_region 11 with (first | (go_at_call 14; refine (resourceOf_any M' _).mono ?_; rintro e x1 ⟨rfl, hr1⟩; have hS1 := st_res (x1.alloc (.cells resZ 41)) x1.heap.size M' (is_new0 _ _)))
    have hV1 : Below x1.heap.size x1 ((x1.alloc (.cells resZ 41)).setRow x1.heap.size (resL M')) := below_setRow ((Below.refl _ _).alloc (Nat.le_refl _) _) (Nat.le_refl _) _
    have hb8 : Below wD.heap.size wD ((x1.alloc (.cells resZ 41)).setRow x1.heap.size (resL M')) := bel_trans hV1 hr1
    have kW : HeapIs ((x1.alloc (.cells resZ 41)).setRow x1.heap.size (resL M')) x1.heap.size (.cells (resL M') 41) := is_row (is_new0 x1 (.cells resZ 41))
    clear hS1 hV1 kN
    have hsx := hr1.size
    clear hr1
    generalize (x1.alloc (.cells resZ 41)).setRow x1.heap.size (resL M') = w8 at *
    generalize x1.heap.size = bw at *
    have hs8 := hb8.size
    have k36' : HeapIs w8 wC.heap.size (.cells idA 36) := Below.is hb8 k36
    have hc28 : ∀ W : World, Below w8.heap.size w8 W → W.cell? ⟨BB, 0, none⟩ = some (.pointer (some ⟨bk, 0, none⟩)) := fun W hW => Below.cellIs (hb8.over hW) g1
    have hl36 : ∀ W : World, Below w8.heap.size w8 W → ldV Trym.prog 36 (.pointer (some ⟨wC.heap.size, 0, none⟩)) W = .ok (.agg idA) W := fun W hW => ld_id W _ (Below.is hW k36')
    have hl41 : ∀ W : World, Below w8.heap.size w8 W → ldV Trym.prog 41 (.pointer (some ⟨bw, 0, none⟩)) W = .ok (.agg (resL M')) W := fun W hW => ld_res W _ M' (Below.is hW kW)
    have hset := zset_books (w := w8) M' g4 g5 g6 (Below.is hb8 g7) (HoldsAt.below hb8 (by omega) (by omega) g8) g9 (g10.below hb8 (by omega)) (show wC.heap.size ≤ w8.heap.size by omega)
    rw [hsome] at hset
    have HB1 : Hid (BooksAt w8 BB 1 lim' b' Lt) := g10.below hb8 (by omega)
    have HV8 : Hid (LvsAt w8 C 0 (L0 :: Lt)) := HV4.out.below hb8 (by omega)
    have HK8 : Hid (HeapIs w8 bk (bookO b' A N)) := Below.is hb8 g7
    have HC8 : Hid (w8.cell? ⟨BB, 0, none⟩ = some (.pointer (some ⟨bk, 0, none⟩))) := Below.cellIs hb8 g1
    have HI8 : Hid (HeapIs w8 wC.heap.size (.cells idA 36)) := k36'
    have HW8 : Hid (HeapIs w8 bw (.cells (resL M') 41)) := kW
    have hbw8 := hbw.over hb8
    have hlw8 : lim' ≤ w8.heap.size := by omega
    have hCl : C < lim' := by omega
    have hwl : w.heap.size ≤ lim' := by omega
    clear hc28 hl36 hl41
    have hc28 : ∀ W : World, KeepT lim' w8 W → W.cell? ⟨BB, 0, none⟩ = some (.pointer (some ⟨bk, 0, none⟩)) := fun W hW => (hW.bel.cell (p := ⟨BB, 0, none⟩) g2).trans HC8.out
    have hl36 : ∀ W : World, KeepT lim' w8 W → ldV Trym.prog 36 (.pointer (some ⟨wC.heap.size, 0, none⟩)) W = .ok (.agg idA) W := fun W hW => ld_id W _ (hW.oth _ _ _ k36' (by decide))
    have hl41 : ∀ W : World, KeepT lim' w8 W → ldV Trym.prog 41 (.pointer (some ⟨bw, 0, none⟩)) W = .ok (.agg (resL M')) W := fun W hW => ld_res W _ M' (hW.oth _ _ _ kW (by decide))
    have hkt0 : KeepT lim' w8 w8 := kt_of hlw8 (Below.refl _ _)
    clear g10 g8 g7 hsome k36' kW k36 HV4 g1
    go_cut [9] from 45 to 51 (fun f wx => ∃ c, f = .bool true ∧ Six wx C n BB bk A N c wC.heap.size bw lim' b' L M' L0 Lt ∧ KeepT lim' w8 wx)
    case first =>
      go_region_held3 (fun w' => KeepT lim' w8 w') (first | exact (by repeat' (first | assumption | with_reducible apply kt_drew)) | go_keep)
        (first | (go_at_call 25; refine (hset _ (by repeat' (first | assumption | exact Below.refl _ _ | with_reducible apply bel_drew | (refine bel_alloc _ ?_ (by first | omega | (simp <;> omega))) | (refine bel_row _ ?_ (by omega)) | fail))).mono ?_; rintro e w2 ⟨c, rfl, hlc, hc, hmA, hK, hoth⟩; have hkt : KeepT lim' w8 w2 := kt_set hlw8 (by repeat' (first | assumption | exact Below.refl _ _ | with_reducible apply bel_drew | (refine bel_alloc _ ?_ (by first | omega | (simp <;> omega))) | (refine bel_row _ ?_ (by omega)) | fail)) g6 hlc hK hoth; have hsix : Hid (Six w2 C n BB bk A N c wC.heap.size bw lim' b' L M' L0 Lt) := kt_six hkt HC8.out HI8.out HW8.out HK8.out HV8.out hCl g2 hlw8 HB1.out hc hmA; clear hc hmA hK hoth))
      all_goals (go_wp2_with fail; go_meet)
      all_goals exact ⟨c, rfl, (by repeat' (first | exact hsix.out | with_reducible apply six_drew)), (by repeat' (first | assumption | with_reducible apply kt_drew))⟩
    case rest =>
    obtain ⟨c, rfl, HS0, hkt⟩ := hcut
    have hb9 : Below w.heap.size w wc := hbw8.trans (hkt.bel.mono hwl)
    have HS : Hid (Six wc C n BB bk A N c wC.heap.size bw lim' b' L M' L0 Lt) := HS0
    have hl44 := HS0.level hiL
    have hl44c := hl44 wc (Below.refl _ _)
    clear HS0 hkt hset HB1 HV8 HK8 HC8 HI8 HW8 hc28 hl36 hl41 hkt0 hbw8 hb8 hbw hl44
    go_upto_region 19 with (first | (go_at_call 14; refine (resourceOf_any L _).mono ?_; rintro e x2 ⟨rfl, hr2⟩; have hS2 := st_res (x2.alloc (.cells resZ 41)) x2.heap.size L (is_new0 _ _)))
    have hV2 : Below x2.heap.size x2 ((x2.alloc (.cells resZ 41)).setRow x2.heap.size (resL L)) := below_setRow ((Below.refl _ _).alloc (Nat.le_refl _) _) (Nat.le_refl _) _
    have hb10 : Below wc.heap.size wc ((x2.alloc (.cells resZ 41)).setRow x2.heap.size (resL L)) := bel_trans hV2 hr2
    have kF : HeapIs ((x2.alloc (.cells resZ 41)).setRow x2.heap.size (resL L)) x2.heap.size (.cells (resL L) 41) := is_row (is_new0 x2 (.cells resZ 41))
    clear hS2 hV2 hl44c
    clear hr2
    generalize (x2.alloc (.cells resZ 41)).setRow x2.heap.size (resL L) = y1 at *
    generalize x2.heap.size = bf at *
    have HS1 : Hid (Six y1 C n BB bk A N c wC.heap.size bw lim' b' L M' L0 Lt) := HS.out.below hb10
    have hby1 := hb9.over hb10
    have hstM : ∀ (W : World) (b : Nat), HeapIs W b (.cells resZ 41) → stV Trym.prog 41 (.pointer (some ⟨b, 0, none⟩)) (.agg (resL M')) W = .ok () (W.setRow b (resL M')) := fun W b h => st_res W b M' h
    have hstL : ∀ (W : World) (b : Nat), HeapIs W b (.cells resZ 41) → stV Trym.prog 41 (.pointer (some ⟨b, 0, none⟩)) (.agg (resL L)) W = .ok () (W.setRow b (resL L)) := fun W b h => st_res W b L h
    clear HS hb9 hb10
    have hc28 := HS1.out.top
    have hl36 := HS1.out.zero
    have hcall := HS1.out.res
    go_cut [16, 17] from 92 to 100 (fun x f wx => ∃ bx, x = .pointer (some ⟨bx, 0, none⟩) ∧ f = .bool true ∧ HeapIs wx bx (.cells (resL M') 41) ∧ Below y1.heap.size y1 wx)
    case first =>
      have hn0 : ∀ (W : World) (b k : Nat) (C : Array Value) (o : Obj), k ≠ b → (HeapIs (W.setRow b C) k o ↔ HeapIs W k o) := heapIs_setRow_ne
      go_region_held3 (fun w' => Below y1.heap.size y1 w') (first | exact (by repeat' (first | assumption | exact Below.refl _ _ | with_reducible apply bel_drew | (refine bel_alloc _ ?_ (by first | omega | (simp <;> omega))) | (refine bel_row _ ?_ (by omega)) | (refine bel_trans hb2 ?_))) | go_keep)
        (first | (go_at_call 16; refine (hcall _ (by repeat' (first | assumption | exact Below.refl _ _ | with_reducible apply bel_drew | (refine bel_alloc _ ?_ (by first | omega | (simp <;> omega))) | (refine bel_row _ ?_ (by omega)) | fail))).mono ?_; rintro e w2 ⟨rfl, hb2⟩; have hs2 := hb2.size; simp at hs2; have hbw : Below y1.heap.size y1 w2 := bel_trans hb2 (by repeat' (first | assumption | exact Below.refl _ _ | with_reducible apply bel_drew | (refine bel_alloc _ ?_ (by first | omega | (simp <;> omega))) | (refine bel_row _ ?_ (by omega)) | fail)); have hm : ∀ k x, HeapIs _ k x → HeapIs w2 k x := fun k x h => Below.is hb2 h; have hm2 : ∀ k x o, HeapIs _ k x → HeapIs (w2.alloc o) k x := fun k x o h => is_alloc o (Below.is hb2 h); (try (have hx1 : ¬ y1.heap.size = w2.heap.size := by omega)); (try (have hx2 : ¬ w2.heap.size = y1.heap.size := by omega))))
      all_goals (go_wp2_with fail; go_meet)
      all_goals exact ⟨_, rfl, rfl, (by repeat' (first | assumption | with_reducible apply is_drew | with_reducible apply is_new0 | with_reducible apply is_new1 | with_reducible apply is_new2 | with_reducible apply is_alloc | with_reducible refine is_row (C0 := resZ) ?_ | (refine is_setRow _ ?_ (by omega)) | (refine Below.is hb2 ?_))), (by repeat' (first | assumption | exact Below.refl _ _ | with_reducible apply bel_drew | (refine bel_alloc _ ?_ (by first | omega | (simp <;> omega))) | (refine bel_row _ ?_ (by omega)) | (refine bel_trans hb2 ?_)))⟩
    case rest =>
    obtain ⟨bx2, rfl, rfl, hx2, hbc2⟩ := hcut
    clear hc28 hl36 hcall
    have lw := HS1.out.wanted wc hbc2
    have lx := ld_res wc bx2 M' hx2
    go_upto_region 22 with (first | (go_at_call 13; refine (same_self M' _).mono ?_; rintro e y2 ⟨rfl, hz2⟩))
    have hb22 : Below y1.heap.size y1 y2 := hbc2.over hz2
    clear lw lx hx2 hz2 hbc2
    have HS2 : Hid (Six y2 C n BB bk A N c wC.heap.size bw lim' b' L M' L0 Lt) := HS1.out.below hb22
    replace kF : HeapIs y2 bf (.cells (resL L) 41) := Below.is hb22 kF
    have hby2 := hby1.over hb22
    clear HS1 hb22 hby1
    have hc28 := HS2.out.top
    have hl36 := HS2.out.zero
    have hcall := HS2.out.held
    go_cut [18, 19, 20] from 108 to 117 (fun x y f wx => ∃ bx cx, x = .pointer (some ⟨bx, 0, none⟩) ∧ y = .pointer (some ⟨cx, 0, none⟩) ∧ f = .bool true ∧ HeapIs wx bx (.cells (resL M') 41) ∧ HeapIs wx cx (.cells (resL L) 41) ∧ Below y2.heap.size y2 wx)
    case first =>
      have hn0 : ∀ (W : World) (b k : Nat) (C : Array Value) (o : Obj), k ≠ b → (HeapIs (W.setRow b C) k o ↔ HeapIs W k o) := heapIs_setRow_ne
      go_region_held3 (fun w' => Below y2.heap.size y2 w') (first | exact (by repeat' (first | assumption | exact Below.refl _ _ | with_reducible apply bel_drew | (refine bel_alloc _ ?_ (by first | omega | (simp <;> omega))) | (refine bel_row _ ?_ (by omega)) | (refine bel_trans hb2 ?_))) | go_keep)
        (first | (go_at_call 20; refine (hcall _ (by repeat' (first | assumption | exact Below.refl _ _ | with_reducible apply bel_drew | (refine bel_alloc _ ?_ (by first | omega | (simp <;> omega))) | (refine bel_row _ ?_ (by omega)) | fail))).mono ?_; rintro e w2 ⟨rfl, hb2⟩; have hs2 := hb2.size; simp at hs2; have hbw : Below y2.heap.size y2 w2 := bel_trans hb2 (by repeat' (first | assumption | exact Below.refl _ _ | with_reducible apply bel_drew | (refine bel_alloc _ ?_ (by first | omega | (simp <;> omega))) | (refine bel_row _ ?_ (by omega)) | fail)); have hm : ∀ k x, HeapIs _ k x → HeapIs w2 k x := fun k x h => Below.is hb2 h; have hm2 : ∀ k x o, HeapIs _ k x → HeapIs (w2.alloc o) k x := fun k x o h => is_alloc o (Below.is hb2 h); (try (have hx1 : ¬ y2.heap.size = w2.heap.size := by omega)); (try (have hx2 : ¬ w2.heap.size = y2.heap.size := by omega))))
      all_goals (go_wp2_with fail; go_meet)
      all_goals exact ⟨_, _, rfl, rfl, rfl, (by repeat' (first | assumption | with_reducible apply is_drew | with_reducible apply is_new0 | with_reducible apply is_new1 | with_reducible apply is_new2 | with_reducible apply is_alloc | with_reducible refine is_row (C0 := resZ) ?_ | (refine is_setRow _ ?_ (by omega)) | (refine Below.is hb2 ?_))), (by repeat' (first | assumption | with_reducible apply is_drew | with_reducible apply is_new0 | with_reducible apply is_new1 | with_reducible apply is_new2 | with_reducible apply is_alloc | with_reducible refine is_row (C0 := resZ) ?_ | (refine is_setRow _ ?_ (by omega)) | (refine Below.is hb2 ?_))), (by repeat' (first | assumption | exact Below.refl _ _ | with_reducible apply bel_drew | (refine bel_alloc _ ?_ (by first | omega | (simp <;> omega))) | (refine bel_row _ ?_ (by omega)) | (refine bel_trans hb2 ?_)))⟩
    case rest =>
    obtain ⟨bx3, cx3, rfl, rfl, rfl, hx3, hy3, hbc3⟩ := hcut
    clear hc28 hl36 hcall
    have lw := HS2.out.wanted wc hbc3
    have lx := ld_res wc bx3 M' hx3
    have kF3 : HeapIs wc bf (.cells (resL L) 41) := Below.is hbc3 kF
    have lF : ∀ W, Below wc.heap.size wc W → ldV Trym.prog 41 (.pointer (some ⟨bf, 0, none⟩)) W = .ok (.agg (resL L)) W := fun W hW => ld_res W _ L (Below.is hW kF3)
    have ly : ∀ W, Below wc.heap.size wc W → ldV Trym.prog 41 (.pointer (some ⟨cx3, 0, none⟩)) W = .ok (.agg (resL L)) W := fun W hW => ld_res W _ L (Below.is hW hy3)
    go_upto_region 25 with (first
      | (go_at_call 13; (with_reducible (show Calls _ _ #[.agg (resL M'), .agg (resL M')] _ _)); refine (same_self M' _).mono ?_; rintro e z3 ⟨rfl, hz3⟩)
      | (go_at_call 13; (with_reducible (show Calls _ _ #[.agg (resL L), .agg (resL L)] _ _)); refine (same_self L _).mono ?_; rintro e y3 ⟨rfl, hq3⟩))
    have hb33 : Below y2.heap.size y2 y3 := (hbc3.over hz3).over hq3
    clear lw lx lF ly hx3 hy3 kF3 hz3 hq3 hbc3
    have HS3 : Hid (Six y3 C n BB bk A N c wC.heap.size bw lim' b' L M' L0 Lt) := HS2.out.below hb33
    replace kF : HeapIs y3 bf (.cells (resL L) 41) := Below.is hb33 kF
    have hby3 := hby2.over hb33
    clear HS2 hb33 hby2
    have hc28 := HS3.out.top
    have hl36 := HS3.out.zero
    have hcall := HS3.out.own
    go_cut [21, 22, 23] from 131 to 140 (fun x y f wx => ∃ bx cx, x = .pointer (some ⟨bx, 0, none⟩) ∧ y = .pointer (some ⟨cx, 0, none⟩) ∧ f = .bool true ∧ HeapIs wx bx (.cells (resL M') 41) ∧ HeapIs wx cx (.cells (resL L) 41) ∧ Below y3.heap.size y3 wx)
    case first =>
      have hn0 : ∀ (W : World) (b k : Nat) (C : Array Value) (o : Obj), k ≠ b → (HeapIs (W.setRow b C) k o ↔ HeapIs W k o) := heapIs_setRow_ne
      go_region_held3 (fun w' => Below y3.heap.size y3 w') (first | exact (by repeat' (first | assumption | exact Below.refl _ _ | with_reducible apply bel_drew | (refine bel_alloc _ ?_ (by first | omega | (simp <;> omega))) | (refine bel_row _ ?_ (by omega)) | (refine bel_trans hb2 ?_))) | go_keep)
        (first | (go_at_call 19; refine (hcall _ (by repeat' (first | assumption | exact Below.refl _ _ | with_reducible apply bel_drew | (refine bel_alloc _ ?_ (by first | omega | (simp <;> omega))) | (refine bel_row _ ?_ (by omega)) | fail))).mono ?_; rintro e w2 ⟨rfl, hb2⟩; have hs2 := hb2.size; simp at hs2; have hbw : Below y3.heap.size y3 w2 := bel_trans hb2 (by repeat' (first | assumption | exact Below.refl _ _ | with_reducible apply bel_drew | (refine bel_alloc _ ?_ (by first | omega | (simp <;> omega))) | (refine bel_row _ ?_ (by omega)) | fail)); have hm : ∀ k x, HeapIs _ k x → HeapIs w2 k x := fun k x h => Below.is hb2 h; have hm2 : ∀ k x o, HeapIs _ k x → HeapIs (w2.alloc o) k x := fun k x o h => is_alloc o (Below.is hb2 h); (try (have hx1 : ¬ y3.heap.size = w2.heap.size := by omega)); (try (have hx2 : ¬ w2.heap.size = y3.heap.size := by omega))))
      all_goals (go_wp2_with fail; go_meet)
      all_goals exact ⟨_, _, rfl, rfl, rfl, (by repeat' (first | assumption | with_reducible apply is_drew | with_reducible apply is_new0 | with_reducible apply is_new1 | with_reducible apply is_new2 | with_reducible apply is_alloc | with_reducible refine is_row (C0 := resZ) ?_ | (refine is_setRow _ ?_ (by omega)) | (refine Below.is hb2 ?_))), (by repeat' (first | assumption | with_reducible apply is_drew | with_reducible apply is_new0 | with_reducible apply is_new1 | with_reducible apply is_new2 | with_reducible apply is_alloc | with_reducible refine is_row (C0 := resZ) ?_ | (refine is_setRow _ ?_ (by omega)) | (refine Below.is hb2 ?_))), (by repeat' (first | assumption | exact Below.refl _ _ | with_reducible apply bel_drew | (refine bel_alloc _ ?_ (by first | omega | (simp <;> omega))) | (refine bel_row _ ?_ (by omega)) | (refine bel_trans hb2 ?_)))⟩
    case rest =>
    obtain ⟨bx4, cx4, rfl, rfl, rfl, hx4, hy4, hbc4⟩ := hcut
    clear hc28 hl36 hcall
    have lw := HS3.out.wanted wc hbc4
    have lx := ld_res wc bx4 M' hx4
    have kF4 : HeapIs wc bf (.cells (resL L) 41) := Below.is hbc4 kF
    have lF : ∀ W, Below wc.heap.size wc W → ldV Trym.prog 41 (.pointer (some ⟨bf, 0, none⟩)) W = .ok (.agg (resL L)) W := fun W hW => ld_res W _ L (Below.is hW kF4)
    have ly : ∀ W, Below wc.heap.size wc W → ldV Trym.prog 41 (.pointer (some ⟨cx4, 0, none⟩)) W = .ok (.agg (resL L)) W := fun W hW => ld_res W _ L (Below.is hW hy4)
    go_upto_region 28 with (first
      | (go_at_call 13; (with_reducible (show Calls _ _ #[.agg (resL M'), .agg (resL M')] _ _)); refine (same_self M' _).mono ?_; rintro e z4 ⟨rfl, hz4⟩)
      | (go_at_call 13; (with_reducible (show Calls _ _ #[.agg (resL L), .agg (resL L)] _ _)); refine (same_self L _).mono ?_; rintro e y4 ⟨rfl, hq4⟩))
    have hb44 : Below y3.heap.size y3 y4 := (hbc4.over hz4).over hq4
    clear lw lx lF ly hx4 hy4 kF4 hz4 hq4 hbc4
    have HS4 : Hid (Six y4 C n BB bk A N c wC.heap.size bw lim' b' L M' L0 Lt) := HS3.out.below hb44
    replace kF : HeapIs y4 bf (.cells (resL L) 41) := Below.is hb44 kF
    have hby4 := hby3.over hb44
    clear HS3 hb44 hby3
    have hrest := HS4.out.rest HL.out hn2
    by_cases hn2' : 1 < n
    · have hnI : (1 : Int) < (n : Int) := by omega
      cases Lt with
      | nil => exact absurd HL.out (by simp; omega)
      | cons L1 Lt' =>
      obtain ⟨bk1, A1, N1, b1, lim1, rfl, e1, -⟩ := HS4.out.books
      have hc1 : ∀ W, Below y4.heap.size y4 W → W.cell? ⟨BB, 1, none⟩ = some (.pointer (some ⟨bk1, 0, none⟩)) := fun W hW => Below.cellIs hW e1
      have hcall := resource_chain (w := y4) lim' (some ⟨bk1, 0, none⟩) (L1 :: Lt') HS4.out.books.chain HS4.out.hl
      have hl36 := HS4.out.zero
      clear e1
      cases hnr : nearL (L1 :: Lt') with
      | none =>
        rw [hnr] at hcall
        have hnear := HS4.out.near_none HL.out hn2 (by omega) hnr
        have hst0 : ∀ (W : World) (b : Nat), HeapIs W b (.cells resZ 41) → stV Trym.prog 41 (.pointer (some ⟨b, 0, none⟩)) (.agg resZ) W = .ok () W := fun W b h => st_same W b h
        clear hnr
        go_upto_region 29 with fail
        go_cut [24, 25] from 157 to 165 (fun x f wx => ∃ bx, x = .pointer (some ⟨bx, 0, none⟩) ∧ f = .bool false ∧ Below y4.heap.size y4 wx)
        case first =>
          go_region_held3 (fun w' => Below y4.heap.size y4 w') (first | exact (by repeat' (first | assumption | exact Below.refl _ _ | with_reducible apply bel_drew | (refine bel_alloc _ ?_ (by first | omega | (simp <;> omega))) | (refine bel_row _ ?_ (by omega)) | (refine bel_trans hb2 ?_))) | go_keep)
            (first | (go_at_call 16; refine (hcall _ (by repeat' (first | assumption | exact Below.refl _ _ | with_reducible apply bel_drew | (refine bel_alloc _ ?_ (by first | omega | (simp <;> omega))) | (refine bel_row _ ?_ (by omega)) | fail))).mono ?_; rintro e w2 ⟨rfl, hb2⟩; have hs2 := hb2.size; simp at hs2; have hbw : Below y4.heap.size y4 w2 := bel_trans hb2 (by repeat' (first | assumption | exact Below.refl _ _ | with_reducible apply bel_drew | (refine bel_alloc _ ?_ (by first | omega | (simp <;> omega))) | (refine bel_row _ ?_ (by omega)) | fail)); have hm : ∀ k x, HeapIs _ k x → HeapIs w2 k x := fun k x h => Below.is hb2 h; have hm2 : ∀ k x o, HeapIs _ k x → HeapIs (w2.alloc o) k x := fun k x o h => is_alloc o (Below.is hb2 h)))
          all_goals (go_wp2_with fail; go_meet)
          all_goals exact ⟨_, rfl, rfl, (by repeat' (first | assumption | exact Below.refl _ _ | with_reducible apply bel_drew | (refine bel_alloc _ ?_ (by first | omega | (simp <;> omega))) | (refine bel_row _ ?_ (by omega)) | (refine bel_trans hb2 ?_)))⟩
        case rest =>
        obtain ⟨bx5, rfl, rfl, hb5⟩ := hcut
        clear hcall hc1 hl36
        have hs5 := hb5.size
        go_upto_region 33 with (first | (go_at_call 12; refine (hnear _ hb5).mono ?_; rintro e w6 ⟨rfl, hw⟩; have hw' := hw.symm; subst hw'))
        go_quiet (fail)
        all_goals (
          go_wp2_with (first | (go_at_call 21; refine (hrest _ (below_drewN hb5 _)).mono ?_; rintro e w9 ⟨rfl, hb9⟩))
          go_ret
          exact ⟨rfl, (hby4.over (below_drewN hb5 _)).over hb9⟩
        )
      | some K =>
        rw [hnr] at hcall
        have hnear := HS4.out.near_some HL.out hn2 (by omega) hnr
        have hstK : ∀ (W : World) (b : Nat), HeapIs W b (.cells resZ 41) → stV Trym.prog 41 (.pointer (some ⟨b, 0, none⟩)) (.agg (resL K)) W = .ok () (W.setRow b (resL K)) := fun W b h => st_res W b K h
        clear hnr
        go_upto_region 29 with fail
        go_cut [24, 25] from 157 to 165 (fun x f wx => ∃ bx, x = .pointer (some ⟨bx, 0, none⟩) ∧ f = .bool true ∧ HeapIs wx bx (.cells (resL K) 41) ∧ Below y4.heap.size y4 wx)
        case first =>
          have hn0 : ∀ (W : World) (b k : Nat) (C : Array Value) (o : Obj), k ≠ b → (HeapIs (W.setRow b C) k o ↔ HeapIs W k o) := heapIs_setRow_ne
          go_region_held3 (fun w' => Below y4.heap.size y4 w') (first | exact (by repeat' (first | assumption | exact Below.refl _ _ | with_reducible apply bel_drew | (refine bel_alloc _ ?_ (by first | omega | (simp <;> omega))) | (refine bel_row _ ?_ (by omega)) | (refine bel_trans hb2 ?_))) | go_keep)
            (first | (go_at_call 16; refine (hcall _ (by repeat' (first | assumption | exact Below.refl _ _ | with_reducible apply bel_drew | (refine bel_alloc _ ?_ (by first | omega | (simp <;> omega))) | (refine bel_row _ ?_ (by omega)) | fail))).mono ?_; rintro e w2 ⟨rfl, hb2⟩; have hs2 := hb2.size; simp at hs2; have hbw : Below y4.heap.size y4 w2 := bel_trans hb2 (by repeat' (first | assumption | exact Below.refl _ _ | with_reducible apply bel_drew | (refine bel_alloc _ ?_ (by first | omega | (simp <;> omega))) | (refine bel_row _ ?_ (by omega)) | fail)); have hm : ∀ k x, HeapIs _ k x → HeapIs w2 k x := fun k x h => Below.is hb2 h; have hm2 : ∀ k x o, HeapIs _ k x → HeapIs (w2.alloc o) k x := fun k x o h => is_alloc o (Below.is hb2 h); (try (have hx1 : ¬ y4.heap.size = w2.heap.size := by omega)); (try (have hx2 : ¬ w2.heap.size = y4.heap.size := by omega))))
          all_goals (go_wp2_with fail; go_meet)
          all_goals exact ⟨_, rfl, rfl, (by repeat' (first | assumption | with_reducible apply is_drew | with_reducible apply is_new0 | with_reducible apply is_new1 | with_reducible apply is_new2 | with_reducible apply is_alloc | with_reducible refine is_row (C0 := resZ) ?_ | (refine is_setRow _ ?_ (by omega)) | (refine Below.is hb2 ?_))), (by repeat' (first | assumption | exact Below.refl _ _ | with_reducible apply bel_drew | (refine bel_alloc _ ?_ (by first | omega | (simp <;> omega))) | (refine bel_row _ ?_ (by omega)) | (refine bel_trans hb2 ?_)))⟩
        case rest =>
        obtain ⟨bx5, rfl, rfl, hx5, hb5⟩ := hcut
        clear hcall hc1 hl36
        have hs5 := hb5.size
        go_upto_region 33 with (first | (go_at_call 12; refine (hnear _ hb5).mono ?_; rintro e w6 ⟨i2, rfl, hi2, hiK, hw⟩; have hw' := hw.symm; subst hw'; have hi0 : (0 : Int) ≤ (i2 : Int) := by omega))
        have hlK := HS4.out.level hiK
        have hlx : ∀ W, Below wc.heap.size wc W → ldV Trym.prog 41 (.pointer (some ⟨bx5, 0, none⟩)) W = .ok (.agg (resL K)) W := fun W hW => ld_res W _ K (Below.is hW hx5)
        have hlk : ∀ W, Below wc.heap.size wc W → ldV Trym.prog 44 (.pointer (some ⟨C, i2 * 9, none⟩)) W = .ok (.agg (lvCells K)) W := fun W hW => hlK W (hb5.over hW)
        clear hx5 hlK hiK
        go_region_held3 (fun w' => Below wc.heap.size wc w') (first | exact (by repeat' (first | assumption | exact Below.refl _ _ | with_reducible apply bel_drew | (refine bel_trans hb6 ?_) | (refine bel_trans hb7 ?_))) | go_keep)
          (first
            | (go_at_call 14; refine (resourceOf_any K _).mono ?_; rintro e w7 ⟨rfl, hb6⟩; have hb6' : Below wc.heap.size wc w7 := bel_trans hb6 (by repeat' (first | assumption | exact Below.refl _ _ | with_reducible apply bel_drew)))
            | (go_at_call 13; refine (same_self K _).mono ?_; rintro e w8 ⟨rfl, hb7⟩; have hb7' : Below wc.heap.size wc w8 := bel_trans hb7 (by repeat' (first | assumption | exact Below.refl _ _ | with_reducible apply bel_drew))))
        all_goals (
          go_wp2_with (first | (go_at_call 21; refine (hrest _ (hb5.over (by repeat' (first | assumption | exact Below.refl _ _ | with_reducible apply bel_drew)))).mono ?_; rintro e w9 ⟨rfl, hb9⟩))
          go_ret
          exact ⟨rfl, (hby4.over (hb5.over (by repeat' (first | assumption | exact Below.refl _ _ | with_reducible apply bel_drew)))).over hb9⟩
        )
    · have hnI : ¬ (1 : Int) < (n : Int) := by omega
      go_wp2_with (first | (go_at_call 21; refine (hrest _ (Below.refl _ _)).mono ?_; rintro e w9 ⟨rfl, hb9⟩))
      go_ret
      exact ⟨rfl, (hby4.over (Below.refl _ _)).over hb9⟩
end Go.Proofs.Qxb6602000aMods.Led
