import Derived.Test.Qxb6602336aModsOfPre
namespace Go.Proofs.Qxb6602336aMods.Tab
open Go.RowKit Go.Proofs.Qxb6602336aMods.Plan
set_option linter.unusedVariables false
attribute [local go_sem ↓] Go.wp_at_zero Go.wp_at_succ

set_option maxHeartbeats 4000000 in
set_option maxRecDepth 100000 in
theorem of_c3 (a b : Int) (a0 : Option Addr) (n c0 : Nat) (z0 : List Int) (a1 : Option Addr) (c1 : Nat) (z1 : List Int) (a2 : Option Addr) (c2 : Nat) (B : Nat → Bool) (sc sf sr : Int) (w : World)
    (h0 : RowIn w a0 n c0 z0) (h1 : RowIn w a1 n c1 z1) (h2 : BoolsIn w a2 n c2 B) (hn : n ≤ 32768) (j : Nat) (hj : lastI z0 z1 a b n = some j) (hlj : B j = false) (hsm0 : lenK z0 z1 n < 1024) :
    Calls Trym.prog 7 #[.int .i64 a, .int .i64 b, .slice a0 n c0, .slice a1 n c1, .slice a2 n c2, .bool false, .int .u64 sc, .int .u64 sf, .int .u64 sr] w fun e w' => e = .returned (.bool true) ∧ Below w.heap.size w w' := by
  have hmk := run_nils n (by omega)
  have hmk2 := run_zerosU n (by omega)
  go_enter Trym.func7, Trym.ntmps7
  go_wp2_with (first | (go_at_call 19; go_in))
  refine (newTallies_map w).mono ?_
  rintro _ w0 ⟨rfl, hbe, hst⟩
  replace hst := puts_start z0 z1 B hst
  go_wp2_with fail
  go_loopw [20] (fun i wr => ∃ (k : Nat) (m : Tbl) (V : Nat → Option Addr), k ≤ n ∧ i = .int .i64 k ∧ Below w.heap.size w wr ∧ Puts wr w.heap.size w.heap.size z0 z1 B k m V) (fun i _ => n - (intOf i).toNat)
  case atStart => exact ⟨0, [], _, by omega, rfl, hbe, hst⟩
  case round =>
    obtain ⟨k, m, V, hk, rfl, hb, hU⟩ := hrel
    clear hst hbe
    by_cases hlt : k < n
    · obtain ⟨b0, o0, rfl, hB0, hc0⟩ := row_at h0 hlt
      obtain ⟨b1, o1, rfl, hB1, hc1⟩ := row_at h1 hlt
      obtain ⟨b2, o2, rfl, hB2, hc2⟩ := bool_at h2 hlt
      have d0 : wr.cell? ⟨b0, o0 + k, none⟩ = some (.int .i64 (z0.getD k 0)) := by rw [hb.cell (p := ⟨b0, o0 + k, none⟩) hB0]; exact hc0
      have d1 : wr.cell? ⟨b1, o1 + k, none⟩ = some (.int .i64 (z1.getD k 0)) := by rw [hb.cell (p := ⟨b1, o1 + k, none⟩) hB1]; exact hc1
      have d2 : wr.cell? ⟨b2, o2 + k, none⟩ = some (.bool (B k)) := by rw [hb.cell (p := ⟨b2, o2 + k, none⟩) hB2]; exact hc2
      have hsz := hb.size
      have x0 : ¬ b0 = wr.heap.size := by omega
      have x1 : ¬ b1 = wr.heap.size := by omega
      have hi1 : (0 : Int) ≤ (k : Int) := by omega
      have hi2 : (k : Int) < (n : Int) := by omega
      have hbw : Below wr.heap.size wr (wr.alloc (.cells #[.int .u64 (k : Int), .int .u64 0, .int .u64 0] 73)) := (Below.refl _ _).alloc (Nat.le_refl _) _
      have HU1 : Hid (∀ w', Put wr w.heap.size w.heap.size (putT m (z0.getD k 0) (z1.getD k 0) none) w' → B k = false → ∃ V, Puts w' w.heap.size w.heap.size z0 z1 B (k + 1) (putT m (z0.getD k 0) (z1.getD k 0) none) V) :=
        fun w' hP hl => ⟨_, puts_next hU (.inl ⟨hl, rfl⟩) hP⟩
      have HU2 : Hid (∀ w', Put (wr.alloc (.cells #[.int .u64 (k : Int), .int .u64 0, .int .u64 0] 73)) w.heap.size w.heap.size (putT m (z0.getD k 0) (z1.getD k 0) (some ⟨wr.heap.size, 0, none⟩)) w' → B k = true → ∃ V, Puts w' w.heap.size w.heap.size z0 z1 B (k + 1) (putT m (z0.getD k 0) (z1.getD k 0) (some ⟨wr.heap.size, 0, none⟩)) V) :=
        fun w' hP hl => ⟨_, puts_next (hU.of_below hbw) (.inr ⟨hl, _, rfl, heap_alloc_new wr _⟩) hP⟩
      have htab := hU.tab
      have htab2 := hU.tab.of_below hbw
      clear hU hc0 hc1 hc2
      generalize z0.getD k 0 = s at *
      generalize z1.getD k 0 = t at *
      cases hlv : B k
      · rw [hlv] at d2
        go_wp2_with fail
        go_region_held3 (fun w' => w'.cell? ⟨b0, o0 + k, none⟩ = some (.int .i64 s) ∧ w'.cell? ⟨b1, o1 + k, none⟩ = some (.int .i64 t)) (go_keep)
          (first | (go_at_call 22; refine (put_any w.heap.size w.heap.size m s t none _ (by exact htab)).mono ?_; rintro _ w1 ⟨rfl, hP0⟩; have q0 := hP0.2.2.cell (p := ⟨b0, o0 + k, none⟩) hB0; have q1 := hP0.2.2.cell (p := ⟨b1, o1 + k, none⟩) hB1))
        have hP := hP0.undrew
        clear hP0
        go_wp2_with fail
        obtain ⟨V', hV'⟩ := HU1.out w1 hP hlv
        exact ⟨⟨k + 1, _, V', by omega, by go_num, hb.trans hP.2.2, hV'⟩, by simp [intOf]; omega⟩
      · rw [hlv] at d2
        go_wp2_with (first | (go_at_call 21; refine (newTally_any _ 0 0 _).mono ?_; rintro _ _ ⟨rfl, rfl⟩))
        go_region_held3 (fun w' => w'.cell? ⟨b0, o0 + k, none⟩ = some (.int .i64 s) ∧ w'.cell? ⟨b1, o1 + k, none⟩ = some (.int .i64 t)) (go_keep)
          (first | (go_at_call 22; refine (put_any w.heap.size w.heap.size m s t (some ⟨wr.heap.size, 0, none⟩) _ (by exact htab2)).mono ?_; rintro _ w1 ⟨rfl, hP0⟩; have q0 := hP0.2.2.cell (p := ⟨b0, o0 + k, none⟩) hB0; have q1 := hP0.2.2.cell (p := ⟨b1, o1 + k, none⟩) hB1))
        have hP := hP0.undrew
        clear hP0
        go_wp2_with fail
        obtain ⟨V', hV'⟩ := HU2.out w1 hP hlv
        exact ⟨⟨k + 1, _, V', by omega, by go_num, (hb.alloc hb.size _).trans hP.2.2, hV'⟩, by simp [intOf]; omega⟩
    · obtain rfl : n = k := by omega
      have hst2 := befs_start wr n z0 z1 m
      have hbx : Below wr.heap.size wr ((wr.alloc (nilsObj n)).alloc (zerosU n)) := ((Below.refl _ _).alloc (Nat.le_refl _) _).alloc (by simp) _
      have hU2 := hU.of_below hbx
      have hb2 : Below w.heap.size w ((wr.alloc (nilsObj n)).alloc (zerosU n)) := hb.trans (hbx.mono hb.size)
      have hgB : w.heap.size ≤ wr.heap.size := hb.size
      clear hbx
      go_wp2_with (first | (go_at_call 23; refine (len_any _ _ m _ hU.tab.tab).mono ?_; rintro _ w9 ⟨rfl, hw9⟩; have hw8 := hw9.symm; subst hw8))
      clear hU hb hmk hmk2
      generalize ((wr.alloc (nilsObj n)).alloc (zerosU n)) = w2 at *
      generalize wr.heap.size = BB at *
      have hes := eql_same
      have hns := neq_same
      have hnn := neq_nn
      have hen := eql_ns
      go_loopw [25] (fun i wr => ∃ (k : Nat) (bs ls : Array Value), k ≤ n ∧ i = .int .i64 k ∧ Below w.heap.size w wr ∧ Puts wr w.heap.size w.heap.size z0 z1 B n m V ∧ Befs wr BB (BB + 1) n z0 z1 m k bs ls) (fun i _ => n - (intOf i).toNat)
      case atStart => exact ⟨0, _, _, by omega, rfl, hb2, hU2, hst2⟩
      case round =>
        clear hst2 hU2 hb2
        obtain ⟨k, bs, ls, hk, rfl, hb, hU, hF⟩ := hrel
        by_cases hlt : k < n
        · obtain ⟨b0, o0, rfl, hB0, hc0⟩ := row_at h0 hlt
          obtain ⟨b1, o1, rfl, hB1, hc1⟩ := row_at h1 hlt
          have d0 : wr.cell? ⟨b0, o0 + k, none⟩ = some (.int .i64 (z0.getD k 0)) := by rw [hb.cell (p := ⟨b0, o0 + k, none⟩) hB0]; exact hc0
          have d1 : wr.cell? ⟨b1, o1 + k, none⟩ = some (.int .i64 (z1.getD k 0)) := by rw [hb.cell (p := ⟨b1, o1 + k, none⟩) hB1]; exact hc1
          have hi1 : (0 : Int) ≤ (k : Int) := by omega
          have hi2 : (k : Int) < (n : Int) := by omega
          have htab := hU.tab.tab
          obtain ⟨v0, hv0⟩ : ∃ v0, bs[k]? = some v0 := ⟨bs[k]'(by rw [hF.bsize]; exact hlt), by simp [hF.bsize, hlt]⟩
          have g0 : wr.cell? ⟨BB, k, none⟩ = some v0 := by rw [cell_of hF.brow k]; exact hv0
          have g1 : wr.frozen? ⟨BB, k, none⟩ = false := frozen_of hF.brow k
          obtain ⟨u0, hu0⟩ : ∃ u0, ls[k]? = some u0 := ⟨ls[k]'(by rw [hF.lsize]; exact hlt), by simp [hF.lsize, hlt]⟩
          have g2 : wr.cell? ⟨BB + 1, k, none⟩ = some u0 := by rw [cell_of hF.lrow k]; exact hu0
          have g3 : wr.frozen? ⟨BB + 1, k, none⟩ = false := frozen_of hF.lrow k
          clear hv0 hu0
          rcases (hU.at hlt).1 with hl | ⟨q, c, hl, ht⟩
          · have HF : Hid (∀ nq, Befs ((wr.drewN nq).setCell ⟨BB, k, none⟩ (.pointer none)) BB (BB + 1) n z0 z1 m (k + 1) (bs.setIfInBounds k (.pointer none)) ls) := befs_nil hF hlt hl
            have HU : Hid (∀ nq, Puts ((wr.drewN nq).setCell ⟨BB, k, none⟩ (.pointer none)) w.heap.size w.heap.size z0 z1 B n m V) := fun nq => (hU.drewN nq).setCell hF.brow (by decide) (by decide) k _
            have HL : Hid (look m (z0.getD k 0) (z1.getD k 0) = none) := hl
            clear hl hU hF
            generalize z0.getD k 0 = s at *
            generalize z1.getD k 0 = t at *
            go_wp2_with fail
            go_quiet ((go_at_call 24; exact Calls.quiet_of_same (get_any w.heap.size w.heap.size m s t _ (by exact htab))))
            have hl := HL.out
            go_wp2_with fail
            exact ⟨⟨k + 1, _, _, by omega, by go_num, (below_drewN hb _).setCell (by simp; omega) _, HU.out _, HF.out _⟩, by simp [intOf]; omega⟩
          · have HF : Hid (∀ nq, Befs (((wr.drewN nq).setCell ⟨BB, k, none⟩ (.pointer (some ⟨q, 0, none⟩))).setCell ⟨BB + 1, k, none⟩ (.int .u64 c)) BB (BB + 1) n z0 z1 m (k + 1) (bs.setIfInBounds k (.pointer (some ⟨q, 0, none⟩))) (ls.setIfInBounds k (.int .u64 c))) := befs_some hF hlt hl ht
            have HT : Hid (∀ nq, TalAt ((wr.drewN nq).setCell ⟨BB, k, none⟩ (.pointer (some ⟨q, 0, none⟩))) q c 0 0) := fun nq => TalAt.setCell (w := wr.drewN nq) ht hF.brow (by decide) k _
            have HU : Hid (∀ nq, Puts (((wr.drewN nq).setCell ⟨BB, k, none⟩ (.pointer (some ⟨q, 0, none⟩))).setCell ⟨BB + 1, k, none⟩ (.int .u64 c)) w.heap.size w.heap.size z0 z1 B n m V) := fun nq => by
              have x1 := (hU.drewN nq).setCell hF.brow (by decide) (by decide) k (.pointer (some ⟨q, 0, none⟩))
              have x2 : ((wr.drewN nq).setCell ⟨BB, k, none⟩ (.pointer (some ⟨q, 0, none⟩))).heap[BB + 1]? = some (.cells ls 38 (0, 0)) := by
                rw [Below.heap_setCell (wr.drewN nq) ⟨BB, k, none⟩ _ (BB + 1) (by simp)]; exact hF.lrow
              exact x1.setCell x2 (by decide) (by decide) k _
            have HL : Hid (look m (z0.getD k 0) (z1.getD k 0) = some ⟨q, 0, none⟩) := hl
            clear hl hU hF ht
            generalize z0.getD k 0 = s at *
            generalize z1.getD k 0 = t at *
            go_wp2_with fail
            go_quiet ((go_at_call 24; exact Calls.quiet_of_same (get_any w.heap.size w.heap.size m s t _ (by exact htab))))
            have hl := HL.out
            go_wp2_with (first | (go_at_call 25; refine (fields_any q c 0 0 _ (HT.out _)).mono ?_; rintro _ w9 ⟨rfl, nq2, hw9⟩; subst hw9))
            rw [setCell_drewN]
            exact ⟨⟨k + 1, _, _, by omega, by go_num, ((below_drewN hb _).setCell (by simp; omega) _).setCell (by simp; omega) _, HU.out _, HF.out _⟩, by simp [intOf]; omega⟩
        · obtain rfl : n = k := by omega
          have HLEN : Hid (m.length = lenK z0 z1 n) := hU.len
          have hnr : ∀ i, i < n → ∃ b0 o0 b1 o1, a0 = some ⟨b0, o0, none⟩ ∧ a1 = some ⟨b1, o1, none⟩ ∧ wr.cell? ⟨b0, o0 + i, none⟩ = some (.int .i64 (z0.getD i 0)) ∧ wr.cell? ⟨b1, o1 + i, none⟩ = some (.int .i64 (z1.getD i 0)) := by
            intro i hi
            obtain ⟨b0, o0, e0, hB0, hc0⟩ := row_at h0 hi
            obtain ⟨b1, o1, e1, hB1, hc1⟩ := row_at h1 hi
            exact ⟨b0, o0, b1, o1, e0, e1, by rw [hb.cell (p := ⟨b0, o0 + i, none⟩) hB0]; exact hc0, by rw [hb.cell (p := ⟨b1, o1 + i, none⟩) hB1]; exact hc1⟩
          generalize wr = w3 at *
          go_wp2_with fail
          go_loop [31, 32] (fun jj i => ∃ k : Nat, k ≤ n ∧ jj = .int .i64 (-1) ∧ i = .int .i64 ((k : Int) - 1) ∧ j < k) (fun _ i => (intOf i + 1).toNat)
          case atStart => exact ⟨n, by omega, rfl, rfl, (lastI_some hj).1⟩
          case round =>
            obtain ⟨k, hk2, rfl, rfl, hjk⟩ := hrel
            cases k with
            | zero => omega
            | succ i =>
              obtain ⟨b0, o0, b1, o1, rfl, rfl, d0, d1⟩ := hnr i (by omega)
              have hi2 : (i : Int) < (n : Int) := by omega
              by_cases hij : i = j
              · subst hij
                obtain ⟨_, ⟨ka, kb⟩, _⟩ := lastI_some hj
                rw [ka] at d0
                rw [kb] at d1
                go_wp2_with fail
                refine (newTally_any sc sf sr w3).mono ?_
                rintro _ w4 ⟨rfl, hw4⟩
                have hb4 : Below w3.heap.size w3 w4 := by rw [hw4]; exact (Below.refl _ _).alloc (Nat.le_refl _) _
                have hs4 : TalAt w4 w3.heap.size sc sf sr := by unfold TalAt; rw [hw4]; exact heap_alloc_new _ _
                have htab4 := (hU.tab.of_below hb4).tab
                have hT3 := hU.tab.tab.lt
                have hB3 := hb.size
                have hfin : ∀ p m' w7, OfPost w.heap.size w.heap.size w3.heap.size m a b sc sf sr w4 p m' w7 → Fin w7 w.heap.size w.heap.size BB (BB + 1) n z0 z1 a b m m' bs ls := by
                  intro p m' w7 hP
                  rw [hw4] at hP
                  exact fin_of hU hF hP
                have hsz4 : w4.heap.size = w3.heap.size + 1 := by rw [hw4]; simp
                have HS4 : Hid (w4.heap.size = w3.heap.size + 1) := hsz4
                have hbw4 : Below w.heap.size w w4 := hb.over hb4
                clear hw4 hsz4
                go_wp2_with fail
                refine (zzof_any w.heap.size w.heap.size w3.heap.size m a b sc sf sr w4 htab4 hs4 (by omega) (by omega) (by omega)).mono ?_
                rintro _ w7 ⟨p, m', rfl, hP⟩
                have hFin := hfin p m' w7 hP
                have hbw7 : Below w.heap.size w w7 := hbw4.trans hP.2.2.1
                clear hfin
                obtain ⟨b2, o2, rfl, hB2, hc2⟩ := bool_at h2 (lastI_some hj).1
                have d2 : w7.cell? ⟨b2, o2 + i, none⟩ = some (.bool false) := by rw [hbw7.cell (p := ⟨b2, o2 + i, none⟩) hB2, hc2, hlj]
                have hfd : findT m a b = some none := by
                  rw [hU.find, hj]
                  rcases hU.val i (lastI_some hj).1 with ⟨_, e⟩ | ⟨e, _⟩
                  · simp [e]
                  · rw [hlj] at e; cases e
                have hlk : look m a b = none := by unfold look; rw [hfd]; rfl
                have hi1 : (0 : Int) ≤ (i : Int) := by omega
                have HF4 : Hid ((findT m a b).isSome = true) := by unfold Hid; rw [hfd]; rfl
                obtain ⟨⟨q, hq4, rfl, htq7⟩, rfl, hsp7⟩ : (∃ q, w4.heap.size ≤ q ∧ (⟨q, 0, none⟩ : Addr) = p ∧ TalAt w7 q 0 0 0) ∧ putT m a b (some p) = m' ∧ TalAt w7 w3.heap.size 0 0 0 := by
                  rcases hP.2.2.2 with ⟨e1, e2, e3⟩ | ⟨e1, e2, _⟩ | ⟨e1, e2, ⟨q, q1, q2, q3⟩, e4, e5⟩
                  · rw [hlk] at e1; cases e1
                  · have := HLEN.out; omega
                  · exact ⟨⟨q, q1, q2.symm, q3⟩, e4.symm, e5⟩
                have hsmall : m.length < 1024 := by have := HLEN.out; omega
                have hqsp : q ≠ w3.heap.size := by have := HS4.out; omega
                have HQN : Hid (∀ k, k < n → ∀ q9, look m (z0.getD k 0) (z1.getD k 0) = some ⟨q9, 0, none⟩ → q9 ≠ q) := by
                  intro k hk q9 hq9
                  rcases (hU.at hk).1 with e | ⟨q', c', e, ht'⟩
                  · rw [e] at hq9; cases hq9
                  · rw [e] at hq9
                    injection hq9 with hq9
                    injection hq9 with hq9
                    subst hq9
                    have := lt_of ht'
                    have := HS4.out
                    omega
                generalize hmp : putT m a b (some ⟨q, 0, none⟩) = mp at *
                have hfp : findT mp a b = some (some ⟨q, 0, none⟩) := by rw [← hmp, findT_put]; simp
                have hlp : look mp a b = some ⟨q, 0, none⟩ := by unfold look; rw [hfp]; rfl
                have hlenp : mp.length = m.length := by rw [← hmp, length_put, hfd]; simp
                have hmne : mp ≠ [] := by rintro rfl; simp [findT] at hfp
                have htab7 := hFin.tab
                have hne7 := eql_other htq7 hsp7 hqsp
                have HLP : Hid (look mp a b = some ⟨q, 0, none⟩) := hlp
                have HFP : Hid ((findT mp a b).isSome = true) := by unfold Hid; rw [hfp]; rfl
                have HLN : Hid (mp.length = m.length) := hlenp
                clear hlk hU hF hP hfd hb htab4 hs4 hb4 hbw4 ka kb hj hlj hnr d0 d1 hc2 hlp hfp hlenp hmp
                go_wp2_with (first | (go_at_call 27; refine (isnil_any _ _ mp _ htab7 hmne).mono ?_; rintro _ w9 ⟨rfl, hw9⟩; have hw8 := hw9.symm; subst hw8))
                have t1 : ((0 : Int) == 0 && (0 : Int) == 0 && (0 : Int) == 0) = true := by simp
                refine (tallyIs_any w3.heap.size 0 0 0 0 0 0 w7 hsp7).mono ?_
                rintro _ w8 ⟨rfl, nq1, rfl⟩
                rw [t1]
                have hne8 : (binOp .eql 42 (.pointer (some ⟨q, 0, none⟩)) (.pointer (some ⟨w3.heap.size, 0, none⟩))).run Trym.prog (w7.drewN nq1) = .ok (.bool false) (w7.drewN nq1) := eql_other (w := w7.drewN nq1) htq7 hsp7 hqsp
                go_wp2_with fail
                refine (tallyIs_any q 0 0 0 0 0 0 _ (by exact htq7)).mono ?_
                rintro _ w8 ⟨rfl, nq2, rfl⟩
                rw [t1]
                go_wp2_with fail
                refine (get_any w.heap.size w.heap.size mp a b _ (by exact htab7)).mono ?_
                rintro _ w8 ⟨rfl, hw8⟩
                rw [HLP.out, HFP.out, hw8]
                clear hw8
                go_wp2_with fail
                clear hne7 hne8
                go_loopw [42] (fun i wr => ∃ k : Nat, k ≤ n ∧ i = .int .i64 k ∧ Below w.heap.size w wr ∧ Fin wr w.heap.size w.heap.size BB (BB + 1) n z0 z1 a b m mp bs ls ∧ TalAt wr q 0 0 0) (fun i _ => n - (intOf i).toNat)
                case atStart => exact ⟨0, by omega, rfl, below_drewN hbw7 _, hFin.drewN _, htq7⟩
                case round =>
                  clear hFin hbw7 htq7 hsp7 htab7
                  obtain ⟨k, hk8, rfl, hbw7, hFin, htq7⟩ := hrel
                  by_cases hlt8 : k < n
                  · have hi1 : (0 : Int) ≤ (k : Int) := by omega
                    have hi2 : (k : Int) < (n : Int) := by omega
                    have hbc : wr.cell? ⟨BB, k, none⟩ = some (.pointer (look m (z0.getD k 0) (z1.getD k 0))) := by rw [cell_of hFin.brow k]; exact hFin.bef k hlt8
                    have HFin : Hid (Fin wr w.heap.size w.heap.size BB (BB + 1) n z0 z1 a b m mp bs ls) := hFin
                    rcases hFin.val k hlt8 with hl8 | ⟨q9, c9, hl8, ht9, _⟩
                    · rw [hl8] at hbc
                      clear hl8 hFin
                      go_wp2_with fail
                      exact ⟨⟨k + 1, by omega, by go_num, hbw7, HFin.out, htq7⟩, by simp [intOf]; omega⟩
                    · have hne9 := eql_other ht9 htq7 (HQN.out k hlt8 q9 hl8)
                      rw [hl8] at hbc
                      clear hl8 hFin
                      go_wp2_with fail
                      exact ⟨⟨k + 1, by omega, by go_num, hbw7, HFin.out, htq7⟩, by simp [intOf]; omega⟩
                  · have htab7 := hFin.tab
                    generalize wr = wv at *
                    have hln2 : ((mp.length : Int) != (m.length : Int)) = false := by have := HLN.out; simp; omega
                    go_wp2_with (first | (go_at_call 23; refine (len_any _ _ mp _ (by exact htab7)).mono ?_; rintro _ w9 ⟨rfl, hw9⟩; have hw8 := hw9.symm; subst hw8))
                    clear htab7
                    go_loopw [44] (fun i wr => ∃ k : Nat, k ≤ n ∧ i = .int .i64 k ∧ Below w.heap.size w wr ∧ Fin wr w.heap.size w.heap.size BB (BB + 1) n z0 z1 a b m mp bs ls) (fun i _ => n - (intOf i).toNat)
                    case atStart => exact ⟨0, by omega, rfl, hbw7, hFin⟩
                    case round =>
                      clear hFin hbw7
                      obtain ⟨k, hk9, rfl, hb, hFin⟩ := hrel
                      by_cases hlt9 : k < n
                      · obtain ⟨b0, o0, e0, hB0, hc0⟩ := row_at h0 hlt9
                        obtain ⟨b1, o1, e1, hB1, hc1⟩ := row_at h1 hlt9
                        first | (subst e0; subst e1) | (cases e0; cases e1)
                        have d0 : wr.cell? ⟨b0, o0 + k, none⟩ = some (.int .i64 (z0.getD k 0)) := by rw [hb.cell (p := ⟨b0, o0 + k, none⟩) hB0]; exact hc0
                        have d1 : wr.cell? ⟨b1, o1 + k, none⟩ = some (.int .i64 (z1.getD k 0)) := by rw [hb.cell (p := ⟨b1, o1 + k, none⟩) hB1]; exact hc1
                        have hi1 : (0 : Int) ≤ (k : Int) := by omega
                        have hi2 : (k : Int) < (n : Int) := by omega
                        have htab := hFin.tab
                        have hbc : wr.cell? ⟨BB, k, none⟩ = some (.pointer (look m (z0.getD k 0) (z1.getD k 0))) := by rw [cell_of hFin.brow k]; exact hFin.bef k hlt9
                        have hlc : wr.cell? ⟨BB + 1, k, none⟩ = ls[k]? := cell_of hFin.lrow k
                        have hot := hFin.other k hlt9
                        have hva := hFin.val k hlt9
                        have HFin : Hid (Fin wr w.heap.size w.heap.size BB (BB + 1) n z0 z1 a b m mp bs ls) := hFin
                        clear hFin hc0 hc1
                        generalize z0.getD k 0 = s at *
                        generalize z1.getD k 0 = t at *
                        generalize look m s t = lo at *
                        by_cases hst : s = a ∧ t = b
                        · obtain ⟨rfl, rfl⟩ := hst
                          clear hot hva hlc
                          go_wp2_with fail
                          exact ⟨⟨k + 1, by omega, by go_num, hb, HFin.out⟩, by simp [intOf]; omega⟩
                        · have hf := hot hst
                          have HLO : Hid (look mp s t = lo) := by unfold Hid look; rw [hf]; rfl
                          have HF5 : Hid ((findT mp s t).isSome = true) := by unfold Hid; rw [hf]; rfl
                          have HTS : Hid (¬ (s = a ∧ t = b)) := hst
                          clear hot hst hf
                          rcases hva with rfl | ⟨q9, c9, rfl, ht9, hl9⟩
                          · clear hlc
                            cases x1 : (s == a)
                            · go_wp2_with fail
                              go_quiet ((go_at_call 24; exact Calls.quiet_of_same (get_any w.heap.size w.heap.size mp s t _ (by exact htab))))
                              have x2 := HLO.out
                              have x3 := HF5.out
                              go_wp2_with fail
                              exact ⟨⟨k + 1, by omega, by go_num, below_drewN hb _, HFin.out.drewN _⟩, by simp [intOf]; omega⟩
                            · have x4 : (t == b) = false := by
                                have y1 : s = a := by simpa using x1
                                simp only [beq_eq_false_iff_ne]
                                exact fun y2 => HTS.out ⟨y1, y2⟩
                              go_wp2_with fail
                              go_quiet ((go_at_call 24; exact Calls.quiet_of_same (get_any w.heap.size w.heap.size mp s t _ (by exact htab))))
                              have x2 := HLO.out
                              have x3 := HF5.out
                              go_wp2_with fail
                              exact ⟨⟨k + 1, by omega, by go_num, below_drewN hb _, HFin.out.drewN _⟩, by simp [intOf]; omega⟩
                          · rw [hl9] at hlc
                            have t9 : (c9 == c9 && (0 : Int) == 0 && (0 : Int) == 0) = true := by simp
                            cases x1 : (s == a)
                            · go_wp2_with fail
                              go_quiet ((go_at_call 24; exact Calls.quiet_of_same (get_any w.heap.size w.heap.size mp s t _ (by exact htab))))
                              have x2 := HLO.out
                              have x3 := HF5.out
                              go_wp2_with fail
                              refine (tallyIs_any q9 c9 0 0 c9 0 0 _ (by exact ht9)).mono ?_
                              rintro _ w9 ⟨rfl, nq9, hw9⟩
                              rw [t9, hw9]
                              clear hw9
                              go_wp2_with fail
                              exact ⟨⟨k + 1, by omega, by go_num, below_drewN hb _, HFin.out.drewN _⟩, by simp [intOf]; omega⟩
                            · have x4 : (t == b) = false := by
                                have y1 : s = a := by simpa using x1
                                simp only [beq_eq_false_iff_ne]
                                exact fun y2 => HTS.out ⟨y1, y2⟩
                              go_wp2_with fail
                              go_quiet ((go_at_call 24; exact Calls.quiet_of_same (get_any w.heap.size w.heap.size mp s t _ (by exact htab))))
                              have x2 := HLO.out
                              have x3 := HF5.out
                              go_wp2_with fail
                              refine (tallyIs_any q9 c9 0 0 c9 0 0 _ (by exact ht9)).mono ?_
                              rintro _ w9 ⟨rfl, nq9, hw9⟩
                              rw [t9, hw9]
                              clear hw9
                              go_wp2_with fail
                              exact ⟨⟨k + 1, by omega, by go_num, below_drewN hb _, HFin.out.drewN _⟩, by simp [intOf]; omega⟩
                      · go_wp2_with fail
                        go_ret
                        exact ⟨rfl, hb⟩

              · have hno := (lastI_some hj).2.2 i (by omega) (by omega)
                have HNO : Hid (¬ (z0.getD i 0 = a ∧ z1.getD i 0 = b)) := hno
                clear hno
                generalize z0.getD i 0 = s at *
                generalize z1.getD i 0 = t at *
                cases e1 : (s == a)
                · go_wp2_with fail
                  exact ⟨⟨i, by omega, rfl, rfl, by omega⟩, by simp [intOf]⟩
                · have e2 : (t == b) = false := by
                    have h1 : s = a := by simpa using e1
                    simp only [beq_eq_false_iff_ne]
                    exact fun h2 => HNO.out ⟨h1, h2⟩
                  go_wp2_with fail
                  exact ⟨⟨i, by omega, rfl, rfl, by omega⟩, by simp [intOf]⟩

end Go.Proofs.Qxb6602336aMods.Tab
