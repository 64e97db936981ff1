import Derived.Test.Qxb6602000aModsChain
import Derived.Deep.CutRange
namespace Go.Proofs.Qxb6602000aMods.Led
open Go.RowKit
set_option linter.unusedVariables false
attribute [local simp] heapIs_drew heapIs_drewN
attribute [local go_sem ↓] ld36 ld41 ld65 st41 st65 bu41 bu65 ld44 st44

theorem bu36 (ρ : Operand → Value) (dst : Option Tmp) (ps : Array (Nat × Operand)) (ty : TypeId) (pos : String) (after : _) (guard : _) (w : World) :
    (execOp ρ (Oper.mk dst (.build 36 ps) ty pos after guard)).run Trym.prog w = (buV Trym.prog 36 (ps.map fun p => (p.1, ρ p.2)) w).andThen fun v w' => .ok (.value v) w' := by simp [execOp, buV]
theorem st36 (ρ : Operand → Value) (dst : Option Tmp) (x y : Operand) (ty : TypeId) (pos : String) (after : _) (guard : _) (w : World) :
    (execOp ρ (Oper.mk dst (.store 36 x y) ty pos after guard)).run Trym.prog w = (stV Trym.prog 36 (ρ x) (ρ y) w).andThen fun _ w' => .ok .skip w' := by simp [execOp, stV]
attribute [local go_sem ↓] bu36 st36
theorem bu_id (w : World) : buV Trym.prog 36 #[] w = .ok (.agg idA) w := by unfold buV; kernel_rfl
theorem zero36 (w : World) : (zeroValue 36).run Trym.prog w = .ok (.agg idA) w := by kernel_rfl
theorem idA_one : idA.all (·.oneCell') = true := by kernel_rfl
theorem st_id (w : World) (b : Nat) (h : HeapIs w b (.cells idA 36)) : stV Trym.prog 36 (.pointer (some ⟨b, 0, none⟩)) (.agg idA) w = .ok () w := by
  rw [run_st 36 37 big36 b _ idA 36 _ h idA_size idA_size idA_one, setRow_self w b idA 36 _ h]

theorem Below.is {w w' : World} {k : Nat} {o : Obj} (hb : Below w.heap.size w w') (h : HeapIs w k o) : HeapIs w' k o := (hb.block k (lt_of h)).trans h
theorem blk_lt {w : World} {a : Addr} {v : Value} (h : w.cell? a = some v) : a.block < w.heap.size := by
  rcases Nat.lt_or_ge a.block w.heap.size with h1 | h1
  · exact h1
  · have : w.heap[a.block]? = none := Array.getElem?_eq_none h1
    simp [World.cell?, this] at h
theorem Below.cellIs {w w' : World} {a : Addr} {v : Value} (hb : Below w.heap.size w w') (h : w.cell? a = some v) : w'.cell? a = some v := (hb.cell (blk_lt h)).trans h
theorem cell_alloc {w : World} {a : Addr} {v : Value} (o : Obj) (h : w.cell? a = some v) : (w.alloc o).cell? a = some v := Below.cellIs ((Below.refl _ _).alloc (Nat.le_refl _) _) h
theorem is_alloc {w : World} {k : Nat} {x : Obj} (o : Obj) (h : HeapIs w k x) : HeapIs (w.alloc o) k x := Below.is ((Below.refl _ _).alloc (Nat.le_refl _) _) h
theorem cell_setRow {w : World} {a : Addr} {v : Value} {b : Nat} (C : Array Value) (h : w.cell? a = some v) (hne : a.block ≠ b) : (w.setRow b C).cell? a = some v := (cell_setRow_other w b C a hne).trans h
theorem is_setRow {w : World} {k : Nat} {x : Obj} {b : Nat} (C : Array Value) (h : HeapIs w k x) (hne : k ≠ b) : HeapIs (w.setRow b C) k x := (setRow_other w b k C hne).trans h

theorem is_drew {w : World} {k : Nat} {x : Obj} (h : HeapIs w k x) : HeapIs w.drew k x := h
theorem cell_drew {w : World} {a : Addr} {v : Value} (h : w.cell? a = some v) : w.drew.cell? a = some v := h
theorem is_new {w : World} {k : Nat} {x : Obj} (h : k = w.heap.size) : HeapIs (w.alloc x) k x := by subst h; exact heap_alloc_new w x
theorem is_row {w : World} {k : Nat} {C C0 : Array Value} {t : TypeId} (h : HeapIs w k (.cells C0 t)) : HeapIs (w.setRow k C) k (.cells C t) := setRow_heap _ _ _ _ _ _ h
theorem bel_drew {B : Nat} {a w : World} (h : Below B a w) : Below B a w.drew := h.drew
theorem bel_alloc {B : Nat} {a w : World} (o : Obj) (h : Below B a w) (hB : B ≤ w.heap.size) : Below B a (w.alloc o) := h.alloc hB o
theorem bel_row {B b : Nat} {a w : World} (C : Array Value) (h : Below B a w) (hB : B ≤ b) : Below B a (w.setRow b C) := below_setRow h hB C
theorem bel_trans {a w w' : World} (h2 : Below w.heap.size w w') (h : Below a.heap.size a w) : Below a.heap.size a w' := h.over h2

theorem is_new0 (w : World) (x : Obj) : HeapIs (w.alloc x) w.heap.size x := heap_alloc_new w x
theorem is_new1 (w : World) (x o : Obj) : HeapIs ((w.alloc x).alloc o) w.heap.size x := is_alloc _ (heap_alloc_new w x)
theorem is_new2 (w : World) (x o : Obj) : HeapIs ((w.alloc o).alloc x) (w.heap.size + 1) x := heap_alloc2_new _ _ _
attribute [local simp] is_new0 is_new1 is_new2

set_option maxHeartbeats 2000000 in
set_option maxRecDepth 10000 in
theorem below_any (C n BB lim : Nat) (b : Option Addr) (Ls : List Lv) (w : World) (h : LvsAt w C 0 Ls) (hn : n = Ls.length) (hs : n ≤ 4096) (h1 : 1 ≤ n) (hC : C < w.heap.size) (hBB : BB < w.heap.size)
    (hB : BooksAt w BB 1 lim b (Ls.drop 1)) (hl : lim ≤ w.heap.size) :
    Calls Trym.prog 21 #[.slice (some ⟨BB, 0, none⟩) n n, .slice (some ⟨C, 0, none⟩) n n] w fun e w' => e = .returned (.bool true) ∧ Below w.heap.size w w' := by
  have HL : Hid (n = Ls.length) := hn
  have HB0 : Hid (BooksAt w BB 1 lim b (Ls.drop 1)) := hB
  have hbz := bu_id
  have hz36 := zero36
  have hz41 := zero41
  have hsz := st_id (w.alloc (.cells idA 36)) w.heap.size (heap_alloc_new _ _)
  clear hn hB
  go_enter Trym.func21, Trym.ntmps21
  go_wp2_with fail
  go_loopw [6] (fun v wr => ∃ (k lim : Nat) (b : Option Addr), v = .int .i64 k ∧ 1 ≤ k ∧ k ≤ n ∧ lim ≤ w.heap.size ∧ Hid (BooksAt wr BB k lim b (Ls.drop k)) ∧ HeapIs wr w.heap.size (.cells idA 36) ∧ Below w.heap.size w wr) (fun v _ => (n - intOf v).toNat)
  case atStart =>
    have hbx : Below w.heap.size w (w.alloc (.cells idA 36)) := (Below.refl _ _).alloc (Nat.le_refl _) _
    exact ⟨1, lim, b, rfl, Nat.le_refl _, h1, hl, HB0.out.below hbx hl, heap_alloc_new _ _, hbx⟩
  case round =>
    clear hsz
    obtain ⟨k, lim, b, rfl, hk1, hkn, hl, HB, hk0, hb⟩ := hrel
    by_cases hlt : k < n
    · obtain ⟨L, hL⟩ : ∃ L, Ls[k]? = some L := ⟨Ls[k]'(by have := HL.out; omega), List.getElem?_eq_getElem _⟩
      have hlv := h.below hb hC k L hL
      have hsb := hb.size
      have hB := HB.out
      rw [drop_at hL] at hB
      obtain ⟨bk, A, N, b', lim', rfl, g1, g2, g3, g4, g5, g6, g7, g8, g9, g10⟩ := hB
      have HB2 : Hid (BooksAt wr BB (k + 1) lim' b' (Ls.drop (k + 1))) := g10
      have hz0 : w.heap.size < wr.heap.size := lt_of hk0
      have hld : ∀ W : World, HeapIs W w.heap.size (.cells idA 36) → ldV Trym.prog 36 (.pointer (some ⟨w.heap.size, 0, none⟩)) W = .ok (.agg idA) W := fun W h => ld_id W _ h
      have c0 : ∀ W : World, Below wr.heap.size wr W → W.cell? ⟨C, k * 9, none⟩ = some (.bool L.holds) := fun W hW => by
        rw [hW.cell (p := ⟨C, k * 9, none⟩) (show C < wr.heap.size by omega)]; have := hlv 0 _ rfl; simpa using this
      have hl44 : ∀ W : World, Below wr.heap.size wr W → ldV Trym.prog 44 (.pointer (some ⟨C, k * 9, none⟩)) W = .ok (.agg (lvCells L)) W := fun W hW => by
        refine ld_lv W C (k * 9) L ?_
        have := (h.below (hb.trans (hW.mono (by omega))) hC) k L hL
        rwa [Nat.zero_add] at this
      have hc28 : ∀ W : World, Below wr.heap.size wr W → W.cell? ⟨BB, k, none⟩ = some (.pointer (some ⟨bk, 0, none⟩)) := fun W hW => Below.cellIs hW g1
      have hl36 : ∀ W : World, Below wr.heap.size wr W → ldV Trym.prog 36 (.pointer (some ⟨w.heap.size, 0, none⟩)) W = .ok (.agg idA) W := fun W hW => ld_id W _ (Below.is hW hk0)
      have HK0 : Hid (HeapIs wr w.heap.size (.cells idA 36)) := hk0
      clear hL hlv HB g10 hld
      cases hh : L.holds
      · unfold HoldsAt at g8
        rw [hh] at g8
        have g8' : HeapIs wr A (.map #[] 0) := g8
        have hcall : ∀ W, Below wr.heap.size wr W → Calls Trym.prog 20 #[.pointer (some ⟨bk, 0, none⟩), .agg idA] W fun e w' => e = .returned (.tuple #[.agg resZ, .agg resZ, .bool false]) ∧ Below W.heap.size W w' := fun W hW => held_none bk A N b' W (Below.is hW g7) (Below.is hW g8')
        have hst : ∀ (W : World) (b : Nat), HeapIs W b (.cells resZ 41) → stV Trym.prog 41 (.pointer (some ⟨b, 0, none⟩)) (.agg resZ) W = .ok () W := fun W b h => st_same W b h
        clear g8 g8' g7 hk0
        go_upto_region 5 with fail
        go_cut [7, 8, 9] from 12 to 50 (fun x y f wx => ∃ bx cx, x = .pointer (some ⟨bx, 0, none⟩) ∧ y = .pointer (some ⟨cx, 0, none⟩) ∧ f = .bool false ∧ Below wr.heap.size wr wx)
        case first =>
          have hS0 : Below wr.heap.size wr wr := Below.refl _ _
          go_region_held3 (fun w' => Below wr.heap.size wr w') (first | exact (by repeat' (first | assumption | exact Below.refl _ _ | with_reducible apply bel_drew | (refine bel_alloc _ ?_ (by first | omega | (simp <;> omega))) | (refine bel_row _ ?_ (by omega)) | (refine bel_trans hb2 ?_))) | go_keep)
            (first | (go_at_call 20; refine (hcall _ (by repeat' (first | assumption | exact Below.refl _ _ | with_reducible apply bel_drew | (refine bel_alloc _ ?_ (by first | omega | (simp <;> omega))) | (refine bel_row _ ?_ (by omega)) | fail))).mono ?_; rintro e w2 ⟨rfl, hb2⟩; have hs2 := hb2.size; simp at hs2; have hbw : Below wr.heap.size wr w2 := bel_trans hb2 (by repeat' (first | assumption | exact Below.refl _ _ | with_reducible apply bel_drew | (refine bel_alloc _ ?_ (by first | omega | (simp <;> omega))) | (refine bel_row _ ?_ (by omega)) | fail)); have hm : ∀ k x, HeapIs _ k x → HeapIs w2 k x := fun k x h => Below.is hb2 h; have hm2 : ∀ k x o, HeapIs _ k x → HeapIs (w2.alloc o) k x := fun k x o h => is_alloc o (Below.is hb2 h)))
          all_goals (go_wp2_with fail; go_meet)
          all_goals exact ⟨_, _, rfl, rfl, rfl, (by repeat' (first | assumption | exact Below.refl _ _ | with_reducible apply bel_drew | (refine bel_alloc _ ?_ (by first | omega | (simp <;> omega))) | (refine bel_row _ ?_ (by omega)) | (refine bel_trans hb2 ?_)))⟩
        case rest =>
          obtain ⟨bx, cx, rfl, rfl, rfl, hbc⟩ := hcut
          have c0' := c0 wc hbc
          rw [hh] at c0'
          go_wp2_with fail
          refine ⟨⟨k + 1, lim', b', rfl, by omega, by omega, by omega, HB2.out.below hbc (by omega), Below.is hbc HK0.out, hb.over hbc⟩, ?_⟩
          show (_ - ((k : Int) + 1)).toNat < (_ - (k : Int)).toNat; omega
      · unfold HoldsAt at g8
        rw [hh] at g8
        obtain ⟨q, gq1, gq2, gA, gq⟩ := (if_pos rfl).mp g8
        have g8' : HeapIs wr A (mapO (.pointer (some ⟨q, 0, none⟩))) := gA
        have g9' : HeapIs wr q (.cells (accC (resL L) (resL L)) 65) := gq
        have hcall : ∀ W, Below wr.heap.size wr W → Calls Trym.prog 20 #[.pointer (some ⟨bk, 0, none⟩), .agg idA] W fun e w' => e = .returned (.tuple #[.agg (resL L), .agg (resL L), .bool true]) ∧ Below W.heap.size W w' := fun W hW => held_some bk A N q b' L L W (Below.is hW g7) (Below.is hW g8') (Below.is hW g9')
        have hst : ∀ (W : World) (b : Nat), HeapIs W b (.cells resZ 41) → stV Trym.prog 41 (.pointer (some ⟨b, 0, none⟩)) (.agg (resL L)) W = .ok () (W.setRow b (resL L)) := fun W b h => st_res W b L h
        clear g8 g8' g9' gA gq g7 hk0
        go_upto_region 5 with fail
        go_cut [7, 8, 9] from 12 to 50 (fun x y f wx => ∃ bx cx, x = .pointer (some ⟨bx, 0, none⟩) ∧ y = .pointer (some ⟨cx, 0, none⟩) ∧ f = .bool true ∧ HeapIs wx bx (.cells (resL L) 41) ∧ HeapIs wx cx (.cells (resL L) 41) ∧ Below wr.heap.size wr wx)
        case first =>
          have hn0 : ∀ (W : World) (b k : Nat) (C : Array Value) (o : Obj), k ≠ b → (HeapIs (W.setRow b C) k o ↔ HeapIs W k o) := heapIs_setRow_ne
          go_region_held3 (fun w' => Below wr.heap.size wr w') (first | exact (by repeat' (first | assumption | exact Below.refl _ _ | with_reducible apply bel_drew | (refine bel_alloc _ ?_ (by first | omega | (simp <;> omega))) | (refine bel_row _ ?_ (by omega)) | (refine bel_trans hb2 ?_))) | go_keep)
            (first | (go_at_call 20; refine (hcall _ (by repeat' (first | assumption | exact Below.refl _ _ | with_reducible apply bel_drew | (refine bel_alloc _ ?_ (by first | omega | (simp <;> omega))) | (refine bel_row _ ?_ (by omega)) | fail))).mono ?_; rintro e w2 ⟨rfl, hb2⟩; have hs2 := hb2.size; simp at hs2; have hbw : Below wr.heap.size wr w2 := bel_trans hb2 (by repeat' (first | assumption | exact Below.refl _ _ | with_reducible apply bel_drew | (refine bel_alloc _ ?_ (by first | omega | (simp <;> omega))) | (refine bel_row _ ?_ (by omega)) | fail)); have hm : ∀ k x, HeapIs _ k x → HeapIs w2 k x := fun k x h => Below.is hb2 h; have hm2 : ∀ k x o, HeapIs _ k x → HeapIs (w2.alloc o) k x := fun k x o h => is_alloc o (Below.is hb2 h); (try (have hx1 : ¬ wr.heap.size = w2.heap.size := by omega)); (try (have hx2 : ¬ w2.heap.size = wr.heap.size := by omega))))
          all_goals (go_wp2_with fail; go_meet)
          all_goals exact ⟨_, _, rfl, rfl, rfl, (by repeat' (first | assumption | with_reducible apply is_drew | with_reducible apply is_new0 | with_reducible apply is_new1 | with_reducible apply is_new2 | with_reducible apply is_alloc | with_reducible refine is_row (C0 := resZ) ?_ | (refine is_setRow _ ?_ (by omega)) | (refine Below.is hb2 ?_))), (by repeat' (first | assumption | with_reducible apply is_drew | with_reducible apply is_new0 | with_reducible apply is_new1 | with_reducible apply is_new2 | with_reducible apply is_alloc | with_reducible refine is_row (C0 := resZ) ?_ | (refine is_setRow _ ?_ (by omega)) | (refine Below.is hb2 ?_))), (by repeat' (first | assumption | exact Below.refl _ _ | with_reducible apply bel_drew | (refine bel_alloc _ ?_ (by first | omega | (simp <;> omega))) | (refine bel_row _ ?_ (by omega)) | (refine bel_trans hb2 ?_)))⟩
        case rest =>
          obtain ⟨bx, cx, rfl, rfl, rfl, hx, hy, hbc⟩ := hcut
          have c0' := c0 wc hbc
          rw [hh] at c0'
          have hl44' := hl44 wc hbc
          go_wp2_with (first
            | (go_at_call 14; refine (resourceOf_any L _).mono ?_; rintro e w3 ⟨rfl, hb3⟩; have hx3 := Below.is hb3 hx; have hy3 := Below.is hb3 hy; have hz3 := zero41 w3; have hst3 := st_res (w3.alloc (.cells resZ 41)) w3.heap.size L (is_new0 _ _); have hb3' : Below w3.heap.size w3 ((w3.alloc (.cells resZ 41)).setRow w3.heap.size (resL L)) := below_setRow ((Below.refl _ _).alloc (Nat.le_refl _) _) (Nat.le_refl _) _; have hbV : Below wr.heap.size wr ((w3.alloc (.cells resZ 41)).setRow w3.heap.size (resL L)) := bel_trans hb3' (bel_trans hb3 hbc); have lx := ld_res _ bx L (Below.is hb3' hx3); have hyV := Below.is hb3' hy3; have ly := ld_res _ cx L hyV; have hzV : HeapIs ((w3.alloc (.cells resZ 41)).setRow w3.heap.size (resL L)) w3.heap.size (.cells (resL L) 41) := is_row (is_new0 w3 (.cells resZ 41)); have lz := ld_res _ w3.heap.size L hzV)
            | (go_at_call 13; refine (same_self L _).mono ?_; rintro e w4 ⟨rfl, hb4⟩; (try have ly4 := ld_res w4 cx L (Below.is hb4 hyV)); (try have lz4 := ld_res w4 w3.heap.size L (Below.is hb4 hzV)); (first | have hbq := bel_trans hb4 hbV | have hbq2 := bel_trans hb4 hbq)))
          refine ⟨⟨k + 1, lim', b', rfl, by omega, by omega, by omega, HB2.out.below hbq2 (by omega), Below.is hbq2 HK0.out, hb.over hbq2⟩, ?_⟩
          show (_ - ((k : Int) + 1)).toNat < (_ - (k : Int)).toNat; omega
    · have hk : k = n := by omega
      subst hk
      go_wp2_with fail
      go_ret
      exact ⟨rfl, hb⟩
end Go.Proofs.Qxb6602000aMods.Led
