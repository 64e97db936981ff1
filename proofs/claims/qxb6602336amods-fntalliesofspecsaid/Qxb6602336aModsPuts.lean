import Derived.Test.Qxb6602336aModsScript
namespace Go.Proofs.Qxb6602336aMods.Tab
open Go.RowKit Go.Proofs.Qxb6602336aMods.Plan
set_option linter.unusedVariables false

/-- The last of the first k indices whose key is (a, b). -/
def lastI (z0 z1 : List Int) (a b : Int) : Nat → Option Nat
  | 0 => none
  | k + 1 => if z0.getD k 0 = a ∧ z1.getD k 0 = b then some k else lastI z0 z1 a b k

/-- How many different keys the first k indices bear. -/
def lenK (z0 z1 : List Int) : Nat → Nat
  | 0 => 0
  | k + 1 => lenK z0 z1 k + if (lastI z0 z1 (z0.getD k 0) (z1.getD k 0) k).isSome = true then 0 else 1

theorem lastI_some {z0 z1 : List Int} {a b : Int} {k j : Nat} (h : lastI z0 z1 a b k = some j) :
    j < k ∧ (z0.getD j 0 = a ∧ z1.getD j 0 = b) ∧ ∀ i, j < i → i < k → ¬ (z0.getD i 0 = a ∧ z1.getD i 0 = b) := by
  induction k with
  | zero => simp [lastI] at h
  | succ k ih =>
    simp only [lastI] at h
    by_cases hk : z0.getD k 0 = a ∧ z1.getD k 0 = b
    · rw [if_pos hk] at h
      injection h with h
      subst h
      exact ⟨by omega, hk, fun i h1 h2 => by omega⟩
    · rw [if_neg hk] at h
      obtain ⟨h1, h2, h3⟩ := ih h
      refine ⟨by omega, h2, fun i h4 h5 => ?_⟩
      by_cases e : i = k
      · rw [e]; exact hk
      · exact h3 i h4 (by omega)

theorem lastI_none {z0 z1 : List Int} {a b : Int} {k : Nat} (h : lastI z0 z1 a b k = none) : ∀ i, i < k → ¬ (z0.getD i 0 = a ∧ z1.getD i 0 = b) := by
  induction k with
  | zero => intro i hi; omega
  | succ k ih =>
    simp only [lastI] at h
    by_cases hk : z0.getD k 0 = a ∧ z1.getD k 0 = b
    · rw [if_pos hk] at h; cases h
    · rw [if_neg hk] at h
      intro i hi
      by_cases e : i = k
      · rw [e]; exact hk
      · exact ih h i (by omega)

theorem lastI_has {z0 z1 : List Int} {k i : Nat} (hi : i < k) : ∃ j, lastI z0 z1 (z0.getD i 0) (z1.getD i 0) k = some j := by
  cases h : lastI z0 z1 (z0.getD i 0) (z1.getD i 0) k with
  | some j => exact ⟨j, rfl⟩
  | none => exact absurd ⟨rfl, rfl⟩ (lastI_none h i hi)

/-- The table is there (not nil). -/
def TabM (w : World) (B0 TB : Nat) (m : Tbl) : Prop := ∃ r, B0 ≤ r ∧ w.heap[TB]? = some (.cells #[.map (some r)] 71 (0, 0)) ∧ MapAt w r m

theorem TabM.tab {w : World} {B0 TB : Nat} {m : Tbl} (h : TabM w B0 TB m) : TabAt w B0 TB m := .inr h
theorem TabM.of_below {w w' : World} {B0 TB : Nat} {m : Tbl} (h : TabM w B0 TB m) (hb : Below w.heap.size w w') : TabM w' B0 TB m := by
  obtain ⟨r, h1, h2, h3⟩ := h
  exact ⟨r, h1, by rw [hb.block TB (lt_of h2)]; exact h2, h3.of_heap (hb.block r h3.lt)⟩
theorem TalAt.of_below {w w' : World} {q : Nat} {c f d : Int} (h : TalAt w q c f d) (hb : Below w.heap.size w w') : TalAt w' q c f d := by
  unfold TalAt; rw [hb.block q (lt_of h)]; exact h
theorem TalAt.ne_of {w : World} {q : Nat} {c f d : Int} (h : TalAt w q c f d) {k : Nat} {cs : Array Value} {t : TypeId} {fr : Nat × Nat} (hk : w.heap[k]? = some (.cells cs t fr)) (ht : t ≠ 73) : q ≠ k := by
  rintro rfl
  unfold TalAt at h; rw [hk] at h; injection h with h; injection h with _ h; exact ht h
theorem TalAt.setCell {w : World} {q : Nat} {c f d : Int} (h : TalAt w q c f d) {X : Nat} {xs : Array Value} {t : TypeId} {fr : Nat × Nat} (hX : w.heap[X]? = some (.cells xs t fr)) (ht : t ≠ 73) (i : Nat) (v : Value) : TalAt (w.setCell ⟨X, i, none⟩ v) q c f d := by
  unfold TalAt; rw [Below.heap_setCell w ⟨X, i, none⟩ v q (h.ne_of hX ht)]; exact h
theorem TabM.setCell {w : World} {B0 TB : Nat} {m : Tbl} (h : TabM w B0 TB m) {X : Nat} {xs : Array Value} {t : TypeId} {fr : Nat × Nat} (hX : w.heap[X]? = some (.cells xs t fr)) (ht : t ≠ 71) (i : Nat) (v : Value) : TabM (w.setCell ⟨X, i, none⟩ v) B0 TB m := by
  obtain ⟨r, h1, h2, h3⟩ := h
  have hTX : TB ≠ X := by
    rintro rfl
    rw [hX] at h2; injection h2 with h2; injection h2 with _ h2; exact ht h2
  exact ⟨r, h1, by rw [Below.heap_setCell w ⟨X, i, none⟩ v TB hTX]; exact h2, h3.setCell _ _ (fun e => h3.ne hX e.symm)⟩

/-- What the first loop has put after k rounds: the values V, by index. -/
structure Puts (w : World) (B0 TB : Nat) (z0 z1 : List Int) (live : Nat → Bool) (k : Nat) (m : Tbl) (V : Nat → Option Addr) : Prop where
  tab : TabM w B0 TB m
  find : ∀ a b, findT m a b = (lastI z0 z1 a b k).map V
  len : m.length = lenK z0 z1 k
  val : ∀ i, i < k → (live i = false ∧ V i = none) ∨ (live i = true ∧ ∃ q, V i = some ⟨q, 0, none⟩ ∧ TalAt w q i 0 0)

theorem Puts.of_below {w w' : World} {B0 TB : Nat} {z0 z1 : List Int} {live : Nat → Bool} {k : Nat} {m : Tbl} {V : Nat → Option Addr} (h : Puts w B0 TB z0 z1 live k m V) (hb : Below w.heap.size w w') : Puts w' B0 TB z0 z1 live k m V :=
  ⟨h.tab.of_below hb, h.find, h.len, fun i hi => by
    rcases h.val i hi with h1 | ⟨h1, q, h2, h3⟩
    · exact .inl h1
    · exact .inr ⟨h1, q, h2, h3.of_below hb⟩⟩
theorem Puts.drewN {w : World} {B0 TB : Nat} {z0 z1 : List Int} {live : Nat → Bool} {k : Nat} {m : Tbl} {V : Nat → Option Addr} (h : Puts w B0 TB z0 z1 live k m V) (nq : Nat) : Puts (w.drewN nq) B0 TB z0 z1 live k m V := ⟨h.tab, h.find, h.len, h.val⟩
theorem Puts.setCell {w : World} {B0 TB : Nat} {z0 z1 : List Int} {live : Nat → Bool} {k : Nat} {m : Tbl} {V : Nat → Option Addr} (h : Puts w B0 TB z0 z1 live k m V) {X : Nat} {xs : Array Value} {t : TypeId} {fr : Nat × Nat} (hX : w.heap[X]? = some (.cells xs t fr)) (ht : t ≠ 71) (ht' : t ≠ 73) (i : Nat) (v : Value) :
    Puts (w.setCell ⟨X, i, none⟩ v) B0 TB z0 z1 live k m V :=
  ⟨h.tab.setCell hX ht i v, h.find, h.len, fun j hj => by
    rcases h.val j hj with h1 | ⟨h1, q, h2, h3⟩
    · exact .inl h1
    · exact .inr ⟨h1, q, h2, h3.setCell hX ht' i v⟩⟩

/-- ZZPut. -/
def Put (w : World) (B0 TB : Nat) (m' : Tbl) (w' : World) : Prop := TabM w' B0 TB m' ∧ KeepC TB TB w w' ∧ Below B0 w w'

set_option maxHeartbeats 400000 in
theorem put_any (B0 TB : Nat) (m : Tbl) (a b : Int) (v : Option Addr) (w : World) (h : TabM w B0 TB m) :
    Calls Trym.prog 22 #[.pointer (some ⟨TB, 0, none⟩), .int .i64 a, .int .i64 b, .pointer v] w fun e w' => e = .returned (.tuple #[]) ∧ Put w B0 TB (putT m a b v) w' := by
  obtain ⟨r, h1, h2, h3⟩ := h
  have hc := cell_of h2 0
  obtain ⟨o, hput0, hm'⟩ := map_put w r m a b v h3
  have hput : (Instr.mapUpdate 71 (.map (some r)) (.agg #[.int .i64 a, .int .i64 b]) (.pointer v)).run Trym.prog w = .ok () (setM w r o) := hput0
  clear hput0
  go_enter Trym.func22, Trym.ntmps22
  go_wp2
  go_end0
  refine ⟨rfl, ⟨r, h1, ?_, hm'⟩, ?_, ?_⟩
  · rw [setM_heap _ _ _ _ (h3.ne h2)]; exact h2
  · intro k cs t fr hk _ _
    rw [setM_heap _ _ _ _ (h3.ne hk)]; exact hk
  · refine ⟨rfl, rfl, rfl, by simp [setM], fun k hk => setM_heap _ _ _ _ (by omega)⟩

theorem puts_next {w w' : World} {B0 TB : Nat} {z0 z1 : List Int} {live : Nat → Bool} {k : Nat} {m : Tbl} {V : Nat → Option Addr} (h : Puts w B0 TB z0 z1 live k m V) {v : Option Addr}
    (hv : (live k = false ∧ v = none) ∨ (live k = true ∧ ∃ q, v = some ⟨q, 0, none⟩ ∧ TalAt w q k 0 0)) (hP : Put w B0 TB (putT m (z0.getD k 0) (z1.getD k 0) v) w') :
    Puts w' B0 TB z0 z1 live (k + 1) (putT m (z0.getD k 0) (z1.getD k 0) v) (fun i => if i = k then v else V i) := by
  obtain ⟨p1, p2, p3⟩ := hP
  obtain ⟨r, _, hT, _⟩ := h.tab
  have key : ∀ q (c : Int), TalAt w q c 0 0 → TalAt w' q c 0 0 := fun q c hq => p2 q _ _ _ hq (hq.ne_of hT (by decide)) (hq.ne_of hT (by decide))
  refine ⟨p1, ?_, ?_, ?_⟩
  · intro a b
    rw [findT_put]
    simp only [lastI]
    by_cases hab : a = z0.getD k 0 ∧ b = z1.getD k 0
    · rw [if_pos hab, if_pos ⟨hab.1.symm, hab.2.symm⟩]; simp
    · rw [if_neg hab, if_neg (fun e => hab ⟨e.1.symm, e.2.symm⟩), h.find]
      cases hl : lastI z0 z1 a b k with
      | none => rfl
      | some j =>
        have hj := (lastI_some hl).1
        simp [show ¬ j = k by omega]
  · rw [length_put, h.find, h.len]
    simp only [lenK]
    cases lastI z0 z1 (z0.getD k 0) (z1.getD k 0) k <;> simp
  · intro i hi
    by_cases e : i = k
    · subst e
      simp only [if_true]
      rcases hv with h1 | ⟨h1, q, h2, h3⟩
      · exact .inl h1
      · exact .inr ⟨h1, q, h2, key _ _ h3⟩
    · simp only [e, if_false]
      rcases h.val i (by omega) with h1 | ⟨h1, q, h2, h3⟩
      · exact .inl h1
      · exact .inr ⟨h1, q, h2, key _ _ h3⟩

/-- The two rows of the second loop after k rounds. -/
structure Befs (w : World) (BB LB n : Nat) (z0 z1 : List Int) (m : Tbl) (k : Nat) (bs ls : Array Value) : Prop where
  brow : w.heap[BB]? = some (.cells bs 42 (0, 0))
  bsize : bs.size = n
  lrow : w.heap[LB]? = some (.cells ls 38 (0, 0))
  lsize : ls.size = n
  bef : ∀ j, j < k → bs[j]? = some (.pointer (look m (z0.getD j 0) (z1.getD j 0)))
  lbl : ∀ j, j < k → ∀ q, look m (z0.getD j 0) (z1.getD j 0) = some ⟨q, 0, none⟩ → ∃ c : Int, TalAt w q c 0 0 ∧ ls[j]? = some (.int .u64 c)

theorem Befs.ne {w : World} {BB LB n : Nat} {z0 z1 : List Int} {m : Tbl} {k : Nat} {bs ls : Array Value} (h : Befs w BB LB n z0 z1 m k bs ls) : BB ≠ LB := by
  rintro rfl
  have h1 := h.brow
  rw [h.lrow] at h1; injection h1 with h1; injection h1 with _ h1; cases h1

theorem Befs.of_below {w w' : World} {BB LB n : Nat} {z0 z1 : List Int} {m : Tbl} {k : Nat} {bs ls : Array Value} (h : Befs w BB LB n z0 z1 m k bs ls) (hb : Below w.heap.size w w') : Befs w' BB LB n z0 z1 m k bs ls :=
  ⟨by rw [hb.block _ (lt_of h.brow)]; exact h.brow, h.bsize, by rw [hb.block _ (lt_of h.lrow)]; exact h.lrow, h.lsize, h.bef, fun j hj q hq => by
    obtain ⟨c, h1, h2⟩ := h.lbl j hj q hq
    exact ⟨c, h1.of_below hb, h2⟩⟩

/-- A nil value: the row of tallies alone is written. -/
theorem befs_nil {w : World} {BB LB n : Nat} {z0 z1 : List Int} {m : Tbl} {k : Nat} {bs ls : Array Value} (h : Befs w BB LB n z0 z1 m k bs ls) (hk : k < n) (hl : look m (z0.getD k 0) (z1.getD k 0) = none) (nq : Nat) :
    Befs ((w.drewN nq).setCell ⟨BB, k, none⟩ (.pointer none)) BB LB n z0 z1 m (k + 1) (bs.setIfInBounds k (.pointer none)) ls := by
  have hne := h.ne
  refine ⟨heap_setCell_at (w := w.drewN nq) h.brow k _, by simp [h.bsize], ?_, h.lsize, ?_, ?_⟩
  · rw [Below.heap_setCell (w.drewN nq) ⟨BB, k, none⟩ _ LB (fun e => hne e.symm)]; exact h.lrow
  · intro j hj
    by_cases e : j = k
    · subst e; rw [hl]; simp [h.bsize, hk]
    · have : k ≠ j := fun x => e x.symm
      rw [Array.getElem?_setIfInBounds, if_neg this]; exact h.bef j (by omega)
  · intro j hj q hq
    by_cases e : j = k
    · subst e; rw [hl] at hq; cases hq
    · obtain ⟨c, h1, h2⟩ := h.lbl j (by omega) q hq
      exact ⟨c, TalAt.setCell (w := w.drewN nq) h1 h.brow (by decide) k _, h2⟩

/-- A tally: both rows are written. -/
theorem befs_some {w : World} {BB LB n : Nat} {z0 z1 : List Int} {m : Tbl} {k : Nat} {bs ls : Array Value} (h : Befs w BB LB n z0 z1 m k bs ls) (hk : k < n) {q : Nat} {c : Int} (hl : look m (z0.getD k 0) (z1.getD k 0) = some ⟨q, 0, none⟩) (ht : TalAt w q c 0 0) (nq : Nat) :
    Befs (((w.drewN nq).setCell ⟨BB, k, none⟩ (.pointer (some ⟨q, 0, none⟩))).setCell ⟨LB, k, none⟩ (.int .u64 c)) BB LB n z0 z1 m (k + 1) (bs.setIfInBounds k (.pointer (some ⟨q, 0, none⟩))) (ls.setIfInBounds k (.int .u64 c)) := by
  have hne := h.ne
  have hL : ((w.drewN nq).setCell ⟨BB, k, none⟩ (.pointer (some ⟨q, 0, none⟩))).heap[LB]? = some (.cells ls 38 (0, 0)) := by
    show ((w.drewN nq).setCell ⟨BB, k, none⟩ _).heap[LB]? = _
    rw [Below.heap_setCell (w.drewN nq) ⟨BB, k, none⟩ _ LB (fun e => hne e.symm)]; exact h.lrow
  have tal : ∀ q' c', TalAt w q' c' 0 0 → TalAt (((w.drewN nq).setCell ⟨BB, k, none⟩ (.pointer (some ⟨q, 0, none⟩))).setCell ⟨LB, k, none⟩ (.int .u64 c)) q' c' 0 0 := by
    intro q' c' hq'
    have h1 : TalAt ((w.drewN nq).setCell ⟨BB, k, none⟩ (.pointer (some ⟨q, 0, none⟩))) q' c' 0 0 := TalAt.setCell (w := w.drewN nq) hq' h.brow (by decide) k _
    exact TalAt.setCell (w := (w.drewN nq).setCell ⟨BB, k, none⟩ (.pointer (some ⟨q, 0, none⟩))) h1 hL (by decide) k _
  refine ⟨?_, by simp [h.bsize], heap_setCell_at hL k _, by simp [h.lsize], ?_, ?_⟩
  · rw [Below.heap_setCell _ ⟨LB, k, none⟩ _ BB hne]
    exact heap_setCell_at (w := w.drewN nq) h.brow k _
  · intro j hj
    by_cases e : j = k
    · subst e; rw [hl]; simp [h.bsize, hk]
    · have : k ≠ j := fun x => e x.symm
      rw [Array.getElem?_setIfInBounds, if_neg this]; exact h.bef j (by omega)
  · intro j hj q' hq'
    by_cases e : j = k
    · subst e
      rw [hl] at hq'
      injection hq' with hq'
      injection hq' with hq'
      subst hq'
      exact ⟨c, tal _ _ ht, by simp [h.lsize, hk]⟩
    · obtain ⟨c', h1, h2⟩ := h.lbl j (by omega) q' hq'
      have : k ≠ j := fun x => e x.symm
      exact ⟨c', tal _ _ h1, by rw [Array.getElem?_setIfInBounds, if_neg this]; exact h2⟩

/-- What is left to be checked at the end. -/
structure Fin (w : World) (B0 TB BB LB n : Nat) (z0 z1 : List Int) (a b : Int) (m m' : Tbl) (bs ls : Array Value) : Prop where
  tab : TabAt w B0 TB m'
  brow : w.heap[BB]? = some (.cells bs 42 (0, 0))
  lrow : w.heap[LB]? = some (.cells ls 38 (0, 0))
  bef : ∀ j, j < n → bs[j]? = some (.pointer (look m (z0.getD j 0) (z1.getD j 0)))
  other : ∀ j, j < n → ¬ (z0.getD j 0 = a ∧ z1.getD j 0 = b) → findT m' (z0.getD j 0) (z1.getD j 0) = some (look m (z0.getD j 0) (z1.getD j 0))
  val : ∀ j, j < n → look m (z0.getD j 0) (z1.getD j 0) = none ∨ ∃ q c, look m (z0.getD j 0) (z1.getD j 0) = some ⟨q, 0, none⟩ ∧ TalAt w q c 0 0 ∧ ls[j]? = some (.int .u64 c)
theorem Fin.drewN {w : World} {B0 TB BB LB n : Nat} {z0 z1 : List Int} {a b : Int} {m m' : Tbl} {bs ls : Array Value} (h : Fin w B0 TB BB LB n z0 z1 a b m m' bs ls) (nq : Nat) : Fin (w.drewN nq) B0 TB BB LB n z0 z1 a b m m' bs ls := ⟨h.tab, h.brow, h.lrow, h.bef, h.other, h.val⟩

/-- What a look-up of a put key gives. -/
theorem Puts.at {w : World} {B0 TB : Nat} {z0 z1 : List Int} {live : Nat → Bool} {n : Nat} {m : Tbl} {V : Nat → Option Addr} (h : Puts w B0 TB z0 z1 live n m V) {j : Nat} (hj : j < n) :
    (look m (z0.getD j 0) (z1.getD j 0) = none ∨ ∃ q c, look m (z0.getD j 0) (z1.getD j 0) = some ⟨q, 0, none⟩ ∧ TalAt w q c 0 0) ∧ findT m (z0.getD j 0) (z1.getD j 0) = some (look m (z0.getD j 0) (z1.getD j 0)) := by
  obtain ⟨i, hi⟩ := lastI_has (z0 := z0) (z1 := z1) hj
  have hf := h.find (z0.getD j 0) (z1.getD j 0)
  rw [hi] at hf
  have hf2 : findT m (z0.getD j 0) (z1.getD j 0) = some (V i) := hf
  have hl : look m (z0.getD j 0) (z1.getD j 0) = V i := by unfold look; rw [hf2]; rfl
  refine ⟨?_, by rw [hl]; exact hf2⟩
  rw [hl]
  rcases h.val i (lastI_some hi).1 with ⟨_, h1⟩ | ⟨_, q, h1, h2⟩
  · exact .inl h1
  · exact .inr ⟨q, i, h1, h2⟩

theorem fin_of {w w7 : World} {B0 TB BB LB n : Nat} {z0 z1 : List Int} {live : Nat → Bool} {m m' : Tbl} {V : Nat → Option Addr} {bs ls : Array Value} {a b c f d : Int} {p : Addr} {o : Obj}
    (hU : Puts w B0 TB z0 z1 live n m V) (hB : Befs w BB LB n z0 z1 m n bs ls) (hP : OfPost B0 TB w.heap.size m a b c f d (w.alloc o) p m' w7) : Fin w7 B0 TB BB LB n z0 z1 a b m m' bs ls := by
  obtain ⟨p1, p2, p3, p4⟩ := hP
  obtain ⟨r, _, hT, _⟩ := hU.tab
  have keep : ∀ (k : Nat) (cs : Array Value) (t : TypeId), w.heap[k]? = some (Obj.cells cs t (0, 0)) → t ≠ 71 → w7.heap[k]? = some (Obj.cells cs t (0, 0)) := by
    intro k cs t hk ht
    have hlt := lt_of hk
    refine p2 k cs t _ (by rw [Below.heap_alloc w o k hlt]; exact hk) ?_ (by omega)
    rintro rfl
    rw [hT] at hk; injection hk with hk; injection hk with _ hk; exact ht hk.symm
  refine ⟨p1, keep _ _ _ hB.brow (by decide), keep _ _ _ hB.lrow (by decide), hB.bef, ?_, ?_⟩
  · intro j hj hne
    have hat := (hU.at hj).2
    have hm : findT m' (z0.getD j 0) (z1.getD j 0) = findT m (z0.getD j 0) (z1.getD j 0) := by
      rcases p4 with ⟨_, e, _⟩ | ⟨_, _, e, _⟩ | ⟨_, _, _, e, _⟩
      · rw [e]
      · rw [e]
      · rw [e, findT_put, if_neg hne]
    rw [hm]; exact hat
  · intro j hj
    rcases (hU.at hj).1 with h1 | ⟨q, c, h1, h2⟩
    · exact .inl h1
    · obtain ⟨c', h3, h4⟩ := hB.lbl j hj q h1
      exact .inr ⟨q, c', h1, keep _ _ _ h3 (by decide), h4⟩

set_option maxHeartbeats 400000 in
theorem isnil_any (B0 TB : Nat) (m : Tbl) (w : World) (h : TabAt w B0 TB m) (hm : m ≠ []) :
    Calls Trym.prog 27 #[.pointer (some ⟨TB, 0, none⟩)] w fun e w' => e = .returned (.bool false) ∧ w' = w := by
  rcases h with ⟨_, e⟩ | ⟨r, _, h, _⟩
  · exact absurd e hm
  · have hc := cell_of h 0
    have hq := fun w r => run_eql_map_nil (P := Trym.prog) w 71 75 42 r Trym.underlying71
    go_enter Trym.func27, Trym.ntmps27
    go_wp2
    go_ret
    exact ⟨rfl, rfl⟩

set_option maxHeartbeats 400000 in
theorem newTallies_map (w : World) :
    Calls Trym.prog 20 #[.bool false] w fun r w' => r = .returned (.pointer (some ⟨w.heap.size, 0, none⟩)) ∧ Below w.heap.size w w' ∧ TabM w' w.heap.size w.heap.size [] := by
  have hmm := @run_makeMap Trym.prog
  go_enter Trym.func20, Trym.ntmps20
  go_wp2
  go_ret
  refine ⟨rfl, ((Below.refl _ _).alloc (Nat.le_refl _) _).alloc (by simp) _, w.heap.size + 1, by omega, ?_, #[], 0, ?_, rfl⟩
  · rw [Below.heap_alloc _ _ _ (by simp)]; exact heap_alloc_new _ _
  · have e := heap_alloc_new (w.alloc (.cells #[.map (some (w.heap.size + 1))] 71)) (.map #[] 0)
    rw [show (w.alloc (.cells #[.map (some (w.heap.size + 1))] 71)).heap.size = w.heap.size + 1 by simp] at e
    exact e
end Go.Proofs.Qxb6602336aMods.Tab
