import Derived.Test.Qxb6616753aLawEq
import Derived.Deep.RegionHeld3
namespace Go.Proofs.Qxb6616753a
open Go.ChangeShapes Go.WideShapes Go.ChangeAt Go.RowKit
set_option linter.unusedSimpArgs false
set_option linter.unusedVariables false

/-- A rank of count c whose first to go was given k, its source in block b; all of it lies below L. -/
def RankOf (w : World) (s : Nat) (c k : Int) (b L : Nat) : Prop :=
  ∃ E1 En C1 Cn n g1 gn, RankAt w s c b E1 En C1 Cn n g1 gn ∧ gOf s g1 gn = k ∧ b < L ∧ E1 < L ∧ En < L ∧ C1 < L ∧ Cn < L

theorem RankOf.below {w w' : World} {s : Nat} {c k : Int} {b L : Nat} (h : RankOf w s c k b L) {M : Nat} (hb : Below M w w') (hL : L ≤ M) {L' : Nat} (hL' : L ≤ L') : RankOf w' s c k b L' := by
  obtain ⟨E1, En, C1, Cn, n, g1, gn, hr, hk, l0, l1, l2, l3, l4⟩ := h
  exact ⟨E1, En, C1, Cn, n, g1, gn, hr.below hb (by omega) (by omega) (by omega) (by omega) (by omega), hk, by omega, by omega, by omega, by omega, by omega⟩

/-- A store into a block of three cells touches no rank. -/
theorem RankOf.set {w : World} {s : Nat} {c k : Int} {b L : Nat} (h : RankOf w s c k b L) {Rb i : Nat} {v : Value} (h3 : ∀ j, 3 ≤ j → w.cell? ⟨Rb, j, none⟩ = none) : RankOf (w.setCell ⟨Rb, i, none⟩ v) s c k b L := by
  obtain ⟨E1, En, C1, Cn, n, g1, gn, hr, hk, ls⟩ := h
  have n0 : Rb ≠ b := by rintro rfl; have := hr.cnt; rw [h3 3 (by omega)] at this; cases this
  have n1 : Rb ≠ E1 := by rintro rfl; have := hr.v1; rw [h3 3 (by omega)] at this; cases this
  have n2 : Rb ≠ En := by rintro rfl; have := hr.vn; rw [h3 3 (by omega)] at this; cases this
  have n3 : Rb ≠ C1 := by rintro rfl; have := hr.k1; rw [h3 18 (by omega)] at this; cases this
  have n4 : Rb ≠ Cn := by rintro rfl; have := hr.kn; rw [h3 18 (by omega)] at this; cases this
  have e : ∀ x j, Rb ≠ x → (w.setCell ⟨Rb, i, none⟩ v).cell? ⟨x, j, none⟩ = w.cell? ⟨x, j, none⟩ := fun x j hx => by rw [cell_set, if_neg (fun hh => hx hh.1)]
  exact ⟨E1, En, C1, Cn, n, g1, gn, ⟨by rw [e _ _ n0]; exact hr.cnt, by rw [e _ _ n0]; exact hr.src, by rw [e _ _ n0]; exact hr.std, by rw [e _ _ n0]; exact hr.len, hr.pos, by rw [e _ _ n0]; exact hr.first, by rw [e _ _ n0]; exact hr.last, by rw [e _ _ n1]; exact hr.v1, by rw [e _ _ n2]; exact hr.vn, by rw [e _ _ n3]; exact hr.k1, by rw [e _ _ n4]; exact hr.kn⟩, hk, ls⟩

/-- The contract of ZZnewRank in these words. -/
theorem newRank_of (w : World) (count : Int) (s : Nat) (hs : s ≤ 2) (G n cap : Nat) (zs : List Int) (hG : G < w.heap.size) (h0 : 0 < n) (hn : n ≤ 1048576)
    (hc : ∀ i, i < n → w.cell? ⟨G, 0 + i, none⟩ = some (.int .u64 (zs.getD i 0))) (k : Int) (hk : gOf s (zs.getD 0 0) (zs.getD (n - 1) 0) = k) :
    Calls Try.prog 12 #[.int .i64 count, .int .i64 s, .slice (some ⟨G, 0, none⟩) n cap] w fun e w' => e = .returned (.pointer (some ⟨w.heap.size, 19 + 3 * s, none⟩)) ∧ Below w.heap.size w w' ∧ w.heap.size < w'.heap.size ∧ RankOf w' s count k w.heap.size w'.heap.size :=
  (newRank_any w count s hs G 0 n cap zs hG h0 hn hc).mono fun e w' ⟨he, hb, E1, En, C1, Cn, ⟨l1, l2, l3, l4, l5⟩, hr⟩ => ⟨he, hb, l5, E1, En, C1, Cn, n, _, _, hr, hk, l5, l1, l2, l3, l4⟩

theorem zzBefore_of (w : World) (s : Nat) (hs : s ≤ 2) (ca cb ka kb : Int) (b b' L L' : Nat) (h : RankOf w s ca ka b L) (h' : RankOf w s cb kb b' L') :
    Calls Try.prog 14 #[.pointer (some ⟨b, 19 + 3 * s, none⟩), .pointer (some ⟨b', 19 + 3 * s, none⟩)] w fun e w' => e = .returned (.bool (bef ca cb ka kb)) ∧ ∃ m, w' = w.drewN m := by
  obtain ⟨E1, En, C1, Cn, n, g1, gn, hr, rfl, _⟩ := h
  obtain ⟨E1', En', C1', Cn', n', g1', gn', hr', rfl, _⟩ := h'
  exact zzBefore_any w s hs ca cb _ _ _ _ _ _ _ _ hr _ _ _ _ _ _ _ _ hr'

/-- The array of three pointers, in block R. -/
structure Three (w : World) (R : Nat) (x y z : Value) : Prop where
  x0 : w.cell? ⟨R, 0, none⟩ = some x
  x1 : w.cell? ⟨R, 1, none⟩ = some y
  x2 : w.cell? ⟨R, 2, none⟩ = some z
  no : ∀ j, 3 ≤ j → w.cell? ⟨R, j, none⟩ = none
  fz : ∀ j, w.frozen? ⟨R, j, none⟩ = false

theorem Three.below {w w' : World} {R L : Nat} {x y z : Value} (h : Three w R x y z) (hb : Below L w w') (hR : R < L) : Three w' R x y z := by
  have e : ∀ i, w'.cell? ⟨R, i, none⟩ = w.cell? ⟨R, i, none⟩ := fun i => hb.cell (p := ⟨R, i, none⟩) hR
  have f : ∀ i, w'.frozen? ⟨R, i, none⟩ = w.frozen? ⟨R, i, none⟩ := fun i => hb.frozen (p := ⟨R, i, none⟩) hR
  exact ⟨by rw [e]; exact h.x0, by rw [e]; exact h.x1, by rw [e]; exact h.x2, fun j hj => by rw [e]; exact h.no j hj, fun j => by rw [f]; exact h.fz j⟩
theorem Three.set0 {w : World} {R : Nat} {x y z : Value} (h : Three w R x y z) (v : Value) : Three (w.setCell ⟨R, 0, none⟩ v) R v y z :=
  ⟨by rw [cell_set, if_pos ⟨rfl, rfl⟩, h.x0]; rfl, by rw [cell_set, if_neg (by omega)]; exact h.x1, by rw [cell_set, if_neg (by omega)]; exact h.x2, fun j hj => by rw [cell_set, if_neg (by omega)]; exact h.no j hj, fun j => by rw [World.frozen?_setCell]; exact h.fz j⟩
theorem Three.set1 {w : World} {R : Nat} {x y z : Value} (h : Three w R x y z) (v : Value) : Three (w.setCell ⟨R, 1, none⟩ v) R x v z :=
  ⟨by rw [cell_set, if_neg (by omega)]; exact h.x0, by rw [cell_set, if_pos ⟨rfl, rfl⟩, h.x1]; rfl, by rw [cell_set, if_neg (by omega)]; exact h.x2, fun j hj => by rw [cell_set, if_neg (by omega)]; exact h.no j hj, fun j => by rw [World.frozen?_setCell]; exact h.fz j⟩
theorem Three.set2 {w : World} {R : Nat} {x y z : Value} (h : Three w R x y z) (v : Value) : Three (w.setCell ⟨R, 2, none⟩ v) R x y v :=
  ⟨by rw [cell_set, if_neg (by omega)]; exact h.x0, by rw [cell_set, if_neg (by omega)]; exact h.x1, by rw [cell_set, if_pos ⟨rfl, rfl⟩, h.x2]; rfl, fun j hj => by rw [cell_set, if_neg (by omega)]; exact h.no j hj, fun j => by rw [World.frozen?_setCell]; exact h.fz j⟩

/-- The row of numbers at block G. -/
def RowOf (w : World) (G n : Nat) (zs : List Int) : Prop := ∀ i, i < n → w.cell? ⟨G, 0 + i, none⟩ = some (.int .u64 (zs.getD i 0))
theorem RowOf.below {w w' : World} {G n L : Nat} {zs : List Int} (h : RowOf w G n zs) (hb : Below L w w') (hG : G < L) : RowOf w' G n zs := fun i hi => by
  rw [hb.cell (p := ⟨G, 0 + i, none⟩) hG]; exact h i hi

/-- One of three. -/
def tri {α : Type} (x y z : α) (i : Nat) : α := if i = 0 then x else if i = 1 then y else z

/-- The array m, in block M: its cells; of the first t it is known what they hold. -/
structure MAt (W : World) (M : Nat) (val : Nat → Nat → Bool) (t : Nat) : Prop where
  has : ∀ k, k < 9 → ∃ b, W.cell? ⟨M, k, none⟩ = some (.bool b)
  done : ∀ k, k < t → k < 9 → W.cell? ⟨M, k, none⟩ = some (.bool (val (k / 3) (k % 3)))
  fz : ∀ k, W.frozen? ⟨M, k, none⟩ = false

theorem MAt.step {W : World} {M : Nat} {val : Nat → Nat → Bool} {i j : Nat} (hj : j < 3) (h : MAt W M val (3 * i + j)) (q : Nat) : MAt ((W.drewN q).setCell ⟨M, i * 3 + j, none⟩ (.bool (val i j))) M val (3 * i + (j + 1)) := by
  refine ⟨fun k hk => ?_, fun k hk hk9 => ?_, fun k => by rw [World.frozen?_setCell]; exact h.fz k⟩
  · obtain ⟨b, hb⟩ := h.has k hk
    rw [cell_set]
    split
    · exact ⟨_, by rw [World.cell?_drewN, hb]; rfl⟩
    · exact ⟨b, hb⟩
  · rw [cell_set]
    obtain ⟨b, hb⟩ := h.has k hk9
    by_cases he : k = 3 * i + j
    · subst he
      rw [if_pos ⟨rfl, by omega⟩, World.cell?_drewN, hb]
      simp only [Option.map_some]
      rw [show (3 * i + j) / 3 = i from by omega, show (3 * i + j) % 3 = j from by omega]
    · rw [if_neg (by omega)]
      exact h.done k (by omega) hk9

theorem MAt.at {W : World} {M : Nat} {val : Nat → Nat → Bool} (h : MAt W M val 9) {i j : Nat} (hi : i < 3) (hj : j < 3) : W.cell? ⟨M, i * 3 + j, none⟩ = some (.bool (val i j)) := by
  have := h.done (i * 3 + j) (by omega) (by omega)
  rwa [show (i * 3 + j) / 3 = i from by omega, show (i * 3 + j) % 3 = j from by omega] at this

/-- What the loops read. -/
structure Held (W : World) (s : Nat) (R C M : Nat) (cnt key : Nat → Int) (bk : Nat → Nat) : Prop where
  hR : R < M
  hC : C < M
  rs : ∀ i, i < 3 → W.cell? ⟨R, i, none⟩ = some (.pointer (some ⟨bk i, 19 + 3 * s, none⟩))
  cn : ∀ i, i < 3 → W.cell? ⟨C, i, none⟩ = some (.int .i64 (cnt i))
  rk : ∀ i, i < 3 → RankOf W s (cnt i) (key i) (bk i) M

theorem Held.below {W W' : World} {s R C M : Nat} {cnt key : Nat → Int} {bk : Nat → Nat} (h : Held W s R C M cnt key bk) (hb : Below M W W') : Held W' s R C M cnt key bk :=
  ⟨h.hR, h.hC, fun i hi => by rw [hb.cell (p := ⟨R, i, none⟩) h.hR]; exact h.rs i hi, fun i hi => by rw [hb.cell (p := ⟨C, i, none⟩) h.hC]; exact h.cn i hi, fun i hi => (h.rk i hi).below hb (Nat.le_refl _) (Nat.le_refl _)⟩

/-! ### The plain law: 'bef' is a strict order, and more connections come first -/
theorem bef_irr (c k : Int) : bef c c k k = false := by simp [bef]
theorem bef_anti {c c' k k' : Int} (h : bef c c' k k' = true) : bef c' c k' k = false := by
  unfold bef at *
  split at h <;> split <;> simp_all <;> omega
theorem bef_more {c c' k k' : Int} (h : c' < c) : bef c c' k k' = true := by
  unfold bef
  rw [if_neg (by omega)]
  simpa using h
theorem bef_trans {c c' c'' k k' k'' : Int} (h : bef c c' k k' = true) (h' : bef c' c'' k' k'' = true) : bef c c'' k k'' = true := by
  unfold bef at *
  split at h <;> split at h' <;> split <;> simp_all <;> omega

set_option maxHeartbeats 2000000 in
set_option maxRecDepth 100000 in
theorem law6_main (ca cb cc : Int) (s : Nat) (hs : s ≤ 2) (b off b' off' b'' off'' : Nat) (n c n' c' n'' c'' : Nat) (zs zs' zs'' : List Int) (w : World) (hn : n + n' + n'' ≤ 131072) (h0 : 0 < n) (h0' : 0 < n') (h0'' : 0 < n'')
    (hb : b < w.heap.size) (hb' : b' < w.heap.size) (hb'' : b'' < w.heap.size)
    (hc : ∀ i, i < n → w.cell? ⟨b, off + i, none⟩ = some (.int .u64 (zs.getD i 0))) (hc' : ∀ i, i < n' → w.cell? ⟨b', off' + i, none⟩ = some (.int .u64 (zs'.getD i 0))) (hc'' : ∀ i, i < n'' → w.cell? ⟨b'', off'' + i, none⟩ = some (.int .u64 (zs''.getD i 0))) :
    Calls Try.prog 6 #[.int .i64 ca, .int .i64 cb, .int .i64 cc, .int .i64 s, .slice (some ⟨b, off, none⟩) n c, .slice (some ⟨b', off', none⟩) n' c', .slice (some ⟨b'', off'', none⟩) n'' c''] w fun e w' => e = .returned (.bool true) ∧ Below w.heap.size w w' := by
  have H : Hid (∀ i, i < n → w.cell? ⟨b, off + i, none⟩ = some (.int .u64 (zs.getD i 0))) := hc
  have H' : Hid (∀ i, i < n' → w.cell? ⟨b', off' + i, none⟩ = some (.int .u64 (zs'.getD i 0))) := hc'
  have H'' : Hid (∀ i, i < n'' → w.cell? ⟨b'', off'' + i, none⟩ = some (.int .u64 (zs''.getD i 0))) := hc''
  have hcp1 : ∀ q, (Builtin.copy_ #[26, 26] 3 #[.slice (some ⟨w.heap.size, 0, none⟩) n n, .slice (some ⟨b, off, none⟩) n c]).run Try.prog ((w.drewN q).alloc (.cells (blank n) 31)) = .ok (.int .i64 n) ((w.drewN q).alloc (.cells (vals zs n) 31)) := fun q => copy26 (w.drewN q) b off n c zs hb hc
  have hcp2 : ∀ q, (Builtin.copy_ #[26, 26] 3 #[.slice (some ⟨w.heap.size + 1, 0, none⟩) n' n', .slice (some ⟨b', off', none⟩) n' c']).run Try.prog (((w.drewN q).alloc (.cells (vals zs n) 31)).alloc (.cells (blank n') 31)) = .ok (.int .i64 n') (((w.drewN q).alloc (.cells (vals zs n) 31)).alloc (.cells (vals zs' n') 31)) := fun q => by
    have h := copy26 ((w.drewN q).alloc (.cells (vals zs n) 31)) b' off' n' c' zs' (by simp; omega) (fun i hi => by rw [World.cell?_alloc_lt _ _ _ (by simpa using hb')]; exact hc' i hi)
    simpa using h
  have hcp3 : ∀ q, (Builtin.copy_ #[26, 26] 3 #[.slice (some ⟨w.heap.size + 1 + 1, 0, none⟩) n'' n'', .slice (some ⟨b'', off'', none⟩) n'' c'']).run Try.prog ((((w.drewN q).alloc (.cells (vals zs n) 31)).alloc (.cells (vals zs' n') 31)).alloc (.cells (blank n'') 31)) = .ok (.int .i64 n'') ((((w.drewN q).alloc (.cells (vals zs n) 31)).alloc (.cells (vals zs' n') 31)).alloc (.cells (vals zs'' n'') 31)) := fun q => by
    have h := copy26 (((w.drewN q).alloc (.cells (vals zs n) 31)).alloc (.cells (vals zs' n') 31)) b'' off'' n'' c'' zs'' (by simp; omega) (fun i hi => by rw [World.cell?_alloc_lt _ _ _ (by simp; omega), World.cell?_alloc_lt _ _ _ (by simpa using hb'')]; exact hc'' i hi)
    simpa using h
  clear hc hc' hc''
  have hm1 := make26 n (by omega)
  have hm2 := make26 n' (by omega)
  have hm3 := make26 n'' (by omega)
  have hd1 : decide ((131072 : Int) < n) = false := decide_eq_false (by omega)
  have hd2 : decide ((131072 : Int) < n') = false := decide_eq_false (by omega)
  have hd2' : decide ((131072 : Int) < n'') = false := decide_eq_false (by omega)
  have hd2'' : decide ((131072 : Int) < (n : Int) + n' + n'') = false := decide_eq_false (by omega)
  have hd3 : decide ((s : Int) < 0) = false := decide_eq_false (by omega)
  have hd4 : decide ((2 : Int) < s) = false := decide_eq_false (by omega)
  go_enter Try.func6, Try.ntmps6
  go_wp2_with fail
  refine (bytes6_any w ca cb cc s _ _ _ n c n' c' n'' c'' (by unfold maxLen; omega) (by unfold maxLen; omega) (by unfold maxLen; omega)).mono ?_
  rintro e w' ⟨⟨r, rfl, hr⟩, rfl⟩
  cases r with
  | false =>
    go_wp2
    go_ret
    exact ⟨rfl, Below.refl _ _⟩
  | true =>
    clear hr
    go_wp2_with fail
    refine (rankOK_any _ ca b off n c zs (by omega) (by exact H.out)).mono ?_
    rintro e w1 ⟨⟨r, rfl, hr⟩, m, rfl⟩
    cases r with
    | false =>
      go_wp2
      go_ret
      exact ⟨rfl, below_drewN _ _ _⟩
    | true =>
      clear hr
      go_wp2_with fail
      refine (rankOK_any _ cb b' off' n' c' zs' (by omega) (by exact H'.out)).mono ?_
      rintro e w1 ⟨⟨r, rfl, hr⟩, m', rfl⟩
      cases r with
      | false =>
        go_wp2
        go_ret
        exact ⟨rfl, below_drewN _ _ _⟩
      | true =>
        clear hr
        go_wp2_with fail
        refine (rankOK_any _ cc b'' off'' n'' c'' zs'' (by omega) (by exact H''.out)).mono ?_
        rintro e w1 ⟨⟨r, rfl, hr⟩, m'', rfl⟩
        cases r with
        | false =>
          go_wp2
          go_ret
          exact ⟨rfl, below_drewN _ _ _⟩
        | true =>
          clear hr
          go_wp2_with fail
          obtain ⟨W0, hW0⟩ : ∃ W0, W0 = (((((w'.drewN (m + m' + m'')).alloc (.cells (vals zs n) 31)).alloc (.cells (vals zs' n') 31)).alloc (.cells (vals zs'' n'') 31)).alloc (.cells #[Value.pointer none, Value.pointer none, Value.pointer none] 35)) := ⟨_, rfl⟩
          rw [← hW0]
          have s0 : W0.heap.size = w'.heap.size + 4 := by rw [hW0]; simp
          have B0 : Hid (Below w'.heap.size w' W0) := by
            rw [hW0]
            exact ((((below_drewN _ _ _).alloc (Nat.le_refl _) _).alloc (by simp) _).alloc (by simp; omega) _).alloc (by simp; omega) _
          have F1 : Hid (RowOf W0 w'.heap.size n zs) := fun i hi => by
            rw [hW0, cell_alloc, if_neg (by simp; omega), cell_alloc, if_neg (by simp; omega), cell_alloc, if_neg (by simp), cell_alloc, if_pos (by simp), Nat.zero_add]
            exact vals_at zs n i hi
          have F2 : Hid (RowOf W0 (w'.heap.size + 1) n' zs') := fun i hi => by
            rw [hW0, cell_alloc, if_neg (by simp), cell_alloc, if_neg (by simp), cell_alloc, if_pos (by simp), Nat.zero_add]
            exact vals_at zs' n' i hi
          have F3 : Hid (RowOf W0 (w'.heap.size + 1 + 1) n'' zs'') := fun i hi => by
            rw [hW0, cell_alloc, if_neg (by simp), cell_alloc, if_pos (by simp), Nat.zero_add]
            exact vals_at zs'' n'' i hi
          have T0 : Hid (Three W0 (w'.heap.size + 1 + 1 + 1) (.pointer none) (.pointer none) (.pointer none)) := by
            rw [hW0]
            refine ⟨?_, ?_, ?_, fun j hj => ?_, fun j => ?_⟩
            · rw [cell_alloc, if_pos (by simp)]; rfl
            · rw [cell_alloc, if_pos (by simp)]; rfl
            · rw [cell_alloc, if_pos (by simp)]; rfl
            · rw [cell_alloc, if_pos (by simp)]; exact Array.getElem?_eq_none (by simpa using hj)
            · rw [frozen?_alloc_cells]; exact frozen_out _ _ _ (by simp)
          have hl0 : w'.heap.size + 1 + 1 + 1 < W0.heap.size := by omega
          clear hW0 s0 hcp1 hcp2 hcp3 hm1 hm2 hm3 hd1 hd2 hd2' hd2'' hd3 hd4 H H' H''
          obtain ⟨k1, hk1⟩ : ∃ k, gOf s (zs.getD 0 0) (zs.getD (n - 1) 0) = k := ⟨_, rfl⟩
          obtain ⟨k2, hk2⟩ : ∃ k, gOf s (zs'.getD 0 0) (zs'.getD (n' - 1) 0) = k := ⟨_, rfl⟩
          obtain ⟨k3, hk3⟩ : ∃ k, gOf s (zs''.getD 0 0) (zs''.getD (n'' - 1) 0) = k := ⟨_, rfl⟩
          have K2 : Hid (gOf s (zs'.getD 0 0) (zs'.getD (n' - 1) 0) = k2) := hk2
          have K3 : Hid (gOf s (zs''.getD 0 0) (zs''.getD (n'' - 1) 0) = k3) := hk3
          clear hk2 hk3
          refine (newRank_of W0 ca s hs w'.heap.size n n zs (by omega) h0 (by omega) F1.out k1 hk1).mono ?_
          rintro e w1 ⟨rfl, b1, l1, R1⟩
          clear hk1
          have T1 := T0.out.below b1 hl0
          have F2a : Hid (RowOf w1 (w'.heap.size + 1) n' zs') := F2.out.below b1 (by omega)
          have F3a : Hid (RowOf w1 (w'.heap.size + 1 + 1) n'' zs'') := F3.out.below b1 (by omega)
          have Ba : Hid (Below (w'.heap.size + 3) W0 w1) := b1.mono (by omega)
          have c1 := T1.x0
          have z1 := T1.fz 0
          have HT1 : Hid (Three w1 (w'.heap.size + 1 + 1 + 1) (.pointer none) (.pointer none) (.pointer none)) := T1
          have HR1 : Hid (RankOf w1 s ca k1 W0.heap.size w1.heap.size) := R1
          clear T1 R1 b1 T0 F1 F2 F3
          go_wp2_with fail
          obtain ⟨V1, hV1⟩ : ∃ V, V = w1.setCell ⟨w'.heap.size + 1 + 1 + 1, 0, none⟩ (.pointer (some ⟨W0.heap.size, 19 + 3 * s, none⟩)) := ⟨_, rfl⟩
          rw [← hV1]
          have sV1 : V1.heap.size = w1.heap.size := by rw [hV1, World.size_setCell]
          have T1 : Three V1 (w'.heap.size + 1 + 1 + 1) (.pointer (some ⟨W0.heap.size, 19 + 3 * s, none⟩)) (.pointer none) (.pointer none) := by rw [hV1]; exact HT1.out.set0 _
          have bV1 : Below (w'.heap.size + 3) w1 V1 := by rw [hV1]; exact (Below.refl _ _).setCell (by show w'.heap.size + 3 ≤ w'.heap.size + 1 + 1 + 1; omega) _
          have R1 : RankOf V1 s ca k1 W0.heap.size V1.heap.size := by rw [sV1, hV1]; exact HR1.out.set HT1.out.no
          have F2b := F2a.out.below bV1 (by omega)
          have F3b := F3a.out.below bV1 (by omega)
          have Bb : Hid (Below (w'.heap.size + 3) W0 V1) := Ba.out.trans bV1
          have lV1 : w'.heap.size + 1 + 1 + 1 < V1.heap.size := by omega
          have lW1 : W0.heap.size < V1.heap.size := by omega
          clear hV1 sV1 HT1 bV1 HR1 F2a F3a Ba c1 z1
          refine (newRank_of V1 cb s hs (w'.heap.size + 1) n' n' zs' (by omega) h0' (by omega) F2b k2 K2.out).mono ?_
          rintro e w2 ⟨rfl, b2, l2, R2⟩
          have T2 := T1.below b2 lV1
          have F3c : Hid (RowOf w2 (w'.heap.size + 1 + 1) n'' zs'') := F3b.below b2 (by omega)
          have Bc : Hid (Below (w'.heap.size + 3) W0 w2) := Bb.out.trans (b2.mono (by omega))
          have c1 := T2.x1
          have z1 := T2.fz 1
          have HT2 : Hid (Three w2 (w'.heap.size + 1 + 1 + 1) (.pointer (some ⟨W0.heap.size, 19 + 3 * s, none⟩)) (.pointer none) (.pointer none)) := T2
          have HR1 : Hid (RankOf w2 s ca k1 W0.heap.size w2.heap.size) := R1.below b2 (Nat.le_refl _) (by omega)
          have HR2 : Hid (RankOf w2 s cb k2 V1.heap.size w2.heap.size) := R2
          clear T1 T2 R1 R2 b2 F2b F3b Bb K2
          go_wp2_with fail
          obtain ⟨V2, hV2⟩ : ∃ V, V = w2.setCell ⟨w'.heap.size + 1 + 1 + 1, 1, none⟩ (.pointer (some ⟨V1.heap.size, 19 + 3 * s, none⟩)) := ⟨_, rfl⟩
          rw [← hV2]
          have sV2 : V2.heap.size = w2.heap.size := by rw [hV2, World.size_setCell]
          have T2 : Three V2 (w'.heap.size + 1 + 1 + 1) (.pointer (some ⟨W0.heap.size, 19 + 3 * s, none⟩)) (.pointer (some ⟨V1.heap.size, 19 + 3 * s, none⟩)) (.pointer none) := by rw [hV2]; exact HT2.out.set1 _
          have bV2 : Below (w'.heap.size + 3) w2 V2 := by rw [hV2]; exact (Below.refl _ _).setCell (by show w'.heap.size + 3 ≤ w'.heap.size + 1 + 1 + 1; omega) _
          have R1 : RankOf V2 s ca k1 W0.heap.size V2.heap.size := by rw [sV2, hV2]; exact HR1.out.set HT2.out.no
          have R2 : RankOf V2 s cb k2 V1.heap.size V2.heap.size := by rw [sV2, hV2]; exact HR2.out.set HT2.out.no
          have F3d := F3c.out.below bV2 (by omega)
          have Bd : Hid (Below (w'.heap.size + 3) W0 V2) := Bc.out.trans bV2
          have lV2 : w'.heap.size + 1 + 1 + 1 < V2.heap.size := by omega
          have lW2 : V1.heap.size < V2.heap.size := by omega
          clear hV2 sV2 HT2 bV2 HR1 HR2 F3c Bc c1 z1
          refine (newRank_of V2 cc s hs (w'.heap.size + 1 + 1) n'' n'' zs'' (by omega) h0'' (by omega) F3d k3 K3.out).mono ?_
          rintro e w3 ⟨rfl, b3, l3, R3⟩
          have T3 := T2.below b3 lV2
          have Be : Hid (Below (w'.heap.size + 3) W0 w3) := Bd.out.trans (b3.mono (by omega))
          have c1 := T3.x2
          have z1 := T3.fz 2
          have HT3 : Hid (Three w3 (w'.heap.size + 1 + 1 + 1) (.pointer (some ⟨W0.heap.size, 19 + 3 * s, none⟩)) (.pointer (some ⟨V1.heap.size, 19 + 3 * s, none⟩)) (.pointer none)) := T3
          have HR1 : Hid (RankOf w3 s ca k1 W0.heap.size w3.heap.size) := R1.below b3 (Nat.le_refl _) (by omega)
          have HR2 : Hid (RankOf w3 s cb k2 V1.heap.size w3.heap.size) := R2.below b3 (Nat.le_refl _) (by omega)
          have HR3 : Hid (RankOf w3 s cc k3 V2.heap.size w3.heap.size) := R3
          clear T2 T3 R1 R2 R3 b3 F3d Bd K3
          go_wp2_with fail
          obtain ⟨W9, hW9⟩ : ∃ V, V = ((w3.setCell ⟨w'.heap.size + 1 + 1 + 1, 2, none⟩ (.pointer (some ⟨V2.heap.size, 19 + 3 * s, none⟩))).alloc (Obj.cells #[Value.int IntKind.i64 ca, Value.int IntKind.i64 cb, Value.int IntKind.i64 cc] 36)).alloc (Obj.cells #[Value.bool false, Value.bool false, Value.bool false, Value.bool false, Value.bool false, Value.bool false, Value.bool false, Value.bool false, Value.bool false] 38) := ⟨_, rfl⟩
          rw [← hW9]
          obtain ⟨V3, hV3⟩ : ∃ V, V = w3.setCell ⟨w'.heap.size + 1 + 1 + 1, 2, none⟩ (.pointer (some ⟨V2.heap.size, 19 + 3 * s, none⟩)) := ⟨_, rfl⟩
          rw [← hV3] at hW9
          have sV3 : V3.heap.size = w3.heap.size := by rw [hV3, World.size_setCell]
          have T3 : Three V3 (w'.heap.size + 1 + 1 + 1) (.pointer (some ⟨W0.heap.size, 19 + 3 * s, none⟩)) (.pointer (some ⟨V1.heap.size, 19 + 3 * s, none⟩)) (.pointer (some ⟨V2.heap.size, 19 + 3 * s, none⟩)) := by rw [hV3]; exact HT3.out.set2 _
          have bV3 : Below (w'.heap.size + 3) w3 V3 := by rw [hV3]; exact (Below.refl _ _).setCell (by show w'.heap.size + 3 ≤ w'.heap.size + 1 + 1 + 1; omega) _
          have R1 : RankOf V3 s ca k1 W0.heap.size V3.heap.size := by rw [sV3, hV3]; exact HR1.out.set HT3.out.no
          have R2 : RankOf V3 s cb k2 V1.heap.size V3.heap.size := by rw [sV3, hV3]; exact HR2.out.set HT3.out.no
          have R3 : RankOf V3 s cc k3 V2.heap.size V3.heap.size := by rw [sV3, hV3]; exact HR3.out.set HT3.out.no
          have b9 : Below V3.heap.size V3 W9 := by rw [hW9]; exact ((Below.refl _ _).alloc (Nat.le_refl _) _).alloc (by simp) _
          have T9 := T3.below b9 (by omega)
          have BB : Hid (Below w'.heap.size w' W9) := (B0.out.trans ((Be.out.trans bV3).mono (by omega))).trans (b9.mono (by omega))
          have HH : Hid (Held W9 s (w'.heap.size + 1 + 1 + 1) w3.heap.size (w3.heap.size + 1) (tri ca cb cc) (tri k1 k2 k3) (tri W0.heap.size V1.heap.size V2.heap.size)) := by
            refine ⟨by omega, by omega, fun i hi => ?_, fun i hi => ?_, fun i hi => ?_⟩
            · obtain rfl | rfl | rfl : i = 0 ∨ i = 1 ∨ i = 2 := by omega
              · exact T9.x0
              · exact T9.x1
              · exact T9.x2
            · rw [hW9, cell_alloc, if_neg (by simp; omega), cell_alloc, if_pos (by omega)]
              obtain rfl | rfl | rfl : i = 0 ∨ i = 1 ∨ i = 2 := by omega
              all_goals rfl
            · obtain rfl | rfl | rfl : i = 0 ∨ i = 1 ∨ i = 2 := by omega
              · exact R1.below b9 (Nat.le_refl _) (by omega)
              · exact R2.below b9 (Nat.le_refl _) (by omega)
              · exact R3.below b9 (Nat.le_refl _) (by omega)
          have HM : Hid (MAt W9 (w3.heap.size + 1) (fun i j => bef (tri ca cb cc i) (tri ca cb cc j) (tri k1 k2 k3 i) (tri k1 k2 k3 j)) 0) := by
            rw [hW9]
            refine ⟨fun k hk => ⟨false, ?_⟩, fun k hk => by omega, fun k => ?_⟩
            · rw [cell_alloc, if_pos (by simp; omega)]
              obtain rfl | rfl | rfl | rfl | rfl | rfl | rfl | rfl | rfl : k = 0 ∨ k = 1 ∨ k = 2 ∨ k = 3 ∨ k = 4 ∨ k = 5 ∨ k = 6 ∨ k = 7 ∨ k = 8 := by omega
              all_goals rfl
            · rw [frozen?_alloc_cells]; exact frozen_out _ _ _ (by simp; omega)
          clear hW9 hV3 sV3 HT3 T3 T9 bV3 HR1 HR2 HR3 R1 R2 R3 b9 c1 z1 Be B0
          have hMs : w'.heap.size ≤ w3.heap.size + 1 := by omega
          have hsz : Hid (w'.heap.size ≤ w3.heap.size + 1) := hMs
          clear hl0 lV1 lW1 lV2 lW2 l1 l2 l3 hMs
          generalize tri W0.heap.size V1.heap.size V2.heap.size = bk at *
          generalize w3.heap.size + 1 = M at *
          generalize w3.heap.size = C at *
          generalize hRb : w'.heap.size + 1 + 1 + 1 = R at *
          clear hRb
          generalize hval : (fun i j => bef (tri ca cb cc i) (tri ca cb cc j) (tri k1 k2 k3 i) (tri k1 k2 k3 j)) = val at *
          have HV : Hid (val = fun i j => bef (tri ca cb cc i) (tri ca cb cc j) (tri k1 k2 k3 i) (tri k1 k2 k3 j)) := hval.symm
          clear hval
          go_loopw [21] (fun v wr => ∃ i : Nat, i ≤ 3 ∧ v = .int .i64 i ∧ Below M W9 wr ∧ MAt wr M val (3 * i)) (fun v _ => 3 - (intOf v).toNat)
          case atStart => exact ⟨0, by omega, rfl, Below.refl _ _, HM.out⟩
          case round =>
            obtain ⟨i, hi, rfl, hbel, hmat⟩ := hrel
            have HB9 : Hid (Below M W9 wr) := hbel
            have HMt : Hid (MAt wr M val (3 * i)) := hmat
            clear hbel hmat
            by_cases hi3 : i < 3
            · have hi3' : (i : Int) < 3 := by omega
              go_wp2_with fail
              go_loopw [22] (fun v wr2 => ∃ j : Nat, j ≤ 3 ∧ v = .int .i64 j ∧ Below M W9 wr2 ∧ MAt wr2 M val (3 * i + j)) (fun v _ => 3 - (intOf v).toNat)
              case atStart => exact ⟨0, by omega, rfl, HB9.out, HMt.out⟩
              case round =>
                obtain ⟨j, hj, rfl, hbel, hmat⟩ := hrel
                have HB2 : Hid (Below M W9 wr) := hbel
                have HMt2 : Hid (MAt wr M val (3 * i + j)) := hmat
                clear hbel hmat
                by_cases hj3 : j < 3
                · have hj3' : (j : Int) < 3 := by omega
                  have hj0' : (0 : Int) ≤ (j : Int) := by omega
                  have hi0' : (0 : Int) ≤ (i : Int) := by omega
                  have hh := HH.out.below HB2.out
                  have hRM := hh.hR
                  have r1 := hh.rs i hi3
                  have r2 := hh.rs j hj3
                  obtain ⟨bb, m1⟩ := HMt2.out.has (i * 3 + j) (by omega)
                  have m2 := HMt2.out.fz (i * 3 + j)
                  have CT : Hid (∀ q, Calls Try.prog 14 #[.pointer (some ⟨bk i, 19 + 3 * s, none⟩), .pointer (some ⟨bk j, 19 + 3 * s, none⟩)] (wr.drewN q) fun e w' => e = .returned (.bool (val i j)) ∧ ∃ m, w' = (wr.drewN q).drewN m) := fun q => by
                    rw [HV.out]
                    exact zzBefore_of (wr.drewN q) s hs _ _ _ _ _ _ M M ((hh.rk i hi3).below (below_drewN M _ _) (Nat.le_refl _) (Nat.le_refl _)) ((hh.rk j hj3).below (below_drewN M _ _) (Nat.le_refl _) (Nat.le_refl _))
                  clear hh
                  generalize hBi : bk i = Bi at *
                  generalize hBj : bk j = Bj at *
                  generalize hvij : val i j = vij at *
                  generalize 19 + 3 * s = off19 at *
                  have HVij : Hid (val i j = vij) := hvij
                  clear hBi hBj hvij
                  go_wp2_with fail
                  go_region_held3 (fun W => W.cell? ⟨R, i, none⟩ = some (.pointer (some ⟨Bi, off19, none⟩)) ∧ W.cell? ⟨R, j, none⟩ = some (.pointer (some ⟨Bj, off19, none⟩))) (first | go_keep | (refine ⟨?_, ?_⟩ <;> (rw [cell_set, if_neg (by omega)]; first | exact r1 | exact r2)))
                    (first | (go_at_call 14; refine (CT.out _).mono ?_; rintro e w' ⟨rfl, m, rfl⟩))
                  go_wp2
                  go_roundw
                  case rel =>
                    refine ⟨j + 1, by omega, by go_num, ?_, ?_⟩
                    · exact (HB2.out.trans (below_drewN _ _ _)).setCell (Nat.le_refl _) _
                    · have := HMt2.out.step (val := val) hj3
                      rw [HVij.out] at this
                      exact this _
                  case measure => simp [intOf]; omega
                · have hj33 : j = 3 := by omega
                  subst hj33
                  go_wp2
                  go_roundw
                  case rel => exact ⟨i + 1, by omega, by go_num, HB2.out, HMt2.out⟩
                  case measure => simp [intOf]; omega
            · have hnot : ¬ (i : Int) < 3 := by omega
              have M9 : Hid (∀ i j, i < 3 → j < 3 → wr.cell? ⟨M, i * 3 + j, none⟩ = some (.bool (val i j))) := by
                have h9 := HMt.out
                rw [show 3 * i = 9 from by omega] at h9
                exact fun i j hi hj => h9.at hi hj
              have hh := HH.out.below HB9.out
              have CN : Hid (∀ i, i < 3 → wr.cell? ⟨C, i, none⟩ = some (.int .i64 (tri ca cb cc i))) := hh.cn
              have Bw : Hid (Below w'.heap.size w' wr) := BB.out.trans (HB9.out.mono hsz.out)
              clear hh HH HB9 HMt BB hsz HM
              have v1 : Hid (∀ i, val i i = false) := fun i => by rw [HV.out]; exact bef_irr _ _
              have v2 : Hid (∀ i j, val i j = true → val j i = false) := fun i j => by rw [HV.out]; exact bef_anti
              have v3 : Hid (∀ i j, tri ca cb cc j < tri ca cb cc i → val i j = true) := fun i j => by rw [HV.out]; exact bef_more
              have v4 : Hid (∀ i j k, val i j = true → val j k = true → val i k = true) := fun i j k => by rw [HV.out]; exact bef_trans
              clear HV hi3
              generalize tri ca cb cc = cnt at *
              generalize wr = Wf at *
              go_wp2_with fail
              go_loopw [23] (fun v wr2 => ∃ i q : Nat, i ≤ 3 ∧ v = .int .i64 i ∧ wr2 = Wf.drewN q) (fun v _ => 3 - (intOf v).toNat)
              case atStart => exact ⟨0, 0, by omega, rfl, rfl⟩
              case round =>
                obtain ⟨i, q, hi, rfl, rfl⟩ := hrel
                by_cases hi3 : i < 3
                · have hi3' : (i : Int) < 3 := by omega
                  have mii := M9.out i i hi3 hi3
                  rw [v1.out i] at mii
                  have ci := CN.out i hi3
                  go_wp2_with fail
                  go_loopw [24] (fun v wr2 => ∃ j q : Nat, j ≤ 3 ∧ v = .int .i64 j ∧ wr2 = Wf.drewN q) (fun v _ => 3 - (intOf v).toNat)
                  case atStart => exact ⟨0, q, by omega, rfl, rfl⟩
                  case round =>
                    clear mii
                    obtain ⟨j, q2, hj, rfl, rfl⟩ := hrel
                    by_cases hj3 : j < 3
                    · have hj3' : (j : Int) < 3 := by omega
                      have mij := M9.out i j hi3 hj3
                      have mji := M9.out j i hj3 hi3
                      have cj := CN.out j hj3
                      by_cases hv : val i j = true
                      · rw [hv] at mij
                        rw [v2.out i j hv] at mji
                        have HVT : Hid (val i j = true) := hv
                        clear hv
                        generalize cnt i = x at *
                        generalize cnt j = y at *
                        by_cases hxy : y < x
                        · have hd : decide (y < x) = true := decide_eq_true hxy
                          go_wp2_with fail
                          go_quiet (fail)
                          go_wp2_with fail
                          go_loopw [25] (fun v wr2 => ∃ k q : Nat, k ≤ 3 ∧ v = .int .i64 k ∧ wr2 = Wf.drewN q) (fun v _ => 3 - (intOf v).toNat)
                          case atStart => exact ⟨0, _, by omega, rfl, by first | rfl | exact World.drewN_drewN _ _ _⟩
                          case round =>
                            obtain ⟨k, q3, hk, rfl, rfl⟩ := hrel
                            clear mji ci cj hd hxy
                            by_cases hk3 : k < 3
                            · have hk3' : (k : Int) < 3 := by omega
                              have mjk := M9.out j k hj3 hk3
                              have mik := M9.out i k hi3 hk3
                              by_cases hjk : val j k = true
                              · rw [v4.out i j k HVT.out hjk] at mik
                                rw [hjk] at mjk
                                clear hjk
                                go_wp2
                                go_roundw
                                case rel => exact ⟨k + 1, q3, by omega, by go_num, rfl⟩
                                case measure => simp [intOf]; omega
                              · rw [Bool.not_eq_true] at hjk
                                rw [hjk] at mjk
                                clear hjk
                                go_wp2
                                go_roundw
                                case rel => exact ⟨k + 1, q3, by omega, by go_num, rfl⟩
                                case measure => simp [intOf]; omega
                            · have hk33 : k = 3 := by omega
                              subst hk33
                              go_wp2
                              go_roundw
                              case rel => exact ⟨j + 1, q3, by omega, by go_num, rfl⟩
                              case measure => simp [intOf]; omega
                        · have hd : decide (y < x) = false := decide_eq_false hxy
                          go_wp2_with fail
                          go_quiet (fail)
                          go_wp2_with fail
                          go_loopw [25] (fun v wr2 => ∃ k q : Nat, k ≤ 3 ∧ v = .int .i64 k ∧ wr2 = Wf.drewN q) (fun v _ => 3 - (intOf v).toNat)
                          case atStart => exact ⟨0, _, by omega, rfl, by first | rfl | exact World.drewN_drewN _ _ _⟩
                          case round =>
                            obtain ⟨k, q3, hk, rfl, rfl⟩ := hrel
                            clear mji ci cj hd hxy
                            by_cases hk3 : k < 3
                            · have hk3' : (k : Int) < 3 := by omega
                              have mjk := M9.out j k hj3 hk3
                              have mik := M9.out i k hi3 hk3
                              by_cases hjk : val j k = true
                              · rw [v4.out i j k HVT.out hjk] at mik
                                rw [hjk] at mjk
                                clear hjk
                                go_wp2
                                go_roundw
                                case rel => exact ⟨k + 1, q3, by omega, by go_num, rfl⟩
                                case measure => simp [intOf]; omega
                              · rw [Bool.not_eq_true] at hjk
                                rw [hjk] at mjk
                                clear hjk
                                go_wp2
                                go_roundw
                                case rel => exact ⟨k + 1, q3, by omega, by go_num, rfl⟩
                                case measure => simp [intOf]; omega
                            · have hk33 : k = 3 := by omega
                              subst hk33
                              go_wp2
                              go_roundw
                              case rel => exact ⟨j + 1, q3, by omega, by go_num, rfl⟩
                              case measure => simp [intOf]; omega
                      · have hxy : ¬ cnt j < cnt i := fun h => hv (v3.out i j h)
                        rw [Bool.not_eq_true] at hv
                        rw [hv] at mij
                        clear hv mji
                        generalize cnt i = x at *
                        generalize cnt j = y at *
                        have hd : decide (y < x) = false := decide_eq_false hxy
                        go_wp2_with fail
                        go_quiet (fail)
                        go_wp2_with fail
                        go_loopw [25] (fun v wr2 => ∃ k q : Nat, k ≤ 3 ∧ v = .int .i64 k ∧ wr2 = Wf.drewN q) (fun v _ => 3 - (intOf v).toNat)
                        case atStart => exact ⟨0, _, by omega, rfl, by first | rfl | exact World.drewN_drewN _ _ _⟩
                        case round =>
                          obtain ⟨k, q3, hk, rfl, rfl⟩ := hrel
                          clear ci cj hd hxy
                          by_cases hk3 : k < 3
                          · have hk3' : (k : Int) < 3 := by omega
                            go_wp2
                            go_roundw
                            case rel => exact ⟨k + 1, q3, by omega, by go_num, rfl⟩
                            case measure => simp [intOf]; omega
                          · have hk33 : k = 3 := by omega
                            subst hk33
                            go_wp2
                            go_roundw
                            case rel => exact ⟨j + 1, q3, by omega, by go_num, rfl⟩
                            case measure => simp [intOf]; omega
                    · have hj33 : j = 3 := by omega
                      subst hj33
                      go_wp2
                      go_roundw
                      case rel => exact ⟨i + 1, q2, by omega, by go_num, rfl⟩
                      case measure => simp [intOf]; omega
                · have hi33 : i = 3 := by omega
                  subst hi33
                  go_wp2
                  go_ret
                  exact ⟨rfl, Bw.out.trans (below_drewN _ _ _)⟩
end Go.Proofs.Qxb6616753a
