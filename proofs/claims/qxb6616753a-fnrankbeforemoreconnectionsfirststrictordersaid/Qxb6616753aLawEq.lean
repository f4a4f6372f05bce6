import Derived.Test.Qxb6616753aSmall
import Derived.Laws.CopyRow
import Derived.WalkSpells
namespace Go.Proofs.Qxb6616753a
open Go.ChangeShapes Go.WideShapes Go.ChangeAt Go.RowKit
set_option linter.unusedSimpArgs false
set_option linter.unusedVariables false

set_option maxHeartbeats 1000000 in
theorem rankOK_zero (w : World) (count : Int) (a : Option Addr) (cap : Nat) :
    Calls Try.prog 11 #[.int .i64 count, .slice a 0 cap] w fun e w' => e = .returned (.bool false) ∧ w' = w := by
  go_enter Try.func11, Try.ntmps11
  go_wp2
  go_ret
  exact ⟨rfl, rfl⟩

/-- A slice of uint64 that may be empty, nil or not. -/
def RowAt (w : World) (a : Option Addr) (n : Nat) (zs : List Int) : Prop :=
  n = 0 ∨ ∃ b off, a = some ⟨b, off, none⟩ ∧ b < w.heap.size ∧ ∀ i, i < n → w.cell? ⟨b, off + i, none⟩ = some (.int .u64 (zs.getD i 0))

theorem rankOK_row (w : World) (count : Int) (a : Option Addr) (n cap : Nat) (zs : List Int) (hn : n ≤ 1048576) (h : RowAt w a n zs) :
    Calls Try.prog 11 #[.int .i64 count, .slice a n cap] w fun e w' => OkRes e (0 < n ∧ (n : Int) ≤ count ∧ Inc zs n) ∧ ∃ m, w' = w.drewN m := by
  rcases h with rfl | ⟨b, off, rfl, hb, hc⟩
  · exact (rankOK_zero w count a cap).mono fun e w' ⟨he, hw⟩ => ⟨by rw [he]; exact OkRes.no, 0, hw⟩
  · exact rankOK_any w count b off n cap zs hn hc

set_option maxHeartbeats 1000000 in
theorem bytes5_any (w : World) (x y : Int) (a a' : Option Addr) (n c n' c' : Nat) (hn : n ≤ maxLen) (hn' : n' ≤ maxLen) :
    Calls Try.prog 10 #[.int .i64 x, .int .i64 y, .slice a n c, .slice a' n' c'] w fun e w' => OkRes e (n ≤ 1048576 ∧ n' ≤ 1048576) ∧ w' = w := by
  unfold maxLen at hn hn'
  go_enter Try.func10, Try.ntmps10
  go_wp2
  all_goals go_ret
  all_goals first | exact ⟨OkRes.no, rfl⟩ | exact ⟨OkRes.yes (by omega), rfl⟩

set_option maxHeartbeats 1000000 in
theorem bytes6_any (w : World) (x y z u : Int) (a a' a'' : Option Addr) (n c n' c' n'' c'' : Nat) (hn : n ≤ maxLen) (hn' : n' ≤ maxLen) (hn'' : n'' ≤ maxLen) :
    Calls Try.prog 15 #[.int .i64 x, .int .i64 y, .int .i64 z, .int .i64 u, .slice a n c, .slice a' n' c', .slice a'' n'' c''] w fun e w' => OkRes e (n ≤ 1048576 ∧ n' ≤ 1048576 ∧ n'' ≤ 1048576) ∧ w' = w := by
  unfold maxLen at hn hn' hn''
  go_enter Try.func15, Try.ntmps15
  go_wp2
  all_goals go_ret
  all_goals first | exact ⟨OkRes.no, rfl⟩ | exact ⟨OkRes.yes (by omega), rfl⟩

@[go_sem] theorem neq26 (w : World) (a : Option Addr) (l c : Nat) : (binOp .neq 26 (.slice a l c) (.slice none 0 0)).run Try.prog w = .ok (.bool (!a.isNone)) w :=
  run_neq_slice_nil_any w 26 31 a l c 0 0 Try.underlying26

/-- What 'make' lays; what 'copy' lays in its place. -/
def blank (n : Nat) : Array Value := madeCells (Value.int .u64 0).cells (n * 1)
def vals (zs : List Int) (n : Nat) : Array Value := ((List.range n).map fun i => Value.int .u64 (zs.getD i 0)).toArray

theorem info31 : ∃ i, Try.prog.info? 31 = some i ∧ i.bytes = 8 ∧ i.size = 1 ∧ i.zero = some (.int .u64 0) := by
  have h1 : (Try.prog.info? 31).map (fun i => (i.bytes, i.size)) = some (8, 1) := by kernel_rfl
  have h3 : (Try.prog.info? 31).bind (·.zero) = some (.int .u64 0) := by kernel_rfl
  cases hi : Try.prog.info? 31 with
  | none => rw [hi] at h1; cases h1
  | some i =>
    rw [hi] at h1 h3
    simp at h1 h3
    exact ⟨i, rfl, h1.1, h1.2, h3⟩

theorem make26 (n : Nat) (hn : n ≤ 1048576) (w : World) : (Instr.makeSlice 26 (.int .i64 n) (.int .i64 n)).run Try.prog w = .ok (.slice (some ⟨w.heap.size, 0, none⟩) n n) (w.alloc (.cells (blank n) 31)) := by
  obtain ⟨i, hi, hb, hs, hz⟩ := info31
  have h := run_make (P := Try.prog) w 26 31 i (.int .u64 0) Try.underlying26 hi hz .i64 .i64 n n (by omega) (by omega) (by rw [hb]; omega) (by omega)
  simp only [Int.toNat_natCast, hs] at h
  exact h

theorem size_blank (n : Nat) : (blank n).size = n := by simp [blank, size_madeCells]
theorem size_vals (zs : List Int) (n : Nat) : (vals zs n).size = n := by simp [vals]
theorem vals_at (zs : List Int) (n i : Nat) (h : i < n) : (vals zs n)[i]? = some (.int .u64 (zs.getD i 0)) := by simp [vals, h]

theorem setRow_alloc (w : World) (c c' : Array Value) (t : TypeId) : (w.alloc (.cells c t)).setRow w.heap.size c' = w.alloc (.cells c' t) := by
  unfold World.setRow World.alloc
  cases w with
  | mk heap tape drawn os output =>
    congr 1
    apply Array.ext
    · simp
    · intro k h1 h2
      simp only [Array.getElem_modify, Array.getElem_push]
      simp at h1
      by_cases hk : k < heap.size
      · have : heap.size ≠ k := by omega
        simp [hk, this]
      · have hk' : heap.size = k := by omega
        simp [hk, hk']

theorem copy26 (W : World) (b off n c : Nat) (zs : List Int) (hb : b < W.heap.size) (hc : ∀ i, i < n → W.cell? ⟨b, off + i, none⟩ = some (.int .u64 (zs.getD i 0))) :
    (Builtin.copy_ #[26, 26] 3 #[.slice (some ⟨W.heap.size, 0, none⟩) n n, .slice (some ⟨b, off, none⟩) n c]).run Try.prog (W.alloc (.cells (blank n) 31)) = .ok (.int .i64 n) (W.alloc (.cells (vals zs n) 31)) := by
  obtain ⟨i, hi, _, hs, _⟩ := info31
  have h := run_copy_row Try.prog (W.alloc (.cells (blank n) 31)) 26 26 3 31 W.heap.size 0 n n ⟨b, off, none⟩ n c (blank n) 31 (vals zs n).toList Try.underlying26 (by rw [hi, Option.map_some, hs]) (by show (W.heap.push _)[W.heap.size]? = _; rw [Array.getElem?_push_size]) (by simp [size_vals]) (fun j v hj => ?_) (by simp [size_vals, size_blank]) (by
    intro v hv
    simp [vals] at hv
    obtain ⟨k, _, rfl⟩ := hv
    rfl)
  · have e1 : goInt ((vals zs n).toList.length : Int) = .int .i64 n := by rw [Array.length_toList, size_vals]; rfl
    rw [h, e1]
    · rw [show (Array.toList (blank n)).take 0 ++ (vals zs n).toList ++ (Array.toList (blank n)).drop (0 + (vals zs n).toList.length) = (vals zs n).toList from by simp [size_vals, size_blank]]
      rw [setRow_alloc]
  · have hjn : j < n := by
      by_cases hl : j < n
      · exact hl
      · rw [List.getElem?_eq_none (by simp [size_vals]; omega)] at hj; cases hj
    have hv : v = .int .u64 (zs.getD j 0) := by
      have := vals_at zs n j hjn
      rw [Array.getElem?_toList] at hj
      rw [this] at hj
      exact (Option.some.inj hj).symm
    subst hv
    rw [show (⟨b, off, none⟩ : Addr).add j = ⟨b, off + j, none⟩ from by unfold Addr.add; split <;> simp_all]
    rw [World.cell?_alloc_lt _ _ _ hb]
    exact hc j hjn

theorem RankAt.below {w w' : World} {s : Nat} {count : Int} {B E1 En C1 Cn L : Nat} {n g1 gn : Int} (h : RankAt w s count B E1 En C1 Cn n g1 gn) (hb : Below L w w') (l0 : B < L) (l1 : E1 < L) (l2 : En < L) (l3 : C1 < L) (l4 : Cn < L) : RankAt w' s count B E1 En C1 Cn n g1 gn := by
  have e : ∀ b i, b < L → w'.cell? ⟨b, i, none⟩ = w.cell? ⟨b, i, none⟩ := fun b i hl => hb.cell (p := ⟨b, i, none⟩) hl
  exact ⟨by rw [e _ _ l0]; exact h.cnt, by rw [e _ _ l0]; exact h.src, by rw [e _ _ l0]; exact h.std, by rw [e _ _ l0]; exact h.len, h.pos, by rw [e _ _ l0]; exact h.first, by rw [e _ _ l0]; exact h.last, by rw [e _ _ l1]; exact h.v1, by rw [e _ _ l2]; exact h.vn, by rw [e _ _ l3]; exact h.k1, by rw [e _ _ l4]; exact h.kn⟩

theorem bef_same (c x y : Int) : bef c c x y = decide (x < y) := by simp [bef]

theorem RowAt.drewN {w : World} {a : Option Addr} {n : Nat} {zs : List Int} (h : RowAt w a n zs) (m : Nat) : RowAt (w.drewN m) a n zs := h
theorem below_drewN (B : Nat) (w : World) (m : Nat) : Below B w (w.drewN m) := ⟨rfl, rfl, rfl, Nat.le_refl _, fun _ _ => rfl⟩

set_option maxHeartbeats 1000000 in
set_option maxRecDepth 100000 in
theorem law5_main (count : Int) (s : Nat) (hs : s ≤ 2) (b off b' off' : Nat) (n c n' c' : Nat) (zs zs' : List Int) (w : World) (hn : n ≤ 65536) (hn' : n' ≤ 65536) (h0 : 0 < n) (h0' : 0 < n') (hb : b < w.heap.size) (hb' : b' < w.heap.size)
    (hc : ∀ i, i < n → w.cell? ⟨b, off + i, none⟩ = some (.int .u64 (zs.getD i 0))) (hc' : ∀ i, i < n' → w.cell? ⟨b', off' + i, none⟩ = some (.int .u64 (zs'.getD i 0))) :
    Calls Try.prog 5 #[.int .i64 count, .int .i64 s, .slice (some ⟨b, off, none⟩) n c, .slice (some ⟨b', off', none⟩) n' c'] w fun e w' => e = .returned (.bool true) ∧ Below w.heap.size w w' := by
  have H : Hid (∀ i, i < n → w.cell? ⟨b, off + i, none⟩ = some (.int .u64 (zs.getD i 0))) := hc
  have H' : Hid (∀ i, i < n' → w.cell? ⟨b', off' + i, none⟩ = some (.int .u64 (zs'.getD i 0))) := hc'
  have hcp1 : ∀ q, (Builtin.copy_ #[26, 26] 3 #[.slice (some ⟨w.heap.size, 0, none⟩) n n, .slice (some ⟨b, off, none⟩) n c]).run Try.prog ((w.drewN q).alloc (.cells (blank n) 31)) = .ok (.int .i64 n) ((w.drewN q).alloc (.cells (vals zs n) 31)) := fun q => copy26 (w.drewN q) b off n c zs hb hc
  have hcp2 : ∀ q, (Builtin.copy_ #[26, 26] 3 #[.slice (some ⟨w.heap.size + 1, 0, none⟩) n' n', .slice (some ⟨b', off', none⟩) n' c']).run Try.prog (((w.drewN q).alloc (.cells (vals zs n) 31)).alloc (.cells (blank n') 31)) = .ok (.int .i64 n') (((w.drewN q).alloc (.cells (vals zs n) 31)).alloc (.cells (vals zs' n') 31)) := fun q => by
    have h := copy26 ((w.drewN q).alloc (.cells (vals zs n) 31)) b' off' n' c' zs' (by simp; omega) (fun i hi => by rw [World.cell?_alloc_lt _ _ _ (by simpa using hb')]; exact hc' i hi)
    simpa using h
  clear hc hc'
  have hm1 := make26 n (by omega)
  have hm2 := make26 n' (by omega)
  have hd1 : decide ((65536 : Int) < n) = false := by simp; omega
  have hd2 : decide ((65536 : Int) < n') = false := by simp; omega
  have hd3 : decide ((s : Int) < 0) = false := decide_eq_false (by omega)
  have hd4 : decide ((2 : Int) < s) = false := decide_eq_false (by omega)
  go_enter Try.func5, Try.ntmps5
  go_wp2_with fail
  refine (bytes5_any w count s _ _ n c n' c' (by unfold maxLen; omega) (by unfold maxLen; omega)).mono ?_
  rintro e w' ⟨⟨r, rfl, hr⟩, rfl⟩
  cases r with
  | false =>
    go_wp2
    go_ret
    exact ⟨rfl, Below.refl _ _⟩
  | true =>
    clear hr
    go_wp2_with fail
    refine (rankOK_any _ count b off n c zs (by omega) (by exact H.out)).mono ?_
    rintro e w1 ⟨⟨r, rfl, hr⟩, m, rfl⟩
    cases r with
    | false =>
      go_wp2
      go_ret
      exact ⟨rfl, below_drewN _ _ _⟩
    | true =>
      have HI : Hid (0 < n ∧ (n : Int) ≤ count ∧ Inc zs n) := hr rfl
      clear hr
      go_wp2_with fail
      refine (rankOK_any _ count b' off' n' c' zs' (by omega) (by exact H'.out)).mono ?_
      rintro e w1 ⟨⟨r, rfl, hr⟩, m', rfl⟩
      cases r with
      | false =>
        go_wp2
        go_ret
        exact ⟨rfl, below_drewN _ _ _⟩
      | true =>
        have HI' : Hid (0 < n' ∧ (n' : Int) ≤ count ∧ Inc zs' n') := hr rfl
        clear hr
        go_wp2_with fail
        obtain ⟨W0, hW0⟩ : ∃ W0, W0 = (((w'.drewN (m + m')).alloc (.cells (vals zs n) 31)).alloc (.cells (vals zs' n') 31)) := ⟨_, rfl⟩
        have s0 : W0.heap.size = w'.heap.size + 2 := by rw [hW0]; simp
        have b0 : Below w'.heap.size w' W0 := by
          rw [hW0]
          exact ((below_drewN _ _ _).alloc (Nat.le_refl _) _).alloc (by simp) _
        have F1 : ∀ i, i < n → W0.cell? ⟨w'.heap.size, 0 + i, none⟩ = some (.int .u64 (zs.getD i 0)) := fun i hi => by
          rw [hW0, cell_alloc, if_neg (by simp), cell_alloc, if_pos (by simp), Nat.zero_add]
          exact vals_at zs n i hi
        have F2 : ∀ i, i < n' → W0.cell? ⟨w'.heap.size + 1, 0 + i, none⟩ = some (.int .u64 (zs'.getD i 0)) := fun i hi => by
          rw [hW0, cell_alloc, if_pos (by simp), Nat.zero_add]
          exact vals_at zs' n' i hi
        rw [← hW0]
        clear hW0 hcp1 hcp2 hm1 hm2 hd1 hd2 hd3 hd4
        have HF1 : Hid (∀ i, i < n → W0.cell? ⟨w'.heap.size, 0 + i, none⟩ = some (.int .u64 (zs.getD i 0))) := F1
        have HF2 : Hid (∀ i, i < n' → W0.cell? ⟨w'.heap.size + 1, 0 + i, none⟩ = some (.int .u64 (zs'.getD i 0))) := F2
        clear F1 F2
        have hl0 : w'.heap.size + 1 < W0.heap.size := by omega
        have HS : Hid (W0.heap.size = w'.heap.size + 2) := s0
        clear s0
        refine (newRank_any W0 count s hs w'.heap.size 0 n n zs (by omega) h0 (by omega) HF1.out).mono ?_
        rintro e w1 ⟨rfl, b1, E1, En, C1, Cn, ⟨l1, l2, l3, l4, l5⟩, R1⟩
        have HR1 : Hid (RankAt w1 s count W0.heap.size E1 En C1 Cn n (zs.getD 0 0) (zs.getD (n - 1) 0)) := R1
        have HB1 : Hid (Below W0.heap.size W0 w1) := b1
        have HB0 : Hid (Below w'.heap.size w' W0) := b0
        clear R1 b1 b0
        go_wp2_with fail
        refine (newRank_any w1 count s hs (w'.heap.size + 1) 0 n' n' zs' (by omega) h0' (by omega) (fun i hi => by rw [HB1.out.cell (p := ⟨w'.heap.size + 1, 0 + i, none⟩) hl0]; exact HF2.out i hi)).mono ?_
        rintro e w2 ⟨rfl, b2, E1', En', C1', Cn', ⟨l1', l2', l3', l4', l5'⟩, R2⟩
        have HR2 : Hid (RankAt w2 s count w1.heap.size E1' En' C1' Cn' n' (zs'.getD 0 0) (zs'.getD (n' - 1) 0)) := R2
        have HR1' : Hid (RankAt w2 s count W0.heap.size E1 En C1 Cn n (zs.getD 0 0) (zs.getD (n - 1) 0)) := HR1.out.below b2 l5 l1 l2 l3 l4
        have G1 : Hid (∀ i, i < n → w2.cell? ⟨w'.heap.size, 0 + i, none⟩ = some (.int .u64 (zs.getD i 0))) := fun i hi => by
          rw [b2.cell (p := ⟨w'.heap.size, 0 + i, none⟩) (by show w'.heap.size < _; omega), HB1.out.cell (p := ⟨w'.heap.size, 0 + i, none⟩) (by show w'.heap.size < _; omega)]; exact HF1.out i hi
        have G2 : Hid (∀ i, i < n' → w2.cell? ⟨w'.heap.size + 1, 0 + i, none⟩ = some (.int .u64 (zs'.getD i 0))) := fun i hi => by
          rw [b2.cell (p := ⟨w'.heap.size + 1, 0 + i, none⟩) (by show w'.heap.size + 1 < _; omega), HB1.out.cell (p := ⟨w'.heap.size + 1, 0 + i, none⟩) (by show w'.heap.size + 1 < _; omega)]; exact HF2.out i hi
        have HB2 : Hid (Below w'.heap.size w' w2) := (HB0.out.trans (HB1.out.mono (by omega))).trans (b2.mono (by omega))
        clear R2 b2 HR1 HF1 HF2 HB1 HB0
        obtain ⟨ka, hka⟩ : ∃ ka, gOf s (zs.getD 0 0) (zs.getD (n - 1) 0) = ka := ⟨_, rfl⟩
        obtain ⟨kb, hkb⟩ : ∃ kb, gOf s (zs'.getD 0 0) (zs'.getD (n' - 1) 0) = kb := ⟨_, rfl⟩
        have KA : Hid (gOf s (zs.getD 0 0) (zs.getD (n - 1) 0) = ka) := hka
        have KB : Hid (gOf s (zs'.getD 0 0) (zs'.getD (n' - 1) 0) = kb) := hkb
        clear hka hkb
        go_wp2_with fail
        refine (firstToGive_any w2 s w'.heap.size 0 n n zs hs (by omega) h0 HI.out.2.2 G1.out).mono ?_
        rintro e w3 ⟨rfl, rfl⟩
        rw [KA.out]
        go_wp2_with fail
        refine (firstToGive_any w3 s (w'.heap.size + 1) 0 n' n' zs' hs (by omega) h0' HI'.out.2.2 G2.out).mono ?_
        rintro e w4 ⟨rfl, rfl⟩
        rw [KB.out]
        clear G1 G2 HI HI'
        go_wp2_with fail
        refine (zzBefore_any w4 s hs count count _ _ _ _ _ _ _ _ HR1'.out _ _ _ _ _ _ _ _ HR2.out).mono ?_
        rintro e w5 ⟨rfl, q1, rfl⟩
        rw [bef_same, KA.out, KB.out]
        go_wp2_with fail
        refine (zzBefore_any _ s hs count count _ _ _ _ _ _ _ _ (HR2.out.drewN _) _ _ _ _ _ _ _ _ (HR1'.out.drewN _)).mono ?_
        rintro e w6 ⟨rfl, q2, rfl⟩
        rw [bef_same, KA.out, KB.out]
        go_wp2_with fail
        refine (zzBefore_any _ s hs count count _ _ _ _ _ _ _ _ (HR1'.out.drewN _) _ _ _ _ _ _ _ _ (HR1'.out.drewN _)).mono ?_
        rintro e w7 ⟨rfl, q3, rfl⟩
        rw [bef_same, KA.out]
        by_cases c1 : ka < kb
        all_goals by_cases c2 : kb < ka
        all_goals
          go_wp2
          go_ret
          refine ⟨rfl, HB2.out.trans ?_⟩
          exact below_drewN _ _ _

set_option maxHeartbeats 1000000 in
set_option maxRecDepth 100000 in
/-- One of the two is empty: the law answers true ahead of all else. -/
theorem law5_empty (count : Int) (s : Nat) (hs : s ≤ 2) (a a' : Option Addr) (n c n' c' : Nat) (zs zs' : List Int) (w : World) (hn : n ≤ 65536) (hn' : n' ≤ 65536) (h : RowAt w a n zs) (h' : RowAt w a' n' zs') (h0 : n = 0 ∨ n' = 0) :
    Calls Try.prog 5 #[.int .i64 count, .int .i64 s, .slice a n c, .slice a' n' c'] w fun e w' => e = .returned (.bool true) ∧ Below w.heap.size w w' := by
  have H : Hid (RowAt w a n zs) := h
  have H' : Hid (RowAt w a' n' zs') := h'
  have H0 : Hid (n = 0 ∨ n' = 0) := h0
  clear h h' h0
  have hd1 : decide ((65536 : Int) < n) = false := by simp; omega
  have hd2 : decide ((65536 : Int) < n') = false := by simp; omega
  have hd3 : decide ((s : Int) < 0) = false := decide_eq_false (by omega)
  have hd4 : decide ((2 : Int) < s) = false := decide_eq_false (by omega)
  go_enter Try.func5, Try.ntmps5
  go_wp2_with fail
  refine (bytes5_any w count s _ _ n c n' c' (by unfold maxLen; omega) (by unfold maxLen; omega)).mono ?_
  rintro e w' ⟨⟨r, rfl, hr⟩, rfl⟩
  cases r with
  | false =>
    go_wp2
    go_ret
    exact ⟨rfl, Below.refl _ _⟩
  | true =>
    clear hr
    go_wp2_with fail
    refine (rankOK_row _ count a n c zs (by omega) (by exact H.out)).mono ?_
    rintro e w1 ⟨⟨r, rfl, hr⟩, m, rfl⟩
    cases r with
    | false =>
      go_wp2
      go_ret
      exact ⟨rfl, below_drewN _ _ _⟩
    | true =>
      have HI : Hid (0 < n ∧ (n : Int) ≤ count ∧ Inc zs n) := hr rfl
      clear hr
      go_wp2_with fail
      refine (rankOK_row _ count a' n' c' zs' (by omega) (by exact H'.out.drewN _)).mono ?_
      rintro e w1 ⟨⟨r, rfl, hr⟩, m', rfl⟩
      cases r with
      | false =>
        go_wp2
        go_ret
        exact ⟨rfl, below_drewN _ _ _⟩
      | true =>
        exfalso
        have i1 := HI.out.1
        have i2 := (hr rfl).1
        have i0 := H0.out
        omega

set_option maxHeartbeats 1000000 in
set_option maxRecDepth 100000 in
/-- The lengths or the standing are out of the law's reach: true at once. -/
theorem law5_out (count st : Int) (a a' : Option Addr) (n c n' c' : Nat) (w : World) (hn : n ≤ maxLen) (hn' : n' ≤ maxLen) (ho : 65536 < n ∨ 65536 < n' ∨ st < 0 ∨ 2 < st) :
    Calls Try.prog 5 #[.int .i64 count, .int .i64 st, .slice a n c, .slice a' n' c'] w fun e w' => e = .returned (.bool true) ∧ Below w.heap.size w w' := by
  have HO : Hid (65536 < n ∨ 65536 < n' ∨ st < 0 ∨ 2 < st) := ho
  clear ho
  have HM : Hid (n ≤ maxLen ∧ n' ≤ maxLen) := ⟨hn, hn'⟩
  clear hn hn'
  by_cases k1 : (65536 : Int) < n
  · go_enter Try.func5, Try.ntmps5
    go_wp2_with fail
    refine (bytes5_any w count st _ _ n c n' c' HM.out.1 HM.out.2).mono ?_
    rintro e w' ⟨⟨r, rfl, hr⟩, rfl⟩
    cases r
    all_goals
      clear hr
      go_wp2
      go_ret
      exact ⟨rfl, Below.refl _ _⟩
  by_cases k2 : (65536 : Int) < n'
  · go_enter Try.func5, Try.ntmps5
    go_wp2_with fail
    refine (bytes5_any w count st _ _ n c n' c' HM.out.1 HM.out.2).mono ?_
    rintro e w' ⟨⟨r, rfl, hr⟩, rfl⟩
    cases r
    all_goals
      clear hr
      go_wp2
      go_ret
      exact ⟨rfl, Below.refl _ _⟩
  by_cases k3 : st < 0
  · go_enter Try.func5, Try.ntmps5
    go_wp2_with fail
    refine (bytes5_any w count st _ _ n c n' c' HM.out.1 HM.out.2).mono ?_
    rintro e w' ⟨⟨r, rfl, hr⟩, rfl⟩
    cases r
    all_goals
      clear hr
      go_wp2
      go_ret
      exact ⟨rfl, Below.refl _ _⟩
  have k4 : 2 < st := by have := HO.out; omega
  go_enter Try.func5, Try.ntmps5
  go_wp2_with fail
  refine (bytes5_any w count st _ _ n c n' c' HM.out.1 HM.out.2).mono ?_
  rintro e w' ⟨⟨r, rfl, hr⟩, rfl⟩
  cases r
  all_goals
    clear hr
    go_wp2
    go_ret
    exact ⟨rfl, Below.refl _ _⟩

/-- A row that came in, as the shell's 'IsRow' says it. -/
theorem rowAt_of (w : World) (a : Option Addr) (len cap : Nat) (zs : List Int)
    (h : (a = none ∧ len = 0 ∧ cap = 0 ∧ zs = []) ∨ ∃ x, a = some x ∧ len ≤ cap ∧ cap ≤ maxLen ∧ zs.length = cap ∧ (∀ i, i < zs.length → w.cell? (x.add i) = some (.int .u64 (zs.getD i 0))) ∧ ∀ n ∈ zs, (Lit.int .u64 n).wf = true) :
    RowAt w a len zs ∧ len ≤ maxLen := by
  rcases h with ⟨_, rfl, _, _⟩ | ⟨x, rfl, h1, h2, h3, h4, _⟩
  · exact ⟨.inl rfl, by unfold maxLen; omega⟩
  · refine ⟨?_, by omega⟩
    by_cases hl : len = 0
    · exact .inl hl
    · obtain ⟨b, off, spot⟩ := x
      have h0 := h4 0 (by omega)
      have hspot : spot = none := by simpa [Addr.add] using World.cell?_spot h0
      subst hspot
      have e : ∀ i, (⟨b, off, none⟩ : Addr).add i = ⟨b, off + i, none⟩ := fun i => by unfold Addr.add; split <;> simp_all
      refine .inr ⟨b, off, rfl, ?_, fun i hi => by rw [← e]; exact h4 i (by omega)⟩
      by_cases hb : b < w.heap.size
      · exact hb
      · exfalso
        rw [e] at h0
        simp [World.cell?, Array.getElem?_eq_none (show w.heap.size ≤ b by omega)] at h0

theorem law5_any (count st : Int) (a a' : Option Addr) (n c n' c' : Nat) (zs zs' : List Int) (w : World) (hn : n ≤ maxLen) (hn' : n' ≤ maxLen) (h : RowAt w a n zs) (h' : RowAt w a' n' zs') :
    Calls Try.prog 5 #[.int .i64 count, .int .i64 st, .slice a n c, .slice a' n' c'] w fun e w' => e = .returned (.bool true) ∧ Below w.heap.size w w' := by
  by_cases ho : 65536 < n ∨ 65536 < n' ∨ st < 0 ∨ 2 < st
  · exact law5_out count st a a' n c n' c' w hn hn' ho
  obtain ⟨s, rfl⟩ := Int.eq_ofNat_of_zero_le (show 0 ≤ st by omega)
  by_cases h0 : n = 0 ∨ n' = 0
  · exact law5_empty count s (by omega) a a' n c n' c' zs zs' w (by omega) (by omega) h h' h0
  rcases h with h | ⟨b, off, rfl, hb, hc⟩
  · omega
  rcases h' with h' | ⟨b', off', rfl, hb', hc'⟩
  · omega
  exact law5_main count s (by omega) b off b' off' n c n' c' zs zs' w (by omega) (by omega) (by omega) (by omega) hb hb' hc hc'
end Go.Proofs.Qxb6616753a
