import Derived.Test.Qxb6616753aBefore
namespace Go.Proofs.Qxb6616753a
open Go.ChangeShapes Go.WideShapes Go.ChangeAt Go.RowKit
set_option linter.unusedSimpArgs false
set_option linter.unusedVariables false

theorem Blk.cell {w w' : World} {k : Nat} (h : Blk w w' k) (i : Nat) : w'.cell? ⟨k, i, none⟩ = w.cell? ⟨k, i, none⟩ := World.cell?_of_block (w := w) h.b
theorem Blk.frozen {w w' : World} {k : Nat} (h : Blk w w' k) (i : Nat) : w'.frozen? ⟨k, i, none⟩ = w.frozen? ⟨k, i, none⟩ := World.frozen?_of_block (w := w) h.b

theorem Push.kept {w w' : World} {B o E : Nat} (h : Push w w' B o E) (b i : Nat) (hb : b < w.heap.size) (hB : b ≠ B) (hi : i ≠ 0) : w'.cell? ⟨b, i, none⟩ = w.cell? ⟨b, i, none⟩ := by
  by_cases he : b = E
  · subst he; exact h.cellE i hi hB
  · exact (h.block b hb hB he).cell i

theorem Push.belowAt {w w' : World} {B o E L : Nat} (h : Push w w' B o E) (hB : L ≤ B) (hE : L ≤ E) (hL : L ≤ w.heap.size) : Below L w w' :=
  ⟨h.below.os, h.below.tape, h.below.output, h.below.size, fun k hk => (h.block k (by omega) (by omega) (by omega)).b⟩

theorem frozen_out (w : World) (b i : Nat) (h : w.heap.size ≤ b) : w.frozen? ⟨b, i, none⟩ = false := by
  simp [World.frozen?, Array.getElem?_eq_none h]

/-- What holds of the source's block in every round. -/
structure Base (w wr : World) (B r : Nat) (count : Int) : Prop where
  below : Below B w wr
  lt : B < wr.heap.size
  fz : ∀ i, wr.frozen? ⟨B, i, none⟩ = false
  cnt : wr.cell? ⟨B, 3, none⟩ = some (.int .i64 count)
  r0 : ∃ x, wr.cell? ⟨B, r, none⟩ = some x
  r1 : ∃ x, wr.cell? ⟨B, r + 1, none⟩ = some x
  r2 : ∃ x, wr.cell? ⟨B, r + 2, none⟩ = some x

/-- The list has been pushed to k times, k > 0. -/
structure Full (wr : World) (B o k E1 En C1 Cn : Nat) (g1 gn : Int) : Prop where
  first : wr.cell? ⟨B, o, none⟩ = some (.pointer (some ⟨E1, 0, none⟩))
  last : wr.cell? ⟨B, o + 1, none⟩ = some (.pointer (some ⟨En, 0, none⟩))
  len : wr.cell? ⟨B, o + 4, none⟩ = some (.int .i64 k)
  v1 : wr.cell? ⟨E1, 3, none⟩ = some (.iface 62 (.pointer (some ⟨C1, 0, none⟩)))
  vn : wr.cell? ⟨En, 3, none⟩ = some (.iface 62 (.pointer (some ⟨Cn, 0, none⟩)))
  k1 : wr.cell? ⟨C1, 18, none⟩ = some (.int .u64 g1)
  kn : wr.cell? ⟨Cn, 18, none⟩ = some (.int .u64 gn)
  e0 : wr.cell? ⟨En, 0, none⟩ = some (.pointer (some ⟨B, o, none⟩))
  fe : wr.frozen? ⟨En, 0, none⟩ = false
  lE1 : B < E1 ∧ E1 < wr.heap.size
  lEn : B < En ∧ En < wr.heap.size
  lC1 : B < C1 ∧ C1 < wr.heap.size
  lCn : B < Cn ∧ Cn < wr.heap.size

structure Empt (wr : World) (B o : Nat) : Prop where
  first : wr.cell? ⟨B, o, none⟩ = some (.pointer none)
  last : wr.cell? ⟨B, o + 1, none⟩ = some (.pointer none)
  len : wr.cell? ⟨B, o + 4, none⟩ = some (.int .i64 0)

/-- Behind a push: what held of the source's block holds still. -/
theorem Base.push {w wr w' : World} {B o r E : Nat} {count : Int} {c : Array Value} {t : TypeId} (h : Base w wr B r count) (hp : Push (wr.alloc (.cells c t)) w' B o E) (ho : 4 ≤ o) (hr : o + 4 < r) (hE : B ≤ E) : Base w w' B r count := by
  have hl := h.lt
  have hc : ∀ i, i ≠ o → i ≠ o + 1 → i ≠ o + 4 → w'.cell? ⟨B, i, none⟩ = wr.cell? ⟨B, i, none⟩ := fun i a b c => by
    rw [hp.cellB i a b c, World.cell?_alloc_lt (h := hl)]
  refine ⟨(h.below.alloc (by omega) _).trans (hp.belowAt (Nat.le_refl _) hE (by simp; omega)), by rw [hp.size, World.size_alloc]; omega, fun i => ?_, ?_, ?_, ?_, ?_⟩
  · rw [hp.frozen, frozen?_alloc_cells]; exact h.fz i
  · rw [hc 3 (by omega) (by omega) (by omega)]; exact h.cnt
  · obtain ⟨x, hx⟩ := h.r0; exact ⟨x, by rw [hc _ (by omega) (by omega) (by omega)]; exact hx⟩
  · obtain ⟨x, hx⟩ := h.r1; exact ⟨x, by rw [hc _ (by omega) (by omega) (by omega)]; exact hx⟩
  · obtain ⟨x, hx⟩ := h.r2; exact ⟨x, by rw [hc _ (by omega) (by omega) (by omega)]; exact hx⟩

/-- Behind the first push. -/
theorem Full.one {wr w' : World} {B o : Nat} {c : Array Value} {t : TypeId} {g : Int} (hl : B < wr.heap.size) (hp : Push (wr.alloc (.cells c t)) w' B o B) (hg : c[18]? = some (.int .u64 g))
    (c0 : w'.cell? ⟨B, o, none⟩ = some (.pointer (some ⟨(wr.alloc (.cells c t)).heap.size, 0, none⟩))) (c1 : w'.cell? ⟨B, o + 1, none⟩ = some (.pointer (some ⟨(wr.alloc (.cells c t)).heap.size, 0, none⟩)))
    (c4 : w'.cell? ⟨B, o + 4, none⟩ = some (.int .i64 1)) (e0 : w'.cell? ⟨(wr.alloc (.cells c t)).heap.size, 0, none⟩ = some (.pointer (some ⟨B, o, none⟩)))
    (e3 : w'.cell? ⟨(wr.alloc (.cells c t)).heap.size, 3, none⟩ = some (.iface 62 (.pointer (some ⟨wr.heap.size, 0, none⟩)))) :
    Full w' B o 1 (wr.heap.size + 1) (wr.heap.size + 1) wr.heap.size wr.heap.size g g := by
  rw [World.size_alloc] at c0 c1 e0 e3
  have hs := hp.size
  rw [World.size_alloc] at hs
  have hk : w'.cell? ⟨wr.heap.size, 18, none⟩ = some (.int .u64 g) := by
    rw [hp.kept _ _ (by simp) (by omega) (by omega), World.cell?_alloc_new]; exact hg
  refine ⟨c0, c1, c4, e3, e3, hk, hk, e0, ?_, by omega, by omega, by omega, by omega⟩
  rw [hp.frozen, frozen?_alloc_cells]
  exact frozen_out _ _ _ (by omega)

/-- Behind a later push. -/
theorem Full.more {wr w' : World} {B o k E1 En C1 Cn : Nat} {c : Array Value} {t : TypeId} {g1 gn g : Int} (h : Full wr B o k E1 En C1 Cn g1 gn) (hl : B < wr.heap.size) (hp : Push (wr.alloc (.cells c t)) w' B o En) (hg : c[18]? = some (.int .u64 g))
    (c0 : w'.cell? ⟨B, o, none⟩ = some (.pointer (some ⟨E1, 0, none⟩))) (c1 : w'.cell? ⟨B, o + 1, none⟩ = some (.pointer (some ⟨(wr.alloc (.cells c t)).heap.size, 0, none⟩)))
    (c4 : w'.cell? ⟨B, o + 4, none⟩ = some (.int .i64 ((k : Int) + 1))) (e0 : w'.cell? ⟨(wr.alloc (.cells c t)).heap.size, 0, none⟩ = some (.pointer (some ⟨B, o, none⟩)))
    (e3 : w'.cell? ⟨(wr.alloc (.cells c t)).heap.size, 3, none⟩ = some (.iface 62 (.pointer (some ⟨wr.heap.size, 0, none⟩)))) :
    Full w' B o (k + 1) E1 (wr.heap.size + 1) C1 wr.heap.size g1 g := by
  rw [World.size_alloc] at c1 e0 e3
  have hs := hp.size
  rw [World.size_alloc] at hs
  have hk : w'.cell? ⟨wr.heap.size, 18, none⟩ = some (.int .u64 g) := by
    rw [hp.kept _ _ (by simp) (by omega) (by omega), World.cell?_alloc_new]; exact hg
  have l1 := h.lE1
  have l3 := h.lC1
  have old : ∀ b i, B < b → b < wr.heap.size → i ≠ 0 → w'.cell? ⟨b, i, none⟩ = wr.cell? ⟨b, i, none⟩ := fun b i h1 h2 h3 => by
    rw [hp.kept b i (by simp; omega) (by omega) h3, World.cell?_alloc_lt (h := h2)]
  refine ⟨c0, c1, by simpa using c4, by rw [old _ _ l1.1 l1.2 (by omega)]; exact h.v1, e3, by rw [old _ _ l3.1 l3.2 (by omega)]; exact h.k1, hk, e0, ?_, by omega, by omega, by omega, by omega⟩
  rw [hp.frozen, frozen?_alloc_cells]
  exact frozen_out _ _ _ (by omega)

/-- The loop's relation. -/
def Ring (w wr : World) (B o r : Nat) (count : Int) (zs : List Int) (k : Nat) : Prop :=
  Base w wr B r count ∧ ((k = 0 ∧ Empt wr B o) ∨ (0 < k ∧ ∃ E1 En C1 Cn, Full wr B o k E1 En C1 Cn (zs.getD 0 0) (zs.getD (k - 1) 0)))

/-- One push, whichever: the relation goes on. -/
theorem push_ring (w wr : World) (B o r : Nat) (count : Int) (zs : List Int) (k : Nat) (c : Array Value) (t : TypeId) (ho : 4 ≤ o) (hr : o + 4 < r) (hk : k ≤ 1048576) (h : Ring w wr B o r count zs k) (hg : c[18]? = some (.int .u64 (zs.getD k 0))) :
    Calls Try.prog 18 #[.pointer (some ⟨B, o, none⟩), .iface 62 (.pointer (some ⟨wr.heap.size, 0, none⟩))] (wr.alloc (.cells c t)) fun e w' => (∃ v, e = .returned v) ∧ Ring w w' B o r count zs (k + 1) := by
  obtain ⟨hb, hring⟩ := h
  have hl := hb.lt
  have old : ∀ i, (wr.alloc (.cells c t)).cell? ⟨B, i, none⟩ = wr.cell? ⟨B, i, none⟩ := fun i => World.cell?_alloc_lt _ _ _ hl
  have fz : ∀ i, (wr.alloc (.cells c t)).frozen? ⟨B, i, none⟩ = false := fun i => by rw [frozen?_alloc_cells]; exact hb.fz i
  rcases hring with ⟨rfl, he⟩ | ⟨hk0, E1, En, C1, Cn, hf⟩
  · refine (push_first B o _ (wr.alloc (.cells c t)) (.pointer none) (.int .i64 0) (by simp; omega) (by rw [old]; exact he.first) (by rw [old]; exact he.last) (by rw [old]; exact he.len) (fz _) (fz _) (fz _)).mono ?_
    rintro e w' ⟨he', hp, c0, c1, c4, e0, e3⟩
    exact ⟨⟨_, he'⟩, hb.push hp ho hr (Nat.le_refl _), .inr ⟨by omega, _, _, _, _, Full.one hl hp hg c0 c1 c4 e0 e3⟩⟩
  · have lEn := hf.lEn
    have oldE : ∀ i, (wr.alloc (.cells c t)).cell? ⟨En, i, none⟩ = wr.cell? ⟨En, i, none⟩ := fun i => World.cell?_alloc_lt _ _ _ lEn.2
    refine (push_next B o En _ k (wr.alloc (.cells c t)) (by simp; omega) (by simp; omega) (by omega) (by omega) (by omega) ⟨E1, 0, none⟩ (by rw [old]; exact hf.first) (by rw [old]; exact hf.last) (by rw [old]; exact hf.len) (by rw [oldE]; exact hf.e0) (fz _) (fz _) (by rw [frozen?_alloc_cells]; exact hf.fe)).mono ?_
    rintro e w' ⟨he', hp, c0, c1, c4, e0, e3⟩
    exact ⟨⟨_, he'⟩, hb.push hp ho hr (by omega), .inr ⟨by omega, _, _, _, _, hf.more hl hp hg c0 c1 c4 e0 e3⟩⟩

/-- The rank is laid: what ZZnewRank hands back. -/
theorem ring_done {wr : World} {B s k E1 En C1 Cn : Nat} {count g1 gn : Int} (hs : s ≤ 2) (hk : 0 < k) (hf : Full wr B (4 + 5 * s) k E1 En C1 Cn g1 gn) (hl : B < wr.heap.size)
    (hc : wr.cell? ⟨B, 3, none⟩ = some (.int .i64 count)) (x0 x1 : Value) (h0 : wr.cell? ⟨B, 19 + 3 * s, none⟩ = some x0) (h1 : wr.cell? ⟨B, 20 + 3 * s, none⟩ = some x1) (u : Value) :
    RankAt (((wr.setCell ⟨B, 19 + 3 * s, none⟩ (.pointer (some ⟨B, 0, none⟩))).setCell ⟨B, 20 + 3 * s, none⟩ (.int .i64 s)).setCell ⟨B, 21 + 3 * s, none⟩ u) s count B E1 En C1 Cn k g1 gn := by
  have a1 := hf.lE1
  have a2 := hf.lEn
  have a3 := hf.lC1
  have a4 := hf.lCn
  have oth : ∀ b i, B < b → (((wr.setCell ⟨B, 19 + 3 * s, none⟩ (.pointer (some ⟨B, 0, none⟩))).setCell ⟨B, 20 + 3 * s, none⟩ (.int .i64 s)).setCell ⟨B, 21 + 3 * s, none⟩ u).cell? ⟨b, i, none⟩ = wr.cell? ⟨b, i, none⟩ := fun b i h => by
    rw [cell_set, cell_set, cell_set, if_neg (by omega), if_neg (by omega), if_neg (by omega)]
  have oB : ∀ i, i < 19 + 3 * s → (((wr.setCell ⟨B, 19 + 3 * s, none⟩ (.pointer (some ⟨B, 0, none⟩))).setCell ⟨B, 20 + 3 * s, none⟩ (.int .i64 s)).setCell ⟨B, 21 + 3 * s, none⟩ u).cell? ⟨B, i, none⟩ = wr.cell? ⟨B, i, none⟩ := fun i h => by
    rw [cell_set, cell_set, cell_set, if_neg (by omega), if_neg (by omega), if_neg (by omega)]
  refine ⟨by rw [oB _ (by omega)]; exact hc, ?_, ?_, by rw [oB _ (by omega)]; have := hf.len; rw [show 4 + 5 * s + 4 = 8 + 5 * s from by omega] at this; exact this, by omega, by rw [oB _ (by omega)]; exact hf.first, ?_, by rw [oth _ _ a1.1]; exact hf.v1, by rw [oth _ _ a2.1]; exact hf.vn, by rw [oth _ _ a3.1]; exact hf.k1, by rw [oth _ _ a4.1]; exact hf.kn⟩
  · rw [cell_set, cell_set, cell_set, if_neg (by omega), if_neg (by omega), if_pos ⟨rfl, rfl⟩, h0]; rfl
  · rw [cell_set, cell_set, cell_set, if_neg (by omega), if_pos ⟨rfl, rfl⟩, if_neg (by omega), h1]; rfl
  · rw [oB _ (by omega)]; have := hf.last; rw [show 4 + 5 * s + 1 = 5 + 5 * s from by omega] at this; exact this

set_option maxHeartbeats 1000000 in
set_option maxRecDepth 100000 in
theorem newRank0 (w : World) (count : Int) (G off n cap : Nat) (zs : List Int) (hG : G < w.heap.size) (h0 : 0 < n) (hn : n ≤ 1048576)
    (hc : ∀ i, i < n → w.cell? ⟨G, off + i, none⟩ = some (.int .u64 (zs.getD i 0))) :
    Calls Try.prog 12 #[.int .i64 count, .int .i64 0, .slice (some ⟨G, off, none⟩) n cap] w fun e w' => e = .returned (.pointer (some ⟨w.heap.size, 19, none⟩)) ∧ Below w.heap.size w w' ∧
      ∃ E1 En C1 Cn, (E1 < w'.heap.size ∧ En < w'.heap.size ∧ C1 < w'.heap.size ∧ Cn < w'.heap.size ∧ w.heap.size < w'.heap.size) ∧ RankAt w' 0 count w.heap.size E1 En C1 Cn n (zs.getD 0 0) (zs.getD (n - 1) 0) := by
  have HC : Hid (∀ i, i < n → w.cell? ⟨G, off + i, none⟩ = some (.int .u64 (zs.getD i 0))) := hc
  clear hc
  go_enter Try.func12, Try.ntmps12
  go_wp2
  go_loopw [15] (fun v15 wr => ∃ k : Nat, k ≤ n ∧ v15 = .int .i64 k ∧ Ring w wr w.heap.size 4 19 count zs k) (fun v15 _ => n - (intOf v15).toNat)
  case atStart =>
    refine ⟨0, by omega, rfl, ⟨(Below.refl _ _).alloc (Nat.le_refl _) _, by simp, fun i => ?_, ?_, ?_, ?_, ?_⟩, .inl ⟨rfl, ?_, ?_, ?_⟩⟩
    all_goals simp
  case round =>
    obtain ⟨k, hk, rfl, hring⟩ := hrel
    have hb := hring.1
    have hlt := hb.lt
    by_cases hkn : k < n
    · have hg : wr.cell? ⟨G, off + k, none⟩ = some (.int .u64 (zs.getD k 0)) := by rw [hb.below.cell (p := ⟨G, off + k, none⟩) hG]; exact HC.out k hkn
      generalize hgg : zs.getD k 0 = g at *
      have HG : Hid (zs.getD k 0 = g) := hgg
      clear hgg
      have HR : Hid (Ring w wr w.heap.size 4 19 count zs k) := hring
      clear hring hb
      go_wp2_with fail
      refine (push_ring w wr w.heap.size 4 19 count zs k _ 81 (by omega) (by omega) (by omega) HR.out (by rw [HG.out]; rfl)).mono ?_
      rintro e w' ⟨⟨v, rfl⟩, hr'⟩
      go_wp2
      go_roundw
      case rel => exact ⟨k + 1, by omega, by go_num, hr'⟩
      case measure => simp [intOf]; omega
    · have hkk : k = n := by omega
      subst hkk
      obtain ⟨hb1, hb2, hb3, hb4, ⟨x0, hb5⟩, ⟨x1, hb6⟩, ⟨x2, hb7⟩⟩ := hb
      obtain ⟨_, ⟨hkz, _⟩ | ⟨hk0, E1, En, C1, Cn, hf⟩⟩ := hring
      · omega
      have hz0 := hb3 19
      have hz1 := hb3 20
      have hz2 := hb3 21
      have HB : Hid (Below w.heap.size w wr) := hb1
      have HD : Hid (RankAt (((wr.setCell ⟨w.heap.size, 19, none⟩ (.pointer (some ⟨w.heap.size, 0, none⟩))).setCell ⟨w.heap.size, 20, none⟩ (.int .i64 0)).setCell ⟨w.heap.size, 21, none⟩ (.int .i64 (-1))) 0 count w.heap.size E1 En C1 Cn k (zs.getD 0 0) (zs.getD (k - 1) 0)) := ring_done (s := 0) (by omega) hk0 hf hb2 hb4 x0 x1 hb5 hb6 _
      have a1 := hf.lE1
      have a2 := hf.lEn
      have a3 := hf.lC1
      have a4 := hf.lCn
      clear hf hb1 hb3 hb4
      go_wp2
      go_ret
      refine ⟨rfl, ((HB.out.setCell (Nat.le_refl _) _).setCell (Nat.le_refl _) _).setCell (Nat.le_refl _) _, E1, En, C1, Cn, ?_, HD.out⟩
      simp only [World.size_setCell]
      omega

set_option maxHeartbeats 1000000 in
set_option maxRecDepth 100000 in
theorem newRank1 (w : World) (count : Int) (G off n cap : Nat) (zs : List Int) (hG : G < w.heap.size) (h0 : 0 < n) (hn : n ≤ 1048576)
    (hc : ∀ i, i < n → w.cell? ⟨G, off + i, none⟩ = some (.int .u64 (zs.getD i 0))) :
    Calls Try.prog 12 #[.int .i64 count, .int .i64 1, .slice (some ⟨G, off, none⟩) n cap] w fun e w' => e = .returned (.pointer (some ⟨w.heap.size, 22, none⟩)) ∧ Below w.heap.size w w' ∧
      ∃ E1 En C1 Cn, (E1 < w'.heap.size ∧ En < w'.heap.size ∧ C1 < w'.heap.size ∧ Cn < w'.heap.size ∧ w.heap.size < w'.heap.size) ∧ RankAt w' 1 count w.heap.size E1 En C1 Cn n (zs.getD 0 0) (zs.getD (n - 1) 0) := by
  have HC : Hid (∀ i, i < n → w.cell? ⟨G, off + i, none⟩ = some (.int .u64 (zs.getD i 0))) := hc
  clear hc
  go_enter Try.func12, Try.ntmps12
  go_wp2
  go_loopw [15] (fun v15 wr => ∃ k : Nat, k ≤ n ∧ v15 = .int .i64 k ∧ Ring w wr w.heap.size 9 22 count zs k) (fun v15 _ => n - (intOf v15).toNat)
  case atStart =>
    refine ⟨0, by omega, rfl, ⟨(Below.refl _ _).alloc (Nat.le_refl _) _, by simp, fun i => ?_, ?_, ?_, ?_, ?_⟩, .inl ⟨rfl, ?_, ?_, ?_⟩⟩
    all_goals simp
  case round =>
    obtain ⟨k, hk, rfl, hring⟩ := hrel
    have hb := hring.1
    have hlt := hb.lt
    by_cases hkn : k < n
    · have hg : wr.cell? ⟨G, off + k, none⟩ = some (.int .u64 (zs.getD k 0)) := by rw [hb.below.cell (p := ⟨G, off + k, none⟩) hG]; exact HC.out k hkn
      generalize hgg : zs.getD k 0 = g at *
      have HG : Hid (zs.getD k 0 = g) := hgg
      clear hgg
      have HR : Hid (Ring w wr w.heap.size 9 22 count zs k) := hring
      clear hring hb
      go_wp2_with fail
      refine (push_ring w wr w.heap.size 9 22 count zs k _ 81 (by omega) (by omega) (by omega) HR.out (by rw [HG.out]; rfl)).mono ?_
      rintro e w' ⟨⟨v, rfl⟩, hr'⟩
      go_wp2
      go_roundw
      case rel => exact ⟨k + 1, by omega, by go_num, hr'⟩
      case measure => simp [intOf]; omega
    · have hkk : k = n := by omega
      subst hkk
      obtain ⟨hb1, hb2, hb3, hb4, ⟨x0, hb5⟩, ⟨x1, hb6⟩, ⟨x2, hb7⟩⟩ := hb
      obtain ⟨_, ⟨hkz, _⟩ | ⟨hk0, E1, En, C1, Cn, hf⟩⟩ := hring
      · omega
      have hz0 := hb3 22
      have hz1 := hb3 23
      have hz2 := hb3 24
      have HB : Hid (Below w.heap.size w wr) := hb1
      have HD : Hid (RankAt (((wr.setCell ⟨w.heap.size, 22, none⟩ (.pointer (some ⟨w.heap.size, 0, none⟩))).setCell ⟨w.heap.size, 23, none⟩ (.int .i64 1)).setCell ⟨w.heap.size, 24, none⟩ (.int .i64 (-1))) 1 count w.heap.size E1 En C1 Cn k (zs.getD 0 0) (zs.getD (k - 1) 0)) := ring_done (s := 1) (by omega) hk0 hf hb2 hb4 x0 x1 hb5 hb6 _
      have a1 := hf.lE1
      have a2 := hf.lEn
      have a3 := hf.lC1
      have a4 := hf.lCn
      clear hf hb1 hb3 hb4
      go_wp2
      go_ret
      refine ⟨rfl, ((HB.out.setCell (Nat.le_refl _) _).setCell (Nat.le_refl _) _).setCell (Nat.le_refl _) _, E1, En, C1, Cn, ?_, HD.out⟩
      simp only [World.size_setCell]
      omega

set_option maxHeartbeats 1000000 in
set_option maxRecDepth 100000 in
theorem newRank2 (w : World) (count : Int) (G off n cap : Nat) (zs : List Int) (hG : G < w.heap.size) (h0 : 0 < n) (hn : n ≤ 1048576)
    (hc : ∀ i, i < n → w.cell? ⟨G, off + i, none⟩ = some (.int .u64 (zs.getD i 0))) :
    Calls Try.prog 12 #[.int .i64 count, .int .i64 2, .slice (some ⟨G, off, none⟩) n cap] w fun e w' => e = .returned (.pointer (some ⟨w.heap.size, 25, none⟩)) ∧ Below w.heap.size w w' ∧
      ∃ E1 En C1 Cn, (E1 < w'.heap.size ∧ En < w'.heap.size ∧ C1 < w'.heap.size ∧ Cn < w'.heap.size ∧ w.heap.size < w'.heap.size) ∧ RankAt w' 2 count w.heap.size E1 En C1 Cn n (zs.getD 0 0) (zs.getD (n - 1) 0) := by
  have HC : Hid (∀ i, i < n → w.cell? ⟨G, off + i, none⟩ = some (.int .u64 (zs.getD i 0))) := hc
  clear hc
  go_enter Try.func12, Try.ntmps12
  go_wp2
  go_loopw [15] (fun v15 wr => ∃ k : Nat, k ≤ n ∧ v15 = .int .i64 k ∧ Ring w wr w.heap.size 14 25 count zs k) (fun v15 _ => n - (intOf v15).toNat)
  case atStart =>
    refine ⟨0, by omega, rfl, ⟨(Below.refl _ _).alloc (Nat.le_refl _) _, by simp, fun i => ?_, ?_, ?_, ?_, ?_⟩, .inl ⟨rfl, ?_, ?_, ?_⟩⟩
    all_goals simp
  case round =>
    obtain ⟨k, hk, rfl, hring⟩ := hrel
    have hb := hring.1
    have hlt := hb.lt
    by_cases hkn : k < n
    · have hg : wr.cell? ⟨G, off + k, none⟩ = some (.int .u64 (zs.getD k 0)) := by rw [hb.below.cell (p := ⟨G, off + k, none⟩) hG]; exact HC.out k hkn
      generalize hgg : zs.getD k 0 = g at *
      have HG : Hid (zs.getD k 0 = g) := hgg
      clear hgg
      have HR : Hid (Ring w wr w.heap.size 14 25 count zs k) := hring
      clear hring hb
      go_wp2_with fail
      refine (push_ring w wr w.heap.size 14 25 count zs k _ 81 (by omega) (by omega) (by omega) HR.out (by rw [HG.out]; rfl)).mono ?_
      rintro e w' ⟨⟨v, rfl⟩, hr'⟩
      go_wp2
      go_roundw
      case rel => exact ⟨k + 1, by omega, by go_num, hr'⟩
      case measure => simp [intOf]; omega
    · have hkk : k = n := by omega
      subst hkk
      obtain ⟨hb1, hb2, hb3, hb4, ⟨x0, hb5⟩, ⟨x1, hb6⟩, ⟨x2, hb7⟩⟩ := hb
      obtain ⟨_, ⟨hkz, _⟩ | ⟨hk0, E1, En, C1, Cn, hf⟩⟩ := hring
      · omega
      have hz0 := hb3 25
      have hz1 := hb3 26
      have hz2 := hb3 27
      have HB : Hid (Below w.heap.size w wr) := hb1
      have HD : Hid (RankAt (((wr.setCell ⟨w.heap.size, 25, none⟩ (.pointer (some ⟨w.heap.size, 0, none⟩))).setCell ⟨w.heap.size, 26, none⟩ (.int .i64 2)).setCell ⟨w.heap.size, 27, none⟩ (.int .i64 (-1))) 2 count w.heap.size E1 En C1 Cn k (zs.getD 0 0) (zs.getD (k - 1) 0)) := ring_done (s := 2) (by omega) hk0 hf hb2 hb4 x0 x1 hb5 hb6 _
      have a1 := hf.lE1
      have a2 := hf.lEn
      have a3 := hf.lC1
      have a4 := hf.lCn
      clear hf hb1 hb3 hb4
      go_wp2
      go_ret
      refine ⟨rfl, ((HB.out.setCell (Nat.le_refl _) _).setCell (Nat.le_refl _) _).setCell (Nat.le_refl _) _, E1, En, C1, Cn, ?_, HD.out⟩
      simp only [World.size_setCell]
      omega

theorem newRank_any (w : World) (count : Int) (s : Nat) (hs : s ≤ 2) (G off n cap : Nat) (zs : List Int) (hG : G < w.heap.size) (h0 : 0 < n) (hn : n ≤ 1048576)
    (hc : ∀ i, i < n → w.cell? ⟨G, off + i, none⟩ = some (.int .u64 (zs.getD i 0))) :
    Calls Try.prog 12 #[.int .i64 count, .int .i64 s, .slice (some ⟨G, off, none⟩) n cap] w fun e w' => e = .returned (.pointer (some ⟨w.heap.size, 19 + 3 * s, none⟩)) ∧ Below w.heap.size w w' ∧
      ∃ E1 En C1 Cn, (E1 < w'.heap.size ∧ En < w'.heap.size ∧ C1 < w'.heap.size ∧ Cn < w'.heap.size ∧ w.heap.size < w'.heap.size) ∧ RankAt w' s count w.heap.size E1 En C1 Cn n (zs.getD 0 0) (zs.getD (n - 1) 0) := by
  obtain rfl | rfl | rfl : s = 0 ∨ s = 1 ∨ s = 2 := by omega
  · exact newRank0 w count G off n cap zs hG h0 hn hc
  · exact newRank1 w count G off n cap zs hG h0 hn hc
  · exact newRank2 w count G off n cap zs hG h0 hn hc
end Go.Proofs.Qxb6616753a
