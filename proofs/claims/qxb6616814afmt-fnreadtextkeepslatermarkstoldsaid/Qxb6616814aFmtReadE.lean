import Derived.Test.Qxb6616814aFmtReadA
import Derived.Test.Qxb6616814aFmtReadB
namespace Go.Proofs.Qxb6616814aFmt
open Go.ChangeShapes Go.WideShapes Go.ChangeAt Go.RowKit
set_option linter.unusedSimpArgs false
set_option linter.unusedVariables false

set_option maxHeartbeats 2000000 in
set_option maxRecDepth 100000 in
/-- Nothing is buffered, something is left, the caller's slice is shorter than the buffer: the buffer is filled first. -/
theorem bread_short (w : World) (K F Q G o m cp n c i r k v D off : Nat) (xs : List Int) (h : BSt w K F Q (some ⟨D, off, none⟩) n c xs i r r .nilIface) (hm : m < 4096) (hm0 : 0 < m) (hin : i < n) (hv : v = Nat.min (n - i) 4096) (hk : k = Nat.min v m) (nK : K ≠ G) (nF : F ≠ G) (nQ : Q ≠ G) (nD : D ≠ G) (lG : G < w.heap.size)
    (hdst : ∀ j, j < m → (w.cell? ⟨G, o + j, none⟩).isSome = true) (hfz : ∀ j, w.frozen? ⟨G, j, none⟩ = false) (hx : ∀ j, 0 ≤ xs.getD j 0 ∧ xs.getD j 0 ≤ 255) :
    Calls Tryf.prog 46 #[.pointer (some ⟨K, 0, none⟩), .slice (some ⟨G, o, none⟩) m cp] w fun e w' => e = .returned (.tuple #[.int .i64 k, .nilIface]) ∧ Got w w' K F Q G o k i (some ⟨D, off, none⟩) n c xs := by
  have hv1 : v ≤ n - i := by rw [hv]; exact Nat.min_le_left _ _
  have hv2 : v ≤ 4096 := by rw [hv]; exact Nat.min_le_right _ _
  have hv0 : 0 < v := by rw [hv]; exact Nat.lt_min.2 ⟨by omega, by omega⟩
  have hk1 : k ≤ v := by rw [hk]; exact Nat.min_le_left _ _
  have hk2 : k ≤ m := by rw [hk]; exact Nat.min_le_right _ _
  have hk0 : 0 < k := by rw [hk]; exact Nat.lt_min.2 ⟨hv0, hm0⟩
  have HV : Hid (v = Nat.min (n - i) 4096) := hv
  have HK : Hid (k = Nat.min v m) := hk
  have HB : Hid (BSt w K F Q (some ⟨D, off, none⟩) n c xs i r r .nilIface) := h
  have HD : Hid (∀ j, j < m → (w.cell? ⟨G, o + j, none⟩).isSome = true) := hdst
  have HF : Hid (∀ j, w.frozen? ⟨G, j, none⟩ = false) := hfz
  have HX : Hid (∀ j, 0 ≤ xs.getD j 0 ∧ xs.getD j 0 ≤ 255) := hx
  have k0 := h.k0
  have k1 := h.k1
  have k2 := h.k2
  have k3 := h.k3
  have k4 := h.k4
  have f2 := h.kf 2
  have f3 := h.kf 3
  have hlK := h.lK
  have hKF := h.kF
  have hKQ := h.kQ
  clear h hv hk hdst hfz hx
  have hz1 : ((m : Int) == 0) = false := by simp; omega
  have hz2 : ((r : Int) == (r : Int)) = true := by simp
  have hz3 : ¬ (4096 : Int) ≤ (m : Int) := by omega
  have hz3' : (m : Int) < 4096 := by omega
  have hz4 : ((v : Int) == 0) = false := by simp; omega
  have hz5 : ¬ (v : Int) < 0 := by omega
  go_enter Tryf.func46, Tryf.ntmps46
  go_wp2
  go_quiet (fail)
  go_wp2
  obtain ⟨W1, hW1⟩ : ∃ W, W = ((w.drewN nq).setCell ⟨K, 2, none⟩ (.int .i64 0)).setCell ⟨K, 3, none⟩ (.int .i64 0) := ⟨_, rfl⟩
  rw [← hW1]
  have h1 : BSt W1 K F Q (some ⟨D, off, none⟩) n c xs i 0 0 .nilIface := by rw [hW1]; exact (HB.out.drewN nq).reset
  have ch1 : Ch w W1 [K, F, Q] := by rw [hW1]; exact (((Ch.refl w _).drewN nq).set (by simp)).set (by simp)
  have sz1 : W1.heap.size = w.heap.size := by rw [hW1, World.size_setCell, World.size_setCell]; rfl
  have c0 := h1.k0
  have c1 := h1.k1
  have c4 := h1.k4
  have g4 := h1.kf 4
  have RC : Hid (Calls Tryf.prog 45 #[.pointer (some ⟨Q, 0, none⟩), .slice (some ⟨F, 0, none⟩) 4096 4096] W1.drew fun e w' => e = .returned (.tuple #[.int .i64 v, .nilIface]) ∧ Rd W1.drew w' Q F 0 v i xs) := by
    obtain ⟨x2, hx2⟩ := h1.q2
    rcases h1.dat with h0 | ⟨D', off', hd, hl, n1, n2, n3, hc, hcells⟩
    · omega
    · obtain ⟨rfl, rfl⟩ : D = D' ∧ off = off' := by simpa using hd
      exact read45_some W1.drew Q D off n c i F 0 4096 4096 v xs h1.nb hin hc (by omega) HV.out (Ne.symm n3) (Ne.symm h1.fQ) h1.q0 h1.q1 x2 hx2 (h1.qf 1) (h1.qf 2) hcells (fun j hj => h1.bh _ (by omega)) h1.bf
  have HB1 : Hid (BSt W1 K F Q (some ⟨D, off, none⟩) n c xs i 0 0 .nilIface) := h1
  have HC1 : Hid (Ch w W1 [K, F, Q] ∧ W1.heap.size = w.heap.size) := ⟨ch1, sz1⟩
  have c3 := h1.k3
  have g3 := h1.kf 3
  have lK1 : K < W1.drew.heap.size := h1.lK
  have hKn : K ∉ [Q, F] := by simp [hKF, hKQ]
  have KS : Hid (∀ w2, Rd W1.drew w2 Q F 0 v i xs → (w2.cell? ⟨K, 0, none⟩ = some (.slice (some ⟨F, 0, none⟩) 4096 4096) ∧ w2.cell? ⟨K, 1, none⟩ = some (.iface 34 (.pointer (some ⟨Q, 0, none⟩)))) ∧ ∀ u, (w2.setCell ⟨K, 4, none⟩ u).cell? ⟨K, 0, none⟩ = some (.slice (some ⟨F, 0, none⟩) 4096 4096) ∧ (w2.setCell ⟨K, 4, none⟩ u).cell? ⟨K, 1, none⟩ = some (.iface 34 (.pointer (some ⟨Q, 0, none⟩)))) := fun w2 hrd => by
    have a0 : w2.cell? ⟨K, 0, none⟩ = some (.slice (some ⟨F, 0, none⟩) 4096 4096) := by rw [hrd.ch.cell lK1 hKn]; exact c0
    have a1 : w2.cell? ⟨K, 1, none⟩ = some (.iface 34 (.pointer (some ⟨Q, 0, none⟩))) := by rw [hrd.ch.cell lK1 hKn]; exact c1
    exact ⟨⟨a0, a1⟩, fun u => ⟨by rw [cell_set, if_neg (by omega)]; exact a0, by rw [cell_set, if_neg (by omega)]; exact a1⟩⟩
  have A4 : Hid (∀ w2, Rd W1.drew w2 Q F 0 v i xs → w2.cell? ⟨K, 4, none⟩ = some .nilIface ∧ w2.frozen? ⟨K, 4, none⟩ = false) := fun w2 hrd =>
    ⟨by rw [hrd.ch.cell lK1 hKn]; exact c4, by rw [hrd.ch.fz K 4 lK1]; exact g4⟩
  clear h1 ch1 sz1 hW1 k0 k1 k2 k3 k4 f2 f3
  go_region_held3 (fun W => W.cell? ⟨K, 0, none⟩ = some (.slice (some ⟨F, 0, none⟩) 4096 4096) ∧ W.cell? ⟨K, 1, none⟩ = some (.iface 34 (.pointer (some ⟨Q, 0, none⟩)))) (first | exact ⟨c0, c1⟩ | exact (KS.out _ hrd.out).1 | exact (KS.out _ hrd.out).2 _ | (go_keep; done)) (first | (go_at_call 45; refine RC.out.mono ?_; rintro e w2 ⟨rfl, hrd'⟩; have hrd : Hid (Rd W1.drew w2 Q F 0 v i xs) := hrd'; clear hrd'; have a4 := (A4.out _ hrd.out).1; have g4' := (A4.out _ hrd.out).2))
  have b3 : (w2.setCell ⟨K, 4, none⟩ .nilIface).cell? ⟨K, 3, none⟩ = some (.int .i64 0) := by rw [cell_set, if_neg (by omega), hrd.out.ch.cell lK1 hKn]; exact c3
  have e3 : (w2.setCell ⟨K, 4, none⟩ .nilIface).frozen? ⟨K, 3, none⟩ = false := by rw [World.frozen?_setCell, hrd.out.ch.fz K 3 lK1]; exact g3
  have HB3 : Hid (BSt ((w2.setCell ⟨K, 4, none⟩ .nilIface).setCell ⟨K, 3, none⟩ (.int .i64 v)) K F Q (some ⟨D, off, none⟩) n c xs (i + v) 0 v .nilIface) := (HB1.out.of_heap (w' := W1.drew) rfl).filled0 hrd.out (by omega) hv2
  have HC3 : Hid (Ch w ((w2.setCell ⟨K, 4, none⟩ .nilIface).setCell ⟨K, 3, none⟩ (.int .i64 v)) [K, F, Q] ∧ ((w2.setCell ⟨K, 4, none⟩ .nilIface).setCell ⟨K, 3, none⟩ (.int .i64 v)).heap.size = w.heap.size) := by
    refine ⟨((((HC1.out.1.drew).trans (hrd.out.ch.mono (by simp)))).set (by simp)).set (by simp), ?_⟩
    rw [World.size_setCell, World.size_setCell, hrd.out.size]; exact HC1.out.2
  clear RC KS A4 c0 c1 c4 g4 c3 g3 HB1 HC1 hrd a4 g4' HV HB
  go_wp2
  obtain ⟨W3, hW3⟩ : ∃ W, W = (w2.setCell ⟨K, 4, none⟩ .nilIface).setCell ⟨K, 3, none⟩ (.int .i64 v) := ⟨_, rfl⟩
  rw [← hW3]
  rw [← hW3] at HB3 HC3
  clear hW3 b3 e3
  have h3 := HB3.out
  have hGn : G ∉ [K, F, Q] := by simp [Ne.symm nK, Ne.symm nF, Ne.symm nQ]
  have c0 := h3.k0
  have c2 := h3.k2
  have c3 := h3.k3
  have hD3 : Hid (∀ j, j < m → (W3.cell? ⟨G, o + j, none⟩).isSome = true) := fun j hj => by rw [HC3.out.1.cell lG hGn]; exact HD.out j hj
  have hF3 : Hid (∀ j, W3.frozen? ⟨G, j, none⟩ = false) := fun j => by rw [HC3.out.1.fz G j lG]; exact HF.out j
  have hcp1 : (Builtin.copy_ #[22, 22] 3 #[.slice (some ⟨G, o, none⟩) m cp, .slice (some ⟨F, 0, none⟩) v 4096]).run Tryf.prog W3.drew = .ok (.int .i64 k) (W3.drew.setCells G o (vals xs i k)) := by
    refine copy22 _ G o m cp F 0 v 4096 i k xs HK.out (fun j hj => ?_) (fun j hj => ?_) (fun j => ?_)
    · have := h3.bv (0 + j) (by omega) (by omega)
      rw [show i + v + (0 + j) - v = i + j from by omega] at this
      exact this
    · rw [World.cell?_drew]; exact hD3.out j (by omega)
    · exact hF3.out j
  have HO3 : Hid (∀ j, W3.cell? ⟨G, j, none⟩ = w.cell? ⟨G, j, none⟩) := fun j => HC3.out.1.cell lG hGn
  clear h3
  have hr1 : (0 : Int) ≤ (v : Int) := by omega
  have hr2 : (v : Int) ≤ 4096 := by omega
  go_region_held3 (fun W => W.cell? ⟨K, 0, none⟩ = some (.slice (some ⟨F, 0, none⟩) 4096 4096) ∧ W.cell? ⟨K, 2, none⟩ = some (.int .i64 ((0 : Nat) : Int)) ∧ W.cell? ⟨K, 3, none⟩ = some (.int .i64 v)) (first | exact ⟨c0, c2, c3⟩ | (rw [cells_out _ _ _ _ _ _ _ _ (.inl nK), cells_out _ _ _ _ _ _ _ _ (.inl nK), cells_out _ _ _ _ _ _ _ _ (.inl nK)]; exact ⟨c0, c2, c3⟩) | (go_keep; done)) (fail)
  obtain ⟨W4, hW4⟩ : ∃ W, W = W3.drew.setCells G o (vals xs i k) := ⟨_, rfl⟩
  rw [← hW4]
  have ch4 : Ch W3 W4 [G] := by
    rw [hW4]
    exact Ch.setCells (by simp) _ _ _ ((Ch.refl W3 _).drew)
  have sz4 : W4.heap.size = w.heap.size := by rw [hW4, size_setCells]; exact HC3.out.2
  have h4 : BSt W4 K F Q (some ⟨D, off, none⟩) n c xs (i + v) 0 v .nilIface := HB3.out.ch ch4 (by simpa using nK) (by simpa using nF) (by simpa using nQ) (fun D' off' hd => by rw [← (show D = D' from by simp at hd; exact hd.1)]; simpa using nD)
  have in4 : ∀ j, j < k → W4.cell? ⟨G, o + j, none⟩ = some (.int .u8 (xs.getD (i + j) 0)) := fun j hj => by
    rw [hW4]; exact cells_in _ G o _ k xs (fun j hj => by rw [World.cell?_drew]; exact hD3.out j (by omega)) j hj
  have out4 : ∀ j, (j < o ∨ o + k ≤ j) → W4.cell? ⟨G, j, none⟩ = w.cell? ⟨G, j, none⟩ := fun j hj => by
    rw [hW4, cells_out _ _ _ _ _ _ _ _ (.inr hj), World.cell?_drew]; exact HO3.out j
  have d2 := h4.k2
  have g2 := h4.kf 2
  have HC4 : Hid (Ch w W4 [K, F, Q, G] ∧ W4.heap.size = w.heap.size) := ⟨(HC3.out.1.mono (by intro b hb; left; simp at hb ⊢; omega)).trans (ch4.mono (by simp)), sz4⟩
  have HB4 : Hid (BSt W4 K F Q (some ⟨D, off, none⟩) n c xs (i + v) 0 v .nilIface) := h4
  have HI4 : Hid (∀ j, j < k → W4.cell? ⟨G, o + j, none⟩ = some (.int .u8 (xs.getD (i + j) 0))) := in4
  have HO4 : Hid (∀ j, (j < o ∨ o + k ≤ j) → W4.cell? ⟨G, j, none⟩ = w.cell? ⟨G, j, none⟩) := out4
  clear hW4 ch4 sz4 h4 in4 out4 hcp1 HB3 HC3 c0 c2 c3 HD HF HK hD3 hF3 HO3
  go_wp2
  obtain ⟨W5, hW5⟩ : ∃ W, W = W4.setCell ⟨K, 2, none⟩ (.int .i64 k) := ⟨_, rfl⟩
  rw [← hW5]
  obtain ⟨t, ht⟩ : ∃ t, t + 1 = k := ⟨k - 1, by omega⟩
  have h5 : BSt W5 K F Q (some ⟨D, off, none⟩) n c xs (i + v) k v .nilIface := by
    rw [hW5]
    exact HB4.out.setR k (by omega) (by omega)
  have e2 : W5.cell? ⟨K, 2, none⟩ = some (.int .i64 ((t : Int) + 1)) := by rw [h5.k2, show (k : Int) = (t : Int) + 1 from by omega]
  have eF : W5.cell? ⟨F, t, none⟩ = some (.int .u8 (xs.getD (i + v + t - v) 0)) := by
    rw [hW5, cell_set, if_neg (fun hh => HB4.out.kF hh.1)]
    exact HB4.out.bv t (by omega) (by omega)
  have hy := HX.out (i + v + t - v)
  generalize xs.getD (i + v + t - v) 0 = y at *
  have e0 := h5.k0
  obtain ⟨x5, e5⟩ := h5.k5
  obtain ⟨x6, e6⟩ := h5.k6
  have g5 := h5.kf 5
  have g6 := h5.kf 6
  obtain ⟨hy0, hy1⟩ := hy
  have ht0 : (0 : Int) ≤ (t : Int) := by omega
  have ht1 : (t : Int) < 4096 := by omega
  have ht2 : t < 4096 := by omega
  have ht3 : IntKind.i64.wrap (t : Int) = (t : Int) := by rw [IntKind.wrap_i64]; omega
  have HG : Hid (∀ a b, Got w ((W5.setCell ⟨K, 5, none⟩ a).setCell ⟨K, 6, none⟩ b).drew K F Q G o k i (some ⟨D, off, none⟩) n c xs) := fun a b => by
    have eW : ∀ bb j, bb ≠ K → (((W5.setCell ⟨K, 5, none⟩ a).setCell ⟨K, 6, none⟩ b).drew).cell? ⟨bb, j, none⟩ = W4.cell? ⟨bb, j, none⟩ := fun bb j hb => by
      rw [World.cell?_drew, cell_set, if_neg (fun hh => hb hh.1.symm), cell_set, if_neg (fun hh => hb hh.1.symm), hW5, cell_set, if_neg (fun hh => hb hh.1.symm)]
    refine ⟨?_, ?_, ⟨i + v, k, v, ?_, by omega⟩, fun j hj => by rw [eW _ _ (Ne.symm nK)]; exact HI4.out j hj, fun j hj => by rw [eW _ _ (Ne.symm nK)]; exact HO4.out j hj⟩
    · rw [hW5]
      exact ((((HC4.out.1.set (by simp)).set (by simp)).set (by simp)).drew)
    · show (World.setCell _ _ _).heap.size = _
      rw [World.size_setCell, World.size_setCell, hW5, World.size_setCell]; exact HC4.out.2
    · exact ((h5.set56 5 (by omega) a).set56 6 (by omega) b).of_heap rfl
  have KS : Hid (∀ u, (W5.setCell ⟨K, 5, none⟩ u).drew.cell? ⟨K, 0, none⟩ = some (.slice (some ⟨F, 0, none⟩) 4096 4096) ∧ (W5.setCell ⟨K, 5, none⟩ u).drew.cell? ⟨K, 2, none⟩ = some (.int .i64 ((t : Int) + 1)) ∧ (W5.setCell ⟨K, 5, none⟩ u).drew.cell? ⟨F, t, none⟩ = some (.int .u8 y)) := fun u =>
    ⟨by rw [World.cell?_drew, cell_set, if_neg (by omega)]; exact e0, by rw [World.cell?_drew, cell_set, if_neg (by omega)]; exact e2, by rw [World.cell?_drew, cell_set, if_neg (fun hh => hKF hh.1)]; exact eF⟩
  clear h5 hW5 ht d2 g2 HC4 HB4 HI4 HO4
  go_region_held3 (fun W => W.cell? ⟨K, 0, none⟩ = some (.slice (some ⟨F, 0, none⟩) 4096 4096) ∧ W.cell? ⟨K, 2, none⟩ = some (.int .i64 ((t : Int) + 1)) ∧ W.cell? ⟨F, t, none⟩ = some (.int .u8 y)) (first | exact KS.out _ | (go_keep; done)) (fail)
  clear KS
  go_wp2
  go_ret2
  exact ⟨rfl, HG.out _ _⟩

/-- (*bufio.Reader).Read where something is left: k > 0 bytes of it. -/
theorem bread_some (w : World) (K F Q G o m cp n c pos : Nat) (d : Option Addr) (xs : List Int) (h : Strm w K F Q d n c xs pos) (hpos : pos < n) (hm : 0 < m) (hmb : m ≤ maxLen) (nK : K ≠ G) (nF : F ≠ G) (nQ : Q ≠ G) (nD : ∀ D off, d = some ⟨D, off, none⟩ → D ≠ G) (lG : G < w.heap.size)
    (hdst : ∀ j, j < m → (w.cell? ⟨G, o + j, none⟩).isSome = true) (hfz : ∀ j, w.frozen? ⟨G, j, none⟩ = false) (hx : ∀ j, 0 ≤ xs.getD j 0 ∧ xs.getD j 0 ≤ 255) :
    Calls Tryf.prog 46 #[.pointer (some ⟨K, 0, none⟩), .slice (some ⟨G, o, none⟩) m cp] w fun e w' => ∃ k : Nat, 0 < k ∧ k ≤ m ∧ pos + k ≤ n ∧ e = .returned (.tuple #[.int .i64 k, .nilIface]) ∧ Got w w' K F Q G o k pos d n c xs := by
  obtain ⟨i, r, v, hb, he⟩ := h
  have hrv := hb.rv
  have hinn := hb.inn
  have hiv := hb.iv
  by_cases h1 : r < v
  · have hp : i + r - v = pos := by omega
    have hmin1 := Nat.min_le_left (v - r) m
    have hmin2 := Nat.min_le_right (v - r) m
    have hmin0 : 0 < Nat.min (v - r) m := Nat.lt_min.2 ⟨by omega, hm⟩
    refine (bread_buf w K F Q G o m cp n c i r v (Nat.min (v - r) m) d xs hb h1 hm rfl nK nF nQ nD lG hdst hfz hx).mono fun e w' ⟨h2, h3⟩ => ⟨Nat.min (v - r) m, hmin0, hmin2, by have : Nat.min (v - r) m ≤ v - r := hmin1; omega, h2, ?_⟩
    rw [hp] at h3
    exact h3
  · obtain rfl : r = v := by omega
    obtain rfl : i = pos := by omega
    obtain ⟨D, off, rfl⟩ : ∃ D off, d = some ⟨D, off, none⟩ := by
      rcases hb.dat with h1 | ⟨D, off, hd, _⟩
      · omega
      · exact ⟨D, off, hd⟩
    by_cases hl : 4096 ≤ m
    · have hmin1 : Nat.min (n - i) m ≤ n - i := Nat.min_le_left (n - i) m
      have hmin2 : Nat.min (n - i) m ≤ m := Nat.min_le_right (n - i) m
      have hmin0 : 0 < Nat.min (n - i) m := Nat.lt_min.2 ⟨by omega, hm⟩
      exact (bread_long w K F Q G o m cp n c i r (Nat.min (n - i) m) D off xs hb hl hpos rfl nK nF nQ (nD D off rfl) lG hmb hdst hfz hx).mono fun e w' ⟨h2, h3⟩ => ⟨Nat.min (n - i) m, hmin0, hmin2, by omega, h2, h3⟩
    · have hmin1 : Nat.min (n - i) 4096 ≤ n - i := Nat.min_le_left (n - i) 4096
      have hmin0 : 0 < Nat.min (n - i) 4096 := Nat.lt_min.2 ⟨by omega, by omega⟩
      have hk1 : Nat.min (Nat.min (n - i) 4096) m ≤ Nat.min (n - i) 4096 := Nat.min_le_left _ _
      have hk2 : Nat.min (Nat.min (n - i) 4096) m ≤ m := Nat.min_le_right _ _
      have hk0 : 0 < Nat.min (Nat.min (n - i) 4096) m := Nat.lt_min.2 ⟨hmin0, hm⟩
      exact (bread_short w K F Q G o m cp n c i r (Nat.min (Nat.min (n - i) 4096) m) (Nat.min (n - i) 4096) D off xs hb (by omega) hm hpos rfl rfl nK nF nQ (nD D off rfl) lG hdst hfz hx).mono fun e w' ⟨h2, h3⟩ => ⟨Nat.min (Nat.min (n - i) 4096) m, hk0, hk2, by omega, h2, h3⟩

/-- .. and where nothing is left: io.EOF. -/
theorem bread_end (w : World) (K F Q G o m cp n c : Nat) (d : Option Addr) (xs : List Int) (ea : Addr) (hE : EofAt w ea) (lt0 : 0 < K ∧ 0 < F ∧ 0 < Q) (h : Strm w K F Q d n c xs n) (hm : 0 < m) :
    Calls Tryf.prog 46 #[.pointer (some ⟨K, 0, none⟩), .slice (some ⟨G, o, none⟩) m cp] w fun e w' => e = .returned (.tuple #[.int .i64 0, .iface 60 (.pointer (some ea))]) ∧ Ch w w' [K, F, Q] ∧ w'.heap.size = w.heap.size ∧ Strm w' K F Q d n c xs n := by
  obtain ⟨i, r, v, hb, he⟩ := h
  have hrv := hb.rv
  have hinn := hb.inn
  have hiv := hb.iv
  obtain rfl : r = v := by omega
  by_cases hl : 4096 ≤ m
  · exact bread_eof_long w K F Q G o m cp n c i r d xs ea hE lt0 hb hl (by omega)
  · exact bread_eof_short w K F Q G o m cp n c i r d xs ea hE lt0 hb (by omega) hm (by omega)
end Go.Proofs.Qxb6616814aFmt
