import Derived.Test.Qxb6616814aFmtGot
namespace Go.Proofs.Qxb6616814aFmt
open Go.ChangeShapes Go.WideShapes Go.ChangeAt Go.RowKit
set_option linter.unusedSimpArgs false
set_option linter.unusedVariables false

set_option maxHeartbeats 2000000 in
set_option maxRecDepth 100000 in
/-- Something is buffered. -/
theorem bread_buf (w : World) (K F Q G o m cp n c i r v k : Nat) (d : Option Addr) (xs : List Int) (h : BSt w K F Q d n c xs i r v .nilIface) (hrv : r < v) (hm : 0 < m) (hk : k = Nat.min (v - r) m) (nK : K ≠ G) (nF : F ≠ G) (nQ : Q ≠ G) (nD : ∀ D off, d = some ⟨D, off, none⟩ → D ≠ G) (lG : G < w.heap.size)
    (hdst : ∀ j, j < m → (w.cell? ⟨G, o + j, none⟩).isSome = true) (hfz : ∀ j, w.frozen? ⟨G, j, none⟩ = false) (hx : ∀ j, 0 ≤ xs.getD j 0 ∧ xs.getD j 0 ≤ 255) :
    Calls Tryf.prog 46 #[.pointer (some ⟨K, 0, none⟩), .slice (some ⟨G, o, none⟩) m cp] w fun e w' => e = .returned (.tuple #[.int .i64 k, .nilIface]) ∧ Got w w' K F Q G o k (i + r - v) d n c xs := by
  have hk1 : k ≤ v - r := by rw [hk]; exact Nat.min_le_left _ _
  have hk2 : k ≤ m := by rw [hk]; exact Nat.min_le_right _ _
  have hk0 : 0 < k := by rw [hk]; exact Nat.lt_min.2 ⟨by omega, hm⟩
  have HK : Hid (k = Nat.min (v - r) m) := hk
  have HB : Hid (BSt w K F Q d n c xs i r v .nilIface) := h
  have HD : Hid (∀ j, j < m → (w.cell? ⟨G, o + j, none⟩).isSome = true) := hdst
  have HF : Hid (∀ j, w.frozen? ⟨G, j, none⟩ = false) := hfz
  have HN : Hid (∀ D off, d = some ⟨D, off, none⟩ → D ≠ G) := nD
  have HX : Hid (∀ j, 0 ≤ xs.getD j 0 ∧ xs.getD j 0 ≤ 255) := hx
  have k2 := h.k2
  have k3 := h.k3
  have hv4 := h.v4
  have hiv := h.iv
  clear h hk hdst hfz nD hx
  have hz1 : ((m : Int) == 0) = false := by simp; omega
  have hz2 : ((r : Int) == (v : Int)) = false := by simp; omega
  have hz2' : (r == v) = false := by simp; omega
  go_enter Tryf.func46, Tryf.ntmps46
  go_wp2
  go_quiet (fail)
  go_wp2
  obtain ⟨W1, hW1⟩ : ∃ W, W = w.drewN nq := ⟨_, rfl⟩
  rw [← hW1]
  have h1 : BSt W1 K F Q d n c xs i r v .nilIface := by rw [hW1]; exact HB.out.drewN nq
  have c0 := h1.k0
  have c2 := h1.k2
  have c3 := h1.k3
  have hcp1 : (Builtin.copy_ #[22, 22] 3 #[.slice (some ⟨G, o, none⟩) m cp, .slice (some ⟨F, r, none⟩) (v - r) (4096 - r)]).run Tryf.prog W1.drew = .ok (.int .i64 k) (W1.drew.setCells G o (vals xs (i + r - v) k)) := by
    refine copy22 _ G o m cp F r (v - r) (4096 - r) (i + r - v) k xs HK.out (fun j hj => ?_) (fun j hj => ?_) (fun j => ?_)
    · have := h1.bv (r + j) (by omega) (by omega)
      rw [show i + (r + j) - v = i + r - v + j from by omega] at this
      exact this
    · rw [World.cell?_drew, hW1]; exact HD.out j (by omega)
    · show World.frozen? W1 _ = false; rw [hW1]; exact HF.out j
  have HB1 : Hid (BSt W1 K F Q d n c xs i r v .nilIface) := h1
  have HW1 : Hid (W1 = w.drewN nq) := hW1
  clear h1 hW1 k2 k3
  have hr0 : (0 : Int) ≤ (r : Int) := by omega
  have hr1 : (r : Int) ≤ (v : Int) := by omega
  have hr2 : (v : Int) ≤ 4096 := by omega
  have hne : ¬ 4096 = r := by omega
  go_region_held3 (fun W => W.cell? ⟨K, 0, none⟩ = some (.slice (some ⟨F, 0, none⟩) 4096 4096) ∧ W.cell? ⟨K, 2, none⟩ = some (.int .i64 r) ∧ W.cell? ⟨K, 3, none⟩ = some (.int .i64 v)) (first | go_keep | (rw [cells_out _ _ _ _ _ _ _ _ (.inl nK), cells_out _ _ _ _ _ _ _ _ (.inl nK), cells_out _ _ _ _ _ _ _ _ (.inl nK)]; exact ⟨c0, c2, c3⟩)) (fail)
  obtain ⟨W2, hW2⟩ : ∃ W, W = W1.drew.setCells G o (vals xs (i + r - v) k) := ⟨_, rfl⟩
  rw [← hW2]
  have ch2 : Ch w W2 [G] := by
    rw [hW2, HW1.out]
    exact Ch.setCells (by simp) _ _ _ (((Ch.refl w _).drewN nq).drew)
  have sz2 : W2.heap.size = w.heap.size := by rw [hW2, size_setCells, HW1.out]; rfl
  have h2 : BSt W2 K F Q d n c xs i r v .nilIface := HB.out.ch ch2 (by simpa using nK) (by simpa using nF) (by simpa using nQ) (fun D off hd => by simpa using HN.out D off hd)
  have in2 : ∀ j, j < k → W2.cell? ⟨G, o + j, none⟩ = some (.int .u8 (xs.getD (i + r - v + j) 0)) := fun j hj => by
    rw [hW2]; exact cells_in _ G o _ k xs (fun j hj => by rw [World.cell?_drew, HW1.out]; exact HD.out j (by omega)) j hj
  have out2 : ∀ j, (j < o ∨ o + k ≤ j) → W2.cell? ⟨G, j, none⟩ = w.cell? ⟨G, j, none⟩ := fun j hj => by
    rw [hW2, cells_out _ _ _ _ _ _ _ _ (.inr hj), World.cell?_drew, HW1.out]; rfl
  have d2 := h2.k2
  have g2 := h2.kf 2
  have HC2 : Hid (Ch w W2 [G] ∧ W2.heap.size = w.heap.size) := ⟨ch2, sz2⟩
  have HB2 : Hid (BSt W2 K F Q d n c xs i r v .nilIface) := h2
  have HI2 : Hid (∀ j, j < k → W2.cell? ⟨G, o + j, none⟩ = some (.int .u8 (xs.getD (i + r - v + j) 0))) := in2
  have HO2 : Hid (∀ j, (j < o ∨ o + k ≤ j) → W2.cell? ⟨G, j, none⟩ = w.cell? ⟨G, j, none⟩) := out2
  clear hW2 ch2 sz2 h2 in2 out2 hcp1 HW1 HB1 c0 c2 c3 HD HF HN HK HB
  go_wp2
  obtain ⟨W3, hW3⟩ : ∃ W, W = W2.setCell ⟨K, 2, none⟩ (.int .i64 ((r : Int) + k)) := ⟨_, rfl⟩
  rw [← hW3]
  obtain ⟨t, ht⟩ : ∃ t, t + 1 = r + k := ⟨r + k - 1, by omega⟩
  have h3 : BSt W3 K F Q d n c xs i (r + k) v .nilIface := by
    rw [hW3, show ((r : Int) + k) = ((r + k : Nat) : Int) from by omega]
    exact HB2.out.setR (r + k) (by omega) (by omega)
  have e2 : W3.cell? ⟨K, 2, none⟩ = some (.int .i64 ((t : Int) + 1)) := by rw [h3.k2, show ((r + k : Nat) : Int) = (t : Int) + 1 from by omega]
  have eF : W3.cell? ⟨F, t, none⟩ = some (.int .u8 (xs.getD (i + t - v) 0)) := by
    rw [hW3, cell_set, if_neg (fun hh => HB2.out.kF hh.1)]
    exact HB2.out.bv t (by omega) (by omega)
  have hy := HX.out (i + t - v)
  generalize xs.getD (i + t - v) 0 = y at *
  have e0 := h3.k0
  obtain ⟨x5, e5⟩ := h3.k5
  obtain ⟨x6, e6⟩ := h3.k6
  have g5 := h3.kf 5
  have g6 := h3.kf 6
  have HB3 : Hid (BSt W3 K F Q d n c xs i (r + k) v .nilIface) := h3
  have HW3 : Hid (W3 = W2.setCell ⟨K, 2, none⟩ (.int .i64 ((r : Int) + k))) := hW3
  have hKF := h3.kF
  obtain ⟨hy0, hy1⟩ := hy
  have ht0 : (0 : Int) ≤ (t : Int) := by omega
  have ht1 : (t : Int) < 4096 := by omega
  have HT : Hid (t + 1 = r + k) := ht
  have ht2 : t < 4096 := by omega
  have ht3 : IntKind.i64.wrap (t : Int) = (t : Int) := by rw [IntKind.wrap_i64]; omega
  have HG : Hid (∀ a b, Got w ((W3.setCell ⟨K, 5, none⟩ a).setCell ⟨K, 6, none⟩ b).drew K F Q G o k (i + r - v) d n c xs) := fun a b => by
    have eW : ∀ bb j, bb ≠ K → (((W3.setCell ⟨K, 5, none⟩ a).setCell ⟨K, 6, none⟩ b).drew).cell? ⟨bb, j, none⟩ = W2.cell? ⟨bb, j, none⟩ := fun bb j hb => by
      rw [World.cell?_drew, cell_set, if_neg (fun hh => hb hh.1.symm), cell_set, if_neg (fun hh => hb hh.1.symm), hW3, cell_set, if_neg (fun hh => hb hh.1.symm)]
    refine ⟨?_, ?_, ⟨i, r + k, v, ?_, by omega⟩, fun j hj => by rw [eW _ _ (Ne.symm nK)]; exact HI2.out j hj, fun j hj => by rw [eW _ _ (Ne.symm nK)]; exact HO2.out j hj⟩
    · rw [hW3]
      exact (((((HC2.out.1.mono (by simp) : Ch w W2 [K, F, Q, G]).set (by simp)).set (by simp)).set (by simp)).drew)
    · show (World.setCell _ _ _).heap.size = _
      rw [World.size_setCell, World.size_setCell, hW3, World.size_setCell]; exact HC2.out.2
    · exact ((h3.set56 5 (by omega) a).set56 6 (by omega) b).of_heap rfl
  have KS : Hid (∀ u, (W3.setCell ⟨K, 5, none⟩ u).drew.cell? ⟨K, 0, none⟩ = some (.slice (some ⟨F, 0, none⟩) 4096 4096) ∧ (W3.setCell ⟨K, 5, none⟩ u).drew.cell? ⟨K, 2, none⟩ = some (.int .i64 ((t : Int) + 1)) ∧ (W3.setCell ⟨K, 5, none⟩ u).drew.cell? ⟨F, t, none⟩ = some (.int .u8 y)) := fun u =>
    ⟨by rw [World.cell?_drew, cell_set, if_neg (by omega)]; exact e0, by rw [World.cell?_drew, cell_set, if_neg (by omega)]; exact e2, by rw [World.cell?_drew, cell_set, if_neg (fun hh => hKF hh.1)]; exact eF⟩
  clear h3 hW3 ht d2 g2
  go_region_held3 (fun W => W.cell? ⟨K, 0, none⟩ = some (.slice (some ⟨F, 0, none⟩) 4096 4096) ∧ W.cell? ⟨K, 2, none⟩ = some (.int .i64 ((t : Int) + 1)) ∧ W.cell? ⟨F, t, none⟩ = some (.int .u8 y)) (first | exact KS.out _ | (go_keep; done)) (fail)
  clear HB3 HW3 HC2 HB2 HI2 HO2 KS HT
  go_wp2
  go_ret2
  exact ⟨rfl, HG.out _ _⟩
end Go.Proofs.Qxb6616814aFmt
