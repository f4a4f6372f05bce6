import Derived.Test.Qxb6616814aFmtGot
namespace Go.Proofs.Qxb6616814aFmt
open Go.ChangeShapes Go.WideShapes Go.ChangeAt Go.RowKit
set_option linter.unusedSimpArgs false
set_option linter.unusedVariables false

set_option maxHeartbeats 2000000 in
set_option maxRecDepth 100000 in
/-- Nothing is buffered, nothing is left, the caller's slice is no shorter than the buffer. -/
theorem bread_eof_long (w : World) (K F Q G o m cp n c i r : Nat) (d : Option Addr) (xs : List Int) (ea : Addr) (hE : EofAt w ea) (lt0 : 0 < K ∧ 0 < F ∧ 0 < Q) (h : BSt w K F Q d n c xs i r r .nilIface) (hm : 4096 ≤ m) (hin : i = n) :
    Calls Tryf.prog 46 #[.pointer (some ⟨K, 0, none⟩), .slice (some ⟨G, o, none⟩) m cp] w fun e w' => e = .returned (.tuple #[.int .i64 0, .iface 60 (.pointer (some ea))]) ∧ Ch w w' [K, F, Q] ∧ w'.heap.size = w.heap.size ∧ Strm w' K F Q d n c xs n := by
  have HB : Hid (BSt w K F Q d n c xs i r r .nilIface) := h
  have HE : Hid (EofAt w ea) := hE
  have HI : Hid (i = n) := hin
  have k0 := h.k0
  have k1 := h.k1
  have k2 := h.k2
  have k3 := h.k3
  have k4 := h.k4
  have f4 := h.kf 4
  clear h hE hin
  have hz1 : ((m : Int) == 0) = false := by simp; omega
  have hz2 : ((r : Int) == (r : Int)) = true := by simp
  have hz3 : (4096 : Int) ≤ (m : Int) := by omega
  go_enter Tryf.func46, Tryf.ntmps46
  go_wp2
  go_quiet (fail)
  go_wp2_with fail
  refine (read45_eof _ Q n c i d (some ⟨G, o, none⟩) m cp ea (by exact HE.out) (by have := HI.out; omega) (by have := HB.out.nb; have := HB.out.inn; omega) (by exact HB.out.q0) (by exact HB.out.q1)).mono ?_
  rintro e w1 ⟨rfl, q1, rfl⟩
  go_wp2_with fail
  refine (readErr_any _ K (.iface 60 (.pointer (some ea))) (by rw [cell_set, if_pos ⟨rfl, rfl⟩]; simp [k4]) rfl (by rw [World.frozen?_setCell]; exact HB.out.kf 4)).mono ?_
  rintro e w2 ⟨rfl, rfl⟩
  go_wp2
  go_ret2
  refine ⟨rfl, ?_, ?_, i, r, r, ?_, by have := HI.out; omega⟩
  · exact ((((Ch.refl w _).drewN _).set (by simp)).set (by simp))
  · rw [World.size_setCell, World.size_setCell]; rfl
  · exact ((HB.out.drewN _).setErr _).setErr _

set_option maxHeartbeats 2000000 in
set_option maxRecDepth 100000 in
/-- Nothing is buffered, something is left, the caller's slice is no shorter than the buffer: it is read past the buffer. -/
theorem bread_long (w : World) (K F Q G o m cp n c i r k D off : Nat) (xs : List Int) (h : BSt w K F Q (some ⟨D, off, none⟩) n c xs i r r .nilIface) (hm : 4096 ≤ m) (hin : i < n) (hk : k = Nat.min (n - i) m) (nK : K ≠ G) (nF : F ≠ G) (nQ : Q ≠ G) (nD : D ≠ G) (lG : G < w.heap.size) (hmb : m ≤ maxLen)
    (hdst : ∀ j, j < m → (w.cell? ⟨G, o + j, none⟩).isSome = true) (hfz : ∀ j, w.frozen? ⟨G, j, none⟩ = false) (hx : ∀ j, 0 ≤ xs.getD j 0 ∧ xs.getD j 0 ≤ 255) :
    Calls Tryf.prog 46 #[.pointer (some ⟨K, 0, none⟩), .slice (some ⟨G, o, none⟩) m cp] w fun e w' => e = .returned (.tuple #[.int .i64 k, .nilIface]) ∧ Got w w' K F Q G o k i (some ⟨D, off, none⟩) n c xs := by
  have hk1 : k ≤ n - i := by rw [hk]; exact Nat.min_le_left _ _
  have hk2 : k ≤ m := by rw [hk]; exact Nat.min_le_right _ _
  have hk0 : 0 < k := by rw [hk]; exact Nat.lt_min.2 ⟨by omega, by omega⟩
  have HK : Hid (k = Nat.min (n - i) m) := hk
  have HB : Hid (BSt w K F Q (some ⟨D, off, none⟩) n c xs i r r .nilIface) := h
  have HD : Hid (∀ j, j < m → (w.cell? ⟨G, o + j, none⟩).isSome = true) := hdst
  have HF : Hid (∀ j, w.frozen? ⟨G, j, none⟩ = false) := hfz
  have HX : Hid (∀ j, 0 ≤ xs.getD j 0 ∧ xs.getD j 0 ≤ 255) := hx
  have k0 := h.k0
  have k1 := h.k1
  have k2 := h.k2
  have k3 := h.k3
  have k4 := h.k4
  have hnb := h.nb
  clear h hk hdst hfz hx
  unfold maxLen at hmb
  have hz1 : ((m : Int) == 0) = false := by simp; omega
  have hz2 : ((r : Int) == (r : Int)) = true := by simp
  have hz3 : (4096 : Int) ≤ (m : Int) := by omega
  have hk0' : (0 : Int) < (k : Int) := by omega
  have hkn' : ¬ (k : Int) < 0 := by omega
  go_enter Tryf.func46, Tryf.ntmps46
  go_wp2
  go_quiet (fail)
  go_wp2_with fail
  have RC : Hid (Calls Tryf.prog 45 #[.pointer (some ⟨Q, 0, none⟩), .slice (some ⟨G, o, none⟩) m cp] (w.drewN nq) fun e w' => e = .returned (.tuple #[.int .i64 k, .nilIface]) ∧ Rd (w.drewN nq) w' Q G o k i xs) := by
    have h := HB.out.drewN nq
    obtain ⟨x2, hx2⟩ := h.q2
    rcases h.dat with h0 | ⟨D', off', hd, hl, n1, n2, n3, hc, hcells⟩
    · omega
    · obtain ⟨rfl, rfl⟩ : D = D' ∧ off = off' := by simpa using hd
      exact read45_some (w.drewN nq) Q D off n c i G o m cp k xs h.nb hin hc (by omega) HK.out (Ne.symm n3) nQ h.q0 h.q1 x2 hx2 (h.qf 1) (h.qf 2) hcells (fun j hj => HD.out j (by omega)) HF.out
  refine RC.out.mono ?_
  rintro e w1 ⟨rfl, hrd⟩
  have h1 : BSt w1 K F Q (some ⟨D, off, none⟩) n c xs (i + k) r r .nilIface := (HB.out.drewN nq).passed hrd (by omega) nK nF nQ (fun D' off' hd => by rw [← (show D = D' from by simp at hd; exact hd.1)]; exact nD)
  have HC1 : Hid (Ch w w1 [K, F, Q, G] ∧ w1.heap.size = w.heap.size) := ⟨(((Ch.refl w _).drewN nq).trans (hrd.ch.mono (by simp))), hrd.size⟩
  obtain ⟨t, ht⟩ : ∃ t, t + 1 = k := ⟨k - 1, by omega⟩
  have eG : w1.cell? ⟨G, o + t, none⟩ = some (.int .u8 (xs.getD (i + t) 0)) := hrd.inn t (by omega)
  have HI1 : Hid (∀ j, j < k → w1.cell? ⟨G, o + j, none⟩ = some (.int .u8 (xs.getD (i + j) 0))) := hrd.inn
  have HO1 : Hid (∀ j, (j < o ∨ o + k ≤ j) → w1.cell? ⟨G, j, none⟩ = w.cell? ⟨G, j, none⟩) := hrd.out
  have HB1 : Hid (BSt w1 K F Q (some ⟨D, off, none⟩) n c xs (i + k) r r .nilIface) := h1
  have a4 := h1.k4
  have g4 := h1.kf 4
  obtain ⟨x5, a5⟩ := h1.k5
  have g5 := h1.kf 5
  obtain ⟨x6, a6⟩ := h1.k6
  have g6 := h1.kf 6
  have hy := HX.out (i + t)
  generalize xs.getD (i + t) 0 = y at *
  obtain ⟨hy0, hy1⟩ := hy
  clear hrd h1 RC k0 k1 k2 k3 k4 HB HD HF HK HX
  subst ht
  go_wp2_with fail
  have HW4 : Hid (∀ y' : Value, BSt (((w1.setCell ⟨K, 4, none⟩ .nilIface).setCell ⟨K, 5, none⟩ y').setCell ⟨K, 6, none⟩ (.int .i64 (-1))) K F Q (some ⟨D, off, none⟩) n c xs (i + (t + 1)) r r .nilIface) := fun y' => ((HB1.out.setErr _).set56 5 (by omega) _).set56 6 (by omega) _
  refine (readErr_any _ K .nilIface (HW4.out _).k4 rfl ((HW4.out _).kf 4)).mono ?_
  rintro e w2 ⟨rfl, rfl⟩
  have HG : Hid (∀ y' : Value, Got w ((((w1.setCell ⟨K, 4, none⟩ .nilIface).setCell ⟨K, 5, none⟩ y').setCell ⟨K, 6, none⟩ (.int .i64 (-1))).setCell ⟨K, 4, none⟩ .nilIface) K F Q G o (t + 1) i (some ⟨D, off, none⟩) n c xs) := fun y' => by
    have eW : ∀ bb j, bb ≠ K → ((((w1.setCell ⟨K, 4, none⟩ .nilIface).setCell ⟨K, 5, none⟩ y').setCell ⟨K, 6, none⟩ (.int .i64 (-1))).setCell ⟨K, 4, none⟩ .nilIface).cell? ⟨bb, j, none⟩ = w1.cell? ⟨bb, j, none⟩ := fun bb j hb => by
      rw [cell_set, if_neg (fun hh => hb hh.1.symm), cell_set, if_neg (fun hh => hb hh.1.symm), cell_set, if_neg (fun hh => hb hh.1.symm), cell_set, if_neg (fun hh => hb hh.1.symm)]
    refine ⟨?_, ?_, ⟨i + (t + 1), r, r, (HW4.out y').setErr _, by omega⟩, fun j hj => by rw [eW _ _ (Ne.symm nK)]; exact HI1.out j hj, fun j hj => by rw [eW _ _ (Ne.symm nK)]; exact HO1.out j hj⟩
    · exact (((HC1.out.1.set (by simp)).set (by simp)).set (by simp)).set (by simp)
    · rw [World.size_setCell, World.size_setCell, World.size_setCell, World.size_setCell]; exact HC1.out.2
  clear HW4 HC1 HI1 HO1 HB1 a4 g4 a5 g5 a6 g6 eG
  go_wp2
  go_ret2
  exact ⟨rfl, HG.out _⟩

set_option maxHeartbeats 2000000 in
set_option maxRecDepth 100000 in
/-- Nothing is buffered, nothing is left, the caller's slice is shorter than the buffer. -/
theorem bread_eof_short (w : World) (K F Q G o m cp n c i r : Nat) (d : Option Addr) (xs : List Int) (ea : Addr) (hE : EofAt w ea) (lt0 : 0 < K ∧ 0 < F ∧ 0 < Q) (h : BSt w K F Q d n c xs i r r .nilIface) (hm : m < 4096) (hm0 : 0 < m) (hin : i = n) :
    Calls Tryf.prog 46 #[.pointer (some ⟨K, 0, none⟩), .slice (some ⟨G, o, none⟩) m cp] w fun e w' => e = .returned (.tuple #[.int .i64 0, .iface 60 (.pointer (some ea))]) ∧ Ch w w' [K, F, Q] ∧ w'.heap.size = w.heap.size ∧ Strm w' K F Q d n c xs n := by
  have HB : Hid (BSt w K F Q d n c xs i r r .nilIface) := h
  have HE : Hid (EofAt w ea) := hE
  have HI : Hid (i = n) := hin
  have k0 := h.k0
  have k1 := h.k1
  have k2 := h.k2
  have k3 := h.k3
  have k4 := h.k4
  have f2 := h.kf 2
  have f3 := h.kf 3
  have f4 := h.kf 4
  have hlK := h.lK
  clear h hE hin
  have hz1 : ((m : Int) == 0) = false := by simp; omega
  have hz2 : ((r : Int) == (r : Int)) = true := by simp
  have hz3 : ¬ (4096 : Int) ≤ (m : Int) := by omega
  have hz3' : (m : Int) < 4096 := by omega
  go_enter Tryf.func46, Tryf.ntmps46
  go_wp2
  go_quiet (fail)
  go_wp2
  obtain ⟨W1, hW1⟩ : ∃ W, W = ((w.drewN nq).setCell ⟨K, 2, none⟩ (.int .i64 0)).setCell ⟨K, 3, none⟩ (.int .i64 0) := ⟨_, rfl⟩
  rw [← hW1]
  have h1 : BSt W1 K F Q d n c xs i 0 0 .nilIface := by rw [hW1]; exact (HB.out.drewN nq).reset
  have ch1 : Ch w W1 [K, F, Q] := by rw [hW1]; exact (((Ch.refl w _).drewN nq).set (by simp)).set (by simp)
  have sz1 : W1.heap.size = w.heap.size := by rw [hW1, World.size_setCell, World.size_setCell]; rfl
  have hE1 : EofAt W1 ea := by
    have : W1.cell? ⟨0, 0, none⟩ = w.cell? ⟨0, 0, none⟩ := ch1.cell (by omega) (by simp; omega)
    unfold EofAt; rw [this]; exact HE.out
  have c0 := h1.k0
  have c1 := h1.k1
  have c4 := h1.k4
  have g4 := h1.kf 4
  have RC : Hid (Calls Tryf.prog 45 #[.pointer (some ⟨Q, 0, none⟩), .slice (some ⟨F, 0, none⟩) 4096 4096] W1.drew fun e w' => e = .returned (.tuple #[.int .i64 0, .iface 60 (.pointer (some ea))]) ∧ ∃ q', w' = W1.drew.drewN q') :=
    read45_eof W1.drew Q n c i d (some ⟨F, 0, none⟩) 4096 4096 ea hE1 (by have := HI.out; omega) (by have := HB.out.nb; have := HB.out.inn; omega) h1.q0 h1.q1
  have HB1 : Hid (BSt W1 K F Q d n c xs i 0 0 .nilIface) := h1
  have HC1 : Hid (Ch w W1 [K, F, Q] ∧ W1.heap.size = w.heap.size) := ⟨ch1, sz1⟩
  have KS : Hid (∀ u, (W1.setCell ⟨K, 4, none⟩ u).cell? ⟨K, 0, none⟩ = some (.slice (some ⟨F, 0, none⟩) 4096 4096) ∧ (W1.setCell ⟨K, 4, none⟩ u).cell? ⟨K, 1, none⟩ = some (.iface 34 (.pointer (some ⟨Q, 0, none⟩)))) := fun u =>
    ⟨by rw [cell_set, if_neg (by omega)]; exact c0, by rw [cell_set, if_neg (by omega)]; exact c1⟩
  clear h1 ch1 sz1 hE1 hW1 k0 k1 k2 k3 k4 f2 f3 f4 HE
  go_region_held3 (fun W => W.cell? ⟨K, 0, none⟩ = some (.slice (some ⟨F, 0, none⟩) 4096 4096) ∧ W.cell? ⟨K, 1, none⟩ = some (.iface 34 (.pointer (some ⟨Q, 0, none⟩)))) (first | exact ⟨c0, c1⟩ | exact KS.out _ | (go_keep; done)) (first | (go_at_call 45; refine RC.out.mono ?_; rintro e w2 ⟨rfl, q2, rfl⟩))
  have HW2 : Hid (∀ q, BSt ((W1.drewN q).setCell ⟨K, 4, none⟩ (.iface 60 (.pointer (some ea)))) K F Q d n c xs i 0 0 (.iface 60 (.pointer (some ea)))) := fun q => (HB1.out.drewN q).setErr _
  clear RC KS c0 c1 c4 g4
  go_wp2_with fail
  refine (readErr_any _ K (.iface 60 (.pointer (some ea))) (HW2.out _).k4 rfl ((HW2.out _).kf 4)).mono ?_
  rintro e w3 ⟨rfl, rfl⟩
  have HG : Hid (∀ q, Ch w (((W1.drewN q).setCell ⟨K, 4, none⟩ (.iface 60 (.pointer (some ea)))).setCell ⟨K, 4, none⟩ .nilIface) [K, F, Q] ∧ (((W1.drewN q).setCell ⟨K, 4, none⟩ (.iface 60 (.pointer (some ea)))).setCell ⟨K, 4, none⟩ .nilIface).heap.size = w.heap.size ∧ Strm (((W1.drewN q).setCell ⟨K, 4, none⟩ (.iface 60 (.pointer (some ea)))).setCell ⟨K, 4, none⟩ .nilIface) K F Q d n c xs n) := fun q =>
    ⟨((HC1.out.1.drewN q).set (by simp)).set (by simp), by rw [World.size_setCell, World.size_setCell]; exact HC1.out.2, i, 0, 0, (HW2.out q).setErr _, by have := HI.out; omega⟩
  clear HW2 HC1 HB1
  go_wp2
  go_ret2
  exact ⟨rfl, HG.out _⟩

theorem Ch.two (w2 : World) (K f g : Nat) (x y : Value) : Ch (w2.setCell ⟨K, f, none⟩ x) ((w2.setCell ⟨K, g, none⟩ y).setCell ⟨K, f, none⟩ x) [K] :=
  ⟨rfl, rfl, rfl, by rw [World.size_setCell, World.size_setCell, World.size_setCell]; exact Nat.le_refl _, fun b hb hn => by
    have hbK : b ≠ K := by simpa using hn
    rw [Below.heap_setCell _ _ _ _ hbK, Below.heap_setCell _ _ _ _ hbK, Below.heap_setCell _ _ _ _ hbK], fun b i hb => by rw [World.frozen?_setCell, World.frozen?_setCell, World.frozen?_setCell]⟩

/-- The buffer filled from its head, the error laid ahead of w. -/
theorem BSt.filled0 {w w1 : World} {K F Q : Nat} {d : Option Addr} {n c : Nat} {xs : List Int} {i k : Nat} (h : BSt w K F Q d n c xs i 0 0 .nilIface) (hr : Rd w w1 Q F 0 k i xs) (hk : i + k ≤ n) (hv : k ≤ 4096) :
    BSt ((w1.setCell ⟨K, 4, none⟩ .nilIface).setCell ⟨K, 3, none⟩ (.int .i64 k)) K F Q d n c xs (i + k) 0 k .nilIface := by
  have hb := h.filled hr hk (by omega)
  simp only [Nat.zero_add] at hb
  have e : (((0 : Nat) : Int) + (k : Int)) = (k : Int) := by omega
  rw [e] at hb
  have ck : ∀ j, j ≠ 4 → ((w1.setCell ⟨K, 4, none⟩ .nilIface).setCell ⟨K, 3, none⟩ (.int .i64 k)).cell? ⟨K, j, none⟩ = (w1.setCell ⟨K, 3, none⟩ (.int .i64 k)).cell? ⟨K, j, none⟩ := fun j hj => by
    rw [cell_set, cell_set, cell_set]
    by_cases h3 : K = K ∧ 3 = j
    · rw [if_pos h3, if_pos h3, if_neg (by omega)]
    · rw [if_neg h3, if_neg h3, if_neg (by omega)]
  have c4 : ((w1.setCell ⟨K, 4, none⟩ .nilIface).setCell ⟨K, 3, none⟩ (.int .i64 k)).cell? ⟨K, 4, none⟩ = some .nilIface := by
    have := hb.k4
    rw [cell_set, if_neg (by omega)] at this
    rw [cell_set, if_neg (by omega), cell_set, if_pos ⟨rfl, rfl⟩, this]; rfl
  exact hb.rek (Ch.two w1 K 3 4 _ _) 0 k .nilIface (ck 0 (by omega)) (ck 1 (by omega)) (by rw [ck 2 (by omega)]; exact hb.k2) (by rw [ck 3 (by omega)]; exact hb.k3) c4 (by rw [ck 5 (by omega)]; exact hb.k5) (by rw [ck 6 (by omega)]; exact hb.k6) hb.bv hb.rv hb.v4 hb.iv
end Go.Proofs.Qxb6616814aFmt
