import Derived.Test.Qxb6616814aFmtBst
namespace Go.Proofs.Qxb6616814aFmt
open Go.ChangeShapes Go.WideShapes Go.ChangeAt Go.RowKit
set_option linter.unusedSimpArgs false
set_option linter.unusedVariables false

theorem quiet_more {P : Program} {f : FuncId} {args : Array Value} {w : World} {q n : Nat} {v : Value}
    (h : Calls P f args (w.drewN (q + n)) fun e w' => e = .returned v ∧ ∃ m, w' = (w.drewN (q + n)).drewN m) : Calls P f args (w.drewN (q + n)) fun e w'' => e = .returned v ∧ ∃ m, w'' = w.drewN (q + m) :=
  h.mono fun _ _ ⟨he, m, hm⟩ => ⟨he, n + m, by rw [hm, World.drewN_drewN, Nat.add_assoc]⟩

set_option maxHeartbeats 1000000 in
set_option maxRecDepth 100000 in
theorem fill_more (w : World) (K F Q D off n c : Nat) (xs : List Int) (i v k : Nat) (h : BSt w K F Q (some ⟨D, off, none⟩) n c xs i 0 v .nilIface) (hv : v < 4096) (hi : i < n) (hk : k = Nat.min (n - i) (4096 - v)) :
    Calls Tryf.prog 24 #[.pointer (some ⟨K, 0, none⟩)] w fun e w' => e = .returned (.tuple #[]) ∧ Ch w w' [K, F, Q] ∧ w'.heap.size = w.heap.size ∧ BSt w' K F Q (some ⟨D, off, none⟩) n c xs (i + k) 0 (v + k) .nilIface := by
  have hk1 : k ≤ n - i := by rw [hk]; exact Nat.min_le_left _ _
  have hk2 : k ≤ 4096 - v := by rw [hk]; exact Nat.min_le_right _ _
  have hk0 : 0 < k := by rw [hk]; exact Nat.lt_min.2 ⟨by omega, by omega⟩
  have HK : Hid (k = Nat.min (n - i) (4096 - v)) := hk
  clear hk
  have HB : Hid (BSt w K F Q (some ⟨D, off, none⟩) n c xs i 0 v .nilIface) := h
  have k0 := h.k0
  have k1 := h.k1
  have k2 := h.k2
  have k3 := h.k3
  have f3 := h.kf 3
  have hKF := h.kF
  have hKQ := h.kQ
  clear h
  have hv1 : (v : Int) < 4096 := by omega
  have hv0 : (0 : Int) ≤ (v : Int) := by omega
  have hv2 : (v : Int) ≤ 4096 := by omega
  have hne : ¬ 4096 = v := by omega
  go_enter Tryf.func24, Tryf.ntmps24
  go_wp2
  go_quiet (fail)
  go_wp2
  refine wp_loop_rounds 1 ?_
  rw [rounds_succ]
  go_wp2
  obtain ⟨W1, hW1⟩ : ∃ W, W = w.drewN nq := ⟨_, rfl⟩
  rw [← hW1]
  have c0 : W1.cell? ⟨K, 0, none⟩ = some (.slice (some ⟨F, 0, none⟩) 4096 4096) := by rw [hW1]; exact k0
  have c1 : W1.cell? ⟨K, 1, none⟩ = some (.iface 34 (.pointer (some ⟨Q, 0, none⟩))) := by rw [hW1]; exact k1
  have c3 : W1.cell? ⟨K, 3, none⟩ = some (.int .i64 v) := by rw [hW1]; exact k3
  have HW1 : Hid (W1 = w.drewN nq) := hW1
  have HB1 : Hid (BSt W1 K F Q (some ⟨D, off, none⟩) n c xs i 0 v .nilIface) := by rw [hW1]; exact HB.out.drewN nq
  clear hW1 k0 k1 k2 k3 f3 HB
  have lK : K < W1.drew.heap.size := HB1.out.lK
  have hKn : K ∉ [Q, F] := by simp [hKF, hKQ]
  have RC : Hid (Calls Tryf.prog 45 #[.pointer (some ⟨Q, 0, none⟩), .slice (some ⟨F, v, none⟩) (4096 - v) (4096 - v)] W1.drew fun e w' => e = .returned (.tuple #[.int .i64 k, .nilIface]) ∧ Rd W1.drew w' Q F v k i xs) := by
    have h := HB1.out
    obtain ⟨x2, hx2⟩ := h.q2
    rcases h.dat with h0 | ⟨D', off', hd, hl, n1, n2, n3, hc, hcells⟩
    · omega
    · obtain ⟨rfl, rfl⟩ : D = D' ∧ off = off' := by simpa using hd
      exact read45_some W1.drew Q D off n c i F v (4096 - v) (4096 - v) k xs h.nb hi hc (by omega) HK.out (Ne.symm n3) (Ne.symm h.fQ) h.q0 h.q1 x2 hx2 (h.qf 1) (h.qf 2) hcells (fun j hj => h.bh _ (by omega)) h.bf
  go_region_held3 (fun W => W.cell? ⟨K, 0, none⟩ = some (.slice (some ⟨F, 0, none⟩) 4096 4096) ∧ W.cell? ⟨K, 1, none⟩ = some (.iface 34 (.pointer (some ⟨Q, 0, none⟩))) ∧ W.cell? ⟨K, 3, none⟩ = some (.int .i64 v)) (first | go_keep | (rw [hrd.ch.cell lK hKn, hrd.ch.cell lK hKn, hrd.ch.cell lK hKn]; exact ⟨c0, c1, c3⟩)) (first | (go_at_call 45; refine RC.out.mono ?_; rintro e w2 ⟨rfl, hrd⟩))
  have d3 : w2.cell? ⟨K, 3, none⟩ = some (.int .i64 v) := by rw [hrd.ch.cell lK hKn]; exact c3
  have g3 : w2.frozen? ⟨K, 3, none⟩ = false := by rw [hrd.ch.fz K 3 lK]; exact HB1.out.kf 3
  have HF : Hid (Ch w (w2.setCell ⟨K, 3, none⟩ (.int .i64 ((v : Int) + k))) [K, F, Q] ∧ (w2.setCell ⟨K, 3, none⟩ (.int .i64 ((v : Int) + k))).heap.size = w.heap.size ∧ BSt (w2.setCell ⟨K, 3, none⟩ (.int .i64 ((v : Int) + k))) K F Q (some ⟨D, off, none⟩) n c xs (i + k) 0 (v + k) .nilIface) := by
    have hb := HB1.out
    have hW := HW1.out
    refine ⟨?_, ?_, ?_⟩
    · have h1 : Ch w w2 [K, F, Q] := by
        have h2 : Ch W1.drew w2 [K, F, Q] := hrd.ch.mono (by simp)
        have h3 : Ch w W1.drew [K, F, Q] := by rw [hW]; exact ((Ch.refl w _).drewN nq).drew
        exact h3.trans h2
      exact h1.set (by simp)
    · rw [World.size_setCell, hrd.size, hW]; rfl
    · exact (hb.of_heap (w' := W1.drew) rfl).filled hrd (by omega) (by omega)
  clear hrd HB1 HW1 c0 c1 c3 RC HK
  have hk0' : (0 : Int) < k := by omega
  have hk3' : ¬ ((k : Int) < 0) := by omega
  go_wp2
  go_returns
  exact ⟨rfl, HF.out⟩

set_option maxHeartbeats 1000000 in
set_option maxRecDepth 100000 in
theorem fill_eof (w : World) (K F Q n c : Nat) (d : Option Addr) (xs : List Int) (i v : Nat) (ea : Addr) (hE : EofAt w ea) (h : BSt w K F Q d n c xs i 0 v .nilIface) (hv : v < 4096) (hi : i = n) :
    Calls Tryf.prog 24 #[.pointer (some ⟨K, 0, none⟩)] w fun e w' => e = .returned (.tuple #[]) ∧ Ch w w' [K, F, Q] ∧ w'.heap.size = w.heap.size ∧ BSt w' K F Q d n c xs i 0 v (.iface 60 (.pointer (some ea))) := by
  have HB : Hid (BSt w K F Q d n c xs i 0 v .nilIface) := h
  have HE : Hid (EofAt w ea) := hE
  have HI : Hid (i = n) := hi
  have k0 := h.k0
  have k1 := h.k1
  have k2 := h.k2
  have k3 := h.k3
  have f3 := h.kf 3
  have k4 := h.k4
  have f4 := h.kf 4
  clear h hE hi
  have hv1 : (v : Int) < 4096 := by omega
  have hv0 : (0 : Int) ≤ (v : Int) := by omega
  have hv2 : (v : Int) ≤ 4096 := by omega
  have hne : ¬ 4096 = v := by omega
  go_enter Tryf.func24, Tryf.ntmps24
  go_wp2
  go_quiet (fail)
  go_wp2
  refine wp_loop_rounds 1 ?_
  rw [rounds_succ]
  go_wp2
  obtain ⟨W1, hW1⟩ : ∃ W, W = w.drewN nq := ⟨_, rfl⟩
  rw [← hW1]
  have c0 : W1.cell? ⟨K, 0, none⟩ = some (.slice (some ⟨F, 0, none⟩) 4096 4096) := by rw [hW1]; exact k0
  have c1 : W1.cell? ⟨K, 1, none⟩ = some (.iface 34 (.pointer (some ⟨Q, 0, none⟩))) := by rw [hW1]; exact k1
  have c3 : W1.cell? ⟨K, 3, none⟩ = some (.int .i64 v) := by rw [hW1]; exact k3
  have RC : Hid (Calls Tryf.prog 45 #[.pointer (some ⟨Q, 0, none⟩), .slice (some ⟨F, v, none⟩) (4096 - v) (4096 - v)] W1.drew fun e w' => e = .returned (.tuple #[.int .i64 0, .iface 60 (.pointer (some ea))]) ∧ ∃ q', w' = W1.drew.drewN q') := by
    rw [hW1]
    exact read45_eof (w.drewN nq).drew Q n c i d (some ⟨F, v, none⟩) (4096 - v) (4096 - v) ea HE.out (by have := HI.out; omega) (by have := HB.out.nb; have := HB.out.inn; omega) HB.out.q0 HB.out.q1
  have HW1 : Hid (W1 = w.drewN nq) := hW1
  clear hW1
  go_region_held3 (fun W => W.cell? ⟨K, 0, none⟩ = some (.slice (some ⟨F, 0, none⟩) 4096 4096) ∧ W.cell? ⟨K, 1, none⟩ = some (.iface 34 (.pointer (some ⟨Q, 0, none⟩))) ∧ W.cell? ⟨K, 3, none⟩ = some (.int .i64 v)) (first | go_keep | exact ⟨c0, c1, c3⟩) (first | (go_at_call 45; refine RC.out.mono ?_; rintro e w2 ⟨rfl, q2, rfl⟩))
  rw [HW1.out]
  have HF : Hid (∀ q, Ch w (((w.drewN q).setCell ⟨K, 3, none⟩ (.int .i64 v)).setCell ⟨K, 4, none⟩ (.iface 60 (.pointer (some ea)))) [K, F, Q] ∧ (((w.drewN q).setCell ⟨K, 3, none⟩ (.int .i64 v)).setCell ⟨K, 4, none⟩ (.iface 60 (.pointer (some ea)))).heap.size = w.heap.size ∧ BSt (((w.drewN q).setCell ⟨K, 3, none⟩ (.int .i64 v)).setCell ⟨K, 4, none⟩ (.iface 60 (.pointer (some ea)))) K F Q d n c xs i 0 v (.iface 60 (.pointer (some ea)))) := fun q => by
    have hb := HB.out.of_heap (w' := w.drewN q) rfl
    refine ⟨(((Ch.refl w _).drewN q).set (by simp)).set (by simp), by rw [World.size_setCell, World.size_setCell]; rfl, BSt.setErr (er := .nilIface) ?_ _⟩
    exact hb.setK 3 _ (by omega) 0 v .nilIface (by rw [cell_set, if_neg (by omega)]; exact hb.k2) (by rw [cell_set, if_pos ⟨rfl, rfl⟩, hb.k3]; rfl) (by rw [cell_set, if_neg (by omega)]; exact hb.k4) hb.bv hb.rv hb.v4 hb.iv
  clear HB HE HI RC c0 c1 c3
  go_wp2
  go_returns
  exact ⟨rfl, HF.out _⟩
end Go.Proofs.Qxb6616814aFmt
