import Derived.Test.Qxb6616814aFmtFill
namespace Go.Proofs.Qxb6616814aFmt
open Go.ChangeShapes Go.WideShapes Go.ChangeAt Go.RowKit
set_option linter.unusedSimpArgs false
set_option linter.unusedVariables false

set_option maxHeartbeats 2000000 in
set_option maxRecDepth 100000 in
theorem peek_big (w : World) (K F Q D off n c : Nat) (xs : List Int) (k : Nat) (h : BSt w K F Q (some ⟨D, off, none⟩) n c xs 0 0 0 .nilIface) (hn : 3 ≤ n) (hk : k = Nat.min n 4096) :
    Calls Tryf.prog 20 #[.pointer (some ⟨K, 0, none⟩), .int .i64 3] w fun e w' => e = .returned (.tuple #[.slice (some ⟨F, 0, none⟩) 3 4096, .nilIface]) ∧ Ch w w' [K, F, Q] ∧ w'.heap.size = w.heap.size ∧ BSt w' K F Q (some ⟨D, off, none⟩) n c xs k 0 k .nilIface := by
  have hk1 : k ≤ n := by rw [hk]; exact Nat.min_le_left _ _
  have hk2 : k ≤ 4096 := by rw [hk]; exact Nat.min_le_right _ _
  have hk3 : 3 ≤ k := by rw [hk]; exact Nat.le_min.2 ⟨hn, by omega⟩
  have HK : Hid (k = Nat.min n 4096) := hk
  clear hk
  have HB : Hid (BSt w K F Q (some ⟨D, off, none⟩) n c xs 0 0 0 .nilIface) := h
  obtain ⟨x5, k5⟩ := h.k5
  obtain ⟨x6, k6⟩ := h.k6
  have f5 := h.kf 5
  have f6 := h.kf 6
  clear h
  go_enter Tryf.func20, Tryf.ntmps20
  go_wp2
  obtain ⟨W1, hW1⟩ : ∃ W, W = (w.setCell ⟨K, 5, none⟩ (.int .i64 (-1))).setCell ⟨K, 6, none⟩ (.int .i64 (-1)) := ⟨_, rfl⟩
  rw [← hW1]
  have h1 : BSt W1 K F Q (some ⟨D, off, none⟩) n c xs 0 0 0 .nilIface := by rw [hW1]; exact (HB.out.set56 5 (by omega) _).set56 6 (by omega) _
  have hch1 : Hid (Ch w W1 [K, F, Q] ∧ W1.heap.size = w.heap.size) := by
    rw [hW1]; exact ⟨((Ch.refl w _).set (by simp)).set (by simp), by rw [World.size_setCell, World.size_setCell]⟩
  have HB1 : Hid (BSt W1 K F Q (some ⟨D, off, none⟩) n c xs 0 0 0 .nilIface) := h1
  have a0 := h1.k0
  have a2 := h1.k2
  have a3 := h1.k3
  have a4 := h1.k4
  clear h1 hW1 HB k5 k6 f5 f6
  refine wp_loop_rounds 3 ?_
  rw [rounds_succ]
  go_wp2
  go_quiet (fail)
  go_wp2_with fail
  refine (fill_more _ K F Q D off n c xs 0 0 k (HB1.out.drewN _) (by omega) (by omega) HK.out).mono ?_
  rintro e w2 ⟨rfl, ch2, sz2, h2⟩
  rw [Nat.zero_add] at h2
  have HB2 : Hid (BSt w2 K F Q (some ⟨D, off, none⟩) n c xs k 0 k .nilIface) := h2
  have HC2 : Hid (Ch w w2 [K, F, Q] ∧ w2.heap.size = w.heap.size) := ⟨(hch1.out.1.drewN _).trans ch2, by rw [sz2]; exact hch1.out.2⟩
  have b0 := h2.k0
  have b2 := h2.k2
  have b3 := h2.k3
  have b4 := h2.k4
  clear h2 ch2 sz2 hch1 HB1 a0 a2 a3 a4
  have hd1 : decide ((k : Int) < 3) = false := decide_eq_false (by omega)
  have hd2 : ¬ ((k : Int) < 3) := by omega
  go_wp2
  rw [rounds_succ]
  go_wp2
  go_quiet (fail)
  go_wp2
  go_quiet (fail)
  go_wp2
  go_quiet (fail)
  go_wp2
  go_ret2
  have hc := HC2.out
  refine ⟨rfl, ?_, ?_, ?_⟩
  · first | exact hc.1.drewN _ | exact (((hc.1.drewN _).drewN _).drewN _) | exact ((hc.1.drewN _).drewN _)
  · exact hc.2
  · exact HB2.out.of_heap rfl

set_option maxHeartbeats 2000000 in
set_option maxRecDepth 100000 in
/-- A text of one byte or two. -/
theorem peek_small (w : World) (K F Q D off n c : Nat) (xs : List Int) (ea : Addr) (hE : EofAt w ea) (lt0 : 0 < K ∧ 0 < F ∧ 0 < Q) (h : BSt w K F Q (some ⟨D, off, none⟩) n c xs 0 0 0 .nilIface) (hn : n < 3) (hn0 : 0 < n) :
    Calls Tryf.prog 20 #[.pointer (some ⟨K, 0, none⟩), .int .i64 3] w fun e w' => e = .returned (.tuple #[.slice (some ⟨F, 0, none⟩) n 4096, .iface 60 (.pointer (some ea))]) ∧ Ch w w' [K, F, Q] ∧ w'.heap.size = w.heap.size ∧ BSt w' K F Q (some ⟨D, off, none⟩) n c xs n 0 n .nilIface := by
  have HK : Hid (n = Nat.min n 4096) := by have : Nat.min n 4096 = n := Nat.min_eq_left (by omega); exact this.symm
  have HB : Hid (BSt w K F Q (some ⟨D, off, none⟩) n c xs 0 0 0 .nilIface) := h
  have HE : Hid (EofAt w ea) := hE
  have s0 : Hid (∀ w' : World, Ch w w' [K, F, Q] → EofAt w' ea) := fun w' hc => by
    have hlt : (0 : Nat) < w.heap.size := by have := h.lK; omega
    have : w'.cell? ⟨0, 0, none⟩ = w.cell? ⟨0, 0, none⟩ := hc.cell hlt (by simp; omega)
    unfold EofAt; rw [this]; exact hE
  obtain ⟨x5, k5⟩ := h.k5
  obtain ⟨x6, k6⟩ := h.k6
  have f5 := h.kf 5
  have f6 := h.kf 6
  clear h hE
  go_enter Tryf.func20, Tryf.ntmps20
  go_wp2
  obtain ⟨W1, hW1⟩ : ∃ W, W = (w.setCell ⟨K, 5, none⟩ (.int .i64 (-1))).setCell ⟨K, 6, none⟩ (.int .i64 (-1)) := ⟨_, rfl⟩
  rw [← hW1]
  have h1 : BSt W1 K F Q (some ⟨D, off, none⟩) n c xs 0 0 0 .nilIface := by rw [hW1]; exact (HB.out.set56 5 (by omega) _).set56 6 (by omega) _
  have hch1 : Hid (Ch w W1 [K, F, Q] ∧ W1.heap.size = w.heap.size) := by
    rw [hW1]; exact ⟨((Ch.refl w _).set (by simp)).set (by simp), by rw [World.size_setCell, World.size_setCell]⟩
  have HB1 : Hid (BSt W1 K F Q (some ⟨D, off, none⟩) n c xs 0 0 0 .nilIface) := h1
  have a0 := h1.k0
  have a2 := h1.k2
  have a3 := h1.k3
  have a4 := h1.k4
  clear h1 hW1 HB k5 k6 f5 f6 HE
  refine wp_loop_rounds 3 ?_
  rw [rounds_succ]
  go_wp2
  go_quiet (fail)
  go_wp2_with fail
  refine (fill_more _ K F Q D off n c xs 0 0 n (HB1.out.drewN _) (by omega) (by omega) HK.out).mono ?_
  rintro e w2 ⟨rfl, ch2, sz2, h2⟩
  rw [Nat.zero_add] at h2
  have HB2 : Hid (BSt w2 K F Q (some ⟨D, off, none⟩) n c xs n 0 n .nilIface) := h2
  have HC2 : Hid (Ch w w2 [K, F, Q] ∧ w2.heap.size = w.heap.size) := ⟨(hch1.out.1.drewN _).trans ch2, by rw [sz2]; exact hch1.out.2⟩
  have b0 := h2.k0
  have b2 := h2.k2
  have b3 := h2.k3
  have b4 := h2.k4
  clear h2 ch2 sz2 hch1 HB1 a0 a2 a3 a4
  have hd1 : decide ((n : Int) < 3) = true := decide_eq_true (by omega)
  have hd2 : decide ((n : Int) < 4096) = true := decide_eq_true (by omega)
  have hd1' : decide (n < 3) = true := decide_eq_true (by omega)
  have hd2' : decide (n < 4096) = true := decide_eq_true (by omega)
  go_wp2
  rw [rounds_succ]
  go_wp2
  go_quiet (fail)
  go_wp2_with fail
  refine (fill_eof _ K F Q n c _ xs n n ea (by exact s0.out _ (HC2.out.1.drewN _)) (HB2.out.drewN _) (by omega) rfl).mono ?_
  rintro e w3 ⟨rfl, ch3, sz3, h3⟩
  have HB3 : Hid (BSt w3 K F Q (some ⟨D, off, none⟩) n c xs n 0 n (.iface 60 (.pointer (some ea)))) := h3
  have HC3 : Hid (Ch w w3 [K, F, Q] ∧ w3.heap.size = w.heap.size) := ⟨(HC2.out.1.drewN _).trans ch3, by rw [sz3]; exact HC2.out.2⟩
  have c0 := h3.k0
  have c2 := h3.k2
  have c3 := h3.k3
  have c4 := h3.k4
  have g4 := h3.kf 4
  clear h3 ch3 sz3 HC2 HB2 b0 b2 b3 b4
  go_wp2
  rw [rounds_succ]
  go_wp2
  go_quiet (fail)
  go_wp2
  go_quiet (fail)
  go_wp2_with fail
  refine (readErr_any _ K (.iface 60 (.pointer (some ea))) (by simpa using c4) rfl (by simpa using g4)).mono ?_
  rintro e w4 ⟨rfl, rfl⟩
  generalize hW5 : (w3.drewN _).setCell ⟨K, 4, none⟩ Value.nilIface = W5
  have h5 : BSt W5 K F Q (some ⟨D, off, none⟩) n c xs n 0 n .nilIface := by rw [← hW5]; exact (HB3.out.drewN _).setErr _
  have HC5 : Hid (Ch w W5 [K, F, Q] ∧ W5.heap.size = w.heap.size) := by rw [← hW5]; exact ⟨(HC3.out.1.drewN _).set (by simp), by rw [World.size_setCell]; exact HC3.out.2⟩
  have HB5 : Hid (BSt W5 K F Q (some ⟨D, off, none⟩) n c xs n 0 n .nilIface) := h5
  have e0 := h5.k0
  have e2 := h5.k2
  clear h5 hW5 HB3 HC3 c0 c2 c3 c4 g4
  go_wp2
  go_quiet (fail)
  go_wp2
  go_ret2
  have hc := HC5.out
  refine ⟨rfl, hc.1.drewN _, hc.2, HB5.out.of_heap rfl⟩

set_option maxHeartbeats 2000000 in
set_option maxRecDepth 100000 in
/-- An empty text. -/
theorem peek_none (w : World) (K F Q c : Nat) (d : Option Addr) (xs : List Int) (ea : Addr) (hE : EofAt w ea) (lt0 : 0 < K ∧ 0 < F ∧ 0 < Q) (h : BSt w K F Q d 0 c xs 0 0 0 .nilIface) :
    Calls Tryf.prog 20 #[.pointer (some ⟨K, 0, none⟩), .int .i64 3] w fun e w' => e = .returned (.tuple #[.slice (some ⟨F, 0, none⟩) 0 4096, .iface 60 (.pointer (some ea))]) ∧ Ch w w' [K, F, Q] ∧ w'.heap.size = w.heap.size ∧ BSt w' K F Q d 0 c xs 0 0 0 .nilIface := by
  have HB : Hid (BSt w K F Q d 0 c xs 0 0 0 .nilIface) := h
  have s0 : Hid (∀ w' : World, Ch w w' [K, F, Q] → EofAt w' ea) := fun w' hc => by
    have hlt : (0 : Nat) < w.heap.size := by have := h.lK; omega
    have : w'.cell? ⟨0, 0, none⟩ = w.cell? ⟨0, 0, none⟩ := hc.cell hlt (by simp; omega)
    unfold EofAt; rw [this]; exact hE
  obtain ⟨x5, k5⟩ := h.k5
  obtain ⟨x6, k6⟩ := h.k6
  have f5 := h.kf 5
  have f6 := h.kf 6
  clear h hE
  go_enter Tryf.func20, Tryf.ntmps20
  go_wp2
  obtain ⟨W1, hW1⟩ : ∃ W, W = (w.setCell ⟨K, 5, none⟩ (.int .i64 (-1))).setCell ⟨K, 6, none⟩ (.int .i64 (-1)) := ⟨_, rfl⟩
  rw [← hW1]
  have h1 : BSt W1 K F Q d 0 c xs 0 0 0 .nilIface := by rw [hW1]; exact (HB.out.set56 5 (by omega) _).set56 6 (by omega) _
  have hch1 : Hid (Ch w W1 [K, F, Q] ∧ W1.heap.size = w.heap.size) := by
    rw [hW1]; exact ⟨((Ch.refl w _).set (by simp)).set (by simp), by rw [World.size_setCell, World.size_setCell]⟩
  have HB1 : Hid (BSt W1 K F Q d 0 c xs 0 0 0 .nilIface) := h1
  have a0 := h1.k0
  have a2 := h1.k2
  have a3 := h1.k3
  have a4 := h1.k4
  clear h1 hW1 HB k5 k6 f5 f6
  refine wp_loop_rounds 3 ?_
  rw [rounds_succ]
  go_wp2
  go_quiet (fail)
  go_wp2_with fail
  refine (fill_eof _ K F Q 0 c _ xs 0 0 ea (by exact s0.out _ (hch1.out.1.drewN _)) (HB1.out.drewN _) (by omega) rfl).mono ?_
  rintro e w3 ⟨rfl, ch3, sz3, h3⟩
  have HB3 : Hid (BSt w3 K F Q d 0 c xs 0 0 0 (.iface 60 (.pointer (some ea)))) := h3
  have HC3 : Hid (Ch w w3 [K, F, Q] ∧ w3.heap.size = w.heap.size) := ⟨(hch1.out.1.drewN _).trans ch3, by rw [sz3]; exact hch1.out.2⟩
  have c0 := h3.k0
  have c2 := h3.k2
  have c3 := h3.k3
  have c4 := h3.k4
  have g4 := h3.kf 4
  clear h3 ch3 sz3 hch1 HB1 a0 a2 a3 a4
  go_wp2
  rw [rounds_succ]
  go_wp2
  go_quiet (fail)
  go_wp2
  go_quiet (fail)
  go_wp2_with fail
  refine (readErr_any _ K (.iface 60 (.pointer (some ea))) (by simpa using c4) rfl (by simpa using g4)).mono ?_
  rintro e w4 ⟨rfl, rfl⟩
  generalize hW5 : (w3.drewN _).setCell ⟨K, 4, none⟩ Value.nilIface = W5
  have h5 : BSt W5 K F Q d 0 c xs 0 0 0 .nilIface := by rw [← hW5]; exact (HB3.out.drewN _).setErr _
  have HC5 : Hid (Ch w W5 [K, F, Q] ∧ W5.heap.size = w.heap.size) := by rw [← hW5]; exact ⟨(HC3.out.1.drewN _).set (by simp), by rw [World.size_setCell]; exact HC3.out.2⟩
  have HB5 : Hid (BSt W5 K F Q d 0 c xs 0 0 0 .nilIface) := h5
  have e0 := h5.k0
  have e2 := h5.k2
  clear h5 hW5 HB3 HC3 c0 c2 c3 c4 g4
  go_wp2
  go_quiet (fail)
  go_wp2
  go_ret2
  have hc := HC5.out
  refine ⟨rfl, hc.1.drewN _, hc.2, HB5.out.of_heap rfl⟩
end Go.Proofs.Qxb6616814aFmt
