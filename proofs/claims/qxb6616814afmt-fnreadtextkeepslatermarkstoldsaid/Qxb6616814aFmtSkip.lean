import Derived.Test.Qxb6616814aFmtBpeek
import Derived.Laws.BytesArg
namespace Go.Proofs.Qxb6616814aFmt
open Go.ChangeShapes Go.WideShapes Go.ChangeAt Go.RowKit
set_option linter.unusedSimpArgs false
set_option linter.unusedVariables false

set_option maxHeartbeats 2000000 in
set_option maxRecDepth 100000 in
theorem discard3 (w : World) (K F Q n c : Nat) (d : Option Addr) (xs : List Int) (k : Nat) (h : BSt w K F Q d n c xs k 0 k .nilIface) (hk : 3 ≤ k) :
    Calls Tryf.prog 21 #[.pointer (some ⟨K, 0, none⟩), .int .i64 3] w fun e w' => e = .returned (.tuple #[.int .i64 3, .nilIface]) ∧ Ch w w' [K, F, Q] ∧ w'.heap.size = w.heap.size ∧ BSt w' K F Q d n c xs k 3 k .nilIface := by
  have HB : Hid (BSt w K F Q d n c xs k 0 k .nilIface) := h
  obtain ⟨x5, k5⟩ := h.k5
  obtain ⟨x6, k6⟩ := h.k6
  have f5 := h.kf 5
  have f6 := h.kf 6
  have hk4 := h.v4
  clear h
  go_enter Tryf.func21, Tryf.ntmps21
  go_wp2
  obtain ⟨W1, hW1⟩ : ∃ W, W = (w.setCell ⟨K, 5, none⟩ (.int .i64 (-1))).setCell ⟨K, 6, none⟩ (.int .i64 (-1)) := ⟨_, rfl⟩
  rw [← hW1]
  have h1 : BSt W1 K F Q d n c xs k 0 k .nilIface := by rw [hW1]; exact (HB.out.set56 5 (by omega) _).set56 6 (by omega) _
  have hch1 : Hid (Ch w W1 [K, F, Q] ∧ W1.heap.size = w.heap.size) := by
    rw [hW1]; exact ⟨((Ch.refl w _).set (by simp)).set (by simp), by rw [World.size_setCell, World.size_setCell]⟩
  have HB1 : Hid (BSt W1 K F Q d n c xs k 0 k .nilIface) := h1
  have a2 := h1.k2
  have g2 := h1.kf 2
  clear h1 hW1 HB k5 k6 f5 f6
  refine wp_loop_rounds 1 ?_
  rw [rounds_succ]
  go_wp2_with fail
  refine (buffered_any _ K 0 k HB1.out.k2 HB1.out.k3 (by omega) hk4).mono ?_
  rintro e w2 ⟨rfl, m, rfl⟩
  have hz : ((k : Int) - ((0 : Nat) : Int) == 0) = false := by simp; omega
  have hz' : ((k : Int) == 0) = false := by simp; omega
  have hz'' : (k == 0) = false := by simp; omega
  by_cases h3 : (3 : Int) < k
  · have h3n : 3 < k := by omega
    go_wp2
    go_ret2
    refine ⟨rfl, (hch1.out.1.drewN _).set (by simp), by rw [World.size_setCell]; exact hch1.out.2, ?_⟩
    exact (HB1.out.drewN _).setR 3 (by omega) (by omega)
  · have hk3 : k = 3 := by omega
    subst hk3
    go_wp2
    go_ret2
    refine ⟨rfl, (hch1.out.1.drewN _).set (by simp), by rw [World.size_setCell]; exact hch1.out.2, ?_⟩
    exact (HB1.out.drewN _).setR 3 (by omega) (by omega)

/-- What is left to be read begins at pos. -/
def Strm (w : World) (K F Q : Nat) (d : Option Addr) (n c : Nat) (xs : List Int) (pos : Nat) : Prop :=
  ∃ i r v, BSt w K F Q d n c xs i r v .nilIface ∧ i + r = pos + v

/-- Does the text open with the mark? -/
def marked (xs : List Int) (n : Nat) : Bool := decide (3 ≤ n) && xs.getD 0 0 == 239 && xs.getD 1 0 == 187 && xs.getD 2 0 == 191

theorem byte_ofNat {z : Int} {b : Nat} (h0 : 0 ≤ z) (h1 : z ≤ 255) (hb : b < 256) (h : UInt8.ofNat z.toNat = UInt8.ofNat b) : z = b := by
  have := congrArg UInt8.toNat h
  simp at this
  omega

theorem mark_yes (x y z : Int) (h : (x == 239 && y == 187 && z == 191) = true) : ((strOfNums [x, y, z]).toList == [239, 187, 191]) = true := by
  simp at h
  obtain ⟨⟨rfl, rfl⟩, rfl⟩ := h
  rw [ByteArray.toList_eq, strOfNums_data]
  decide
theorem mark_no (x y z : Int) (hx : 0 ≤ x ∧ x ≤ 255) (hy : 0 ≤ y ∧ y ≤ 255) (hz : 0 ≤ z ∧ z ≤ 255) (h : (x == 239 && y == 187 && z == 191) = false) : ((strOfNums [x, y, z]).toList == [239, 187, 191]) = false := by
  rw [ByteArray.toList_eq, strOfNums_data]
  cases hh : (List.map (fun n : Int => UInt8.ofNat n.toNat) [x, y, z] == [239, 187, 191]) with
  | false => rfl
  | true =>
    exfalso
    have he := eq_of_beq hh
    simp at he
    have e1 := byte_ofNat (b := 239) hx.1 hx.2 (by omega) he.1
    have e2 := byte_ofNat (b := 187) hy.1 hy.2 (by omega) he.2.1
    have e3 := byte_ofNat (b := 191) hz.1 hz.2 (by omega) he.2.2
    rw [e1, e2, e3] at h
    simp at h
/-- A shorter text is not the mark. -/
theorem mark_short (ys : List Int) (h : ys.length < 3) : ((strOfNums ys).toList == [239, 187, 191]) = false := by
  rw [ByteArray.toList_eq, strOfNums_data]
  cases hh : (List.map (fun n : Int => UInt8.ofNat n.toNat) ys == [239, 187, 191]) with
  | false => rfl
  | true =>
    exfalso
    have he := congrArg List.length (eq_of_beq hh)
    simp at he
    omega

theorem cells3 {w : World} {F : Nat} {xs : List Int} {a : Nat} (h : ∀ j, j < a → w.cell? ⟨F, 0 + j, none⟩ = some (.int .u8 (xs.getD j 0))) (m : Nat) (ys : List Int) (hl : ys.length = a) (hy : ∀ j, j < a → ys.getD j 0 = xs.getD j 0) (cap : Nat) :
    (convert 22 9 (.slice (some ⟨F, 0, none⟩) a cap)).run Tryf.prog (w.drewN m) = .ok (.string (strOfNums ys)) (w.drewN m) :=
  run_convert_bytes_arg (w.drewN m) 22 5 Tryf.underlying22 Tryf.underlying5 F 0 a cap ys hl (fun i hi => by rw [World.cell?_drewN, h i hi, hy i hi]) 9 Tryf.underlying9

set_option maxHeartbeats 2000000 in
set_option maxRecDepth 100000 in
theorem skip_mark (w : World) (K F Q D off n c : Nat) (xs : List Int) (h : BSt w K F Q (some ⟨D, off, none⟩) n c xs 0 0 0 .nilIface) (ea : Addr) (hE : EofAt w ea) (lt0 : 0 < K ∧ 0 < F ∧ 0 < Q) (hm : marked xs n = true) :
    Calls Tryf.prog 16 #[.pointer (some ⟨K, 0, none⟩)] w fun e w' => e = .returned .nilIface ∧ Ch w w' [K, F, Q] ∧ w'.heap.size = w.heap.size ∧ Strm w' K F Q (some ⟨D, off, none⟩) n c xs 3 := by
  have hn : 3 ≤ n := by simp [marked] at hm; omega
  have HM : Hid (marked xs n = true) := hm
  have HB : Hid (BSt w K F Q (some ⟨D, off, none⟩) n c xs 0 0 0 .nilIface) := h
  have s0 : Hid (∀ w' : World, Ch w w' [K, F, Q] → EofAt w' ea) := fun w' hc => by
    have hlt : (0 : Nat) < w.heap.size := by have := h.lK; omega
    have : w'.cell? ⟨0, 0, none⟩ = w.cell? ⟨0, 0, none⟩ := hc.cell hlt (by simp; omega)
    unfold EofAt; rw [this]; exact hE
  clear h hE hm
  go_enter Tryf.func16, Tryf.ntmps16
  go_wp2_with fail
  refine (peek_big w K F Q D off n c xs (Nat.min n 4096) HB.out hn rfl).mono ?_
  rintro e w1 ⟨rfl, ch1, sz1, h1⟩
  obtain ⟨k, hk⟩ : ∃ k, k = Nat.min n 4096 := ⟨_, rfl⟩
  rw [← hk] at h1
  have hk3 : 3 ≤ k := by rw [hk]; exact Nat.le_min.2 ⟨hn, by omega⟩
  clear hk
  have HB1 : Hid (BSt w1 K F Q (some ⟨D, off, none⟩) n c xs k 0 k .nilIface) := h1
  have HC1 : Hid (Ch w w1 [K, F, Q] ∧ w1.heap.size = w.heap.size) := ⟨ch1, sz1⟩
  have hcv := fun m => cells3 (w := w1) (F := F) (xs := xs) (a := 3) (fun j hj => by rw [Nat.zero_add]; have := h1.bv j (by omega) (by omega); rwa [show k + j - k = j from by omega] at this) m [xs.getD 0 0, xs.getD 1 0, xs.getD 2 0] rfl (fun j hj => by
    obtain rfl | rfl | rfl : j = 0 ∨ j = 1 ∨ j = 2 := by omega
    all_goals rfl) 4096
  have hcv0 := hcv 0
  have hmk := mark_yes (xs.getD 0 0) (xs.getD 1 0) (xs.getD 2 0) (by have := HM.out; simp [marked] at this; simp [this])
  generalize strOfNums [xs.getD 0 0, xs.getD 1 0, xs.getD 2 0] = str at *
  have hcv1 : (convert 22 9 (.slice (some ⟨F, 0, none⟩) 3 4096)).run Tryf.prog w1 = .ok (.string str) w1 := hcv0
  clear hcv hcv0 h1 ch1 sz1
  go_wp2_with fail
  refine (discard3 _ K F Q n c _ xs k HB1.out hk3).mono ?_
  rintro e w2 ⟨rfl, ch2, sz2, h2⟩
  have HB2 : Hid (BSt w2 K F Q (some ⟨D, off, none⟩) n c xs k 3 k .nilIface) := h2
  have HC2 : Hid (Ch w w2 [K, F, Q] ∧ w2.heap.size = w.heap.size) := ⟨HC1.out.1.trans ch2, by rw [sz2]; exact HC1.out.2⟩
  have hE2 : w2.cell? ⟨0, 0, none⟩ = some (.iface 60 (.pointer (some ea))) := s0.out _ HC2.out.1
  clear h2 ch2 sz2 hcv1 hmk
  go_wp2
  go_ret
  exact ⟨rfl, HC2.out.1, HC2.out.2, k, 3, k, HB2.out, by omega⟩

set_option maxHeartbeats 2000000 in
set_option maxRecDepth 100000 in
/-- Three bytes or more, no mark. -/
theorem skip_big (w : World) (K F Q D off n c : Nat) (xs : List Int) (h : BSt w K F Q (some ⟨D, off, none⟩) n c xs 0 0 0 .nilIface) (ea : Addr) (hE : EofAt w ea) (lt0 : 0 < K ∧ 0 < F ∧ 0 < Q) (hn : 3 ≤ n) (hm : marked xs n = false) (hx : ∀ j, 0 ≤ xs.getD j 0 ∧ xs.getD j 0 ≤ 255) :
    Calls Tryf.prog 16 #[.pointer (some ⟨K, 0, none⟩)] w fun e w' => e = .returned .nilIface ∧ Ch w w' [K, F, Q] ∧ w'.heap.size = w.heap.size ∧ Strm w' K F Q (some ⟨D, off, none⟩) n c xs 0 := by
  have HX : Hid (∀ j, 0 ≤ xs.getD j 0 ∧ xs.getD j 0 ≤ 255) := hx
  have HM : Hid (marked xs n = false) := hm
  have HB : Hid (BSt w K F Q (some ⟨D, off, none⟩) n c xs 0 0 0 .nilIface) := h
  have s0 : Hid (∀ w' : World, Ch w w' [K, F, Q] → EofAt w' ea) := fun w' hc => by
    have hlt : (0 : Nat) < w.heap.size := by have := h.lK; omega
    have : w'.cell? ⟨0, 0, none⟩ = w.cell? ⟨0, 0, none⟩ := hc.cell hlt (by simp; omega)
    unfold EofAt; rw [this]; exact hE
  clear h hE hm hx
  go_enter Tryf.func16, Tryf.ntmps16
  go_wp2_with fail
  refine (peek_big w K F Q D off n c xs (Nat.min n 4096) HB.out hn rfl).mono ?_
  rintro e w1 ⟨rfl, ch1, sz1, h1⟩
  obtain ⟨k, hk⟩ : ∃ k, k = Nat.min n 4096 := ⟨_, rfl⟩
  rw [← hk] at h1
  have hk3 : 3 ≤ k := by rw [hk]; exact Nat.le_min.2 ⟨hn, by omega⟩
  clear hk
  have HB1 : Hid (BSt w1 K F Q (some ⟨D, off, none⟩) n c xs k 0 k .nilIface) := h1
  have HC1 : Hid (Ch w w1 [K, F, Q] ∧ w1.heap.size = w.heap.size) := ⟨ch1, sz1⟩
  have hcv := fun m => cells3 (w := w1) (F := F) (xs := xs) (a := 3) (fun j hj => by rw [Nat.zero_add]; have := h1.bv j (by omega) (by omega); rwa [show k + j - k = j from by omega] at this) m [xs.getD 0 0, xs.getD 1 0, xs.getD 2 0] rfl (fun j hj => by
    obtain rfl | rfl | rfl : j = 0 ∨ j = 1 ∨ j = 2 := by omega
    all_goals rfl) 4096
  have hcv0 := hcv 0
  have hmk := mark_no (xs.getD 0 0) (xs.getD 1 0) (xs.getD 2 0) (HX.out 0) (HX.out 1) (HX.out 2) (by have := HM.out; simp only [marked, decide_eq_true hn, Bool.true_and] at this; exact this)
  generalize strOfNums [xs.getD 0 0, xs.getD 1 0, xs.getD 2 0] = str at *
  have hcv1 : (convert 22 9 (.slice (some ⟨F, 0, none⟩) 3 4096)).run Tryf.prog w1 = .ok (.string str) w1 := hcv0
  clear hcv hcv0 h1 ch1 sz1
  have hE1 : w1.cell? ⟨0, 0, none⟩ = some (.iface 60 (.pointer (some ea))) := s0.out _ HC1.out.1
  go_wp2
  go_ret
  exact ⟨rfl, HC1.out.1, HC1.out.2, k, 0, k, HB1.out, by omega⟩

set_option maxHeartbeats 2000000 in
set_option maxRecDepth 100000 in
/-- One byte or two. -/
theorem skip_small (w : World) (K F Q D off n c : Nat) (xs : List Int) (h : BSt w K F Q (some ⟨D, off, none⟩) n c xs 0 0 0 .nilIface) (ea : Addr) (hE : EofAt w ea) (lt0 : 0 < K ∧ 0 < F ∧ 0 < Q) (hn : n < 3) (hn0 : 0 < n) :
    Calls Tryf.prog 16 #[.pointer (some ⟨K, 0, none⟩)] w fun e w' => e = .returned .nilIface ∧ Ch w w' [K, F, Q] ∧ w'.heap.size = w.heap.size ∧ Strm w' K F Q (some ⟨D, off, none⟩) n c xs 0 := by
  have HB : Hid (BSt w K F Q (some ⟨D, off, none⟩) n c xs 0 0 0 .nilIface) := h
  have s0 : Hid (∀ w' : World, Ch w w' [K, F, Q] → EofAt w' ea) := fun w' hc => by
    have hlt : (0 : Nat) < w.heap.size := by have := h.lK; omega
    have : w'.cell? ⟨0, 0, none⟩ = w.cell? ⟨0, 0, none⟩ := hc.cell hlt (by simp; omega)
    unfold EofAt; rw [this]; exact hE
  have HE : Hid (EofAt w ea) := hE
  clear h hE
  go_enter Tryf.func16, Tryf.ntmps16
  go_wp2_with fail
  refine (peek_small w K F Q D off n c xs ea HE.out lt0 HB.out hn hn0).mono ?_
  rintro e w1 ⟨rfl, ch1, sz1, h1⟩
  have HB1 : Hid (BSt w1 K F Q (some ⟨D, off, none⟩) n c xs n 0 n .nilIface) := h1
  have HC1 : Hid (Ch w w1 [K, F, Q] ∧ w1.heap.size = w.heap.size) := ⟨ch1, sz1⟩
  have hcv := fun m => cells3 (w := w1) (F := F) (xs := xs) (a := n) (fun j hj => by rw [Nat.zero_add]; have := h1.bv j (by omega) (by omega); rwa [show n + j - n = j from by omega] at this) m ((List.range n).map fun j => xs.getD j 0) (by simp) (fun j hj => by simp [hj]) 4096
  have hcv0 := hcv 0
  have hmk := mark_short ((List.range n).map fun j => xs.getD j 0) (by simpa using hn)
  generalize strOfNums ((List.range n).map fun j => xs.getD j 0) = str at *
  have hcv1 : (convert 22 9 (.slice (some ⟨F, 0, none⟩) n 4096)).run Tryf.prog w1 = .ok (.string str) w1 := hcv0
  clear hcv hcv0 h1 ch1 sz1
  have hE1 : w1.cell? ⟨0, 0, none⟩ = some (.iface 60 (.pointer (some ea))) := s0.out _ HC1.out.1
  go_wp2
  go_ret
  exact ⟨rfl, HC1.out.1, HC1.out.2, n, 0, n, HB1.out, by omega⟩

set_option maxHeartbeats 2000000 in
set_option maxRecDepth 100000 in
/-- Nothing at all. -/
theorem skip_none (w : World) (K F Q c : Nat) (d : Option Addr) (xs : List Int) (h : BSt w K F Q d 0 c xs 0 0 0 .nilIface) (ea : Addr) (hE : EofAt w ea) (lt0 : 0 < K ∧ 0 < F ∧ 0 < Q) :
    Calls Tryf.prog 16 #[.pointer (some ⟨K, 0, none⟩)] w fun e w' => e = .returned .nilIface ∧ Ch w w' [K, F, Q] ∧ w'.heap.size = w.heap.size ∧ Strm w' K F Q d 0 c xs 0 := by
  have HB : Hid (BSt w K F Q d 0 c xs 0 0 0 .nilIface) := h
  have s0 : Hid (∀ w' : World, Ch w w' [K, F, Q] → EofAt w' ea) := fun w' hc => by
    have hlt : (0 : Nat) < w.heap.size := by have := h.lK; omega
    have : w'.cell? ⟨0, 0, none⟩ = w.cell? ⟨0, 0, none⟩ := hc.cell hlt (by simp; omega)
    unfold EofAt; rw [this]; exact hE
  have HE : Hid (EofAt w ea) := hE
  clear h hE
  go_enter Tryf.func16, Tryf.ntmps16
  go_wp2_with fail
  refine (peek_none w K F Q c d xs ea HE.out lt0 HB.out).mono ?_
  rintro e w1 ⟨rfl, ch1, sz1, h1⟩
  have HB1 : Hid (BSt w1 K F Q d 0 c xs 0 0 0 .nilIface) := h1
  have HC1 : Hid (Ch w w1 [K, F, Q] ∧ w1.heap.size = w.heap.size) := ⟨ch1, sz1⟩
  have hcv0 := cells3 (w := w1) (F := F) (xs := xs) (a := 0) (fun j hj => by omega) 0 [] rfl (fun j hj => by omega) 4096
  have hmk := mark_short [] (by simp)
  generalize strOfNums [] = str at *
  have hcv1 : (convert 22 9 (.slice (some ⟨F, 0, none⟩) 0 4096)).run Tryf.prog w1 = .ok (.string str) w1 := hcv0
  clear hcv0 h1 ch1 sz1
  have hE1 : w1.cell? ⟨0, 0, none⟩ = some (.iface 60 (.pointer (some ea))) := s0.out _ HC1.out.1
  go_wp2
  go_ret
  exact ⟨rfl, HC1.out.1, HC1.out.2, 0, 0, 0, HB1.out, by omega⟩

/-- Behind the mark, or at the head where there is none. -/
def startOf (xs : List Int) (n : Nat) : Nat := if marked xs n = true then 3 else 0

theorem skip_any (w : World) (K F Q n c : Nat) (d : Option Addr) (xs : List Int) (h : BSt w K F Q d n c xs 0 0 0 .nilIface) (ea : Addr) (hE : EofAt w ea) (lt0 : 0 < K ∧ 0 < F ∧ 0 < Q) (hx : ∀ j, 0 ≤ xs.getD j 0 ∧ xs.getD j 0 ≤ 255) :
    Calls Tryf.prog 16 #[.pointer (some ⟨K, 0, none⟩)] w fun e w' => e = .returned .nilIface ∧ Ch w w' [K, F, Q] ∧ w'.heap.size = w.heap.size ∧ Strm w' K F Q d n c xs (startOf xs n) := by
  unfold startOf
  by_cases h0 : n = 0
  · subst h0
    rw [if_neg (by simp [marked])]
    exact skip_none w K F Q c d xs h ea hE lt0
  obtain ⟨D, off, rfl⟩ : ∃ D off, d = some ⟨D, off, none⟩ := by
    rcases h.dat with h1 | ⟨D, off, hd, _⟩
    · exact absurd h1 h0
    · exact ⟨D, off, hd⟩
  by_cases hm : marked xs n = true
  · rw [if_pos hm]
    exact skip_mark w K F Q D off n c xs h ea hE lt0 hm
  · rw [if_neg hm]
    by_cases h3 : 3 ≤ n
    · exact skip_big w K F Q D off n c xs h ea hE lt0 h3 (by simpa using hm) hx
    · exact skip_small w K F Q D off n c xs h ea hE lt0 (by omega) (by omega)
end Go.Proofs.Qxb6616814aFmt
