import Derived.Test.Qxb6616787aClone
namespace Go.Proofs.Qxb6616787a
open Go.ChangeShapes Go.WideShapes Go.ChangeAt Go.RowKit
set_option linter.unusedSimpArgs false
set_option linter.unusedVariables false

theorem Stop.again {zs : List Int} {n a p : Nat} (h : Stop zs n a p) : Stop zs n p p := ⟨Nat.le_refl _, h.hi, fun i h1 h2 => by omega, h.no⟩

set_option maxHeartbeats 1000000 in
set_option maxRecDepth 100000 in
theorem law3_pos (w : World) (b off n c at_ : Nat) (zs : List Int) (h0 : 0 < n) (hn : n ≤ 1048576) (hat : at_ ≤ n) (hb : b < w.heap.size)
    (hc : ∀ i, i < n → w.cell? ⟨b, off + i, none⟩ = some (.int .u8 (zs.getD i 0))) :
    Calls Try.prog 3 #[.slice (some ⟨b, off, none⟩) n c, .int .i64 at_] w fun e w' => e = .returned (.bool true) ∧ Below w.heap.size w w' := by
  have HC : Hid (∀ i, i < n → w.cell? ⟨b, off + i, none⟩ = some (.int .u8 (zs.getD i 0))) := hc
  clear hc
  have hd1 : decide ((1048576 : Int) < n) = false := decide_eq_false (by omega)
  have hd2 : decide ((at_ : Int) < 0) = false := decide_eq_false (by omega)
  have hd3 : decide ((n : Int) < at_) = false := decide_eq_false (by omega)
  go_enter Try.func3, Try.ntmps3
  go_wp2_with fail
  refine (bytes3_any w at_ _ n c (by unfold maxLen; omega)).mono ?_
  rintro e w' ⟨⟨r, rfl, hr⟩, rfl⟩
  cases r with
  | false =>
    go_wp2
    go_ret
    exact ⟨rfl, Below.refl _ _⟩
  | true =>
    clear hr
    go_wp2_with fail
    refine (clone_pos w' b off n c zs hn hb HC.out).mono ?_
    rintro e w1 ⟨rfl, b1, l1, H1⟩
    have HB1 : Hid (Below w'.heap.size w' w1) := b1
    have HH1 : Hid (Head8 w1 w'.heap.size n zs) := H1
    clear b1 H1 hd1 hd2 hd3 HC
    go_wp2_with fail
    refine (zzpeek_pos w1 w'.heap.size 0 n n at_ zs hat (by omega) l1 HH1.out).mono ?_
    rintro e w2 ⟨⟨p, hs, rfl⟩, b2⟩
    have hlo := hs.lo
    have hhi := hs.hi
    have HS : Hid (Stop zs n at_ p) := hs
    have HB2 : Hid (Below w'.heap.size w' w2) := HB1.out.trans (b2.mono (by omega))
    have HH2 : Hid (Head8 w2 w'.heap.size n zs) := HH1.out.below b2 l1
    have l2 : w'.heap.size < w2.heap.size := Nat.lt_of_lt_of_le l1 b2.size
    clear hs b2 HB1 HH1
    generalize hbt : bAt zs n p = x at *
    have HX : Hid (bAt zs n p = x) := hbt
    clear hbt
    have hd4 : decide ((p : Int) < at_) = false := decide_eq_false (by omega)
    have hd5 : decide ((n : Int) < p) = false := decide_eq_false (by omega)
    have hd4' : decide (p < at_) = false := decide_eq_false (by omega)
    have hd5' : decide (n < p) = false := decide_eq_false (by omega)
    go_wp2_with fail
    go_loopw [7] (fun v wr => ∃ i : Nat, at_ ≤ i ∧ i ≤ p ∧ v = .int .i64 i ∧ Below w'.heap.size w' wr ∧ Head8 wr w'.heap.size n zs ∧ w'.heap.size < wr.heap.size) (fun v _ => p - (intOf v).toNat)
    case atStart => exact ⟨at_, Nat.le_refl _, hlo, rfl, HB2.out, HH2.out, l2⟩
    case round =>
      clear HB2 HH2 l2
      obtain ⟨i, hi1, hi2, rfl, b2, h2, l2⟩ := hrel
      have HB2 : Hid (Below w'.heap.size w' wr) := b2
      have HH2 : Hid (Head8 wr w'.heap.size n zs) := h2
      clear b2 h2
      by_cases hip : i < p
      · have hi' : (i : Int) < p := by omega
        have hi'' : (i : Int) < n := by omega
        have h1 := HH2.out i (by omega)
        rw [Nat.zero_add] at h1
        have h2 := HS.out.white i hi1 hip
        generalize zs.getD i 0 = y at *
        have H2 : Hid (isW y = true) := h2
        clear h2
        go_wp2_with fail
        refine (white_yes y H2.out _).mono ?_
        rintro e w3 ⟨rfl, rfl⟩
        go_wp2
        go_roundw
        case rel => exact ⟨i + 1, by omega, by omega, by go_num, HB2.out, HH2.out, l2⟩
        case measure => simp [intOf]; omega
      · have hi' : ¬ (i : Int) < p := by omega
        by_cases hpn : p < n
        · have hp' : (p : Int) < n := by omega
          have h1 := HH2.out p hpn
          rw [Nat.zero_add] at h1
          have h2 := HS.out.no hpn
          have h3 : zs.getD p 0 = x := by have := HX.out; simpa [bAt, hpn] using this
          rw [h3] at h1 h2
          have H2 : Hid (isW x = false) := h2
          clear h2 h3
          go_wp2_with fail
          refine (white_no x H2.out _).mono ?_
          rintro e w3 ⟨rfl, rfl⟩
          go_wp2_with fail
          refine (zzpeek_pos _ w'.heap.size 0 n n p zs hhi (by omega) l2 HH2.out).mono ?_
          rintro e w4 ⟨⟨p2, hs2, rfl⟩, b4⟩
          obtain rfl := hs2.uniq HS.out.again
          have HB4 : Hid (Below w'.heap.size w' w4) := HB2.out.trans (b4.mono (by omega))
          clear hs2 b4
          rw [HX.out]
          go_wp2
          go_ret
          exact ⟨rfl, HB4.out⟩
        · have hp' : ¬ (p : Int) < n := by omega
          have h3 : x = 0 := by have := HX.out; simp [bAt, hpn] at this; exact this.symm
          subst h3
          go_wp2_with fail
          refine (zzpeek_pos _ w'.heap.size 0 n n p zs hhi (by omega) l2 HH2.out).mono ?_
          rintro e w4 ⟨⟨p2, hs2, rfl⟩, b4⟩
          obtain rfl := hs2.uniq HS.out.again
          have HB4 : Hid (Below w'.heap.size w' w4) := HB2.out.trans (b4.mono (by omega))
          clear hs2 b4
          rw [HX.out]
          go_wp2
          go_ret
          exact ⟨rfl, HB4.out⟩

set_option maxHeartbeats 1000000 in
set_option maxRecDepth 100000 in
theorem law3_zero (w : World) (a : Option Addr) (c : Nat) (hac : a = none → c = 0) :
    Calls Try.prog 3 #[.slice a 0 c, .int .i64 0] w fun e w' => e = .returned (.bool true) ∧ Below w.heap.size w w' := by
  have HA : Hid (a = none → c = 0) := hac
  clear hac
  go_enter Try.func3, Try.ntmps3
  go_wp2_with fail
  refine (bytes3_any w 0 _ 0 c (by unfold maxLen; omega)).mono ?_
  rintro e w' ⟨⟨r, rfl, hr⟩, rfl⟩
  cases r with
  | false =>
    go_wp2
    go_ret
    exact ⟨rfl, Below.refl _ _⟩
  | true =>
    clear hr
    go_wp2_with fail
    refine (clone_zero w' a c HA.out).mono ?_
    rintro e w1 ⟨⟨d, c', rfl⟩, b1⟩
    have HB1 : Hid (Below w'.heap.size w' w1) := b1
    clear b1
    go_wp2_with fail
    refine (zzpeek_zero w1 d c' []).mono ?_
    rintro e w2 ⟨⟨p, hs, rfl⟩, b2⟩
    have hp : p = 0 := by have := hs.hi; omega
    subst hp
    have HB2 : Hid (Below w'.heap.size w' w2) := HB1.out.trans (b2.mono HB1.out.size)
    clear hs b2 HB1
    rw [show bAt [] 0 0 = 0 from rfl]
    go_wp2_with fail
    go_loopw [7] (fun v wr => v = .int .i64 0 ∧ Below w'.heap.size w' wr) (fun v _ => 0)
    case atStart => exact ⟨rfl, HB2.out⟩
    case round =>
      clear HB2
      obtain ⟨rfl, b2⟩ := hrel
      have HB2 : Hid (Below w'.heap.size w' wr) := b2
      clear b2
      go_wp2_with fail
      refine (zzpeek_zero _ d c' []).mono ?_
      rintro e w4 ⟨⟨p2, hs2, rfl⟩, b4⟩
      have hp2 : p2 = 0 := by have := hs2.hi; omega
      subst hp2
      have HB4 : Hid (Below w'.heap.size w' w4) := HB2.out.trans (b4.mono HB2.out.size)
      clear hs2 b4
      rw [show bAt [] 0 0 = 0 from rfl]
      go_wp2
      go_ret
      exact ⟨rfl, HB4.out⟩

set_option maxHeartbeats 1000000 in
set_option maxRecDepth 100000 in
theorem law3_out (w : World) (a : Option Addr) (n c : Nat) (at_ : Int) (hn : n ≤ maxLen) (ho : 1048576 < n ∨ at_ < 0 ∨ (n : Int) < at_) :
    Calls Try.prog 3 #[.slice a n c, .int .i64 at_] w fun e w' => e = .returned (.bool true) ∧ Below w.heap.size w w' := by
  have HO : Hid (1048576 < n ∨ at_ < 0 ∨ (n : Int) < at_) := ho
  have HM : Hid (n ≤ maxLen) := hn
  clear ho hn
  by_cases k1 : (1048576 : Int) < n
  · go_enter Try.func3, Try.ntmps3
    go_wp2_with fail
    refine (bytes3_any w at_ _ n c HM.out).mono ?_
    rintro e w' ⟨⟨r, rfl, hr⟩, rfl⟩
    cases r
    all_goals
      clear hr
      go_wp2
      go_ret
      exact ⟨rfl, Below.refl _ _⟩
  by_cases k2 : at_ < 0
  · go_enter Try.func3, Try.ntmps3
    go_wp2_with fail
    refine (bytes3_any w at_ _ n c HM.out).mono ?_
    rintro e w' ⟨⟨r, rfl, hr⟩, rfl⟩
    cases r
    all_goals
      clear hr
      go_wp2
      go_ret
      exact ⟨rfl, Below.refl _ _⟩
  have k3 : (n : Int) < at_ := by have := HO.out; omega
  go_enter Try.func3, Try.ntmps3
  go_wp2_with fail
  refine (bytes3_any w at_ _ n c HM.out).mono ?_
  rintro e w' ⟨⟨r, rfl, hr⟩, rfl⟩
  cases r
  all_goals
    clear hr
    go_wp2
    go_ret
    exact ⟨rfl, Below.refl _ _⟩

/-- A row that came in, as the shell's 'IsRow' says it. -/
theorem row8_of (w : World) (a : Option Addr) (len cap : Nat) (zs : List Int)
    (h : (a = none ∧ len = 0 ∧ cap = 0 ∧ zs = []) ∨ ∃ x, a = some x ∧ len ≤ cap ∧ cap ≤ maxLen ∧ zs.length = cap ∧ (∀ i, i < zs.length → w.cell? (x.add i) = some (.int .u8 (zs.getD i 0))) ∧ ∀ n ∈ zs, (Lit.int .u8 n).wf = true) :
    Row8 w a len zs ∧ len ≤ maxLen ∧ (a = none → cap = 0) := by
  rcases h with ⟨_, rfl, hc, _⟩ | ⟨x, rfl, h1, h2, h3, h4, _⟩
  · exact ⟨.inl rfl, by unfold maxLen; omega, fun _ => hc⟩
  · refine ⟨?_, by omega, fun h => by cases h⟩
    by_cases hl : len = 0
    · exact .inl hl
    · obtain ⟨b, off, spot⟩ := x
      have h0 := h4 0 (by omega)
      have hspot : spot = none := by simpa [Addr.add] using World.cell?_spot h0
      subst hspot
      have e : ∀ i, (⟨b, off, none⟩ : Addr).add i = ⟨b, off + i, none⟩ := fun i => by unfold Addr.add; split <;> simp_all
      refine .inr ⟨b, off, rfl, ?_, fun i hi => by rw [← e]; exact h4 i (by omega)⟩
      by_cases hb : b < w.heap.size
      · exact hb
      · exfalso
        rw [e] at h0
        simp [World.cell?, Array.getElem?_eq_none (show w.heap.size ≤ b by omega)] at h0

theorem law3_any (w : World) (a : Option Addr) (n c : Nat) (at_ : Int) (zs : List Int) (hn : n ≤ maxLen) (hac : a = none → c = 0) (h : Row8 w a n zs) :
    Calls Try.prog 3 #[.slice a n c, .int .i64 at_] w fun e w' => e = .returned (.bool true) ∧ Below w.heap.size w w' := by
  by_cases ho : 1048576 < n ∨ at_ < 0 ∨ (n : Int) < at_
  · exact law3_out w a n c at_ hn ho
  obtain ⟨k, rfl⟩ := Int.eq_ofNat_of_zero_le (show 0 ≤ at_ by omega)
  by_cases h0 : n = 0
  · subst h0
    obtain rfl : k = 0 := by omega
    exact law3_zero w a c hac
  rcases h with h | ⟨b, off, rfl, hb, hc⟩
  · omega
  exact law3_pos w b off n c k zs (by omega) (by omega) (by omega) hb hc
end Go.Proofs.Qxb6616787a
