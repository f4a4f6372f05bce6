import Derived.Test.Qxb6616787aInsert
namespace Go.Proofs.Qxb6616787a
open Go.ChangeShapes Go.WideShapes Go.ChangeAt Go.RowKit
set_option linter.unusedSimpArgs false
set_option linter.unusedVariables false

/-- White space put in among white space: peek stops one place on, at the same byte. -/
theorem stop_shift {zs : List Int} {n a k p : Nat} {x : Int} (hk : k ≤ n) (hak : a ≤ k) (hx : isW x = true) (hw : ∀ i, a ≤ i → i < k → isW (zs.getD i 0) = true) (h : Stop zs n a p) :
    Stop (ins zs n k x) (n + 1) a (p + 1) ∧ bAt (ins zs n k x) (n + 1) (p + 1) = bAt zs n p := by
  have hkp : k ≤ p := by
    rcases Nat.lt_or_ge p k with hl | hl
    · have h1 := h.no (by omega)
      have h2 := hw p h.lo hl
      rw [h1] at h2; cases h2
    · exact hl
  have hhi := h.hi
  have hlo := h.lo
  refine ⟨⟨by omega, by omega, fun i h1 h2 => ?_, fun hl => ?_⟩, ?_⟩
  · rw [ins_at _ _ _ _ _ (by omega)]
    split
    · exact hw i h1 (by assumption)
    · split
      · exact hx
      · exact h.white (i - 1) (by omega) (by omega)
  · rw [ins_at _ _ _ _ _ (by omega), if_neg (by omega), if_neg (by omega), Nat.add_sub_cancel]
    exact h.no (by omega)
  · unfold bAt
    by_cases hp : p < n
    · rw [if_pos (by omega), if_pos hp, ins_at _ _ _ _ _ (by omega), if_neg (by omega), if_neg (by omega), Nat.add_sub_cancel]
    · rw [if_neg (by omega), if_neg hp]

set_option maxHeartbeats 1000000 in
set_option maxRecDepth 100000 in
theorem insert_zero (w : World) (d : Option Addr) (c : Nat) (x : Int) (zs : List Int) :
    Calls Try.prog 15 #[.slice d 0 c, .int .i64 0, .int .u8 x] w fun e w' => e = .returned (.slice (some ⟨w.heap.size, 0, none⟩) 1 1) ∧ Below w.heap.size w w' ∧ w.heap.size < w'.heap.size ∧ Head8 w' w.heap.size 1 (ins zs 0 0 x) := by
  have HY : Hid ((ins zs 0 0 x).getD 0 0 = x) := by rw [ins_at _ _ _ _ _ (by omega), if_neg (by omega), if_pos rfl]; rfl
  have hm : ∀ w : World, (Instr.makeSlice 22 (.int .i64 1) (.int .i64 1)).run Try.prog w = .ok (.slice (some ⟨w.heap.size, 0, none⟩) 1 1) (w.alloc (.cells (blank 1) 5)) := make22 1 (by omega)
  have HS : Hid (∀ w : World, Cop (w.alloc (.cells (blank 1) 5)) w.heap.size 1 (ins zs 0 0 x) 0) := fun w => Cop.start w 1 _
  generalize ins zs 0 0 x = ys at *
  go_enter Try.func15, Try.ntmps15
  go_wp2
  go_loopw [8] (fun v wr => v = .int .i64 0 ∧ Below w.heap.size w wr ∧ w.heap.size < wr.heap.size ∧ Cop wr w.heap.size 1 ys 0) (fun v _ => 0)
  case atStart => exact ⟨rfl, (Below.refl _ _).alloc (Nat.le_refl _) _, by simp, HS.out w⟩
  case round =>
    clear hm HS
    obtain ⟨rfl, hbel, hsz, hcop⟩ := hrel
    have HB : Hid (Below w.heap.size w wr) := hbel
    have HP : Hid (Cop wr w.heap.size 1 ys 0) := hcop
    obtain ⟨v, h2⟩ := hcop.has 0 (by omega)
    have h3 := hcop.fz 0
    clear hbel hcop
    go_wp2
    go_loopw [9] (fun v wr => v = .int .i64 0 ∧ Below w.heap.size w wr ∧ w.heap.size < wr.heap.size ∧ Cop wr w.heap.size 1 ys 1) (fun v _ => 0)
    case atStart => exact ⟨rfl, HB.out.setCell (Nat.le_refl _) _, by rw [World.size_setCell]; exact hsz, HP.out.step HY.out⟩
    case round =>
      clear HB HP h2 h3 hsz
      obtain ⟨rfl, hbel, hsz, hcop⟩ := hrel
      have HB : Hid (Below w.heap.size w wr) := hbel
      have HP : Hid (Cop wr w.heap.size 1 ys 1) := hcop
      clear hbel hcop
      go_wp2
      go_ret
      exact ⟨rfl, HB.out, hsz, HP.out.all (by omega)⟩

set_option maxHeartbeats 1000000 in
set_option maxRecDepth 100000 in
theorem law4_pos (w : World) (b off n c at_ k : Nat) (x : Int) (zs : List Int) (h0 : 0 < n) (hn : n ≤ 1048576) (hat : at_ ≤ k) (hk : k ≤ n) (hx : isW x = true) (hb : b < w.heap.size)
    (hc : ∀ i, i < n → w.cell? ⟨b, off + i, none⟩ = some (.int .u8 (zs.getD i 0))) :
    Calls Try.prog 4 #[.slice (some ⟨b, off, none⟩) n c, .int .i64 at_, .int .i64 k, .int .u8 x] w fun e w' => e = .returned (.bool true) ∧ Below w.heap.size w w' := by
  have HC : Hid (∀ i, i < n → w.cell? ⟨b, off + i, none⟩ = some (.int .u8 (zs.getD i 0))) := hc
  have HX : Hid (isW x = true) := hx
  clear hc hx
  have hd1 : decide ((1048576 : Int) < n) = false := decide_eq_false (by omega)
  have hd2 : decide ((at_ : Int) < 0) = false := decide_eq_false (by omega)
  have hd3 : decide ((n : Int) < at_) = false := decide_eq_false (by omega)
  have hd3' : decide (n < at_) = false := decide_eq_false (by omega)
  have hd4 : decide ((k : Int) < at_) = false := decide_eq_false (by omega)
  have hd4' : decide (k < at_) = false := decide_eq_false (by omega)
  have hd5 : decide ((n : Int) < k) = false := decide_eq_false (by omega)
  have hd5' : decide (n < k) = false := decide_eq_false (by omega)
  go_enter Try.func4, Try.ntmps4
  go_wp2_with fail
  refine (bytes4_any w at_ k x _ n c (by unfold maxLen; omega)).mono ?_
  rintro e w' ⟨⟨r, rfl, hr⟩, rfl⟩
  cases r with
  | false =>
    go_wp2
    go_ret
    exact ⟨rfl, Below.refl _ _⟩
  | true =>
    clear hr
    go_wp2_with fail
    refine (white_yes x HX.out _).mono ?_
    rintro e w1 ⟨rfl, rfl⟩
    go_wp2_with fail
    go_loopw [9] (fun v wr => ∃ i : Nat, at_ ≤ i ∧ i ≤ k ∧ v = .int .i64 i ∧ wr = w1 ∧ ∀ j, at_ ≤ j → j < i → isW (zs.getD j 0) = true) (fun v _ => k - (intOf v).toNat)
    case atStart => exact ⟨at_, Nat.le_refl _, hat, rfl, rfl, fun j h1 h2 => by omega⟩
    case round =>
      obtain ⟨i, hi1, hi2, rfl, rfl, hwh⟩ := hrel
      have HW : Hid (∀ j, at_ ≤ j → j < i → isW (zs.getD j 0) = true) := hwh
      clear hwh
      by_cases hik : i < k
      · have hi' : (i : Int) < k := by omega
        have hi'' : (i : Int) < n := by omega
        have h1 := HC.out i (by omega)
        cases hw : isW (zs.getD i 0) with
        | true =>
          have HWi : Hid (isW (zs.getD i 0) = true) := hw
          clear hw
          generalize hz : zs.getD i 0 = z at *
          have HZ : Hid (zs.getD i 0 = z) := hz
          clear hz
          go_wp2_with fail
          refine (white_yes z HWi.out _).mono ?_
          rintro e w2 ⟨rfl, rfl⟩
          go_wp2
          go_roundw
          case rel =>
            refine ⟨i + 1, by omega, by omega, by go_num, (by first | trivial | rfl), fun j h1 h2 => ?_⟩
            by_cases hj : j = i
            · subst hj; rw [HZ.out]; exact HWi.out
            · exact HW.out j h1 (by omega)
          case measure => simp [intOf]; omega
        | false =>
          have HWi : Hid (isW (zs.getD i 0) = false) := hw
          clear hw
          generalize zs.getD i 0 = z at *
          go_wp2_with fail
          refine (white_no z HWi.out _).mono ?_
          rintro e w2 ⟨rfl, rfl⟩
          go_wp2
          go_ret
          exact ⟨rfl, Below.refl _ _⟩
      · have hi' : ¬ (i : Int) < k := by omega
        have hieq : i = k := by omega
        have HW2 : Hid (∀ j, at_ ≤ j → j < k → isW (zs.getD j 0) = true) := fun j h1 h2 => HW.out j h1 (by omega)
        clear hieq HW
        clear hd1 hd2 hd3 hd3' hd4 hd4' hd5 hd5'
        go_wp2_with fail
        refine (clone_pos _ b off n c zs hn hb (by exact HC.out)).mono ?_
        rintro e w2 ⟨rfl, b2, l2, H2⟩
        have HB2 : Hid (Below wr.heap.size wr w2) := b2
        have HH2 : Hid (Head8 w2 wr.heap.size n zs) := H2
        clear b2 H2 HC
        go_wp2_with fail
        refine (insert_pos w2 wr.heap.size 0 n n k x zs hn hk l2 HH2.out).mono ?_
        rintro e w3 ⟨rfl, b3, l3, H3⟩
        have HB3 : Hid (Below wr.heap.size wr w3) := HB2.out.trans (b3.mono (by omega))
        have HA3 : Hid (Head8 w3 wr.heap.size n zs) := HH2.out.below b3 l2
        have HH3 : Hid (Head8 w3 w2.heap.size (n + 1) (ins zs n k x)) := H3
        have l3' : wr.heap.size < w3.heap.size := by omega
        clear b3 H3 HB2 HH2
        go_wp2_with fail
        refine (zzpeek_pos w3 wr.heap.size 0 n n at_ zs (by omega) (by omega) l3' HA3.out).mono ?_
        rintro e w4 ⟨⟨p, hs, rfl⟩, b4⟩
        have hlo := hs.lo
        have hhi := hs.hi
        obtain ⟨hs', hbt⟩ := stop_shift hk hat HX.out HW2.out hs
        have HS' : Hid (Stop (ins zs n k x) (n + 1) at_ (p + 1)) := hs'
        have HBT : Hid (bAt (ins zs n k x) (n + 1) (p + 1) = bAt zs n p) := hbt
        have HB4 : Hid (Below wr.heap.size wr w4) := HB3.out.trans (b4.mono (by omega))
        have HA4 : Hid (Head8 w4 wr.heap.size n zs) := HA3.out.below b4 l3'
        have HH4 : Hid (Head8 w4 w2.heap.size (n + 1) (ins zs n k x)) := HH3.out.below b4 l3
        have l4 : w2.heap.size < w4.heap.size := Nat.lt_of_lt_of_le l3 b4.size
        clear hs hs' hbt b4 HB3 HA3 HH3 HW2 HX
        generalize hv : bAt zs n p = v at *
        have HV : Hid (bAt zs n p = v) := hv
        clear hv
        go_wp2_with fail
        refine (zzpeek_pos w4 w2.heap.size 0 (n + 1) (n + 1) at_ (ins zs n k x) (by omega) (by omega) l4 HH4.out).mono ?_
        rintro e w5 ⟨⟨p2, hs2, rfl⟩, b5⟩
        obtain rfl := hs2.uniq HS'.out
        have HB5 : Hid (Below wr.heap.size wr w5) := HB4.out.trans (b5.mono (by omega))
        have HA5 : Hid (Head8 w5 wr.heap.size n zs) := HA4.out.below b5 (by omega)
        clear hs2 b5 HB4 HA4 HH4 HS'
        rw [HBT.out]
        have hd6 : decide ((p : Int) < 0) = false := decide_eq_false (by omega)
        have hd7 : decide ((n : Int) < p) = false := decide_eq_false (by omega)
        have hd7' : decide (n < p) = false := decide_eq_false (by omega)
        have he1 : ((((p + 1 : Nat) : Int)) == (p : Int) + 1) = true := by simp
        by_cases hpn : p < n
        · have hp' : (p : Int) < n := by omega
          have h1 := HA5.out p hpn
          rw [Nat.zero_add] at h1
          have h3 : zs.getD p 0 = v := by have := HV.out; simpa [bAt, hpn] using this
          rw [h3] at h1
          clear h3
          go_wp2
          go_ret
          exact ⟨rfl, HB5.out⟩
        · have hp' : ¬ (p : Int) < n := by omega
          have h3 : v = 0 := by have := HV.out; simp [bAt, hpn] at this; exact this.symm
          subst h3
          go_wp2
          go_ret
          exact ⟨rfl, HB5.out⟩

set_option maxHeartbeats 1000000 in
set_option maxRecDepth 100000 in
theorem law4_zero (w : World) (a : Option Addr) (c : Nat) (x : Int) (hac : a = none → c = 0) (hx : isW x = true) :
    Calls Try.prog 4 #[.slice a 0 c, .int .i64 0, .int .i64 0, .int .u8 x] w fun e w' => e = .returned (.bool true) ∧ Below w.heap.size w w' := by
  have HA : Hid (a = none → c = 0) := hac
  have HX : Hid (isW x = true) := hx
  clear hac hx
  go_enter Try.func4, Try.ntmps4
  go_wp2_with fail
  refine (bytes4_any w 0 0 x _ 0 c (by unfold maxLen; omega)).mono ?_
  rintro e w' ⟨⟨r, rfl, hr⟩, rfl⟩
  cases r with
  | false =>
    go_wp2
    go_ret
    exact ⟨rfl, Below.refl _ _⟩
  | true =>
    clear hr
    go_wp2_with fail
    refine (white_yes x HX.out _).mono ?_
    rintro e w1 ⟨rfl, rfl⟩
    go_wp2_with fail
    go_loopw [9] (fun v wr => v = .int .i64 0 ∧ wr = w1) (fun v _ => 0)
    case atStart => exact ⟨rfl, rfl⟩
    case round =>
      obtain ⟨rfl, rfl⟩ := hrel
      go_wp2_with fail
      refine (clone_zero _ a c HA.out).mono ?_
      rintro e w2 ⟨⟨d, c', rfl⟩, b2⟩
      have HB2 : Hid (Below wr.heap.size wr w2) := b2
      clear b2
      go_wp2_with fail
      refine (insert_zero w2 d c' x []).mono ?_
      rintro e w3 ⟨rfl, b3, l3, H3⟩
      have HB3 : Hid (Below wr.heap.size wr w3) := HB2.out.trans (b3.mono HB2.out.size)
      have HH3 : Hid (Head8 w3 w2.heap.size 1 (ins [] 0 0 x)) := H3
      clear b3 H3 HB2
      go_wp2_with fail
      refine (zzpeek_zero w3 d c' []).mono ?_
      rintro e w4 ⟨⟨p, hs, rfl⟩, b4⟩
      have hp : p = 0 := by have := hs.hi; omega
      subst hp
      obtain ⟨hs', hbt⟩ := stop_shift (k := 0) (Nat.le_refl 0) (Nat.le_refl 0) HX.out (fun i h1 h2 => by omega) hs
      have HS' : Hid (Stop (ins [] 0 0 x) 1 0 1) := hs'
      have HBT : Hid (bAt (ins [] 0 0 x) 1 1 = 0) := hbt
      have HB4 : Hid (Below wr.heap.size wr w4) := HB3.out.trans (b4.mono HB3.out.size)
      have HH4 : Hid (Head8 w4 w2.heap.size 1 (ins [] 0 0 x)) := HH3.out.below b4 l3
      have l4 : w2.heap.size < w4.heap.size := Nat.lt_of_lt_of_le l3 b4.size
      clear hs hs' hbt b4 HB3 HH3 HX
      rw [show bAt [] 0 0 = 0 from rfl]
      go_wp2_with fail
      refine (zzpeek_pos w4 w2.heap.size 0 1 1 0 (ins [] 0 0 x) (by omega) (by omega) l4 HH4.out).mono ?_
      rintro e w5 ⟨⟨p2, hs2, rfl⟩, b5⟩
      obtain rfl := hs2.uniq HS'.out
      have HB5 : Hid (Below wr.heap.size wr w5) := HB4.out.trans (b5.mono HB4.out.size)
      clear hs2 b5 HB4 HH4 HS'
      rw [HBT.out]
      go_wp2
      go_ret
      exact ⟨rfl, HB5.out⟩

set_option maxHeartbeats 1000000 in
set_option maxRecDepth 100000 in
theorem law4_out (w : World) (a : Option Addr) (n c : Nat) (at_ k x : Int) (hn : n ≤ maxLen) (ho : 1048576 < n ∨ at_ < 0 ∨ (n : Int) < at_ ∨ k < at_ ∨ (n : Int) < k ∨ isW x = false) :
    Calls Try.prog 4 #[.slice a n c, .int .i64 at_, .int .i64 k, .int .u8 x] w fun e w' => e = .returned (.bool true) ∧ Below w.heap.size w w' := by
  have HO : Hid (1048576 < n ∨ at_ < 0 ∨ (n : Int) < at_ ∨ k < at_ ∨ (n : Int) < k ∨ isW x = false) := ho
  have HM : Hid (n ≤ maxLen) := hn
  clear ho hn
  by_cases k1 : (1048576 : Int) < n
  · go_enter Try.func4, Try.ntmps4
    go_wp2_with fail
    refine (bytes4_any w at_ k x _ n c HM.out).mono ?_
    rintro e w' ⟨⟨r, rfl, hr⟩, rfl⟩
    cases r
    all_goals
      clear hr
      go_wp2
      go_ret
      exact ⟨rfl, Below.refl _ _⟩
  by_cases k2 : at_ < 0
  · go_enter Try.func4, Try.ntmps4
    go_wp2_with fail
    refine (bytes4_any w at_ k x _ n c HM.out).mono ?_
    rintro e w' ⟨⟨r, rfl, hr⟩, rfl⟩
    cases r
    all_goals
      clear hr
      go_wp2
      go_ret
      exact ⟨rfl, Below.refl _ _⟩
  by_cases k3 : (n : Int) < at_
  · go_enter Try.func4, Try.ntmps4
    go_wp2_with fail
    refine (bytes4_any w at_ k x _ n c HM.out).mono ?_
    rintro e w' ⟨⟨r, rfl, hr⟩, rfl⟩
    cases r
    all_goals
      clear hr
      go_wp2
      go_ret
      exact ⟨rfl, Below.refl _ _⟩
  by_cases k4 : k < at_
  · go_enter Try.func4, Try.ntmps4
    go_wp2_with fail
    refine (bytes4_any w at_ k x _ n c HM.out).mono ?_
    rintro e w' ⟨⟨r, rfl, hr⟩, rfl⟩
    cases r
    all_goals
      clear hr
      go_wp2
      go_ret
      exact ⟨rfl, Below.refl _ _⟩
  by_cases k5 : (n : Int) < k
  · go_enter Try.func4, Try.ntmps4
    go_wp2_with fail
    refine (bytes4_any w at_ k x _ n c HM.out).mono ?_
    rintro e w' ⟨⟨r, rfl, hr⟩, rfl⟩
    cases r
    all_goals
      clear hr
      go_wp2
      go_ret
      exact ⟨rfl, Below.refl _ _⟩
  have HX : Hid (isW x = false) := by
    have h := HO.out
    rcases h with h | h | h | h | h | h
    · exact absurd h (by omega)
    · exact absurd h k2
    · exact absurd h k3
    · exact absurd h k4
    · exact absurd h k5
    · exact h
  clear HO
  go_enter Try.func4, Try.ntmps4
  go_wp2_with fail
  refine (bytes4_any w at_ k x _ n c HM.out).mono ?_
  rintro e w' ⟨⟨r, rfl, hr⟩, rfl⟩
  cases r
  · clear hr
    go_wp2
    go_ret
    exact ⟨rfl, Below.refl _ _⟩
  · clear hr
    go_wp2_with fail
    refine (white_no x HX.out _).mono ?_
    rintro e w1 ⟨rfl, rfl⟩
    go_wp2
    go_ret
    exact ⟨rfl, Below.refl _ _⟩

theorem law4_any (w : World) (a : Option Addr) (n c : Nat) (at_ k x : Int) (zs : List Int) (hn : n ≤ maxLen) (hac : a = none → c = 0) (h : Row8 w a n zs) :
    Calls Try.prog 4 #[.slice a n c, .int .i64 at_, .int .i64 k, .int .u8 x] w fun e w' => e = .returned (.bool true) ∧ Below w.heap.size w w' := by
  by_cases ho : 1048576 < n ∨ at_ < 0 ∨ (n : Int) < at_ ∨ k < at_ ∨ (n : Int) < k ∨ isW x = false
  · exact law4_out w a n c at_ k x hn ho
  have hx : isW x = true := by
    cases hx : isW x with
    | true => rfl
    | false => exact absurd (.inr (.inr (.inr (.inr (.inr hx))))) ho
  obtain ⟨i, rfl⟩ := Int.eq_ofNat_of_zero_le (show 0 ≤ at_ by omega)
  obtain ⟨j, rfl⟩ := Int.eq_ofNat_of_zero_le (show 0 ≤ k by omega)
  by_cases h0 : n = 0
  · subst h0
    obtain rfl : i = 0 := by omega
    obtain rfl : j = 0 := by omega
    exact law4_zero w a c x hac hx
  rcases h with h | ⟨b, off, rfl, hb, hc⟩
  · omega
  exact law4_pos w b off n c i j x zs (by omega) (by omega) (by omega) (by omega) hx hb hc
end Go.Proofs.Qxb6616787a
