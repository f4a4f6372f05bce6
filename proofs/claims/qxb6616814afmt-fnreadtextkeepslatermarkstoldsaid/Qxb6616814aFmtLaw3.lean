import Derived.Test.Qxb6616814aFmtEq
namespace Go.Proofs.Qxb6616814aFmt
open Go.ChangeShapes Go.WideShapes Go.ChangeAt Go.RowKit
set_option linter.unusedSimpArgs false
set_option linter.unusedVariables false

theorem marked_bom (xs : List Int) : marked (bom ++ xs) (bom ++ xs).length = true := by
  simp [marked, bom]
theorem strip_bom (xs : List Int) : strip (bom ++ xs) = xs := by
  unfold strip startOf
  rw [if_pos (marked_bom xs)]
  rfl
theorem strip_eq (xs : List Int) : decide (strip xs = xs) = !marked xs xs.length := by
  unfold strip startOf
  cases hm : marked xs xs.length with
  | true =>
    have h3 : 3 ≤ xs.length := by simp [marked] at hm; omega
    have : ¬ xs.drop 3 = xs := fun h => by
      have := congrArg List.length h
      rw [List.length_drop] at this
      omega
    simp [this]
  | false => simp

/-- TextRes at another list. -/
theorem zzRead_to (w : World) (c : Nat) (d : Option Addr) (xs ys : List Int) (ea : Addr) (hE : EofAt w ea) (hb : By w d xs) (hcap : xs.length ≤ c) (hy : strip xs = ys) :
    Calls Tryf.prog 7 #[.slice d xs.length c] w fun e w' => TextRes w [] ys (.bool false) e w' := by
  subst hy; exact zzRead_any w c d xs ea hE hb hcap
theorem cat_to (w : World) (a1 a2 : Option Addr) (c1 c2 : Nat) (xs ys zs : List Int) (hb1 : By w a1 xs) (hb2 : By w a2 ys) (hl : xs.length + ys.length ≤ 2097152) (hz : xs ++ ys = zs) :
    Calls Tryf.prog 8 #[.slice a1 xs.length c1, .slice a2 ys.length c2] w fun e w' => SlRes w zs e w' := by
  subst hz; exact cat_any w a1 a2 c1 c2 xs ys hb1 hb2 hl
theorem mark_to (w : World) (bm : List Int) (h : bom = bm) : Calls Tryf.prog 9 #[] w fun e w' => SlRes w bm e w' := by
  subst h; exact mark_any w
theorem eq_to (w : World) (a1 a2 : Option Addr) (c1 c2 : Nat) (xs ys : List Int) (r : Bool) (hb1 : By w a1 xs) (hb2 : By w a2 ys) (hr : decide (xs = ys) = r) :
    Calls Tryf.prog 10 #[.slice a1 xs.length c1, .slice a2 ys.length c2] w fun e w' => e = .returned (.bool r) ∧ Ch w w' [] := by
  subst hr; exact eq_any w a1 a2 c1 c2 xs ys hb1 hb2
theorem opens_to (w : World) (a : Option Addr) (c : Nat) (xs : List Int) (r : Bool) (hb : By w a xs) (hr : marked xs xs.length = r) :
    Calls Tryf.prog 11 #[.slice a xs.length c] w fun e w' => e = .returned (.bool r) ∧ w' = w := by
  subst hr; exact opens_any w a c xs hb

set_option maxHeartbeats 1000000 in
set_option maxRecDepth 100000 in
theorem law3_out (w : World) (a : Option Addr) (n c : Nat) (hn : n ≤ maxLen) (h : 1048576 < n) :
    Calls Tryf.prog 3 #[.slice a n c] w fun e w' => e = .returned (.bool true) ∧ Below w.heap.size w w' := by
  have HM := hide hn
  clear hn
  go_enter Tryf.func3, Tryf.ntmps3
  go_wp2_with fail
  refine (bytes1_any w a n c HM.out).mono ?_
  rintro e w' ⟨⟨r, rfl, hr⟩, rfl⟩
  cases r with
  | false =>
    go_wp2
    go_ret
    exact ⟨rfl, Below.refl _ _⟩
  | true => have := hr rfl; omega

set_option maxHeartbeats 4000000 in
set_option maxRecDepth 100000 in
theorem law3_in (w : World) (a : Option Addr) (c : Nat) (xs : List Int) (ea : Addr) (hE : EofAt w ea) (hb : By w a xs) (hn : xs.length ≤ 1048576) :
    Calls Tryf.prog 3 #[.slice a xs.length c] w fun e w' => e = .returned (.bool true) ∧ Below w.heap.size w w' := by
  have HB := hide hb
  have HE := hide hE
  have HM : Hid (xs.length ≤ 1048576) := hn
  have HEK : Hid (∀ w', Ch w w' [] → EofAt w' ea) := fun w' hc => hE.keep hc hE.pos (by simp)
  have hni : ¬ (1048576 : Int) < (xs.length : Int) := by omega
  clear hb hE hn
  go_enter Tryf.func3, Tryf.ntmps3
  go_wp2_with fail
  refine (bytes1_any w a xs.length c (by have := HM.out; unfold maxLen; omega)).mono ?_
  rintro e w' ⟨⟨r, rfl, hr⟩, rfl⟩
  clear hr
  cases r with
  | false =>
    go_wp2
    go_ret
    exact ⟨rfl, Below.refl _ _⟩
  | true =>
    go_wp2_with fail
    refine (clone_any w' a c xs HB.out).mono ?_
    rintro e w1 ⟨a1, c1, rfl, hb1, hc1, ch1⟩
    have S1 := hide (And.intro hb1 (And.intro hc1 ch1))
    clear hb1 hc1 ch1
    obtain ⟨bm, HBM⟩ : ∃ bm, Hid (bom = bm) := ⟨_, rfl⟩
    obtain ⟨ys, HYS⟩ : ∃ ys, Hid (bm ++ xs = ys) := ⟨_, rfl⟩
    go_wp2_with fail
    refine (mark_to w1 bm HBM.out).mono ?_
    rintro e w2 ⟨a2, c2, rfl, hb2, hc2, ch2⟩
    have S2 := hide (And.intro hb2 (And.intro (S1.out.1.keep ch2) (S1.out.2.2.trans ch2)))
    clear hb2 hc2 ch2
    go_wp2_with fail
    refine (cat_to w2 a2 a1 c2 c1 bm xs ys S2.out.1 S2.out.2.1 (by have := HM.out; rw [← HBM.out]; have : bom.length = 3 := rfl; omega) HYS.out).mono ?_
    rintro e w3 ⟨a3, c3, rfl, hb3, hc3, ch3⟩
    have S3 := hide (And.intro hb3 (And.intro (S2.out.2.1.keep ch3) (And.intro (S2.out.2.2.trans ch3) hc3)))
    clear hb3 hc3 ch3 S2
    go_wp2_with fail
    refine (zzRead_to w3 c3 a3 ys xs ea (HEK.out _ S3.out.2.2.1) S3.out.1 S3.out.2.2.2 (by rw [← HYS.out, ← HBM.out]; exact strip_bom xs)).mono ?_
    rintro e w4 ⟨a4, c4, rfl, hb4, ch4⟩
    have S4 := hide (And.intro hb4 (And.intro (S3.out.2.1.keep ch4) (S3.out.2.2.1.trans ch4)))
    clear hb4 ch4 S3
    go_wp2_with fail
    refine (clone_any w4 a1 c1 xs S4.out.2.1).mono ?_
    rintro e w5 ⟨a5, c5, rfl, hb5, hc5, ch5⟩
    have S5 := hide (And.intro hb5 (And.intro (S4.out.1.keep ch5) (And.intro (S4.out.2.1.keep ch5) (And.intro (S4.out.2.2.trans ch5) hc5))))
    clear hb5 hc5 ch5 S4
    go_wp2_with fail
    refine (zzRead_any w5 c5 a5 xs ea (HEK.out _ S5.out.2.2.2.1) S5.out.1 S5.out.2.2.2.2).mono ?_
    rintro e w6 ⟨a6, c6, rfl, hb6, ch6⟩
    have S6 := hide (And.intro hb6 (And.intro (S5.out.2.1.keep ch6) (And.intro (S5.out.2.2.1.keep ch6) (S5.out.2.2.2.1.trans ch6))))
    clear hb6 ch6 S5
    go_wp2_with fail
    refine (eq_to w6 a4 a1 c4 c1 xs xs true S6.out.2.1 S6.out.2.2.1 (by simp)).mono ?_
    rintro e w7 ⟨rfl, ch7⟩
    have S7 := hide (And.intro (S6.out.1.keep ch7) (And.intro (S6.out.2.1.keep ch7) (And.intro (S6.out.2.2.1.keep ch7) (S6.out.2.2.2.trans ch7))))
    clear ch7 S6
    obtain ⟨b, hmb⟩ : ∃ b, marked xs xs.length = b := ⟨_, rfl⟩
    have HMB := hide hmb
    clear hmb
    go_wp2_with fail
    refine (eq_to w7 a6 a4 c6 c4 (strip xs) xs (!b) S7.out.1 S7.out.2.1 (by rw [strip_eq, HMB.out])).mono ?_
    rintro e w8 ⟨rfl, ch8⟩
    have S8 := hide (And.intro (S7.out.2.2.1.keep ch8) (S7.out.2.2.2.trans ch8))
    clear ch8 S7
    go_wp2_with fail
    refine (opens_to w8 a1 c1 xs b S8.out.1 HMB.out).mono ?_
    rintro e w9 ⟨rfl, rfl⟩
    have HF := hide (S8.out.2.below (L := w'.heap.size) (by simp) (Nat.le_refl _))
    clear S8 S1
    cases b
    · go_wp2
      go_ret
      exact ⟨rfl, HF.out⟩
    · go_wp2
      go_ret
      exact ⟨rfl, HF.out⟩
end Go.Proofs.Qxb6616814aFmt
