import Derived.Test.Qxb6616814aFmtLaw3
namespace Go.Proofs.Qxb6616814aFmt
open Go.ChangeShapes Go.WideShapes Go.ChangeAt Go.RowKit
set_option linter.unusedSimpArgs false
set_option linter.unusedVariables false

theorem strip_mid (xs ys : List Int) (h : 0 < xs.length) : strip (xs ++ bom ++ ys) = strip xs ++ bom ++ ys := by
  match xs, h with
  | [x], _ => simp [strip, startOf, marked, bom]
  | [x, y], _ => simp [strip, startOf, marked, bom]
  | x :: y :: z :: t, _ =>
    unfold strip startOf
    have hm : marked (x :: y :: z :: t ++ bom ++ ys) (x :: y :: z :: t ++ bom ++ ys).length = marked (x :: y :: z :: t) (x :: y :: z :: t).length := by
      simp [marked]
    rw [hm]
    split <;> simp

theorem clone_to (w : World) (a : Option Addr) (c : Nat) (xs : List Int) (hb : By w a xs) :
    Calls Tryf.prog 6 #[.slice a xs.length c] w fun e w' => SlRes w xs e w' := clone_any w a c xs hb

set_option maxHeartbeats 1000000 in
set_option maxRecDepth 100000 in
theorem law4_out (w : World) (a a2 : Option Addr) (n c n2 c2 : Nat) (hn : n ≤ maxLen) (hn2 : n2 ≤ maxLen) (h : 1048576 < n + n2) :
    Calls Tryf.prog 4 #[.slice a n c, .slice a2 n2 c2] w fun e w' => e = .returned (.bool true) ∧ Below w.heap.size w w' := by
  have HM := hide hn
  have HM2 := hide hn2
  clear hn hn2
  go_enter Tryf.func4, Tryf.ntmps4
  go_wp2_with fail
  refine (bytes2_any w a a2 n c n2 c2 HM.out HM2.out).mono ?_
  rintro e w' ⟨⟨r, rfl, hr⟩, rfl⟩
  cases r with
  | false =>
    go_wp2
    go_ret
    exact ⟨rfl, Below.refl _ _⟩
  | true => have := hr rfl; omega

set_option maxHeartbeats 4000000 in
set_option maxRecDepth 100000 in
theorem law4_in (w : World) (a b : Option Addr) (ca cb : Nat) (xs ys : List Int) (ea : Addr) (hE : EofAt w ea) (hba : By w a xs) (hbb : By w b ys) (hn : xs.length + ys.length ≤ 1048576) :
    Calls Tryf.prog 4 #[.slice a xs.length ca, .slice b ys.length cb] w fun e w' => e = .returned (.bool true) ∧ Below w.heap.size w w' := by
  have HA := hide hba
  have HB := hide hbb
  have HM : Hid (xs.length + ys.length ≤ 1048576) := hn
  have HEK : Hid (∀ w', Ch w w' [] → EofAt w' ea) := fun w' hc => hE.keep hc hE.pos (by simp)
  have hni : ¬ (1048576 : Int) < (xs.length : Int) := by omega
  have hni2 : ¬ (1048576 : Int) - (xs.length : Int) < (ys.length : Int) := by omega
  have hni3 : IntKind.i64.wrap ((1048576 : Int) - (xs.length : Int)) = (1048576 : Int) - (xs.length : Int) := by rw [IntKind.wrap_i64]; omega
  clear hba hbb hE hn
  obtain ⟨bm, HBM⟩ : ∃ bm, Hid (bom = bm) := ⟨_, rfl⟩
  obtain ⟨m1, HM1⟩ : ∃ m1, Hid (xs ++ bm = m1) := ⟨_, rfl⟩
  obtain ⟨md, HMD⟩ : ∃ md, Hid (m1 ++ ys = md) := ⟨_, rfl⟩
  obtain ⟨hd, HHD⟩ : ∃ hd, Hid (strip xs = hd) := ⟨_, rfl⟩
  obtain ⟨h1, HH1⟩ : ∃ h1, Hid (hd ++ bm = h1) := ⟨_, rfl⟩
  obtain ⟨al, HAL⟩ : ∃ al, Hid (bm ++ md = al) := ⟨_, rfl⟩
  have HLS : Hid (bm.length = 3 ∧ m1.length = xs.length + 3 ∧ md.length = xs.length + 3 + ys.length ∧ hd.length ≤ xs.length ∧ h1.length = hd.length + 3 ∧ al.length = 3 + md.length) := by
    have e1 := HBM.out; have e2 := HM1.out; have e3 := HMD.out; have e4 := HHD.out; have e5 := HH1.out; have e6 := HAL.out
    subst e1 e2 e3 e4 e5 e6
    refine ⟨rfl, by simp [bom], by simp [bom]; omega, by unfold strip; rw [List.length_drop]; omega, by simp [bom], by simp [bom]; omega⟩
  have HG : Hid (0 < xs.length → strip md = h1 ++ ys) := by
    have e1 := HBM.out; have e2 := HM1.out; have e3 := HMD.out; have e4 := HHD.out; have e5 := HH1.out
    subst e1 e2 e3 e4 e5
    exact strip_mid xs ys
  have HT : Hid (strip al = md) := by
    have e1 := HBM.out; have e6 := HAL.out
    subst e1 e6
    exact strip_bom md
  go_enter Tryf.func4, Tryf.ntmps4
  go_wp2_with fail
  refine (bytes2_any w a b xs.length ca ys.length cb (by have := HM.out; unfold maxLen; omega) (by have := HM.out; unfold maxLen; omega)).mono ?_
  rintro e w' ⟨⟨r, rfl, hr⟩, rfl⟩
  clear hr
  cases r with
  | false =>
    go_wp2
    go_ret
    exact ⟨rfl, Below.refl _ _⟩
  | true =>
    have C0 := hide (Ch.refl w' [])
    go_wp2_with fail
    refine (clone_to w' a ca xs HA.out).mono ?_
    rintro e w1 ⟨a1, c1, rfl, hb, hc, ch⟩
    have C1 := hide (C0.out.trans ch)
    have B1_x0 := hide (HA.out.keep ch)
    have B1_y0 := hide (HB.out.keep ch)
    have B1_b1 := hide hb
    have K_b1 := hide hc
    clear ch hb hc C0 HA HB
    go_wp2_with fail
    refine (clone_to w1 b cb ys B1_y0.out).mono ?_
    rintro e w2 ⟨a2, c2, rfl, hb, hc, ch⟩
    have C2 := hide (C1.out.trans ch)
    have B2_y0 := hide (B1_y0.out.keep ch)
    have B2_b1 := hide (B1_b1.out.keep ch)
    have B2_b2 := hide hb
    have K_b2 := hide hc
    clear ch hb hc C1 B1_y0 B1_b1 B1_x0
    go_wp2_with fail
    refine (mark_to w2 bm HBM.out).mono ?_
    rintro e w3 ⟨a3, c3, rfl, hb, hc, ch⟩
    have C3 := hide (C2.out.trans ch)
    have B3_b1 := hide (B2_b1.out.keep ch)
    have B3_b2 := hide (B2_b2.out.keep ch)
    have B3_mk1 := hide hb
    have K_mk1 := hide hc
    clear ch hb hc C2 B2_b1 B2_b2 B2_y0
    go_wp2_with fail
    refine (cat_to w3 a1 a3 c1 c3 xs bm m1 B3_b1.out B3_mk1.out (by have := HM.out; have := HLS.out; omega) HM1.out).mono ?_
    rintro e w4 ⟨a4, c4, rfl, hb, hc, ch⟩
    have C4 := hide (C3.out.trans ch)
    have B4_b1 := hide (B3_b1.out.keep ch)
    have B4_b2 := hide (B3_b2.out.keep ch)
    have B4_mk1 := hide (B3_mk1.out.keep ch)
    have B4_m1 := hide hb
    have K_m1 := hide hc
    clear ch hb hc C3 B3_b1 B3_b2 B3_mk1
    go_wp2_with fail
    refine (cat_to w4 a4 a2 c4 c2 m1 ys md B4_m1.out B4_b2.out (by have := HM.out; have := HLS.out; omega) HMD.out).mono ?_
    rintro e w5 ⟨a5, c5, rfl, hb, hc, ch⟩
    have C5 := hide (C4.out.trans ch)
    have B5_b1 := hide (B4_b1.out.keep ch)
    have B5_b2 := hide (B4_b2.out.keep ch)
    have B5_m1 := hide (B4_m1.out.keep ch)
    have B5_mid := hide hb
    have K_mid := hide hc
    clear ch hb hc C4 B4_b1 B4_b2 B4_m1 B4_mk1
    by_cases hx0 : 0 < xs.length
    · have hx0' : (0 : Int) < (xs.length : Int) := by omega
      go_wp2_with fail
      refine (clone_to w5 a5 c5 md B5_mid.out).mono ?_
      rintro e w6 ⟨a6, c6, rfl, hb, hc, ch⟩
      have C6 := hide (C5.out.trans ch)
      have B6_b1 := hide (B5_b1.out.keep ch)
      have B6_b2 := hide (B5_b2.out.keep ch)
      have B6_mid := hide (B5_mid.out.keep ch)
      have B6_midc := hide hb
      have K_midc := hide hc
      clear ch hb hc C5 B5_b1 B5_b2 B5_mid B5_m1
      obtain ⟨gt, HGT⟩ : ∃ gt, Hid (h1 ++ ys = gt) := ⟨_, rfl⟩
      go_wp2_with fail
      refine (zzRead_to w6 c6 a6 md gt ea (HEK.out _ C6.out) B6_midc.out K_midc.out ((HG.out hx0).trans HGT.out)).mono ?_
      rintro e w7 ⟨a7, c7, rfl, hb, ch⟩
      have C7 := hide (C6.out.trans ch)
      have B7_b1 := hide (B6_b1.out.keep ch)
      have B7_b2 := hide (B6_b2.out.keep ch)
      have B7_mid := hide (B6_mid.out.keep ch)
      have B7_midc := hide (B6_midc.out.keep ch)
      have B7_got := hide hb
      clear ch hb C6 B6_b1 B6_b2 B6_mid B6_midc
      go_wp2_with fail
      refine (clone_to w7 a1 c1 xs B7_b1.out).mono ?_
      rintro e w8 ⟨a8, c8, rfl, hb, hc, ch⟩
      have C8 := hide (C7.out.trans ch)
      have B8_b1 := hide (B7_b1.out.keep ch)
      have B8_b2 := hide (B7_b2.out.keep ch)
      have B8_mid := hide (B7_mid.out.keep ch)
      have B8_got := hide (B7_got.out.keep ch)
      have B8_b1c := hide hb
      have K_b1c := hide hc
      clear ch hb hc C7 B7_b1 B7_b2 B7_mid B7_got B7_midc
      go_wp2_with fail
      refine (zzRead_to w8 c8 a8 xs hd ea (HEK.out _ C8.out) B8_b1c.out K_b1c.out HHD.out).mono ?_
      rintro e w9 ⟨a9, c9, rfl, hb, ch⟩
      have C9 := hide (C8.out.trans ch)
      have B9_b1 := hide (B8_b1.out.keep ch)
      have B9_b2 := hide (B8_b2.out.keep ch)
      have B9_mid := hide (B8_mid.out.keep ch)
      have B9_got := hide (B8_got.out.keep ch)
      have B9_b1c := hide (B8_b1c.out.keep ch)
      have B9_head := hide hb
      clear ch hb C8 B8_b1 B8_b2 B8_mid B8_got B8_b1c
      go_wp2_with fail
      refine (mark_to w9 bm HBM.out).mono ?_
      rintro e w10 ⟨a10, c10, rfl, hb, hc, ch⟩
      have C10 := hide (C9.out.trans ch)
      have B10_b1 := hide (B9_b1.out.keep ch)
      have B10_b2 := hide (B9_b2.out.keep ch)
      have B10_mid := hide (B9_mid.out.keep ch)
      have B10_got := hide (B9_got.out.keep ch)
      have B10_head := hide (B9_head.out.keep ch)
      have B10_mk2 := hide hb
      have K_mk2 := hide hc
      clear ch hb hc C9 B9_b1 B9_b2 B9_mid B9_got B9_head B9_b1c
      go_wp2_with fail
      refine (cat_to w10 a9 a10 c9 c10 hd bm h1 B10_head.out B10_mk2.out (by have := HM.out; have := HLS.out; omega) HH1.out).mono ?_
      rintro e w11 ⟨a11, c11, rfl, hb, hc, ch⟩
      have C11 := hide (C10.out.trans ch)
      have B11_b1 := hide (B10_b1.out.keep ch)
      have B11_b2 := hide (B10_b2.out.keep ch)
      have B11_mid := hide (B10_mid.out.keep ch)
      have B11_got := hide (B10_got.out.keep ch)
      have B11_head := hide (B10_head.out.keep ch)
      have B11_mk2 := hide (B10_mk2.out.keep ch)
      have B11_h1 := hide hb
      have K_h1 := hide hc
      clear ch hb hc C10 B10_b1 B10_b2 B10_mid B10_got B10_head B10_mk2
      go_wp2_with fail
      refine (cat_to w11 a11 a2 c11 c2 h1 ys gt B11_h1.out B11_b2.out (by have := HM.out; have := HLS.out; omega) HGT.out).mono ?_
      rintro e w12 ⟨a12, c12, rfl, hb, hc, ch⟩
      have C12 := hide (C11.out.trans ch)
      have B12_b1 := hide (B11_b1.out.keep ch)
      have B12_b2 := hide (B11_b2.out.keep ch)
      have B12_mid := hide (B11_mid.out.keep ch)
      have B12_got := hide (B11_got.out.keep ch)
      have B12_h1 := hide (B11_h1.out.keep ch)
      have B12_h2 := hide hb
      have K_h2 := hide hc
      clear ch hb hc C11 B11_b1 B11_b2 B11_mid B11_got B11_h1 B11_mk2 B11_head
      go_wp2_with fail
      refine (eq_to w12 a7 a12 c7 c12 gt gt true B12_got.out B12_h2.out (by simp)).mono ?_
      rintro e w13 ⟨rfl, ch⟩
      have C13 := hide (C12.out.trans ch)
      have B13_b1 := hide (B12_b1.out.keep ch)
      have B13_b2 := hide (B12_b2.out.keep ch)
      have B13_mid := hide (B12_mid.out.keep ch)
      have B13_got := hide (B12_got.out.keep ch)
      have B13_h2 := hide (B12_h2.out.keep ch)
      clear ch C12 B12_b1 B12_b2 B12_mid B12_got B12_h2 B12_h1
      go_wp2_with fail
      refine (mark_to w13 bm HBM.out).mono ?_
      rintro e w14 ⟨a14, c14, rfl, hb, hc, ch⟩
      have C14 := hide (C13.out.trans ch)
      have B14_b1 := hide (B13_b1.out.keep ch)
      have B14_b2 := hide (B13_b2.out.keep ch)
      have B14_mid := hide (B13_mid.out.keep ch)
      have B14_mk3 := hide hb
      have K_mk3 := hide hc
      clear ch hb hc C13 B13_b1 B13_b2 B13_mid B13_got B13_h2
      go_wp2_with fail
      refine (cat_to w14 a14 a5 c14 c5 bm md al B14_mk3.out B14_mid.out (by have := HM.out; have := HLS.out; omega) HAL.out).mono ?_
      rintro e w15 ⟨a15, c15, rfl, hb, hc, ch⟩
      have C15 := hide (C14.out.trans ch)
      have B15_b1 := hide (B14_b1.out.keep ch)
      have B15_b2 := hide (B14_b2.out.keep ch)
      have B15_mid := hide (B14_mid.out.keep ch)
      have B15_mk3 := hide (B14_mk3.out.keep ch)
      have B15_all := hide hb
      have K_all := hide hc
      clear ch hb hc C14 B14_b1 B14_b2 B14_mid B14_mk3
      go_wp2_with fail
      refine (zzRead_to w15 c15 a15 al md ea (HEK.out _ C15.out) B15_all.out K_all.out HT.out).mono ?_
      rintro e w16 ⟨a16, c16, rfl, hb, ch⟩
      have C16 := hide (C15.out.trans ch)
      have B16_b1 := hide (B15_b1.out.keep ch)
      have B16_b2 := hide (B15_b2.out.keep ch)
      have B16_mid := hide (B15_mid.out.keep ch)
      have B16_mk3 := hide (B15_mk3.out.keep ch)
      have B16_all := hide (B15_all.out.keep ch)
      have B16_allr := hide hb
      clear ch hb C15 B15_b1 B15_b2 B15_mid B15_mk3 B15_all
      go_wp2_with fail
      refine (eq_to w16 a16 a5 c16 c5 md md true B16_allr.out B16_mid.out (by simp)).mono ?_
      rintro e w17 ⟨rfl, ch⟩
      have C17 := hide (C16.out.trans ch)
      have B17_b1 := hide (B16_b1.out.keep ch)
      have B17_b2 := hide (B16_b2.out.keep ch)
      have B17_mid := hide (B16_mid.out.keep ch)
      have B17_mk3 := hide (B16_mk3.out.keep ch)
      have B17_all := hide (B16_all.out.keep ch)
      have B17_allr := hide (B16_allr.out.keep ch)
      clear ch C16 B16_b1 B16_b2 B16_mid B16_mk3 B16_all B16_allr
      have HF := hide (C17.out.below (L := w'.heap.size) (by simp) (Nat.le_refl _))
      clear C17
      go_wp2
      go_ret
      exact ⟨rfl, HF.out⟩
    · have hx0' : ¬ (0 : Int) < (xs.length : Int) := by omega
      go_wp2_with fail
      refine (mark_to w5 bm HBM.out).mono ?_
      rintro e w18 ⟨a18, c18, rfl, hb, hc, ch⟩
      have C18 := hide (C5.out.trans ch)
      have B18_b1 := hide (B5_b1.out.keep ch)
      have B18_b2 := hide (B5_b2.out.keep ch)
      have B18_mid := hide (B5_mid.out.keep ch)
      have B18_mk3 := hide hb
      have K_mk3 := hide hc
      clear ch hb hc C5 B5_b1 B5_b2 B5_mid B5_m1
      go_wp2_with fail
      refine (cat_to w18 a18 a5 c18 c5 bm md al B18_mk3.out B18_mid.out (by have := HM.out; have := HLS.out; omega) HAL.out).mono ?_
      rintro e w19 ⟨a19, c19, rfl, hb, hc, ch⟩
      have C19 := hide (C18.out.trans ch)
      have B19_b1 := hide (B18_b1.out.keep ch)
      have B19_b2 := hide (B18_b2.out.keep ch)
      have B19_mid := hide (B18_mid.out.keep ch)
      have B19_mk3 := hide (B18_mk3.out.keep ch)
      have B19_all := hide hb
      have K_all := hide hc
      clear ch hb hc C18 B18_b1 B18_b2 B18_mid B18_mk3
      go_wp2_with fail
      refine (zzRead_to w19 c19 a19 al md ea (HEK.out _ C19.out) B19_all.out K_all.out HT.out).mono ?_
      rintro e w20 ⟨a20, c20, rfl, hb, ch⟩
      have C20 := hide (C19.out.trans ch)
      have B20_b1 := hide (B19_b1.out.keep ch)
      have B20_b2 := hide (B19_b2.out.keep ch)
      have B20_mid := hide (B19_mid.out.keep ch)
      have B20_mk3 := hide (B19_mk3.out.keep ch)
      have B20_all := hide (B19_all.out.keep ch)
      have B20_allr := hide hb
      clear ch hb C19 B19_b1 B19_b2 B19_mid B19_mk3 B19_all
      go_wp2_with fail
      refine (eq_to w20 a20 a5 c20 c5 md md true B20_allr.out B20_mid.out (by simp)).mono ?_
      rintro e w21 ⟨rfl, ch⟩
      have C21 := hide (C20.out.trans ch)
      have B21_b1 := hide (B20_b1.out.keep ch)
      have B21_b2 := hide (B20_b2.out.keep ch)
      have B21_mid := hide (B20_mid.out.keep ch)
      have B21_mk3 := hide (B20_mk3.out.keep ch)
      have B21_all := hide (B20_all.out.keep ch)
      have B21_allr := hide (B20_allr.out.keep ch)
      clear ch C20 B20_b1 B20_b2 B20_mid B20_mk3 B20_all B20_allr
      have HF := hide (C21.out.below (L := w'.heap.size) (by simp) (Nat.le_refl _))
      clear C21
      go_wp2
      go_ret
      exact ⟨rfl, HF.out⟩
end Go.Proofs.Qxb6616814aFmt
