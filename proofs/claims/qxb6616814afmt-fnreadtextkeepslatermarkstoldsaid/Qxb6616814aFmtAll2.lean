import Derived.Test.Qxb6616814aFmtAll1
namespace Go.Proofs.Qxb6616814aFmt
open Go.ChangeShapes Go.WideShapes Go.ChangeAt Go.RowKit
set_option linter.unusedSimpArgs false
set_option linter.unusedVariables false

theorem RA.ends {w wr w2 : World} {K F Q : Nat} {d : Option Addr} {n c : Nat} {xs : List Int} {pos G l cp nx gc nc cc : Nat} {L : List (Nat × Nat × Nat)} (ho : Olds w K F Q n d) (h : RA w wr K F Q d n c xs pos G l cp nx gc nc cc L) (hch : Ch wr.drew w2 [K, F, Q]) (hsz : w2.heap.size = wr.drew.heap.size) (hst : Strm w2 K F Q d n c xs n) (hn : pos + lenSum L + l = n) :
    RA w w2 K F Q d n c xs pos G l cp nx gc nc cc L := by
  have := h.read (k := 0) ho ⟨hch.mono (by simp), hsz, by rw [show pos + lenSum L + l + 0 = n from hn]; exact hst, fun j hj => by omega, fun j _ => ?_⟩ (by have := h.lc; omega) (by omega)
  · exact this
  · exact hch.cell h.gS (by have := ho.k; have := ho.f; have := ho.q; have := h.gN; simp; omega)

theorem newsV (w : World) (xs : List Int) (g l p : Nat) (h : ∀ j, j < l → w.cell? ⟨g, j, none⟩ = some (.int .u8 (xs.getD (p + j) 0))) : ∀ j u, (vals xs p l)[j]? = some u → w.cell? ((⟨g, 0, none⟩ : Addr).add j) = some u := fun j u hu => by
  have hadd : (⟨g, 0, none⟩ : Addr).add j = ⟨g, j, none⟩ := by unfold Addr.add; split <;> simp_all
  obtain ⟨h1, rfl⟩ := vals_get xs p l j u hu
  rw [hadd]; exact h j h1
theorem one_vals (xs : List Int) (p l : Nat) : ∀ u ∈ vals xs p l, u.oneCell' = true := fun u hu => by
  simp [vals] at hu
  obtain ⟨_, _, rfl⟩ := hu
  rfl
theorem Parts.at {w : World} {N G gc : Nat} {xs : List Int} : ∀ (L : List (Nat × Nat × Nat)) (p t : Nat) (g l c : Nat), Parts w N G gc xs p L → L[t]? = some (g, l, c) → 0 < l ∧ g < w.heap.size ∧ (∀ j, j < l → w.cell? ⟨g, j, none⟩ = some (.int .u8 (xs.getD (p + lenSum (L.take t) + j) 0))) ∧ lenSum (L.take (t + 1)) = lenSum (L.take t) + l ∧ lenSum (L.take (t + 1)) ≤ lenSum L
  | [], _, _, _, _, _, _, hg => by simp at hg
  | (g', l', c') :: L, p, 0, g, l, c, ⟨⟨h0, _, h1, _, _, h2⟩, _⟩, hg => by
    simp at hg
    obtain ⟨rfl, rfl, rfl⟩ := hg
    exact ⟨h0, h1, fun j hj => by simpa [lenSum] using h2 j hj, by simp [lenSum], by simp [lenSum]⟩
  | (g', l', c') :: L, p, t + 1, g, l, c, ⟨_, hr⟩, hg => by
    obtain ⟨k0, k1, k2, k3, k4⟩ := Parts.at L (p + l') t g l c hr (by simpa using hg)
    exact ⟨k0, k1, fun j hj => by have := k2 j hj; simp only [List.take_succ_cons, lenSum]; rwa [show p + (l' + lenSum (L.take t)) + j = p + l' + lenSum (L.take t) + j from by omega], by simp only [List.take_succ_cons, lenSum]; simp only [k3]; omega, by simp only [List.take_succ_cons, lenSum]; omega⟩
theorem RA.chunk {w wr : World} {K F Q : Nat} {d : Option Addr} {n c : Nat} {xs : List Int} {pos G l cp nx gc nc cc : Nat} {L : List (Nat × Nat × Nat)} (h : RA w wr K F Q d n c xs pos G l cp nx gc nc cc L) (t : Nat) (ht : t < nc) :
    ∃ g l2 c2, wr.cell? ⟨gc, t, none⟩ = some (.slice (some ⟨g, 0, none⟩) l2 c2) ∧ 0 < l2 ∧ g < wr.heap.size ∧ (∀ j, j < l2 → wr.cell? ⟨g, j, none⟩ = some (.int .u8 (xs.getD (pos + lenSum (L.take t) + j) 0))) ∧ lenSum (L.take (t + 1)) = lenSum (L.take t) + l2 ∧ lenSum (L.take (t + 1)) ≤ lenSum L := by
  have hl := h.len
  obtain ⟨⟨g, l2, c2⟩, hg⟩ : ∃ x, L[t]? = some x := ⟨L[t], List.getElem?_eq_getElem (by omega)⟩
  refine ⟨g, l2, c2, ?_, Parts.at L pos t g l2 c2 h.parts hg⟩
  rw [h.own.cellAt t (by omega), List.getElem?_map, hg]
  rfl
theorem RA.fin0 {w wr : World} {K F Q : Nat} {d : Option Addr} {n c : Nat} {xs : List Int} {pos G l cp nx gc nc cc : Nat} {L : List (Nat × Nat × Nat)} (h : RA w wr K F Q d n c xs pos G l cp nx gc nc cc L) (h0 : nc = 0) (hn : n = pos + lenSum L + l) : AllRes w K F Q n pos xs (.returned (.tuple #[.slice (some ⟨G, 0, none⟩) l cp, .nilIface])) wr := by
  have hl := h.len
  have hL : L = [] := List.eq_nil_of_length_eq_zero (by omega)
  subst hL
  simp only [lenSum] at hn
  refine ⟨G, cp, by rw [show n - pos = l from by omega], h.ch, h.gN, h.gS, fun j hj => ?_⟩
  have := h.cells j (by omega)
  simpa [lenSum] using this
theorem RA.fin1 {w wr w3 : World} {K F Q : Nat} {d : Option Addr} {n c : Nat} {xs : List Int} {pos G l cp nx gc nc cc g cap : Nat} {L : List (Nat × Nat × Nat)} (h : RA w wr K F Q d n c xs pos G l cp nx gc nc cc L) (hf : FA wr w3 xs pos g (lenSum L + l) cap) (hn : n = pos + lenSum L + l) : AllRes w K F Q n pos xs (.returned (.tuple #[.slice (some ⟨g, 0, none⟩) (lenSum L + l) cap, .nilIface])) w3 := by
  have hb := hf.own.lt g rfl
  have hs := h.ch.size
  refine ⟨g, cap, by rw [show n - pos = lenSum L + l from by omega], ⟨hf.low.os.trans h.ch.os, hf.low.tape.trans h.ch.tape, hf.low.output.trans h.ch.output, Nat.le_trans h.ch.size hf.low.size, fun b hb hn => (hf.low.block b (by omega)).trans (h.ch.block b hb hn), fun b j hb => (World.frozen?_of_block (w := wr) (a := ⟨b, j, none⟩) (hf.low.block b (by omega))).trans (h.ch.fz b j hb)⟩, by omega, hb.2, fun j hj => ?_⟩
  have hj2 : j < (lenSum L + l) * 1 := by rw [hn] at hj; omega
  rw [hf.own.cellAt j hj2]
  unfold vals
  rw [List.getElem?_map, List.getElem?_range (by omega)]
  rfl

theorem news1 (w : World) (v : Value) (t : TypeId) : ∀ j u, [v][j]? = some u → (w.alloc (.cells #[v] t)).cell? ((⟨w.heap.size, 0, none⟩ : Addr).add j) = some u :=
  World.news_of_block (w := w.alloc (.cells #[v] t)) (cs := #[v]) (fr := (0, 0)) (heap_alloc_new w _)

set_option maxHeartbeats 2000000 in
set_option maxRecDepth 100000 in
theorem readAll_any (w : World) (K F Q n c pos : Nat) (d : Option Addr) (xs : List Int) (ea : Addr) (hE : EofAt w ea) (lt0 : 0 < K ∧ 0 < F ∧ 0 < Q) (h : Strm w K F Q d n c xs pos) (hn : n ≤ 2097152) (hp : pos ≤ n) (hx : ∀ j, 0 ≤ xs.getD j 0 ∧ xs.getD j 0 ≤ 255) :
    Calls Tryf.prog 18 #[.iface 38 (.pointer (some ⟨K, 0, none⟩))] w fun e w' => AllRes w K F Q n pos xs e w' := by
  have hm1 : ∀ w : World, (Instr.makeSlice 22 (.int .i64 0) (.int .i64 512)).run Tryf.prog w = .ok (.slice (some ⟨w.heap.size, 0, none⟩) 0 512) (w.alloc (.cells (blank 512) 5)) := make22 0 512 (by omega) (by omega)
  have hm2 := make49
  have HE : Hid (EofAt w ea) := hE
  have HS : Hid (Strm w K F Q d n c xs pos) := h
  have HO : Hid (Olds w K F Q n d) := h.olds
  have HX : Hid (∀ j, 0 ≤ xs.getD j 0 ∧ xs.getD j 0 ≤ 255) := hx
  clear h hE hx
  go_enter Tryf.func18, Tryf.ntmps18
  go_wp2
  go_loopw [4, 7, 6, 5] (fun v4 v7 v6 v5 wr => ∃ G l cp nx gc nc cc L, RA w wr K F Q d n c xs pos G l cp nx gc nc cc L ∧ l < cp ∧ v4 = .slice (some ⟨G, 0, none⟩) l cp ∧ v7 = .int .i64 (lenSum L : Nat) ∧ v6 = .slice (some ⟨gc, 0, none⟩) nc cc ∧ v5 = .int .i64 nx) (fun v4 v7 v6 v5 wr => n - ((intOf v7).toNat + lenOfV v4))
  case atStart => exact ⟨_, _, _, _, _, _, _, [], RA.start w K F Q n c pos d xs HS.out hp, by omega, rfl, rfl, rfl, rfl⟩
  case round =>
    clear hm1 hm2
    obtain ⟨G, l, cp, nx, gc, nc, cc, L, hra, hlc, rfl, rfl, rfl, rfl⟩ := hrel
    have HR : Hid (RA w wr K F Q d n c xs pos G l cp nx gc nc cc L) := hra
    have hcm := hra.cm
    have hc256 := hra.c256
    have hpn := hra.pn
    have hnx := hra.nx3
    have hnx2 := hra.nx2
    have hncn := hra.ncn
    unfold maxLen at hcm
    have hne : ¬ cp = l := by omega
    have hl0 : (0 : Int) ≤ (l : Int) := by omega
    have hl1 : (l : Int) ≤ (cp : Int) := by omega
    clear hra
    generalize hfs : lenSum L = fs at *
    have HFS : Hid (lenSum L = fs) := hfs
    clear hfs
    have hna := nilAheadK K
    by_cases hlt : pos + fs + l < n
    · have RC : Hid (Calls Tryf.prog 46 #[.pointer (some ⟨K, 0, none⟩), .slice (some ⟨G, l, none⟩) (cp - l) (cp - l)] wr.drew fun e w' => ∃ k : Nat, 0 < k ∧ k ≤ cp - l ∧ pos + fs + l + k ≤ n ∧ e = .returned (.tuple #[.int .i64 k, .nilIface]) ∧ Got wr.drew w' K F Q G l k (pos + fs + l) d n c xs) := by
        have hra := HR.out
        obtain ⟨i, r, v, hb, he⟩ := hra.st
        have hbw := HO.out
        have hgN := hra.gN
        have q1 := hbw.k
        have q2 := hbw.f
        have q3 := hbw.q
        refine bread_some wr.drew K F Q G l (cp - l) (cp - l) n c (pos + fs + l) d xs ⟨i, r, v, hb.of_heap rfl, by have := HFS.out; omega⟩ hlt (by omega) (by unfold maxLen; omega) (by omega) (by omega) (by omega) (fun D off hd => ?_) hra.gS (fun j hj => hra.has _ (by omega)) hra.fz HX.out
        rcases hbw.d D off hd with h0 | h0
        · omega
        · omega
      go_wp2
      go_region_held3 (fun _ => True) (trivial) (first | (go_at_call 46; refine RC.out.mono ?_; rintro e w2 ⟨k, hk0, hkm, hkn, rfl, hgot⟩))
      have HG : Hid (RA w w2 K F Q d n c xs pos G (l + k) cp nx gc nc cc L) := HR.out.read HO.out (by rw [HFS.out]; exact hgot) (by omega) (by have := HFS.out; omega)
      clear RC hgot
      have hw1 : IntKind.i64.wrap ((l : Int) + (k : Int)) = ((l + k : Nat) : Int) := by rw [IntKind.wrap_i64]; omega
      have hw2 : (0 : Int) ≤ ((l + k : Nat) : Int) := by omega
      have hw3 : ((l + k : Nat) : Int) ≤ (cp : Int) := by omega
      have hw4 : ((l + k : Nat) : Int).toNat = l + k := by omega
      have hw5 : IntKind.i64.wrap ((cp : Int) - ((l + k : Nat) : Int)) = ((cp - (l + k) : Nat) : Int) := by rw [IntKind.wrap_i64]; omega
      by_cases hroll : cp - (l + k) < cp / 16
      · obtain ⟨i22, hi22, hb22, hs22, hz22⟩ := info22
        have gapp : ∀ g cap w4, w4.ownsRow w.heap.size 22 1 (.slice (some ⟨g, 0, none⟩) (nc + 1) cap) (nc + 1) (L.map chunkV ++ [.slice (some ⟨G, 0, none⟩) (l + k) cp]) → (w2.alloc (.cells #[.slice (some ⟨G, 0, none⟩) (l + k) cp] 22)).grownBy w4 (some gc) → (some gc = some g ∨ g = w2.heap.size + 1) → g < w4.heap.size → RA w (w4.drew.alloc (.cells (zeros nx (grownCap w4 nx 0 5)) 5)) K F Q d n c xs pos w4.heap.size 0 (grownCap w4 nx 0 5) (nx + nx / 2) g (nc + 1) cap (L ++ [(G, l + k, cp)]) := fun g cap w4 h1 h2 h3 h4 => HG.out.roll hn HO.out hroll h2 h1 (by simpa using h3) h4
        have HAPP : Hid _ := gapp
        clear gapp
        go_wp2_with (at_builtin; refine wpList_append_lies _ rfl _ _ _ rfl w.heap.size 22 i22 _ 1 24 Tryf.underlying49 hi22 hz22 hs22 hb22 rfl (by omega) _ nc (L.map chunkV) rfl (HG.out.own.alloc _) ⟨w2.heap.size, 0, none⟩ 1 1 [.slice (some ⟨G, 0, none⟩) (l + k) cp] rfl rfl (news1 w2 _ _) (by simp [Value.oneCell']) (by omega) (by unfold maxLen; omega) (by omega) (by have := HG.out.ch.size; rw [World.size_alloc]; omega) _ (World.size_alloc _ _) ?_)
        intro g cap w4 h1 h2 h3 h4
        have HN : Hid _ := HAPP.out g cap w4 h1 h2 h3 h4
        have happ := appendZeros w4 nx (by omega) (by omega)
        have hcge : nx ≤ grownCap w4 nx 0 5 := grownCap_ge _ _ _ _
        clear h1 h2 h3 h4 HAPP
        generalize hcp2 : grownCap w4 nx 0 5 = cp2 at *
        generalize hw5' : w4.drew.alloc (.cells (zeros nx cp2) 5) = w5 at *
        go_wp2_with (at_builtin; refine Lib.wpList_append_run _ rfl _ _ _ _ rfl _ _ rfl rfl _ _ happ ?_)
        have hN := HN.out
        have hls := lenSum_snoc L G (l + k) cp
        rw [HFS.out] at hls
        go_roundw
        case rel => exact ⟨_, _, _, _, _, _, _, _, hN, by omega, rfl, by rw [hls]; go_num, rfl, by go_num⟩
        case measure => simp [intOf, lenOfV]; omega
      · go_wp2
        have hN := HG.out
        go_roundw
        case rel => exact ⟨_, _, _, _, _, _, _, _, hN, by omega, rfl, by rw [HFS.out], rfl, rfl⟩
        case measure => simp [intOf, lenOfV]; omega
    · have RC : Hid (Calls Tryf.prog 46 #[.pointer (some ⟨K, 0, none⟩), .slice (some ⟨G, l, none⟩) (cp - l) (cp - l)] wr.drew fun e w' => e = .returned (.tuple #[.int .i64 0, .iface 60 (.pointer (some ea))]) ∧ Ch wr.drew w' [K, F, Q] ∧ w'.heap.size = wr.drew.heap.size ∧ Strm w' K F Q d n c xs n) := by
        have hra := HR.out
        have hst := hra.st
        rw [HFS.out, show pos + fs + l = n from by omega] at hst
        have hE0 : EofAt wr.drew ea := by
          have hc := hra.ch.cell (b := 0) (i := 0) (by have := HO.out.k; omega) (by simp; omega)
          have := HE.out
          unfold EofAt at this ⊢
          exact hc.trans this
        exact bread_end wr.drew K F Q G l (cp - l) (cp - l) n c d xs ea hE0 lt0 (by obtain ⟨i, r, v, hb, he⟩ := hst; exact ⟨i, r, v, hb.of_heap rfl, he⟩) (by omega)
      go_wp2
      go_region_held3 (fun _ => True) (trivial) (first | (go_at_call 46; refine RC.out.mono ?_; rintro e w2 ⟨rfl, hch, hsz, hst⟩))
      have HG : Hid (RA w w2 K F Q d n c xs pos G l cp nx gc nc cc L) := HR.out.ends HO.out hch hsz hst (by have := HFS.out; omega)
      have eof2 : w2.cell? ⟨0, 0, none⟩ = some (.iface 60 (.pointer (some ea))) := by
        have hc := HG.out.ch.cell (b := 0) (i := 0) (by have := HO.out.k; omega) (by simp; omega)
        exact hc.trans HE.out
      clear RC hch hsz hst
      have hw1 : IntKind.i64.wrap ((l : Int) + 0) = (l : Int) := by rw [IntKind.wrap_i64]; omega
      by_cases hnc : nc = 0
      · have HF : Hid _ := HG.out.fin0 hnc (by have := HFS.out; omega)
        go_wp2
        go_returns
        exact HF.out
      · have happ := appendZeros w2 (fs + l) (by omega) (by omega)
        have hcge : fs + l ≤ grownCap w2 (fs + l) 0 5 := grownCap_ge _ _ _ _
        have HF0 : Hid _ := FA.start w2 xs pos (fs + l) (by omega)
        generalize hcp2 : grownCap w2 (fs + l) 0 5 = cp2 at *
        generalize hw5' : w2.drew.alloc (.cells (zeros (fs + l) cp2) 5) = w5 at *
        rw [Int.natCast_add] at happ
        go_wp2_with (at_builtin; refine Lib.wpList_append_run _ rfl _ _ _ _ rfl _ _ rfl rfl _ _ happ ?_)
        clear happ hcge hw5'
        go_loopw [10, 54] (fun v10 v54 wz => ∃ t g cap, t ≤ nc ∧ v54 = .int .i64 (t : Nat) ∧ v10 = .slice (some ⟨g, 0, none⟩) (lenSum (L.take t)) cap ∧ FA w2 wz xs pos g (lenSum (L.take t)) cap) (fun _ v54 _ => nc - (intOf v54).toNat)
        case atStart => exact ⟨0, _, _, by omega, rfl, rfl, HF0.out⟩
        case round =>
          obtain ⟨t, g, cap, htn, rfl, rfl, hfa⟩ := hrel
          have HFA : Hid _ := hfa
          obtain ⟨i5, hi5, hb5, hs5, hz5⟩ := info5
          by_cases htl : t < nc
          · have htl' : (t : Int) < (nc : Int) := by omega
            obtain ⟨g2, l2, c2, hcell, hl2, hg2, hcs, hsum, hsle⟩ := HG.out.chunk t htl
            have hcell' : wr.cell? ⟨gc, t, none⟩ = some (.slice (some ⟨g2, 0, none⟩) l2 c2) := by rw [hfa.low.cell (p := ⟨gc, t, none⟩) HG.out.gcS]; exact hcell
            have HNEW : Hid (∀ j u, (vals xs (pos + lenSum (L.take t)) l2)[j]? = some u → wr.cell? ((⟨g2, 0, none⟩ : Addr).add j) = some u) := newsV wr xs g2 l2 _ (fun j hj => by rw [hfa.low.cell (p := ⟨g2, j, none⟩) hg2]; exact hcs j hj)
            have HSUM : Hid _ := hsum
            rw [hsum, HFS.out] at hsle
            generalize hS : lenSum (L.take t) = S at *
            clear hcell hcs hfa hsum hS
            go_wp2_with (at_builtin; refine wpList_append_lies _ rfl _ _ _ rfl w2.heap.size 5 i5 _ 1 1 Tryf.underlying22 hi5 hz5 hs5 hb5 rfl (by omega) _ S (vals xs pos S) rfl HFA.out.own ⟨g2, 0, none⟩ l2 c2 (vals xs (pos + S) l2) rfl (by rw [vals_length]; omega) HNEW.out (one_vals _ _ _) hl2 (by unfold maxLen; omega) (by omega) HFA.out.low.size _ rfl ?_)
            intro g3 cap3 w6 h1 h2 h3 h4
            have HN : Hid _ := HFA.out.grow h2 h1
            clear h1 h2 h3 h4
            go_wp2
            have hN := HN.out
            have hsum := HSUM.out
            go_roundw
            case rel => exact ⟨t + 1, g3, cap3, by omega, by go_num, by rw [hsum], by rw [hsum]; exact hN⟩
            case measure => simp [intOf]; omega
          · have htl' : ¬ (t : Int) < (nc : Int) := by omega
            have htake : L.take t = L := List.take_of_length_le (by have := HG.out.len; omega)
            rw [htake, HFS.out] at HFA
            have hfa2 := HFA.out
            rw [htake, HFS.out]
            have HNEW : Hid (∀ j u, (vals xs (pos + fs) l)[j]? = some u → wr.cell? ((⟨G, 0, none⟩ : Addr).add j) = some u) := newsV wr xs G l _ (fun j hj => by rw [hfa2.low.cell (p := ⟨G, j, none⟩) HG.out.gS]; have := HG.out.cells j hj; rwa [HFS.out] at this)
            have HFIN : Hid (∀ g3 cap3 w6, FA w2 w6 xs pos g3 (fs + l) cap3 → AllRes w K F Q n pos xs (.returned (.tuple #[.slice (some ⟨g3, 0, none⟩) (fs + l) cap3, .nilIface])) w6) := fun g3 cap3 w6 hf => by
              have hfs := HFS.out
              have := HG.out.fin1 (g := g3) (cap := cap3) (w3 := w6) (by rw [hfs]; exact hf) (by omega)
              rwa [hfs] at this
            clear hfa hfa2 htake
            go_wp2_with (at_builtin; refine wpList_append_own_at _ rfl _ _ _ rfl w2.heap.size 5 i5 _ 1 1 Tryf.underlying22 hi5 hz5 hs5 hb5 rfl (by omega) _ fs (vals xs pos fs) rfl HFA.out.own ⟨G, 0, none⟩ l cp (vals xs (pos + fs) l) rfl (by rw [vals_length]; omega) HNEW.out (one_vals _ _ _) (by unfold maxLen; omega) (by omega) HFA.out.low.size ?_)
            intro v' w6 h1 h2 h3 h4
            obtain ⟨g3, cap3, rfl, hg31, hg32⟩ := h1.form (by omega)
            have HN : Hid _ := HFIN.out g3 cap3 w6 (HFA.out.grow h2 h1)
            clear h1 h2 h3 h4
            go_wp2
            go_returns
            exact HN.out
end Go.Proofs.Qxb6616814aFmt
