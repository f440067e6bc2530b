import Derived.Test.Qxb6606270aWm
set_option linter.unusedSimpArgs false
set_option linter.unusedVariables false
namespace Go.Proofs.Qxb6606270a
open Go.RowKit
attribute [local go_sem] run_store_float

theorem IMat_top {w : World} {a : Option Addr} {r q : Nat} {X : Nat → Nat → Int} (m : Nonempty (IMat w a r (fun _ => q) X)) (hr : 0 < r) : ∃ mb mo mA mC, a = some ⟨mb, mo, none⟩ ∧ w.cell? ⟨mb, mo, none⟩ = some (.slice mA q mC) := by
  obtain ⟨m⟩ := m
  have h := (m.tops 0 hr).1
  rw [Nat.add_zero] at h
  exact ⟨_, _, _, _, m.ad hr, h⟩

theorem Vi_fl {n : Int} (h0 : -32768 ≤ n) (h1 : n ≤ 32767) : Vi (fl n) n := Vi_int n (by omega)

set_option maxRecDepth 20000 in
set_option maxHeartbeats 4000000 in
theorem law3 (a1 : Option Addr) (K1 c1 : Nat) (N1 : Nat → Nat) (L1 : Nat → Nat → Nat) (X1 : Nat → Nat → Nat → Int) (a2 : Option Addr) (K2 c2 : Nat) (N2 : Nat → Nat) (L2 : Nat → Nat → Nat) (X2 : Nat → Nat → Nat → Int)
    (aw : Option Addr) (bw ow nw cw : Nat) (wt : Nat → Int) (w : World) (m1 : ICube w a1 K1 N1 L1 X1) (m2 : ICube w a2 K2 N2 L2 X2) (hnw : nw ≤ 9223372036854775807)
    (haw : 0 < nw → aw = some ⟨bw, ow, none⟩) (hbw : 0 < nw → bw < w.heap.size) (hw : Ir w bw ow nw wt) :
    Calls Try.prog 3 #[.slice a1 K1 c1, .slice a2 K2 c2, .slice aw nw cw] w fun e w' => e = .returned (.bool true) ∧ Below w.heap.size w w' := by
  have C6 := zz6 a1 K1 c1 N1 L1 X1 a2 K2 c2 N2 L2 X2 aw nw cw w m1 m2 hnw
  have S1 := size7 a1 K1 c1 N1 L1 X1 w m1
  have S2 := size7 a2 K2 c2 N2 L2 X2 w m2
  have S3 := size8 aw nw cw w hnw
  have R := nets9 a1 K1 c1 N1 L1 X1 a2 K2 c2 N2 L2 X2 aw nw cw w m1 m2 hnw
  have HM1 : Hid (Nonempty (ICube w a1 K1 N1 L1 X1)) := ⟨m1⟩
  have HM2 : Hid (Nonempty (ICube w a2 K2 N2 L2 X2)) := ⟨m2⟩
  have HAW : Hid (0 < nw → aw = some ⟨bw, ow, none⟩) := haw
  have HBW : Hid (0 < nw → bw < w.heap.size) := hbw
  have HW : Hid (Ir w bw ow nw wt) := hw
  clear m1 m2 haw hbw hw
  go_enter Try.func3, Try.ntmps3
  go_wp2_with fail
  refine C6.mono ?_
  rintro e w' ⟨⟨r, rfl⟩, rfl⟩
  clear C6
  cases r with
  | false =>
    clear S1 S2 S3 R
    go_wp2
    go_ret
    exact ⟨rfl, Below.refl _ _⟩
  | true =>
  go_wp2_with fail
  refine S1.mono ?_
  rintro e w' ⟨s1, rfl, ⟨p1, p2, p3⟩, rfl⟩
  go_wp2_with fail
  refine S2.mono ?_
  rintro e w' ⟨s2, rfl, ⟨q1, q2, q3⟩, rfl⟩
  have P3 := hid p3
  have Q3 := hid q3
  clear S1 S2 p3 q3
  obtain ⟨z1, z2, z3⟩ := sz2_bd nw
  have Z3 := hid z3
  clear z3
  generalize sz2 nw = s3 at *
  go_wp2_with fail
  refine S3.mono ?_
  rintro e w' ⟨rfl, rfl⟩
  clear S3
  by_cases hs : s1 + s2 + s3 ≤ 1048576
  · go_wp2_with fail
    refine R.mono ?_
    rintro e wa ⟨⟨t, rfl, ht⟩, hD⟩
    clear R
    have hB0 := Dr_below hD w.heap.size
    cases t with
    | false =>
      go_wp2
      go_ret
      exact ⟨rfl, hB0⟩
    | true =>
    obtain ⟨hK0, rfl, hKn, hr10, hr20, hsh⟩ := (ht (by simp)).out
    obtain ⟨hK, hd1⟩ := P3.out (by omega)
    obtain ⟨_, hd2⟩ := Q3.out (by omega)
    have hnwb := Z3.out (by omega)
    obtain ⟨r1, hr1⟩ : ∃ x, x = N1 0 := ⟨_, rfl⟩
    obtain ⟨r2, hr2⟩ : ∃ x, x = N2 0 := ⟨_, rfl⟩
    obtain ⟨q1, hq1⟩ : ∃ x, x = L1 0 0 := ⟨_, rfl⟩
    obtain ⟨q2, hq2⟩ : ∃ x, x = L2 0 0 := ⟨_, rfl⟩
    have HN1 : Hid (∀ k, k < K2 → N1 k = r1 ∧ ∀ i, i < r1 → L1 k i = q1) := fun k hk => ⟨by rw [hr1]; exact (hsh k hk).1.1, fun i hi => by rw [hq1]; exact (hsh k hk).1.2 i (by have := (hsh k hk).1.1; omega)⟩
    have HN2 : Hid (∀ k, k < K2 → N2 k = r2 ∧ ∀ i, i < r2 → L2 k i = q2) := fun k hk => ⟨by rw [hr2]; exact (hsh k hk).2.1, fun i hi => by rw [hq2]; exact (hsh k hk).2.2 i (by have := (hsh k hk).2.1; omega)⟩
    have b1r : r1 ≤ 131072 := by rw [hr1]; exact (hd1 0 hK0).1
    have b2r : r2 ≤ 131072 := by rw [hr2]; exact (hd2 0 hK0).1
    have b1q : q1 ≤ 524288 := by rw [hq1]; exact (hd1 0 hK0).2 0 hr10
    have b2q : q2 ≤ 524288 := by rw [hq2]; exact (hd2 0 hK0).2 0 hr20
    rw [← hr1] at hr10
    rw [← hr2] at hr20
    clear hsh hd1 hd2 P3 Q3 Z3 ht hr1 hr2 hq1 hq2
    obtain ⟨cb1, co1, e1, cl1, A1, C1, HT1, HI1⟩ : ∃ cb co, a1 = some ⟨cb, co, none⟩ ∧ cb < w.heap.size ∧ ∃ (A : Nat → Option Addr) (C : Nat → Nat), Hid (∀ k, k < K2 → w.cell? ⟨cb, co + k, none⟩ = some (.slice (A k) r1 (C k))) ∧ Hid (∀ k, k < K2 → Nonempty (IMat w (A k) (N1 k) (L1 k) (X1 k))) := by
      obtain ⟨cu⟩ := HM1.out
      exact ⟨_, _, cu.ad hK0, cu.b_lt hK0, cu.A, cu.C, hid fun k hk => by rw [← (HN1.out k hk).1]; exact (cu.tops k hk).1, hid cu.mat⟩
    obtain ⟨cb2, co2, e2, cl2, A2, C2, HT2, HI2⟩ : ∃ cb co, a2 = some ⟨cb, co, none⟩ ∧ cb < w.heap.size ∧ ∃ (A : Nat → Option Addr) (C : Nat → Nat), Hid (∀ k, k < K2 → w.cell? ⟨cb, co + k, none⟩ = some (.slice (A k) r2 (C k))) ∧ Hid (∀ k, k < K2 → Nonempty (IMat w (A k) (N2 k) (L2 k) (X2 k))) := by
      obtain ⟨cu⟩ := HM2.out
      exact ⟨_, _, cu.ad hK0, cu.b_lt hK0, cu.A, cu.C, hid fun k hk => by rw [← (HN2.out k hk).1]; exact (cu.tops k hk).1, hid cu.mat⟩
    subst e1
    subst e2
    obtain rfl := HAW.out (by omega)
    have hbw := HBW.out (by omega)
    clear HAW HBW hD
    obtain ⟨i1, hi1, hz01, hz11, hz21⟩ := info_parts Try.info28
    obtain ⟨i2, hi2, hz02, hz12, hz22⟩ := info_parts Try.info32
    have hsz0 := hB0.size
    go_wp2_with (at_make; refine wpList_make_full _ rfl _ _ 27 rfl w.heap.size 28 i1 (.slice none 0 0) 1 Try.underlying27 hi1 hz01 hz11 .i64 .i64 _ _ K2 rfl rfl rfl rfl ?_ ?_ ?_ ?_)
    · first | omega | (rw [hz21]; omega)
    · unfold maxLen; omega
    · omega
    intro W1 hown1 hgrow1
    have hl1 := own_lt hown1
    go_wp2_with (at_make; refine wpList_make_full _ rfl _ _ 27 rfl w.heap.size 28 i1 (.slice none 0 0) 1 Try.underlying27 hi1 hz01 hz11 .i64 .i64 _ _ K2 rfl rfl rfl rfl ?_ ?_ ?_ ?_)
    · first | omega | (rw [hz21]; omega)
    · unfold maxLen; omega
    · omega
    intro W2 hown2 hgrow2
    have hl2 := own_lt hown2
    have hBa : Below wa.heap.size wa W1 := (Below.refl _ _).grown hgrow1 (Nat.le_refl _) (by intro k e; cases e)
    have hBb : Below W1.heap.size W1 W2 := (Below.refl _ _).grown hgrow2 (Nat.le_refl _) (by intro k e; cases e)
    have hB2 : Below w.heap.size w W2 := (hB0.trans (hBa.mono (by omega))).trans (hBb.mono (by omega))
    obtain ⟨B, hB⟩ : ∃ B, B = W1.heap.size + 1 := ⟨_, rfl⟩
    have F1 : Fil W2 B wa.heap.size K2 r1 q1 (fun k i j => fl (X1 k i j)) (fun _ => 0) (fun _ _ => 0) 0 := by
      refine ⟨by omega, fun i hi => ?_, fun i hi => by omega, fun i hi => by omega⟩
      rw [hBb.cell (p := ⟨wa.heap.size, i, none⟩) hl1, hBb.frozen (p := ⟨wa.heap.size, i, none⟩) hl1]
      exact ⟨⟨_, (World.ownsRow.cellAt hown1 i (by omega)).trans (by simpa using made_at (.slice none 0 0) K2 i hi)⟩, World.ownsRow.frozenAt hown1 i⟩
    have F2 : Fil W2 B W1.heap.size K2 r2 q2 (fun k i j => fl (X2 k i j)) (fun _ => 0) (fun _ _ => 0) 0 :=
      ⟨by omega, fun i hi => ⟨⟨_, (World.ownsRow.cellAt hown2 i (by omega)).trans (by simpa using made_at (.slice none 0 0) K2 i hi)⟩, World.ownsRow.frozenAt hown2 i⟩, fun i hi => by omega, fun i hi => by omega⟩
    obtain ⟨b1, hb1⟩ : ∃ b, b = wa.heap.size := ⟨_, rfl⟩
    obtain ⟨b2, hb2⟩ : ∃ b, b = W1.heap.size := ⟨_, rfl⟩
    rw [← hb1] at F1 ⊢
    rw [← hb2] at F2 ⊢
    have g1 : b1 < b2 := by omega
    have g2 : b2 < B := by omega
    have g3 : w.heap.size ≤ b1 := by omega
    have g4 : B ≤ W2.heap.size := by omega
    clear hown1 hown2 hgrow1 hgrow2 hBa hBb hb1 hb2 hB hl1 hl2 hsz0 hB0
    go_wp2
    go_loopg [10] K2 (fun g v wx => ∃ (n : Nat) (ob1 : Nat → Nat) (rb1 : Nat → Nat → Nat) (ob2 : Nat → Nat) (rb2 : Nat → Nat → Nat), v = .int .i64 n ∧ n ≤ K2 ∧ g = K2 - n ∧ Fil wx B b1 K2 r1 q1 (fun k i j => fl (X1 k i j)) ob1 rb1 n ∧ Fil wx B b2 K2 r2 q2 (fun k i j => fl (X2 k i j)) ob2 rb2 n ∧ Below w.heap.size w wx ∧ B ≤ wx.heap.size)
    case atStart => exact ⟨0, _, _, _, _, rfl, Nat.zero_le _, rfl, F1, F2, hB2, g4⟩
    case round =>
    clear F1 F2 hB2 g4
    obtain ⟨n, ob1, rb1, ob2, rb2, rfl, hn, hg, F1, F2, hB2, g4⟩ := hrel
    by_cases hlt : n < K2
    · obtain ⟨M1⟩ := IMat_net HI1.out HN1.out hB2 hlt (o := 0) (b := 0) (C := fun _ => 0)
      have T1 := toF64 (A1 n) r1 (C1 n) q1 (X1 n) wr M1 (by omega) (by omega)
      have t1 := (hB2.cell (p := ⟨cb1, co1 + n, none⟩) cl1).trans (HT1.out n hlt)
      clear M1
      go_wp2_with fail
      refine T1.mono ?_
      rintro e w2 ⟨h1, rh1, rfl, O1, hbx⟩
      have F1b := Fil_below F1 hbx (by omega)
      have F2b := Fil_below F2 hbx (by omega)
      have hbz := hbx.size
      have hB3 := hB2.trans (hbx.mono (by omega))
      obtain ⟨⟨v, hv⟩, hf⟩ := F1b.old n hlt
      have F1c := Fil_put F1b hlt (by omega) (OutM_mono O1 g4)
      have F2c := Fil_low F2b (j := n) (show b1 < B by omega) (by omega) (.slice (some ⟨h1, 0, none⟩) r1 r1)
      have hB4 := hB3.setCell (p := ⟨b1, n, none⟩) (by show w.heap.size ≤ b1; omega) (.slice (some ⟨h1, 0, none⟩) r1 r1)
      have g5 : B ≤ (w2.setCell ⟨b1, n, none⟩ (.slice (some ⟨h1, 0, none⟩) r1 r1)).heap.size := by rw [World.size_setCell]; omega
      obtain ⟨M2⟩ := IMat_net HI2.out HN2.out hB4 hlt (o := 0) (b := 0) (C := fun _ => 0)
      have T2 := toF64 (A2 n) r2 (C2 n) q2 (X2 n) _ M2 (by omega) (by omega)
      have t2 := (hB4.cell (p := ⟨cb2, co2 + n, none⟩) cl2).trans (HT2.out n hlt)
      clear M2 T1 F1 F2 F1b F2b O1 hbx hB2 hB3 t1
      go_wp2_with fail
      refine T2.mono ?_
      rintro e w4 ⟨h2, rh2, rfl, O2, hby⟩
      have F1d := Fil_below F1c hby (by omega)
      have F2d := Fil_below F2c hby (by omega)
      have hbz2 := hby.size
      have hB5 := hB4.trans (hby.mono (by omega))
      obtain ⟨⟨v2, hv2⟩, hf2⟩ := F2d.old n hlt
      have F2e := Fil_put F2d hlt (by omega) (OutM_mono O2 g5)
      have F1e := Fil_low F1d (j := n) (show b2 < B by omega) (by omega) (.slice (some ⟨h2, 0, none⟩) r2 r2)
      have hB6 := hB5.setCell (p := ⟨b2, n, none⟩) (by show w.heap.size ≤ b2; omega) (.slice (some ⟨h2, 0, none⟩) r2 r2)
      have g6 : B ≤ (w4.setCell ⟨b2, n, none⟩ (.slice (some ⟨h2, 0, none⟩) r2 r2)).heap.size := by rw [World.size_setCell]; omega
      clear T2 F1c F2c F1d F2d O2 hby hB4 hB5 t2 hv hf
      go_wp2
      go_roundg (K2 - (n + 1))
      case measure => omega
      case rel => exact ⟨n + 1, _, _, _, _, by go_num, by omega, rfl, F1e, F2e, hB6, g6⟩
    · have hnK : n = K2 := by omega
      rw [hnK] at F1 F2
      clear hnK
      obtain ⟨wp, rfl⟩ : ∃ wp : World, wp = wr := ⟨_, rfl⟩
      go_wp2_with (at_make; refine wpList_make_full _ rfl _ _ 31 rfl w.heap.size 32 i2 (.float .f64 0) 1 Try.underlying31 hi2 hz02 hz12 .i64 .i64 _ _ nw rfl rfl rfl rfl ?_ ?_ ?_ ?_)
      · first | omega | (rw [hz22]; omega)
      · unfold maxLen; omega
      · omega
      intro W3 hown3 hgrow3
      have hl3 := own_lt hown3
      have V0 : Wts W3 wp.heap.size nw wt 0 :=
        ⟨hl3, fun i hi => ⟨⟨_, (World.ownsRow.cellAt hown3 i (by omega)).trans (by simpa using made_at (.float .f64 0) nw i hi)⟩, World.ownsRow.frozenAt hown3 i⟩, fun i hi => by omega⟩
      have hBw : Below wp.heap.size wp W3 := (Below.refl _ _).grown hgrow3 (Nat.le_refl _) (by intro k e; cases e)
      obtain ⟨b3, hb3⟩ : ∃ b, b = wp.heap.size := ⟨_, rfl⟩
      rw [← hb3] at V0 ⊢
      have hB33 : Below b3 wp W3 := by rw [hb3]; exact hBw
      have HB3 := hid hb3
      have hb3w : w.heap.size ≤ b3 := by omega
      clear hown3 hgrow3 hBw hb3 hl3
      go_wp2
      go_loopg [12] nw (fun g v wx => ∃ (n : Nat), v = .int .i64 n ∧ n ≤ nw ∧ g = nw - n ∧ Wts wx b3 nw wt n ∧ Below b3 wp wx)
      case atStart => exact ⟨0, rfl, Nat.zero_le _, rfl, V0, hB33⟩
      case round =>
      clear V0 hB33
      obtain ⟨m, rfl, hm, hgm, V, hB3⟩ := hrel
      have hBx : Below w.heap.size w wr := hB2.trans (hB3.mono hb3w)
      by_cases hml : m < nw
      · obtain ⟨⟨v, hv⟩, hf⟩ := V.old m hml
        have wc := (hBx.cell (p := ⟨bw, ow + m, none⟩) hbw).trans (HW.out m hml).1
        have V2 := Wts_put V hml
        have hB4 := hB3.setCell (p := ⟨b3, m, none⟩) (Nat.le_refl _) (.float .f64 (floatOfInt .f64 (wt m)))
        clear V hB3 hBx
        generalize wt m = x at *
        go_wp2
        go_roundg (nw - (m + 1))
        case measure => omega
        case rel => exact ⟨m + 1, by go_num, by omega, rfl, V2, hB4⟩
      · have hmn : m = nw := by omega
        rw [hmn] at V
        have hB3' : Below wp.heap.size wp wr := by rw [← HB3.out]; exact hB3
        have G1 := Fil_below F1 hB3' (Nat.le_refl _)
        have G2 := Fil_below F2 hB3' (Nat.le_refl _)
        have C := zzCombine11 b1 K2 b2 K2 K2 b3 nw nw (two r1 r2) (two q1 q2) (fun k => two0 (some ⟨ob1 k, 0, none⟩) (some ⟨ob2 k, 0, none⟩)) (fun _ => two r1 r2) (fun k => fl (wt k)) (fun k => two0 (fun i j => fl (X1 k i j)) (fun i j => fl (X2 k i j))) wr hK0 (by omega) hKn
          G1.set G2.set G1.lt G2.lt
          (fun k q hk hq => by
            have : q = 0 ∨ q = 1 := by omega
            rcases this with rfl | rfl
            · exact ⟨(G1.om k hk).mat (by omega) (by omega)⟩
            · exact ⟨(G2.om k hk).mat (by omega) (by omega)⟩)
          (fun k hk => V.set k (by omega)) V.lt
          (fun q hq => by
            have : q = 0 ∨ q = 1 := by omega
            rcases this with rfl | rfl
            · show 0 < r1 ∧ r1 ≤ 1048576; omega
            · show 0 < r2 ∧ r2 ≤ 1048576; omega)
          (fun q hq => by
            have : q = 0 ∨ q = 1 := by omega
            rcases this with rfl | rfl
            · show q1 ≤ 1048576; omega
            · show q2 ≤ 1048576; omega)
        clear G1 G2 F1 F2 V hB3 hB3' hmn
        go_wp2_with fail
        refine C.mono ?_
        rintro e w2 ⟨ob, rb, Z, rfl, hO, hA, hb2⟩
        clear C
        have hBy : Below w.heap.size w w2 := hBx.trans (hb2.mono hBx.size)
        have O0 : OutM w2 wr.heap.size (ob 0) (rb 0) r1 q1 (Z 0) := hO 0 (by omega)
        have O1 : OutM w2 wr.heap.size (ob 1) (rb 1) r2 q2 (Z 1) := hO 1 (by omega)
        have hZ1 : ∀ i j, i < r1 → j < q1 → Vi (Z 0 i j) (wsum (prodf wt X1 i j) K2) := fun i j hi hj =>
          Acc_Vi (a := wt) (b := fun k => X1 k i j) hK (fun k hk => Vi_fl (HW.out k (by omega)).2.1 (HW.out k (by omega)).2.2)
            (fun k hk => by
              obtain ⟨_, _, _, _, _, _, _, _, _, _, _, _, x0, x1⟩ := ICube_at HM1.out HN1.out (Dr.refl w) hk hi hj
              exact Vi_fl x0 x1)
            (fun k hk => by
              obtain ⟨_, _, _, _, _, _, _, _, _, _, _, _, x0, x1⟩ := ICube_at HM1.out HN1.out (Dr.refl w) hk hi hj
              exact prod_bd (HW.out k (by omega)).2.1 (HW.out k (by omega)).2.2 x0 x1) K2 (Z 0 i j) (Nat.le_refl _) (hA 0 i j (by omega) hi hj)
        have hZ2 : ∀ i j, i < r2 → j < q2 → Vi (Z 1 i j) (wsum (prodf wt X2 i j) K2) := fun i j hi hj =>
          Acc_Vi (a := wt) (b := fun k => X2 k i j) hK (fun k hk => Vi_fl (HW.out k (by omega)).2.1 (HW.out k (by omega)).2.2)
            (fun k hk => by
              obtain ⟨_, _, _, _, _, _, _, _, _, _, _, _, x0, x1⟩ := ICube_at HM2.out HN2.out (Dr.refl w) hk hi hj
              exact Vi_fl x0 x1)
            (fun k hk => by
              obtain ⟨_, _, _, _, _, _, _, _, _, _, _, _, x0, x1⟩ := ICube_at HM2.out HN2.out (Dr.refl w) hk hi hj
              exact prod_bd (HW.out k (by omega)).2.1 (HW.out k (by omega)).2.2 x0 x1) K2 (Z 1 i j) (Nat.le_refl _) (hA 1 i j (by omega) hi hj)
        have hIr : ∀ n, Ir (w2.drewN n) bw ow nw wt := fun n j hj => ⟨(hBy.cell (p := ⟨bw, ow + j, none⟩) hbw).trans (HW.out j hj).1, (HW.out j hj).2⟩
        have M1 : ∀ n, Nonempty (ICube (w2.drewN n) (some ⟨cb1, co1, none⟩) K2 N1 L1 X1) := fun n => by obtain ⟨cu⟩ := HM1.out; exact ⟨cu.below (below_drewN hBy n)⟩
        have M2 : ∀ n, Nonempty (ICube (w2.drewN n) (some ⟨cb2, co2, none⟩) K2 N2 L2 X2) := fun n => by obtain ⟨cu⟩ := HM2.out; exact ⟨cu.below (below_drewN hBy n)⟩
        have T1 := fun n => (M1 n).elim fun cu => match12 (some ⟨ob 0, 0, none⟩) r1 r1 q1 (Z 0) (some ⟨cb1, co1, none⟩) K2 c1 N1 L1 X1 (some ⟨bw, ow, none⟩) bw ow nw cw wt (w2.drewN n) ((O0.mat (by omega) (by omega)).below (below_drewN (Below.refl _ _) n)) cu hK hKn (by omega) (by omega) HN1.out (fun _ => rfl) (hIr n) hZ1
        have T2 := fun n => (M2 n).elim fun cu => match12 (some ⟨ob 1, 0, none⟩) r2 r2 q2 (Z 1) (some ⟨cb2, co2, none⟩) K2 c2 N2 L2 X2 (some ⟨bw, ow, none⟩) bw ow nw cw wt (w2.drewN n) ((O1.mat (by omega) (by omega)).below (below_drewN (Below.refl _ _) n)) cu hK hKn (by omega) (by omega) HN2.out (fun _ => rfl) (hIr n) hZ2
        obtain ⟨mb1, mo1, mA1, mC1, ea1, ma1⟩ := IMat_top (IMat_net HI1.out HN1.out hBy hK0 (o := 0) (b := 0) (C := fun _ => 0)) hr10
        obtain ⟨mb2, mo2, mA2, mC2, ea2, ma2⟩ := IMat_top (IMat_net HI2.out HN2.out hBy hK0 (o := 0) (b := 0) (C := fun _ => 0)) hr20
        have t1 := (hBy.cell (p := ⟨cb1, co1 + 0, none⟩) cl1).trans (HT1.out 0 hK0)
        have t2 := (hBy.cell (p := ⟨cb2, co2 + 0, none⟩) cl2).trans (HT2.out 0 hK0)
        rw [ea1, Nat.add_zero] at t1
        rw [ea2, Nat.add_zero] at t2
        have z0 : two r1 r2 0 = r1 := rfl
        have z1 : two r1 r2 1 = r2 := rfl
        rw [z0, z1]
        have j1 : (0 : Int) < (K2 : Int) := by omega
        have j2 : (0 : Int) < (r1 : Int) := by omega
        have j3 : (0 : Int) < (r2 : Int) := by omega
        clear hO hA O0 O1 hZ1 hZ2 hIr M1 M2 ea1 ea2 z0 z1 hb2 hBx
        go_wp2
        go_quiet (first
          | (go_at_call_of 12 (Value.slice (some ⟨ob 0, 0, none⟩) r1 r1); exact Calls.quiet_of (T1 _))
          | (go_at_call_of 12 (Value.slice (some ⟨ob 1, 0, none⟩) r2 r2); exact Calls.quiet_of (T2 _)))
        clear T1 T2
        go_wp2
        go_ret
        exact ⟨rfl, below_drewN hBy _⟩
  · clear R P3 Q3 Z3
    go_wp2
    go_ret
    exact ⟨rfl, Below.refl _ _⟩
end Go.Proofs.Qxb6606270a
