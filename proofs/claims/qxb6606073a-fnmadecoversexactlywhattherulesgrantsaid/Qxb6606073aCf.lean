import Derived.Test.Qxb6606073aCe
set_option linter.unusedSimpArgs false
set_option linter.unusedVariables false
namespace Go.Proofs.Qxb6606073a
open Go.RowKit

theorem Try.info55 : (Try.prog.info? 55).map (fun i => (i.zero, i.size, i.bytes)) = some (some (.agg #[.slice none 0 0, .slice none 0 0]), 2, 48) := by kernel_rfl

theorem RsD.ok.above {s s' : RsD} {w w' : World} {B : Nat} (h : s'.ok w) (hl : RsLike s s' B) (ha : Above B w w') : s'.ok w' := by
  have hn := hl.n
  have hc : ∀ x, 0 < s'.n → w'.cell? ⟨s'.b, x, none⟩ = w.cell? ⟨s'.b, x, none⟩ := fun x h0 => ha.cell (p := ⟨s'.b, x, none⟩) (hl.b (by omega)) (h.lt h0)
  exact ⟨h.n_le, h.ad, fun h0 => Nat.lt_of_lt_of_le (h.lt h0) ha.size, fun i hi => (hc _ (by omega)).trans (h.c0 i hi), fun i hi => (hc _ (by omega)).trans (h.c1 i hi), fun i hi => (hc _ (by omega)).trans (h.c2 i hi), fun i hi => (hc _ (by omega)).trans (h.c3 i hi),
    fun i hi => (hc _ (by omega)).trans (h.c4 i hi), fun i hi => (hc _ (by omega)).trans (h.c5 i hi), fun i hi => (h.R i hi).above (hl.R i (by omega)) ha⟩
theorem PsD.ok.above {s s' : PsD} {w w' : World} {B : Nat} (h : s'.ok w) (hl : PsLike s s' B) (ha : Above B w w') : s'.ok w' := by
  have hn := hl.n
  have hc : ∀ x, 0 < s'.n → w'.cell? ⟨s'.b, x, none⟩ = w.cell? ⟨s'.b, x, none⟩ := fun x h0 => ha.cell (p := ⟨s'.b, x, none⟩) (hl.b (by omega)) (h.lt h0)
  exact ⟨h.n_le, h.ad, fun h0 => Nat.lt_of_lt_of_le (h.lt h0) ha.size, fun i hi => (hc _ (by omega)).trans (h.c0 i hi), fun i hi => (hc _ (by omega)).trans (h.c1 i hi),
    fun i hi => ⟨(h.P i hi).v.above (hl.P i (by omega)).fv ha, (h.P i hi).u.above (hl.P i (by omega)).fu ha⟩⟩
theorem RsLike.mono {s s' : RsD} {B B' : Nat} (h : RsLike s s' B) (hB : B' ≤ B) : RsLike s s' B' := ⟨h.n, fun h0 => Nat.le_trans hB (h.b h0), fun i hi => (h.R i hi).mono hB⟩
theorem PsLike.mono {s s' : PsD} {B B' : Nat} (h : PsLike s s' B) (hB : B' ≤ B) : PsLike s s' B' := ⟨h.n, fun h0 => Nat.le_trans hB (h.b h0), fun i hi => ⟨(h.P i hi).v, (h.P i hi).u, (h.P i hi).fv.mono hB, (h.P i hi).fu.mono hB⟩⟩

def ClRs (s : RsD) (B : Nat) (v : Value) (w : World) : Prop := ∃ s' : RsD, v = s'.val ∧ s'.ok w ∧ RsLike s s' B
def ClPs (s : PsD) (B : Nat) (v : Value) (w : World) : Prop := ∃ s' : PsD, v = s'.val ∧ s'.ok w ∧ PsLike s s' B
theorem ClRs_stays (s : RsD) (B B' : Nat) : Stays B' (ClRs s B) := ⟨fun _ _ _ ⟨s', h1, h2, h3⟩ hb => ⟨s', h1, h2.below hb, h3⟩, fun v w h => by obtain ⟨s', rfl, _⟩ := h; exact ⟨_, _, _, rfl⟩⟩
theorem ClPs_stays (s : PsD) (B B' : Nat) : Stays B' (ClPs s B) := ⟨fun _ _ _ ⟨s', h1, h2, h3⟩ hb => ⟨s', h1, h2.below hb, h3⟩, fun v w h => by obtain ⟨s', rfl, _⟩ := h; exact ⟨_, _, _, rfl⟩⟩
theorem ClRs_keeps (s : RsD) (B : Nat) : Keeps B (ClRs s B) := ⟨fun _ _ _ ⟨s', h1, h2, h3⟩ hb => ⟨s', h1, h2.below hb, h3⟩, fun _ _ _ ⟨s', h1, h2, h3⟩ hb => ⟨s', h1, h2.above h3 hb, h3⟩⟩
theorem ClPs_keeps (s : PsD) (B : Nat) : Keeps B (ClPs s B) := ⟨fun _ _ _ ⟨s', h1, h2, h3⟩ hb => ⟨s', h1, h2.below hb, h3⟩, fun _ _ _ ⟨s', h1, h2, h3⟩ hb => ⟨s', h1, h2.above h3 hb, h3⟩⟩

/-- A clone of the entries. -/
structure EsLike (s s' : EsD) (B : Nat) : Prop where
  n : s'.n = s.n
  rs : ∀ i, i < s.n → RsLike (s.rs i) (s'.rs i) B
  ps : ∀ i, i < s.n → PsLike (s.ps i) (s'.ps i) B

def CloneEs (s : EsD) (e : Ending) (w w' : World) : Prop := ∃ s' : EsD, e = .returned s'.val ∧ s'.ok w' ∧ EsLike s s' w.heap.size ∧ Below w.heap.size w w'

set_option maxRecDepth 20000 in
set_option maxHeartbeats 4000000 in
theorem cloneEntries24 (s : EsD) (w : World) (h : s.ok w) (hr : Bd s) :
    Calls Try.prog 24 #[s.val] w fun e w' => CloneEs s e w w' := by
  have hn := hr.n
  have HO := hid h
  have HA := hid h.ad
  have HR := hid hr
  clear h hr
  unfold EsD.val
  obtain ⟨i1, hi1, hz01, hz11, hz21⟩ := info_parts Try.info55
  have hnil : ∀ (w : World) (a : Option Addr) (n c : Nat), (binOp .eql 39 (.slice a n c) (.slice none 0 0)).run Try.prog w = .ok (.bool a.isNone) w := fun w a n c => Lib.run_eql_slice_nil w 39 55 a n c 0 0 Try.underlying39
  cases ha : s.a with
  | none =>
    have hn0 : s.n = 0 := by
      by_cases h0 : 0 < s.n
      · have := HA.out h0; rw [ha] at this; cases this
      · omega
    have HN := hid hn0
    clear ha hn0
    generalize hsn : s.n = n at *
    have HN2 := hid hsn
    clear hsn
    go_enter Try.func24, Try.ntmps24
    go_wp2
    go_ret
    have HN' := HN.out
    exact ⟨⟨none, 0, 0, 0, 0, s.rs, s.ps⟩, rfl, ⟨by simp, fun h => by simp at h, fun h => by simp at h, fun i hi => by simp at hi, fun i hi => by simp at hi, fun i hi => by simp at hi, fun i hi => by simp at hi⟩, ⟨by rw [HN2.out]; exact HN'.symm, fun i hi => by rw [HN2.out] at hi; omega, fun i hi => by rw [HN2.out] at hi; omega⟩, Below.refl _ _⟩
  | some ad =>
    have HAD := hid ha
    clear ha
    generalize hsn : s.n = n at *
    have HN := hid hsn
    clear hsn
    generalize hsc : s.c = c at *
    clear hsc
    go_enter Try.func24, Try.ntmps24
    go_wp2_with (at_make; refine wpList_make_full _ rfl _ _ 39 rfl w.heap.size 55 i1 (.agg #[.slice none 0 0, .slice none 0 0]) 2 Try.underlying39 hi1 hz01 hz11 .i64 .i64 _ _ n rfl rfl rfl rfl ?_ ?_ ?_ ?_)
    · first | omega | (rw [hz21]; omega)
    · unfold maxLen; omega
    · exact Nat.le_refl _
    intro W1 hown1 hgrow1
    have hB1 : Below w.heap.size w W1 := (Below.refl _ _).grown hgrow1 (Nat.le_refl _) (by intro k e; cases e)
    have R1 : PF (fun i => ClRs (s.rs i) (w.heap.size + 1)) (fun i => ClPs (s.ps i) (w.heap.size + 1)) n W1 w.heap.size 0 := by
      refine ⟨own_lt hown1, fun i hi => ⟨?_, World.ownsRow.frozenAt hown1 i⟩, fun i hi => by omega⟩
      obtain ⟨v, hv⟩ := madeN_at #[.slice none 0 0, .slice none 0 0] (n * 2) i hi
      exact ⟨v, (World.ownsRow.cellAt hown1 i (by omega)).trans hv⟩
    clear hown1 hgrow1
    go_wp2
    refine wp_loop_ghost_k (FrI 33 (fun g f wx => ∃ (i : Nat), f 0 = .slice (some ad) n c ∧ f 3 = .slice (some ⟨w.heap.size, 0, none⟩) n n ∧ f 4 = .int .i64 i ∧ i ≤ n ∧ g = n - i ∧ PF (fun i => ClRs (s.rs i) (w.heap.size + 1)) (fun i => ClPs (s.ps i) (w.heap.size + 1)) n wx w.heap.size i ∧ Below w.heap.size w wx)) n ?_ ?_
    · exact FrI_intro _ rfl ⟨0, rfl, rfl, rfl, Nat.zero_le _, rfl, R1, hB1⟩
    clear R1 hB1
    intro gk a' wr hI J K hJ hK
    obtain ⟨f0, rfl, i, r0, r3, r4, hi, hg, F, hB⟩ := hI
    rw [cut33, r0, r3, r4]
    clear r0 r3 r4
    by_cases hlt : i < n
    · have hsi : i < s.n := by rw [HN.out]; exact hlt
      have ea : some ad = some ⟨s.b, s.o, none⟩ := HAD.out.symm.trans (HA.out (by omega))
      simp only [Option.some.injEq] at ea
      subst ea
      have ok' := HO.out.below hB
      have hbd := HR.out
      obtain ⟨sb, hsbe⟩ : ∃ x, x = s.b := ⟨_, rfl⟩
      obtain ⟨so, hsoe⟩ : ∃ x, x = s.o := ⟨_, rfl⟩
      have hsb : sb < wr.heap.size := by rw [hsbe]; exact ok'.lt (by omega)
      have x0 := ok'.c0 i hsi
      have x1 := ok'.c1 i hsi
      rw [← hsbe, ← hsoe] at x0 x1
      rw [← hsbe, ← hsoe]
      obtain ⟨b, hbe⟩ : ∃ x, x = w.heap.size := ⟨_, rfl⟩
      have hbl : b < wr.heap.size := by rw [hbe]; exact F.lt
      have y0' := F.old (i * 2) (by omega)
      have y1' := F.old (i * 2 + 1) (by omega)
      rw [← hbe] at y0' y1'
      obtain ⟨⟨u0, y0a⟩, y0b⟩ := y0'
      obtain ⟨⟨u1, y1a⟩, y1b⟩ := y1'
      have y0 := And.intro y0a y0b
      have y1 := And.intro y1a y1b
      have hbz : b + 1 ≤ wr.heap.size := hbl
      have okv := ok'.rs i hsi
      have oku := ok'.ps i hsi
      obtain ⟨P1, hP1⟩ : ∃ p : Value → World → Prop, p = ClRs (s.rs i) (b + 1) := ⟨_, rfl⟩
      obtain ⟨P2, hP2⟩ : ∃ p : Value → World → Prop, p = ClPs (s.ps i) (b + 1) := ⟨_, rfl⟩
      have Hc1 : ∀ W, Below wr.heap.size wr W → Calls Try.prog 11 #[(s.rs i).val] W fun e w' => ∃ v, e = .returned v ∧ P1 v w' ∧ Below W.heap.size W w' := fun W hb => (cloneRules11 _ _ (okv.below hb) (hbd.rn i hsi) (fun j hj => ⟨hbd.rv i j hsi hj, hbd.rg i j hsi hj, hbd.rr i j hsi hj, hbd.rm i j hsi hj, hbd.ry i j hsi hj⟩)).mono fun e w' ⟨s', h1, h2, h3, h4⟩ => ⟨_, h1, by rw [hP1]; exact ⟨s', rfl, h2, h3.mono (Nat.le_trans hbz hb.size)⟩, h4⟩
      have Hc2 : ∀ W, Below wr.heap.size wr W → Calls Try.prog 47 #[(s.ps i).val] W fun e w' => ∃ v, e = .returned v ∧ P2 v w' ∧ Below W.heap.size W w' := fun W hb => (clonePaths47 _ _ (oku.below hb) (hbd.pn i hsi) (fun j hj => ⟨hbd.pv i j hsi hj, hbd.pu i j hsi hj⟩)).mono fun e w' ⟨s', h1, h2, h3, h4⟩ => ⟨_, h1, by rw [hP2]; exact ⟨s', rfl, h2, h3.mono (Nat.le_trans hbz hb.size)⟩, h4⟩
      have St1 : Stays 0 P1 := by rw [hP1]; exact ClRs_stays _ _ _
      have St2 : Stays 0 P2 := by rw [hP2]; exact ClPs_stays _ _ _
      have HP1 := hid hP1
      have HP2 := hid hP2
      have HBE := hid hbe
      have HF := hid F
      have HB := hid hB
      clear hP1 hP2 F hB ok' okv oku hbd y0a y0b y1a y1b
      generalize (s.rs i).val = v1 at *
      generalize (s.ps i).val = v2 at *
      have j1 : (i : Int) < (n : Int) := by omega
      have j2 : (0 : Int) ≤ (i : Int) := by omega
      rw [← hbe]
      have HSB := hid hsbe
      have HSO := hid hsoe
      clear hbe hsbe hsoe
      go_wp2
      refine wp_region_inv mixed (PRI (.slice (some ⟨b, 0, none⟩) n n) b sb so i (.slice (some ⟨sb, so, none⟩) n c) v1 v2 P1 P2 wr) ?_ ?_ ?_ ?_
      · intro D a wx k o hI ho hD hdep
        obtain ⟨f, rfl, q0, q3, q4, hp, hN, hA, hY⟩ := hI
        have hlt : k < 17 := (Array.getElem?_eq_some_iff.1 ho).1
        rw [cut33]
        rcases (show k = 16 ∨ k < 16 by omega) with e16 | hk
        · subst e16
          have hall : ∀ j, j < 16 → D j = true := by
            intro j hj
            have ho' := ho
            simp at ho'
            subst ho'
            by_cases e15 : j = 15
            · subst e15; exact hdep ⟨15, .data⟩ (by simp) rfl
            · refine phases hdep ?_
              simp
              omega
          have hW := hN hD
          obtain ⟨c1, c2, d, H1, H2⟩ := hp hD 14 (by omega) (hall 14 (by omega))
          have d' : f 30 = _ := d
          have d2 : f 31 = .pointer (some ⟨b, i * 2, none⟩) := hp hD 15 (by omega) (hall 15 (by omega))
          have K1 := hid H1
          have K2 := hid H2
          obtain ⟨_, _, _, rfl⟩ := St1.sl _ _ H1
          obtain ⟨_, _, _, rfl⟩ := St2.sl _ _ H2
          have z0 := (hW.cell (p := ⟨b, i * 2, none⟩) hbl).trans y0.1
          have z1 := (hW.cell (p := ⟨b, i * 2 + 1, none⟩) hbl).trans y1.1
          have g0 := (hW.frozen (p := ⟨b, i * 2, none⟩) hbl).trans y0.2
          have g1 := (hW.frozen (p := ⟨b, i * 2 + 1, none⟩) hbl).trans y1.2
          clear H1 H2
          refine wpOp_step ho (fun K' hK => ?_)
          simp at ho; subst ho; simp only [Region.wanted, ↓reduceIte]
          rw [d2, d']
          go_wp2
          exact ⟨f, by rw [cut33]; simp [q0, q3, q4, d', d2], q0, q3, q4, fun h => by simp at h, fun h => by simp at h, fun _ j hj => by simp [hall j hj], fun _ => ⟨wx, _, _, hW, K1.out, K2.out, rfl⟩⟩
        have hL' : D 16 = false := by
          cases h16 : D 16 with
          | false => rfl
          | true =>
            have := hA h16 k hk
            rw [hD] at this
            cases this
        have hW := hN hL'
        have hp' := hp hL'
        by_cases e0 : k = 0
        · subst e0
          refine wpOp_step ho (fun K' hK => ?_)
          simp at ho; subst ho; simp only [Region.wanted, ↓reduceIte]
          rw [q3]
          go_wp2
          refine PRI_val St1 St2 q0 q3 q4 hp' hL' hW (Below.refl _ _) 0 (by omega) _ (by rfl) _ ?_
          rw [cut33]; simp [upd, q0, q3, q4]
        by_cases e1 : k = 1
        · subst e1
          refine wpOp_step ho (fun K' hK => ?_)
          simp at ho; subst ho; simp only [Region.wanted, ↓reduceIte]
          rw [q4]
          go_wp2
          refine PRI_val St1 St2 q0 q3 q4 hp' hL' hW (Below.refl _ _) 1 (by omega) _ (by rfl) _ ?_
          rw [cut33]; simp [upd, q0, q3, q4]
        by_cases e2 : k = 2
        · subst e2
          refine wpOp_step ho (fun K' hK => ?_)
          simp at ho; subst ho; simp only [Region.wanted, ↓reduceIte]
          rw [q0]
          go_wp2
          refine PRI_val St1 St2 q0 q3 q4 hp' hL' hW (Below.refl _ _) 2 (by omega) _ (by rfl) _ ?_
          rw [cut33]; simp [upd, q0, q3, q4]
        by_cases e3 : k = 3
        · subst e3
          refine wpOp_step ho (fun K' hK => ?_)
          simp at ho; subst ho; simp only [Region.wanted, ↓reduceIte]
          rw [q4]
          go_wp2
          refine PRI_val St1 St2 q0 q3 q4 hp' hL' hW (Below.refl _ _) 3 (by omega) _ (by rfl) _ ?_
          rw [cut33]; simp [upd, q0, q3, q4]
        by_cases e4 : k = 4
        · subst e4
          refine wpOp_step ho (fun K' hK => ?_)
          simp at ho; subst ho; simp only [Region.wanted, ↓reduceIte]
          have a1 : f 18 = .slice (some ⟨sb, so, none⟩) n c := (hp' 2 (by omega) (hdep ⟨2, .data⟩ (by simp) rfl))
          have a2 : f 19 = .int .i64 (i : Int) := (hp' 3 (by omega) (hdep ⟨3, .data⟩ (by simp) rfl))
          rw [a1, a2]
          go_wp2
          refine PRI_val St1 St2 q0 q3 q4 hp' hL' hW (Below.refl _ _) 4 (by omega) _ (by rfl) _ ?_
          rw [cut33]; simp [upd, q0, q3, q4, a1, a2]
        by_cases e5 : k = 5
        · subst e5
          refine wpOp_step ho (fun K' hK => ?_)
          simp at ho; subst ho; simp only [Region.wanted, ↓reduceIte]
          have a1 : f 20 = .pointer (some ⟨sb, so + i * 2, none⟩) := (hp' 4 (by omega) (hdep ⟨4, .data⟩ (by simp) rfl))
          rw [a1]
          go_wp2
          refine PRI_val St1 St2 q0 q3 q4 hp' hL' hW (Below.refl _ _) 5 (by omega) _ (by rfl) _ ?_
          rw [cut33]; simp [upd, q0, q3, q4, a1]
        by_cases e6 : k = 6
        · subst e6
          refine wpOp_step ho (fun K' hK => ?_)
          simp at ho; subst ho; simp only [Region.wanted, ↓reduceIte]
          have a1 : f 21 = .pointer (some ⟨sb, so + i * 2, none⟩) := (hp' 5 (by omega) (hdep ⟨5, .data⟩ (by simp) rfl))
          have cc := (hW.cell (p := ⟨sb, so + i * 2, none⟩) hsb).trans x0
          rw [a1]
          go_wp2
          refine PRI_val St1 St2 q0 q3 q4 hp' hL' hW (Below.refl _ _) 6 (by omega) _ (by rfl) _ ?_
          rw [cut33]; simp [upd, q0, q3, q4, a1]
        by_cases e7 : k = 7
        · subst e7
          refine wpOp_step ho (fun K' hK => ?_)
          simp at ho; subst ho; simp only [Region.wanted, ↓reduceIte]
          have a1 : f 22 = v1 := (hp' 6 (by omega) (hdep ⟨6, .data⟩ (by simp) rfl))
          rw [a1]
          go_wp2_with fail
          refine (Hc1 wx hW).mono ?_
          rintro e w' ⟨v, rfl, hcl, hb⟩
          go_wp2
          refine PRI_val St1 St2 q0 q3 q4 hp' hL' hW hb 7 (by omega) _ hcl _ ?_
          rw [cut33]; simp [upd, q0, q3, q4, a1]
        by_cases e8 : k = 8
        · subst e8
          refine wpOp_step ho (fun K' hK => ?_)
          simp at ho; subst ho; simp only [Region.wanted, ↓reduceIte]
          rw [q0]
          go_wp2
          refine PRI_val St1 St2 q0 q3 q4 hp' hL' hW (Below.refl _ _) 8 (by omega) _ (by rfl) _ ?_
          rw [cut33]; simp [upd, q0, q3, q4]
        by_cases e9 : k = 9
        · subst e9
          refine wpOp_step ho (fun K' hK => ?_)
          simp at ho; subst ho; simp only [Region.wanted, ↓reduceIte]
          rw [q4]
          go_wp2
          refine PRI_val St1 St2 q0 q3 q4 hp' hL' hW (Below.refl _ _) 9 (by omega) _ (by rfl) _ ?_
          rw [cut33]; simp [upd, q0, q3, q4]
        by_cases e10 : k = 10
        · subst e10
          refine wpOp_step ho (fun K' hK => ?_)
          simp at ho; subst ho; simp only [Region.wanted, ↓reduceIte]
          have a1 : f 24 = .slice (some ⟨sb, so, none⟩) n c := (hp' 8 (by omega) (hdep ⟨8, .data⟩ (by simp) rfl))
          have a2 : f 25 = .int .i64 (i : Int) := (hp' 9 (by omega) (hdep ⟨9, .data⟩ (by simp) rfl))
          rw [a1, a2]
          go_wp2
          refine PRI_val St1 St2 q0 q3 q4 hp' hL' hW (Below.refl _ _) 10 (by omega) _ (by rfl) _ ?_
          rw [cut33]; simp [upd, q0, q3, q4, a1, a2]
        by_cases e11 : k = 11
        · subst e11
          refine wpOp_step ho (fun K' hK => ?_)
          simp at ho; subst ho; simp only [Region.wanted, ↓reduceIte]
          have a1 : f 26 = .pointer (some ⟨sb, so + i * 2, none⟩) := (hp' 10 (by omega) (hdep ⟨10, .data⟩ (by simp) rfl))
          rw [a1]
          go_wp2
          refine PRI_val St1 St2 q0 q3 q4 hp' hL' hW (Below.refl _ _) 11 (by omega) _ (by rfl) _ ?_
          rw [cut33]; simp [upd, q0, q3, q4, a1]
        by_cases e12 : k = 12
        · subst e12
          refine wpOp_step ho (fun K' hK => ?_)
          simp at ho; subst ho; simp only [Region.wanted, ↓reduceIte]
          have a1 : f 27 = .pointer (some ⟨sb, so + i * 2 + 1, none⟩) := (hp' 11 (by omega) (hdep ⟨11, .data⟩ (by simp) rfl))
          have cc := (hW.cell (p := ⟨sb, so + i * 2 + 1, none⟩) hsb).trans x1
          rw [a1]
          go_wp2
          refine PRI_val St1 St2 q0 q3 q4 hp' hL' hW (Below.refl _ _) 12 (by omega) _ (by rfl) _ ?_
          rw [cut33]; simp [upd, q0, q3, q4, a1]
        by_cases e13 : k = 13
        · subst e13
          refine wpOp_step ho (fun K' hK => ?_)
          simp at ho; subst ho; simp only [Region.wanted, ↓reduceIte]
          have a1 : f 28 = v2 := (hp' 12 (by omega) (hdep ⟨12, .data⟩ (by simp) rfl))
          rw [a1]
          go_wp2_with fail
          refine (Hc2 wx hW).mono ?_
          rintro e w' ⟨v, rfl, hcl, hb⟩
          go_wp2
          refine PRI_val St1 St2 q0 q3 q4 hp' hL' hW hb 13 (by omega) _ hcl _ ?_
          rw [cut33]; simp [upd, q0, q3, q4, a1]
        by_cases e14 : k = 14
        · subst e14
          refine wpOp_step ho (fun K' hK => ?_)
          simp at ho; subst ho; simp only [Region.wanted, ↓reduceIte]
          have H1 : P1 (f 23) wx := (hp' 7 (by omega) (hdep ⟨7, .data⟩ (by simp) rfl))
          have H2 : P2 (f 29) wx := (hp' 13 (by omega) (hdep ⟨13, .data⟩ (by simp) rfl))
          have K1 := hid H1
          have K2 := hid H2
          obtain ⟨_, _, _, k1⟩ := St1.sl _ _ H1
          obtain ⟨_, _, _, k2⟩ := St2.sl _ _ H2
          clear H1 H2
          rw [k1, k2]
          go_wp2
          refine PRI_val St1 St2 q0 q3 q4 hp' hL' hW (Below.refl _ _) 14 (by omega) _ ⟨_, _, rfl, k1 ▸ K1.out, k2 ▸ K2.out⟩ _ ?_
          rw [cut33]; simp [upd, q0, q3, q4, k1, k2]
        by_cases e15 : k = 15
        · subst e15
          refine wpOp_step ho (fun K' hK => ?_)
          simp at ho; subst ho; simp only [Region.wanted, ↓reduceIte]
          have a1 : f 16 = .slice (some ⟨b, 0, none⟩) n n := (hp' 0 (by omega) (hdep ⟨0, .data⟩ (by simp) rfl))
          have a2 : f 17 = .int .i64 (i : Int) := (hp' 1 (by omega) (hdep ⟨1, .data⟩ (by simp) rfl))
          rw [a1, a2]
          go_wp2
          refine PRI_val St1 St2 q0 q3 q4 hp' hL' hW (Below.refl _ _) 15 (by omega) _ (by rfl) _ ?_
          rw [cut33]; simp [upd, q0, q3, q4, a1, a2]
        omega
      · intro D a wx hI hall
        obtain ⟨f, rfl, q0, q3, q4, hp, hN, hA, hY⟩ := hI
        obtain ⟨wp, c1, c2, hW, g1, g2, rfl⟩ := hY (hall 16 (by simp))
        rw [HP1.out] at g1
        rw [HP2.out] at g2
        have F2 := PF_below HF.out (fun i => ClRs_keeps _ _) (fun i => ClPs_keeps _ _) hW
        have F3 := PF_put F2 (fun i => ClRs_keeps _ _) (fun i => ClPs_keeps _ _) hlt (by rw [← HBE.out]; exact g1) (by rw [← HBE.out]; exact g2)
        have hB2 := HB.out.trans (hW.mono HB.out.size)
        have hB3 : Below w.heap.size w (set2 wp w.heap.size (i * 2) c1 c2) := (hB2.setCell (p := ⟨w.heap.size, i * 2, none⟩) (Nat.le_refl _) c1).setCell (p := ⟨w.heap.size, i * 2 + 1, none⟩) (Nat.le_refl _) c2
        rw [HBE.out]
        have G3 := hid F3
        have G4 := hid hB3
        clear F2 F3 hB2 hB3
        rw [cut33, q0, q3, q4]
        clear hp hN hA hY
        generalize set2 wp w.heap.size (i * 2) c1 c2 = W9 at *
        go_wp2
        rw [HSB.out, HSO.out, HBE.out]
        exact Handed.intro (n - (i + 1)) (by omega) (hJ _ _ _ (FrI_intro _ rfl ⟨i + 1, rfl, rfl, rfl, by omega, rfl, G3.out, G4.out⟩))
      · intro k o ho e he _
        have hlt : k < 17 := (Array.getElem?_eq_some_iff.1 ho).1
        by_cases e0 : k = 0
        · subst e0
          simp at ho; subst ho
          simp at he <;> first | (rcases he with rfl | rfl <;> simp) | (subst he; simp) | (rcases he with rfl | rfl | rfl <;> simp) | (rcases he with rfl | rfl | rfl | rfl | rfl | rfl | rfl | rfl | rfl | rfl | rfl | rfl | rfl | rfl | rfl | rfl | rfl <;> simp) | (rcases he with rfl | rfl | rfl | rfl | rfl | rfl | rfl | rfl | rfl | rfl | rfl | rfl | rfl | rfl | rfl | rfl | rfl | rfl <;> simp) | (rcases he with rfl | rfl | rfl | rfl | rfl | rfl | rfl | rfl | rfl | rfl | rfl | rfl | rfl | rfl | rfl | rfl | rfl | rfl | rfl <;> simp)
        by_cases e1 : k = 1
        · subst e1
          simp at ho; subst ho
          simp at he <;> first | (rcases he with rfl | rfl <;> simp) | (subst he; simp) | (rcases he with rfl | rfl | rfl <;> simp) | (rcases he with rfl | rfl | rfl | rfl | rfl | rfl | rfl | rfl | rfl | rfl | rfl | rfl | rfl | rfl | rfl | rfl | rfl <;> simp) | (rcases he with rfl | rfl | rfl | rfl | rfl | rfl | rfl | rfl | rfl | rfl | rfl | rfl | rfl | rfl | rfl | rfl | rfl | rfl <;> simp) | (rcases he with rfl | rfl | rfl | rfl | rfl | rfl | rfl | rfl | rfl | rfl | rfl | rfl | rfl | rfl | rfl | rfl | rfl | rfl | rfl <;> simp)
        by_cases e2 : k = 2
        · subst e2
          simp at ho; subst ho
          simp at he <;> first | (rcases he with rfl | rfl <;> simp) | (subst he; simp) | (rcases he with rfl | rfl | rfl <;> simp) | (rcases he with rfl | rfl | rfl | rfl | rfl | rfl | rfl | rfl | rfl | rfl | rfl | rfl | rfl | rfl | rfl | rfl | rfl <;> simp) | (rcases he with rfl | rfl | rfl | rfl | rfl | rfl | rfl | rfl | rfl | rfl | rfl | rfl | rfl | rfl | rfl | rfl | rfl | rfl <;> simp) | (rcases he with rfl | rfl | rfl | rfl | rfl | rfl | rfl | rfl | rfl | rfl | rfl | rfl | rfl | rfl | rfl | rfl | rfl | rfl | rfl <;> simp)
        by_cases e3 : k = 3
        · subst e3
          simp at ho; subst ho
          simp at he <;> first | (rcases he with rfl | rfl <;> simp) | (subst he; simp) | (rcases he with rfl | rfl | rfl <;> simp) | (rcases he with rfl | rfl | rfl | rfl | rfl | rfl | rfl | rfl | rfl | rfl | rfl | rfl | rfl | rfl | rfl | rfl | rfl <;> simp) | (rcases he with rfl | rfl | rfl | rfl | rfl | rfl | rfl | rfl | rfl | rfl | rfl | rfl | rfl | rfl | rfl | rfl | rfl | rfl <;> simp) | (rcases he with rfl | rfl | rfl | rfl | rfl | rfl | rfl | rfl | rfl | rfl | rfl | rfl | rfl | rfl | rfl | rfl | rfl | rfl | rfl <;> simp)
        by_cases e4 : k = 4
        · subst e4
          simp at ho; subst ho
          simp at he <;> first | (rcases he with rfl | rfl <;> simp) | (subst he; simp) | (rcases he with rfl | rfl | rfl <;> simp) | (rcases he with rfl | rfl | rfl | rfl | rfl | rfl | rfl | rfl | rfl | rfl | rfl | rfl | rfl | rfl | rfl | rfl | rfl <;> simp) | (rcases he with rfl | rfl | rfl | rfl | rfl | rfl | rfl | rfl | rfl | rfl | rfl | rfl | rfl | rfl | rfl | rfl | rfl | rfl <;> simp) | (rcases he with rfl | rfl | rfl | rfl | rfl | rfl | rfl | rfl | rfl | rfl | rfl | rfl | rfl | rfl | rfl | rfl | rfl | rfl | rfl <;> simp)
        by_cases e5 : k = 5
        · subst e5
          simp at ho; subst ho
          simp at he <;> first | (rcases he with rfl | rfl <;> simp) | (subst he; simp) | (rcases he with rfl | rfl | rfl <;> simp) | (rcases he with rfl | rfl | rfl | rfl | rfl | rfl | rfl | rfl | rfl | rfl | rfl | rfl | rfl | rfl | rfl | rfl | rfl <;> simp) | (rcases he with rfl | rfl | rfl | rfl | rfl | rfl | rfl | rfl | rfl | rfl | rfl | rfl | rfl | rfl | rfl | rfl | rfl | rfl <;> simp) | (rcases he with rfl | rfl | rfl | rfl | rfl | rfl | rfl | rfl | rfl | rfl | rfl | rfl | rfl | rfl | rfl | rfl | rfl | rfl | rfl <;> simp)
        by_cases e6 : k = 6
        · subst e6
          simp at ho; subst ho
          simp at he <;> first | (rcases he with rfl | rfl <;> simp) | (subst he; simp) | (rcases he with rfl | rfl | rfl <;> simp) | (rcases he with rfl | rfl | rfl | rfl | rfl | rfl | rfl | rfl | rfl | rfl | rfl | rfl | rfl | rfl | rfl | rfl | rfl <;> simp) | (rcases he with rfl | rfl | rfl | rfl | rfl | rfl | rfl | rfl | rfl | rfl | rfl | rfl | rfl | rfl | rfl | rfl | rfl | rfl <;> simp) | (rcases he with rfl | rfl | rfl | rfl | rfl | rfl | rfl | rfl | rfl | rfl | rfl | rfl | rfl | rfl | rfl | rfl | rfl | rfl | rfl <;> simp)
        by_cases e7 : k = 7
        · subst e7
          simp at ho; subst ho
          simp at he <;> first | (rcases he with rfl | rfl <;> simp) | (subst he; simp) | (rcases he with rfl | rfl | rfl <;> simp) | (rcases he with rfl | rfl | rfl | rfl | rfl | rfl | rfl | rfl | rfl | rfl | rfl | rfl | rfl | rfl | rfl | rfl | rfl <;> simp) | (rcases he with rfl | rfl | rfl | rfl | rfl | rfl | rfl | rfl | rfl | rfl | rfl | rfl | rfl | rfl | rfl | rfl | rfl | rfl <;> simp) | (rcases he with rfl | rfl | rfl | rfl | rfl | rfl | rfl | rfl | rfl | rfl | rfl | rfl | rfl | rfl | rfl | rfl | rfl | rfl | rfl <;> simp)
        by_cases e8 : k = 8
        · subst e8
          simp at ho; subst ho
          simp at he <;> first | (rcases he with rfl | rfl <;> simp) | (subst he; simp) | (rcases he with rfl | rfl | rfl <;> simp) | (rcases he with rfl | rfl | rfl | rfl | rfl | rfl | rfl | rfl | rfl | rfl | rfl | rfl | rfl | rfl | rfl | rfl | rfl <;> simp) | (rcases he with rfl | rfl | rfl | rfl | rfl | rfl | rfl | rfl | rfl | rfl | rfl | rfl | rfl | rfl | rfl | rfl | rfl | rfl <;> simp) | (rcases he with rfl | rfl | rfl | rfl | rfl | rfl | rfl | rfl | rfl | rfl | rfl | rfl | rfl | rfl | rfl | rfl | rfl | rfl | rfl <;> simp)
        by_cases e9 : k = 9
        · subst e9
          simp at ho; subst ho
          simp at he <;> first | (rcases he with rfl | rfl <;> simp) | (subst he; simp) | (rcases he with rfl | rfl | rfl <;> simp) | (rcases he with rfl | rfl | rfl | rfl | rfl | rfl | rfl | rfl | rfl | rfl | rfl | rfl | rfl | rfl | rfl | rfl | rfl <;> simp) | (rcases he with rfl | rfl | rfl | rfl | rfl | rfl | rfl | rfl | rfl | rfl | rfl | rfl | rfl | rfl | rfl | rfl | rfl | rfl <;> simp) | (rcases he with rfl | rfl | rfl | rfl | rfl | rfl | rfl | rfl | rfl | rfl | rfl | rfl | rfl | rfl | rfl | rfl | rfl | rfl | rfl <;> simp)
        by_cases e10 : k = 10
        · subst e10
          simp at ho; subst ho
          simp at he <;> first | (rcases he with rfl | rfl <;> simp) | (subst he; simp) | (rcases he with rfl | rfl | rfl <;> simp) | (rcases he with rfl | rfl | rfl | rfl | rfl | rfl | rfl | rfl | rfl | rfl | rfl | rfl | rfl | rfl | rfl | rfl | rfl <;> simp) | (rcases he with rfl | rfl | rfl | rfl | rfl | rfl | rfl | rfl | rfl | rfl | rfl | rfl | rfl | rfl | rfl | rfl | rfl | rfl <;> simp) | (rcases he with rfl | rfl | rfl | rfl | rfl | rfl | rfl | rfl | rfl | rfl | rfl | rfl | rfl | rfl | rfl | rfl | rfl | rfl | rfl <;> simp)
        by_cases e11 : k = 11
        · subst e11
          simp at ho; subst ho
          simp at he <;> first | (rcases he with rfl | rfl <;> simp) | (subst he; simp) | (rcases he with rfl | rfl | rfl <;> simp) | (rcases he with rfl | rfl | rfl | rfl | rfl | rfl | rfl | rfl | rfl | rfl | rfl | rfl | rfl | rfl | rfl | rfl | rfl <;> simp) | (rcases he with rfl | rfl | rfl | rfl | rfl | rfl | rfl | rfl | rfl | rfl | rfl | rfl | rfl | rfl | rfl | rfl | rfl | rfl <;> simp) | (rcases he with rfl | rfl | rfl | rfl | rfl | rfl | rfl | rfl | rfl | rfl | rfl | rfl | rfl | rfl | rfl | rfl | rfl | rfl | rfl <;> simp)
        by_cases e12 : k = 12
        · subst e12
          simp at ho; subst ho
          simp at he <;> first | (rcases he with rfl | rfl <;> simp) | (subst he; simp) | (rcases he with rfl | rfl | rfl <;> simp) | (rcases he with rfl | rfl | rfl | rfl | rfl | rfl | rfl | rfl | rfl | rfl | rfl | rfl | rfl | rfl | rfl | rfl | rfl <;> simp) | (rcases he with rfl | rfl | rfl | rfl | rfl | rfl | rfl | rfl | rfl | rfl | rfl | rfl | rfl | rfl | rfl | rfl | rfl | rfl <;> simp) | (rcases he with rfl | rfl | rfl | rfl | rfl | rfl | rfl | rfl | rfl | rfl | rfl | rfl | rfl | rfl | rfl | rfl | rfl | rfl | rfl <;> simp)
        by_cases e13 : k = 13
        · subst e13
          simp at ho; subst ho
          simp at he <;> first | (rcases he with rfl | rfl <;> simp) | (subst he; simp) | (rcases he with rfl | rfl | rfl <;> simp) | (rcases he with rfl | rfl | rfl | rfl | rfl | rfl | rfl | rfl | rfl | rfl | rfl | rfl | rfl | rfl | rfl | rfl | rfl <;> simp) | (rcases he with rfl | rfl | rfl | rfl | rfl | rfl | rfl | rfl | rfl | rfl | rfl | rfl | rfl | rfl | rfl | rfl | rfl | rfl <;> simp) | (rcases he with rfl | rfl | rfl | rfl | rfl | rfl | rfl | rfl | rfl | rfl | rfl | rfl | rfl | rfl | rfl | rfl | rfl | rfl | rfl <;> simp)
        by_cases e14 : k = 14
        · subst e14
          simp at ho; subst ho
          simp at he <;> first | (rcases he with rfl | rfl <;> simp) | (subst he; simp) | (rcases he with rfl | rfl | rfl <;> simp) | (rcases he with rfl | rfl | rfl | rfl | rfl | rfl | rfl | rfl | rfl | rfl | rfl | rfl | rfl | rfl | rfl | rfl | rfl <;> simp) | (rcases he with rfl | rfl | rfl | rfl | rfl | rfl | rfl | rfl | rfl | rfl | rfl | rfl | rfl | rfl | rfl | rfl | rfl | rfl <;> simp) | (rcases he with rfl | rfl | rfl | rfl | rfl | rfl | rfl | rfl | rfl | rfl | rfl | rfl | rfl | rfl | rfl | rfl | rfl | rfl | rfl <;> simp)
        by_cases e15 : k = 15
        · subst e15
          simp at ho; subst ho
          simp at he <;> first | (rcases he with rfl | rfl <;> simp) | (subst he; simp) | (rcases he with rfl | rfl | rfl <;> simp) | (rcases he with rfl | rfl | rfl | rfl | rfl | rfl | rfl | rfl | rfl | rfl | rfl | rfl | rfl | rfl | rfl | rfl | rfl <;> simp) | (rcases he with rfl | rfl | rfl | rfl | rfl | rfl | rfl | rfl | rfl | rfl | rfl | rfl | rfl | rfl | rfl | rfl | rfl | rfl <;> simp) | (rcases he with rfl | rfl | rfl | rfl | rfl | rfl | rfl | rfl | rfl | rfl | rfl | rfl | rfl | rfl | rfl | rfl | rfl | rfl | rfl <;> simp)
        by_cases e16 : k = 16
        · subst e16
          simp at ho; subst ho
          simp at he <;> first | (rcases he with rfl | rfl <;> simp) | (subst he; simp) | (rcases he with rfl | rfl | rfl <;> simp) | (rcases he with rfl | rfl | rfl | rfl | rfl | rfl | rfl | rfl | rfl | rfl | rfl | rfl | rfl | rfl | rfl | rfl | rfl <;> simp) | (rcases he with rfl | rfl | rfl | rfl | rfl | rfl | rfl | rfl | rfl | rfl | rfl | rfl | rfl | rfl | rfl | rfl | rfl | rfl <;> simp) | (rcases he with rfl | rfl | rfl | rfl | rfl | rfl | rfl | rfl | rfl | rfl | rfl | rfl | rfl | rfl | rfl | rfl | rfl | rfl | rfl <;> simp)
        omega
      · exact PRI_start _ rfl rfl rfl rfl (by have := (Below.refl wr.heap.size wr).drew; exact this)
    · have e : i = n := by omega
      rw [e] at F
      have HN' := HN.out
      go_wp2
      go_ret
      haveI : Inhabited (RsD × PsD) := ⟨(s.rs 0, s.ps 0)⟩
      obtain ⟨P, hP⟩ := Go.Deep.choose_lt (α := RsD × PsD) (n := n) (p := fun i (x : RsD × PsD) => wr.cell? ⟨w.heap.size, i * 2, none⟩ = some x.1.val ∧ wr.cell? ⟨w.heap.size, i * 2 + 1, none⟩ = some x.2.val ∧ (x.1.ok wr ∧ x.2.ok wr) ∧ RsLike (s.rs i) x.1 (w.heap.size + 1) ∧ PsLike (s.ps i) x.2 (w.heap.size + 1)) (fun i hi => by
        obtain ⟨c1, c2, e1, e2, ⟨s1, rfl, a1, b1⟩, ⟨s2, rfl, a2, b2⟩⟩ := F.set i hi
        exact ⟨(s1, s2), e1, e2, ⟨a1, a2⟩, b1, b2⟩)
      exact ⟨⟨some ⟨w.heap.size, 0, none⟩, n, n, w.heap.size, 0, fun i => (P i).1, fun i => (P i).2⟩, rfl, ⟨by show n ≤ _; omega, fun _ => rfl, fun _ => F.lt, fun i hi => by simpa using (hP i hi).1, fun i hi => by simpa using (hP i hi).2.1, fun i hi => (hP i hi).2.2.1.1, fun i hi => (hP i hi).2.2.1.2⟩,
        ⟨HN'.symm, fun i hi => (hP i (by omega)).2.2.2.1.mono (by omega), fun i hi => (hP i (by omega)).2.2.2.2.mono (by omega)⟩, hB⟩
end Go.Proofs.Qxb6606073a

