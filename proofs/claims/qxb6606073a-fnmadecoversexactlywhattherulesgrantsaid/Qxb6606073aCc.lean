import Derived.Test.Qxb6606073aCb
set_option linter.unusedSimpArgs false
set_option linter.unusedVariables false
namespace Go.Proofs.Qxb6606073a
open Go.RowKit

theorem Try.info25 : (Try.prog.info? 25).map (fun i => (i.zero, i.size, i.bytes)) = some (some (.agg #[.slice none 0 0, .slice none 0 0, .slice none 0 0, .slice none 0 0, .slice none 0 0, .bool false]), 6, 128) := by kernel_rfl

/-- A rule whose counts are those of r, new. -/
structure RLike (x x' : RD) (B : Nat) : Prop where
  v : x'.v.n = x.v.n
  g : x'.g.n = x.g.n
  r : x'.r.n = x.r.n
  m : x'.m.n = x.m.n
  y : x'.y.n = x.y.n
  fv : x'.v.fr B
  fg : x'.g.fr B
  fr : x'.r.fr B
  fm : x'.m.fr B
  fy : x'.y.fr B

theorem ClR.rule {r : RD} {B : Nat} {v : Value} {w : World} (h : ClR r B v w) : ∃ r' : RD, v = r'.val ∧ r'.ok w ∧ RLike r r' B := by
  obtain ⟨c1, c2, c3, c4, c5, rfl, ⟨s1, rfl, a1, b1, f1⟩, ⟨s2, rfl, a2, b2, f2⟩, ⟨s3, rfl, a3, b3, f3⟩, ⟨s4, rfl, a4, b4, f4⟩, ⟨s5, rfl, a5, b5, f5⟩⟩ := h
  exact ⟨⟨s1, s2, s3, s4, s5, r.q⟩, rfl, ⟨b1, b2, b3, b4, b5⟩, ⟨a1, a2, a3, a4, a5, f1, f2, f3, f4, f5⟩⟩
theorem RD.ok.above {r r0 : RD} {w w' : World} {B : Nat} (h : r.ok w) (hf : RLike r0 r B) (ha : Above B w w') : r.ok w' :=
  ⟨h.v.above hf.fv ha, h.g.above hf.fg ha, h.r.above hf.fr ha, h.m.above hf.fm ha, h.y.above hf.fy ha⟩

/-- The rules cloned so far. -/
structure RsF (s : RsD) (w : World) (b k : Nat) (R : Nat → RD) : Prop where
  lt : b < w.heap.size
  old : ∀ i, i < s.n * 6 → (∃ v, w.cell? ⟨b, i, none⟩ = some v) ∧ w.frozen? ⟨b, i, none⟩ = false
  c0 : ∀ i, i < k → w.cell? ⟨b, i * 6, none⟩ = some (R i).v.val
  c1 : ∀ i, i < k → w.cell? ⟨b, i * 6 + 1, none⟩ = some (R i).g.val
  c2 : ∀ i, i < k → w.cell? ⟨b, i * 6 + 2, none⟩ = some (R i).r.val
  c3 : ∀ i, i < k → w.cell? ⟨b, i * 6 + 3, none⟩ = some (R i).m.val
  c4 : ∀ i, i < k → w.cell? ⟨b, i * 6 + 4, none⟩ = some (R i).y.val
  c5 : ∀ i, i < k → w.cell? ⟨b, i * 6 + 5, none⟩ = some (.bool (R i).q)
  ok : ∀ i, i < k → (R i).ok w
  like : ∀ i, i < k → RLike (s.R i) (R i) (b + 1)

theorem RsF_below {s : RsD} {w w' : World} {b k : Nat} {R : Nat → RD} (h : RsF s w b k R) (hb : Below w.heap.size w w') : RsF s w' b k R := by
  have hc : ∀ x, w'.cell? ⟨b, x, none⟩ = w.cell? ⟨b, x, none⟩ := fun x => hb.cell (p := ⟨b, x, none⟩) h.lt
  exact ⟨Nat.lt_of_lt_of_le h.lt hb.size, fun i hi => by rw [hc, hb.frozen (p := ⟨b, i, none⟩) h.lt]; exact h.old i hi, fun i hi => (hc _).trans (h.c0 i hi), fun i hi => (hc _).trans (h.c1 i hi), fun i hi => (hc _).trans (h.c2 i hi),
    fun i hi => (hc _).trans (h.c3 i hi), fun i hi => (hc _).trans (h.c4 i hi), fun i hi => (hc _).trans (h.c5 i hi), fun i hi => (h.ok i hi).below hb, h.like⟩

def putR (R : Nat → RD) (k : Nat) (x : RD) : Nat → RD := fun i => if i = k then x else R i

theorem RsF_put {s : RsD} {w : World} {b k : Nat} {R : Nat → RD} (h : RsF s w b k R) (hk : k < s.n) {x : RD} (hx : x.ok w) (hl : RLike (s.R k) x (b + 1)) :
    RsF s (set6 w b (k * 6) x.v.val x.g.val x.r.val x.m.val x.y.val (.bool x.q)) b (k + 1) (putR R k x) := by
  have ha : Above (b + 1) w (set6 w b (k * 6) x.v.val x.g.val x.r.val x.m.val x.y.val (.bool x.q)) := set6_above (Above.refl _ _) (by omega) _ _ _ _ _ _ _
  obtain ⟨u0, e0⟩ := (h.old (k * 6) (by omega)).1
  obtain ⟨u1, e1⟩ := (h.old (k * 6 + 1) (by omega)).1
  obtain ⟨u2, e2⟩ := (h.old (k * 6 + 2) (by omega)).1
  obtain ⟨u3, e3⟩ := (h.old (k * 6 + 3) (by omega)).1
  obtain ⟨u4, e4⟩ := (h.old (k * 6 + 4) (by omega)).1
  obtain ⟨u5, e5⟩ := (h.old (k * 6 + 5) (by omega)).1
  obtain ⟨g0, g1, g2, g3, g4, g5⟩ := set6_cells e0 e1 e2 e3 e4 e5 x.v.val x.g.val x.r.val x.m.val x.y.val (.bool x.q)
  have hne : ∀ i, i ≠ k → putR R k x i = R i := fun i hi => by unfold putR; rw [if_neg hi]
  have heq : putR R k x k = x := by unfold putR; rw [if_pos rfl]
  refine ⟨by rw [set6_size]; exact h.lt, fun i hi => ?_, fun i hi => ?_, fun i hi => ?_, fun i hi => ?_, fun i hi => ?_, fun i hi => ?_, fun i hi => ?_, fun i hi => ?_, fun i hi => ?_⟩
  · rw [set6_frozen]
    refine ⟨?_, (h.old i hi).2⟩
    obtain ⟨u, hu⟩ := (h.old i hi).1
    unfold set6
    obtain ⟨_, a1⟩ := cell?_setCell_some (p := ⟨b, k * 6, none⟩) (x := x.v.val) hu
    obtain ⟨_, a2⟩ := cell?_setCell_some (p := ⟨b, k * 6 + 1, none⟩) (x := x.g.val) a1
    obtain ⟨_, a3⟩ := cell?_setCell_some (p := ⟨b, k * 6 + 2, none⟩) (x := x.r.val) a2
    obtain ⟨_, a4⟩ := cell?_setCell_some (p := ⟨b, k * 6 + 3, none⟩) (x := x.m.val) a3
    obtain ⟨_, a5⟩ := cell?_setCell_some (p := ⟨b, k * 6 + 4, none⟩) (x := x.y.val) a4
    exact cell?_setCell_some a5
  all_goals by_cases e : i = k
  · subst e; rw [heq]; exact g0
  · rw [hne i e, set6_other _ _ _ _ _ _ (by right; show i * 6 < _ ∨ _ ≤ i * 6; omega)]; exact h.c0 i (by omega)
  · subst e; rw [heq]; exact g1
  · rw [hne i e, set6_other _ _ _ _ _ _ (by right; show i * 6 + 1 < _ ∨ _ ≤ i * 6 + 1; omega)]; exact h.c1 i (by omega)
  · subst e; rw [heq]; exact g2
  · rw [hne i e, set6_other _ _ _ _ _ _ (by right; show i * 6 + 2 < _ ∨ _ ≤ i * 6 + 2; omega)]; exact h.c2 i (by omega)
  · subst e; rw [heq]; exact g3
  · rw [hne i e, set6_other _ _ _ _ _ _ (by right; show i * 6 + 3 < _ ∨ _ ≤ i * 6 + 3; omega)]; exact h.c3 i (by omega)
  · subst e; rw [heq]; exact g4
  · rw [hne i e, set6_other _ _ _ _ _ _ (by right; show i * 6 + 4 < _ ∨ _ ≤ i * 6 + 4; omega)]; exact h.c4 i (by omega)
  · subst e; rw [heq]; exact g5
  · rw [hne i e, set6_other _ _ _ _ _ _ (by right; show i * 6 + 5 < _ ∨ _ ≤ i * 6 + 5; omega)]; exact h.c5 i (by omega)
  · subst e; rw [heq]; exact hx.above hl ha
  · rw [hne i e]; exact (h.ok i (by omega)).above (h.like i (by omega)) ha
  · subst e; rw [heq]; exact hl
  · rw [hne i e]; exact h.like i (by omega)

/-- A clone of a slice of rules. -/
structure RsLike (s s' : RsD) (B : Nat) : Prop where
  n : s'.n = s.n
  b : 0 < s.n → B ≤ s'.b
  R : ∀ i, i < s.n → RLike (s.R i) (s'.R i) B
theorem RLike.mono {r r' : RD} {B B' : Nat} (h : RLike r r' B) (hB : B' ≤ B) : RLike r r' B' :=
  ⟨h.v, h.g, h.r, h.m, h.y, h.fv.mono hB, h.fg.mono hB, h.fr.mono hB, h.fm.mono hB, h.fy.mono hB⟩

def CloneRs (s : RsD) (e : Ending) (w w' : World) : Prop := ∃ s' : RsD, e = .returned s'.val ∧ s'.ok w' ∧ RsLike s s' w.heap.size ∧ Below w.heap.size w w'

set_option maxRecDepth 20000 in
set_option maxHeartbeats 1000000 in
theorem cloneRules11 (s : RsD) (w : World) (h : s.ok w) (hn : s.n ≤ 65536) (hr : ∀ i, i < s.n → (s.R i).v.n ≤ 65536 ∧ (s.R i).g.n ≤ 65536 ∧ (s.R i).r.n ≤ 65536 ∧ (s.R i).m.n ≤ 65536 ∧ (s.R i).y.n ≤ 65536) :
    Calls Try.prog 11 #[s.val] w fun e w' => CloneRs s e w w' := by
  have HO := hid h
  have HA := hid h.ad
  have HR := hid hr
  clear h hr
  unfold RsD.val
  obtain ⟨i1, hi1, hz01, hz11, hz21⟩ := info_parts Try.info25
  have hnil : ∀ (w : World) (a : Option Addr) (n c : Nat), (binOp .eql 22 (.slice a n c) (.slice none 0 0)).run Try.prog w = .ok (.bool a.isNone) w := fun w a n c => Lib.run_eql_slice_nil w 22 25 a n c 0 0 Try.underlying22
  cases ha : s.a with
  | none =>
    have hn0 : s.n = 0 := by
      by_cases h0 : 0 < s.n
      · have := HA.out h0; rw [ha] at this; cases this
      · omega
    have HN := hid hn0
    clear ha hn0
    generalize hsn : s.n = n at *
    have HN2 := hid hsn
    clear hsn
    go_enter Try.func11, Try.ntmps11
    go_wp2
    go_ret
    have HN' := HN.out
    exact ⟨⟨none, 0, 0, 0, 0, s.R⟩, rfl, ⟨by simp, fun h => by simp at h, fun h => by simp at h, fun i hi => by simp at hi, fun i hi => by simp at hi, fun i hi => by simp at hi, fun i hi => by simp at hi, fun i hi => by simp at hi, fun i hi => by simp at hi, fun i hi => by simp at hi⟩, ⟨by rw [HN2.out]; exact HN'.symm, fun h => by rw [HN2.out] at h; omega, fun i hi => by rw [HN2.out] at hi; omega⟩, Below.refl _ _⟩
  | some ad =>
    have HAD := hid ha
    clear ha
    generalize hsn : s.n = n at *
    have HN := hid hsn
    clear hsn
    go_enter Try.func11, Try.ntmps11
    go_wp2_with (at_make; refine wpList_make_full _ rfl _ _ 22 rfl w.heap.size 25 i1 (.agg #[.slice none 0 0, .slice none 0 0, .slice none 0 0, .slice none 0 0, .slice none 0 0, .bool false]) 6 Try.underlying22 hi1 hz01 hz11 .i64 .i64 _ _ n rfl rfl rfl rfl ?_ ?_ ?_ ?_)
    · first | omega | (rw [hz21]; omega)
    · unfold maxLen; omega
    · exact Nat.le_refl _
    intro W1 hown1 hgrow1
    have hB1 : Below w.heap.size w W1 := (Below.refl _ _).grown hgrow1 (Nat.le_refl _) (by intro k e; cases e)
    have R1 : RsF s W1 w.heap.size 0 (fun i => s.R i) := by
      refine ⟨own_lt hown1, fun i hi => ⟨?_, World.ownsRow.frozenAt hown1 i⟩, fun i hi => by omega, fun i hi => by omega, fun i hi => by omega, fun i hi => by omega, fun i hi => by omega, fun i hi => by omega, fun i hi => by omega, fun i hi => by omega⟩
      rw [HN.out] at hi
      obtain ⟨v, hv⟩ := madeN_at #[.slice none 0 0, .slice none 0 0, .slice none 0 0, .slice none 0 0, .slice none 0 0, .bool false] (n * 6) i hi
      exact ⟨v, (World.ownsRow.cellAt hown1 i (by omega)).trans hv⟩
    clear hown1 hgrow1
    go_wp2
    go_loopg [4] n (fun g v wx => ∃ (i : Nat) (R : Nat → RD), v = .int .i64 i ∧ i ≤ n ∧ g = n - i ∧ RsF s wx w.heap.size i R ∧ Below w.heap.size w wx)
    case atStart => exact ⟨0, _, rfl, Nat.zero_le _, rfl, R1, hB1⟩
    case round =>
    clear R1 hB1
    obtain ⟨i, R, rfl, hi, hg, F, hB⟩ := hrel
    by_cases hlt : i < n
    · have hsi : i < s.n := by rw [HN.out]; exact hlt
      have ea : some ad = some ⟨s.b, s.o, none⟩ := HAD.out.symm.trans (HA.out (by omega))
      simp only [Option.some.injEq] at ea
      subst ea
      have ok' := HO.out.below hB
      obtain ⟨m1, m2, m3, m4, m5⟩ := HR.out i (by rw [← HN.out]; exact hsi)
      have C := cloneRule12 (s.R i) wr (ok'.R i hsi) m1 m2 m3 m4 m5
      have c0 := ok'.c0 i hsi
      have c1 := ok'.c1 i hsi
      have c2 := ok'.c2 i hsi
      have c3 := ok'.c3 i hsi
      have c4 := ok'.c4 i hsi
      have c5 := ok'.c5 i hsi
      unfold RD.val at C
      clear ok' m1 m2 m3 m4 m5
      generalize (s.R i).v.val = v1 at *
      generalize (s.R i).g.val = v2 at *
      generalize (s.R i).r.val = v3 at *
      generalize (s.R i).m.val = v4 at *
      generalize (s.R i).y.val = v5 at *
      generalize (s.R i).q = v6 at *
      go_wp2_with fail
      refine C.mono ?_
      rintro e w2 ⟨v, rfl, hcl, hb2⟩
      clear C c0 c1 c2 c3 c4 c5
      have hBz : w.heap.size + 1 ≤ wr.heap.size := F.lt
      obtain ⟨x, rfl, hx, hl⟩ := hcl.rule
      have F2 := RsF_below F hb2
      have F3 := RsF_put F2 hsi hx (hl.mono hBz)
      have hB2 := hB.trans (hb2.mono (by omega))
      have hB3 := set6_below hB2 (Nat.le_refl _) (i * 6) x.v.val x.g.val x.r.val x.m.val x.y.val (.bool x.q)
      obtain ⟨⟨u0, e0⟩, f0⟩ := F2.old (i * 6) (by omega)
      obtain ⟨⟨u1, e1⟩, f1⟩ := F2.old (i * 6 + 1) (by omega)
      obtain ⟨⟨u2, e2⟩, f2⟩ := F2.old (i * 6 + 2) (by omega)
      obtain ⟨⟨u3, e3⟩, f3⟩ := F2.old (i * 6 + 3) (by omega)
      obtain ⟨⟨u4, e4⟩, f4⟩ := F2.old (i * 6 + 4) (by omega)
      obtain ⟨⟨u5, e5⟩, f5⟩ := F2.old (i * 6 + 5) (by omega)
      have G3 := hid F3
      have GB := hid hB3
      clear F F2 F3 hB hB2 hB3 hx hl
      unfold RD.val SD.val
      go_wp2
      go_roundg (n - (i + 1))
      case measure => omega
      case rel => exact ⟨i + 1, _, by go_num, by omega, rfl, G3.out, GB.out⟩
    · have e : i = n := by omega
      rw [e] at F
      have HN' := HN.out
      go_wp2
      go_ret
      exact ⟨⟨some ⟨w.heap.size, 0, none⟩, n, n, w.heap.size, 0, R⟩, rfl, ⟨by show n ≤ _; omega, fun _ => rfl, fun _ => F.lt, fun i hi => by simpa using F.c0 i hi, fun i hi => by simpa using F.c1 i hi, fun i hi => by simpa using F.c2 i hi, fun i hi => by simpa using F.c3 i hi, fun i hi => by simpa using F.c4 i hi, fun i hi => by simpa using F.c5 i hi, F.ok⟩,
        ⟨HN'.symm, fun _ => Nat.le_refl _, fun i hi => (F.like i (by omega)).mono (by omega)⟩, hB⟩
end Go.Proofs.Qxb6606073a
