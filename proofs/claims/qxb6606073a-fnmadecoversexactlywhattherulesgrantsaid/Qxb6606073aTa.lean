import Derived.Test.Qxb6606073aCf
set_option linter.unusedSimpArgs false
set_option linter.unusedVariables false
namespace Go.Proofs.Qxb6606073a
open Go.RowKit

theorem Try.info34 : (Try.prog.info? 34).map (fun i => (i.zero, i.size, i.bytes)) = some (some (.agg #[.slice none 0 0, .slice none 0 0, .slice none 0 0, .slice none 0 0, .slice none 0 0, .bool false]), 6, 128) := by kernel_rfl

set_option maxRecDepth 20000 in
set_option maxHeartbeats 1000000 in
theorem toRR15 (r : RD) (w : World) : Calls Try.prog 15 #[r.val] w fun e w' => e = .returned r.val ∧ Below w.heap.size w w' := by
  unfold RD.val SD.val
  go_enter Try.func15, Try.ntmps15
  go_wp2
  refine bodyPost_ret (v := .agg #[.slice r.v.a r.v.n r.v.c, .slice r.g.a r.g.n r.g.c, .slice r.r.a r.r.n r.r.c, .slice r.m.a r.m.n r.m.c, .slice r.y.a r.y.n r.y.c, .bool r.q]) (by simp [results, Try.results15, go_sem]) rfl ⟨rfl, ?_⟩
  exact ((Below.refl _ _).alloc (Nat.le_refl _) _).alloc (by simp) _

/-- The rules filled so far, each as it is. -/
structure RsG (s : RsD) (w : World) (b k : Nat) : Prop where
  lt : b < w.heap.size
  old : ∀ i, i < s.n * 6 → (∃ v, w.cell? ⟨b, i, none⟩ = some v) ∧ w.frozen? ⟨b, i, none⟩ = false
  c0 : ∀ i, i < k → w.cell? ⟨b, i * 6, none⟩ = some (s.R i).v.val
  c1 : ∀ i, i < k → w.cell? ⟨b, i * 6 + 1, none⟩ = some (s.R i).g.val
  c2 : ∀ i, i < k → w.cell? ⟨b, i * 6 + 2, none⟩ = some (s.R i).r.val
  c3 : ∀ i, i < k → w.cell? ⟨b, i * 6 + 3, none⟩ = some (s.R i).m.val
  c4 : ∀ i, i < k → w.cell? ⟨b, i * 6 + 4, none⟩ = some (s.R i).y.val
  c5 : ∀ i, i < k → w.cell? ⟨b, i * 6 + 5, none⟩ = some (.bool (s.R i).q)

theorem RsG_below {s : RsD} {w w' : World} {b k : Nat} (h : RsG s w b k) (hb : Below w.heap.size w w') : RsG s w' b k := by
  have hc : ∀ x, w'.cell? ⟨b, x, none⟩ = w.cell? ⟨b, x, none⟩ := fun x => hb.cell (p := ⟨b, x, none⟩) h.lt
  exact ⟨Nat.lt_of_lt_of_le h.lt hb.size, fun i hi => by rw [hc, hb.frozen (p := ⟨b, i, none⟩) h.lt]; exact h.old i hi, fun i hi => (hc _).trans (h.c0 i hi), fun i hi => (hc _).trans (h.c1 i hi), fun i hi => (hc _).trans (h.c2 i hi),
    fun i hi => (hc _).trans (h.c3 i hi), fun i hi => (hc _).trans (h.c4 i hi), fun i hi => (hc _).trans (h.c5 i hi)⟩

theorem RsG_put {s : RsD} {w : World} {b k : Nat} (h : RsG s w b k) (hk : k < s.n) :
    RsG s (set6 w b (k * 6) (s.R k).v.val (s.R k).g.val (s.R k).r.val (s.R k).m.val (s.R k).y.val (.bool (s.R k).q)) b (k + 1) := by
  obtain ⟨u0, e0⟩ := (h.old (k * 6) (by omega)).1
  obtain ⟨u1, e1⟩ := (h.old (k * 6 + 1) (by omega)).1
  obtain ⟨u2, e2⟩ := (h.old (k * 6 + 2) (by omega)).1
  obtain ⟨u3, e3⟩ := (h.old (k * 6 + 3) (by omega)).1
  obtain ⟨u4, e4⟩ := (h.old (k * 6 + 4) (by omega)).1
  obtain ⟨u5, e5⟩ := (h.old (k * 6 + 5) (by omega)).1
  obtain ⟨g0, g1, g2, g3, g4, g5⟩ := set6_cells e0 e1 e2 e3 e4 e5 (s.R k).v.val (s.R k).g.val (s.R k).r.val (s.R k).m.val (s.R k).y.val (.bool (s.R k).q)
  refine ⟨by rw [set6_size]; exact h.lt, fun i hi => ?_, fun i hi => ?_, fun i hi => ?_, fun i hi => ?_, fun i hi => ?_, fun i hi => ?_, fun i hi => ?_⟩
  · rw [set6_frozen]
    refine ⟨?_, (h.old i hi).2⟩
    obtain ⟨u, hu⟩ := (h.old i hi).1
    unfold set6
    obtain ⟨_, a1⟩ := cell?_setCell_some (p := ⟨b, k * 6, none⟩) (x := (s.R k).v.val) hu
    obtain ⟨_, a2⟩ := cell?_setCell_some (p := ⟨b, k * 6 + 1, none⟩) (x := (s.R k).g.val) a1
    obtain ⟨_, a3⟩ := cell?_setCell_some (p := ⟨b, k * 6 + 2, none⟩) (x := (s.R k).r.val) a2
    obtain ⟨_, a4⟩ := cell?_setCell_some (p := ⟨b, k * 6 + 3, none⟩) (x := (s.R k).m.val) a3
    obtain ⟨_, a5⟩ := cell?_setCell_some (p := ⟨b, k * 6 + 4, none⟩) (x := (s.R k).y.val) a4
    exact cell?_setCell_some a5
  all_goals by_cases e : i = k
  · subst e; exact g0
  · rw [set6_other _ _ _ _ _ _ (by right; show i * 6 < _ ∨ _ ≤ i * 6; omega)]; exact h.c0 i (by omega)
  · subst e; exact g1
  · rw [set6_other _ _ _ _ _ _ (by right; show i * 6 + 1 < _ ∨ _ ≤ i * 6 + 1; omega)]; exact h.c1 i (by omega)
  · subst e; exact g2
  · rw [set6_other _ _ _ _ _ _ (by right; show i * 6 + 2 < _ ∨ _ ≤ i * 6 + 2; omega)]; exact h.c2 i (by omega)
  · subst e; exact g3
  · rw [set6_other _ _ _ _ _ _ (by right; show i * 6 + 3 < _ ∨ _ ≤ i * 6 + 3; omega)]; exact h.c3 i (by omega)
  · subst e; exact g4
  · rw [set6_other _ _ _ _ _ _ (by right; show i * 6 + 4 < _ ∨ _ ≤ i * 6 + 4; omega)]; exact h.c4 i (by omega)
  · subst e; exact g5
  · rw [set6_other _ _ _ _ _ _ (by right; show i * 6 + 5 < _ ∨ _ ≤ i * 6 + 5; omega)]; exact h.c5 i (by omega)

set_option maxRecDepth 20000 in
set_option maxHeartbeats 1000000 in
theorem toRRs14 (s : RsD) (w : World) (h : s.ok w) (hn : s.n ≤ 65536) :
    Calls Try.prog 14 #[s.val] w fun e w' => ∃ b, e = .returned (.slice (some ⟨b, 0, none⟩) s.n s.n) ∧ RsG s w' b s.n ∧ w.heap.size ≤ b ∧ Below w.heap.size w w' := by
  have HO := hid h
  have HA := hid h.ad
  clear h
  unfold RsD.val
  obtain ⟨i1, hi1, hz01, hz11, hz21⟩ := info_parts Try.info34
  generalize hsn : s.n = n at *
  have HN := hid hsn
  generalize hsa : s.a = a at *
  clear hsn hsa
  go_enter Try.func14, Try.ntmps14
  go_wp2_with (at_make; refine wpList_make_full _ rfl _ _ 31 rfl w.heap.size 34 i1 (.agg #[.slice none 0 0, .slice none 0 0, .slice none 0 0, .slice none 0 0, .slice none 0 0, .bool false]) 6 Try.underlying31 hi1 hz01 hz11 .i64 .i64 _ _ n rfl rfl rfl rfl ?_ ?_ ?_ ?_)
  · first | omega | (rw [hz21]; omega)
  · unfold maxLen; omega
  · exact Nat.le_refl _
  intro W1 hown1 hgrow1
  have hB1 : Below w.heap.size w W1 := (Below.refl _ _).grown hgrow1 (Nat.le_refl _) (by intro k e; cases e)
  have R1 : RsG s W1 w.heap.size 0 := by
    refine ⟨own_lt hown1, fun i hi => ⟨?_, World.ownsRow.frozenAt hown1 i⟩, fun i hi => by omega, fun i hi => by omega, fun i hi => by omega, fun i hi => by omega, fun i hi => by omega, fun i hi => by omega⟩
    rw [HN.out] at hi
    obtain ⟨v, hv⟩ := madeN_at #[.slice none 0 0, .slice none 0 0, .slice none 0 0, .slice none 0 0, .slice none 0 0, .bool false] (n * 6) i hi
    exact ⟨v, (World.ownsRow.cellAt hown1 i (by omega)).trans hv⟩
  clear hown1 hgrow1
  go_wp2
  go_loopg [4] n (fun g v wx => ∃ (i : Nat), v = .int .i64 i ∧ i ≤ n ∧ g = n - i ∧ RsG s wx w.heap.size i ∧ Below w.heap.size w wx)
  case atStart => exact ⟨0, rfl, Nat.zero_le _, rfl, R1, hB1⟩
  case round =>
  clear R1 hB1
  obtain ⟨i, rfl, hi, hg, F, hB⟩ := hrel
  by_cases hlt : i < n
  · have hsi : i < s.n := by rw [HN.out]; exact hlt
    obtain rfl := HA.out (by omega)
    have ok' := HO.out.below hB
    have C := toRR15 (s.R i) wr
    have c0 := ok'.c0 i hsi
    have c1 := ok'.c1 i hsi
    have c2 := ok'.c2 i hsi
    have c3 := ok'.c3 i hsi
    have c4 := ok'.c4 i hsi
    have c5 := ok'.c5 i hsi
    unfold RD.val SD.val at C
    unfold SD.val at c0 c1 c2 c3 c4
    clear ok'
    go_wp2_with fail
    refine C.mono ?_
    rintro e w2 ⟨rfl, hb2⟩
    clear C c0 c1 c2 c3 c4 c5
    have F2 := RsG_below F hb2
    have F3 := RsG_put F2 hsi
    have hB2 := hB.trans (hb2.mono hB.size)
    have hB3 := set6_below hB2 (Nat.le_refl _) (i * 6) (s.R i).v.val (s.R i).g.val (s.R i).r.val (s.R i).m.val (s.R i).y.val (.bool (s.R i).q)
    obtain ⟨⟨u0, e0⟩, f0⟩ := F2.old (i * 6) (by omega)
    obtain ⟨⟨u1, e1⟩, f1⟩ := F2.old (i * 6 + 1) (by omega)
    obtain ⟨⟨u2, e2⟩, f2⟩ := F2.old (i * 6 + 2) (by omega)
    obtain ⟨⟨u3, e3⟩, f3⟩ := F2.old (i * 6 + 3) (by omega)
    obtain ⟨⟨u4, e4⟩, f4⟩ := F2.old (i * 6 + 4) (by omega)
    obtain ⟨⟨u5, e5⟩, f5⟩ := F2.old (i * 6 + 5) (by omega)
    have G3 := hid F3
    have GB := hid hB3
    clear F F2 F3 hB hB2 hB3
    go_wp2
    go_roundg (n - (i + 1))
    case measure => omega
    case rel => exact ⟨i + 1, by go_num, by omega, rfl, G3.out, GB.out⟩
  · have e : i = n := by omega
    rw [e] at F
    have HN' := HN.out
    go_wp2
    go_ret
    exact ⟨_, rfl, F, Nat.le_refl _, hB⟩
end Go.Proofs.Qxb6606073a
