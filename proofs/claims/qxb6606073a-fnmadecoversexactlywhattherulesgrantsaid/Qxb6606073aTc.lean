import Derived.Test.Qxb6606073aTb
set_option linter.unusedSimpArgs false
set_option linter.unusedVariables false
namespace Go.Proofs.Qxb6606073a
open Go.RowKit

theorem set3_below {B : Nat} {a w : World} (h : Below B a w) {b : Nat} (hb : B ≤ b) (o : Nat) (v0 v1 v2 : Value) : Below B a (set3 w b o v0 v1 v2) :=
  ((h.setCell (p := ⟨b, o, none⟩) hb v0).setCell (p := ⟨b, o + 1, none⟩) hb v1).setCell (p := ⟨b, o + 2, none⟩) hb v2
theorem NsG_drew {s : PsD} {w : World} {b k : Nat} (h : NsG s w b k) : NsG s w.drew b k := NsG_block h rfl (Nat.le_refl _)

set_option maxRecDepth 20000 in
set_option maxHeartbeats 2000000 in
theorem subjects26 (s : EsD) (w : World) (h : s.ok w) (hbd : Bd s) :
    Calls Try.prog 26 #[s.val] w fun e w' => ∃ b, e = .returned (.slice (some ⟨b, 0, none⟩) s.n s.n) ∧ SubsG s w' b s.n ∧ w.heap.size ≤ b ∧ Below w.heap.size w w' := by
  have hn := hbd.n
  have HA := hid h.ad
  have HO := hid h
  have HB := hid hbd
  clear h hbd
  unfold EsD.val
  generalize hsn : s.n = n at *
  have HN := hid hsn
  generalize hsa : s.a = a at *
  clear hsn hsa
  obtain ⟨i1, hi1, hz01, hz11, hz21⟩ := info_parts Try.info77
  obtain ⟨i2, hi2, hz02, hz12, hz22⟩ := info_parts Try.info76
  go_enter Try.func26, Try.ntmps26
  go_wp2_with (at_make; refine wpList_make_full _ rfl _ _ 46 rfl w.heap.size 77 i1 (.pointer none) 1 Try.underlying46 hi1 hz01 hz11 .i64 .i64 _ _ n rfl rfl rfl rfl ?_ ?_ ?_ ?_)
  · first | omega | (rw [hz21]; omega)
  · unfold maxLen; omega
  · exact Nat.le_refl _
  intro W1 hown1 hgrow1
  have hB1 : Below w.heap.size w W1 := (Below.refl _ _).grown hgrow1 (Nat.le_refl _) (by intro k e; cases e)
  have R1 : SubsG s W1 w.heap.size 0 := by
    refine ⟨own_lt hown1, fun i hi => ⟨⟨_, (World.ownsRow.cellAt hown1 i (by rw [HN.out] at hi; omega)).trans (made_at _ _ i (by rw [HN.out] at hi; omega))⟩, World.ownsRow.frozenAt hown1 i⟩, fun i hi => by omega⟩
  clear hown1 hgrow1
  go_wp2
  go_loopg [4] n (fun g v wx => ∃ (i : Nat), v = .int .i64 i ∧ i ≤ n ∧ g = n - i ∧ SubsG s wx w.heap.size i ∧ Below w.heap.size w wx)
  case atStart => exact ⟨0, rfl, Nat.zero_le _, rfl, R1, hB1⟩
  case round =>
  clear R1 hB1
  obtain ⟨i, rfl, hi, hg, F, hB⟩ := hrel
  by_cases hlt : i < n
  · have hsi : i < s.n := by rw [HN.out]; exact hlt
    obtain rfl := HA.out (by omega)
    have ok' := HO.out.below hB
    have c0 := ok'.c0 i hsi
    have c1 := ok'.c1 i hsi
    have okp := ok'.ps i hsi
    have C := toRRs14 (s.rs i) wr (ok'.rs i hsi) (HB.out.rn i hsi)
    have hpn := HB.out.pn i hsi
    have HPA := hid okp.ad
    unfold RsD.val at C c0
    unfold PsD.val at c1
    clear ok'
    have hFlt := F.lt
    generalize hrn' : (s.rs i).n = m at *
    generalize (s.rs i).a = ra at *
    generalize (s.rs i).c = rc at *
    generalize hpn' : (s.ps i).n = l at *
    generalize hpa : (s.ps i).a = pa at *
    generalize (s.ps i).c = pc at *
    have HRN := hid hrn'
    have HPN := hid hpn'
    clear hrn' hpn' hpa
    go_wp2_with fail
    refine C.mono ?_
    rintro en w2 ⟨rb, rfl, hR, hrb, hb2⟩
    clear C c0
    have hbo : s.b < wr.heap.size := Nat.lt_of_lt_of_le (HO.out.lt (by omega)) hB.size
    have c1 := (hb2.cell (p := ⟨s.b, s.o + i * 2 + 1, none⟩) hbo).trans c1
    have F2 := hid (SubsG_below F hb2)
    have hB2 := hid (hB.trans (hb2.mono hB.size))
    have HR := hid hR
    have HPO := hid (okp.below hb2)
    clear hR okp F hB
    go_wp2_with (at_make; refine wpList_make_full _ rfl _ _ 74 rfl w2.heap.size 76 i2 (.agg #[.slice none 0 0, .slice none 0 0, .slice none 0 0]) 3 Try.underlying74 hi2 hz02 hz12 .i64 .i64 _ _ l rfl rfl rfl rfl ?_ ?_ ?_ ?_)
    · first | omega | (rw [hz22]; omega)
    · unfold maxLen; omega
    · exact Nat.le_refl _
    intro W3 hown3 hgrow3
    have hB3 : Below w2.heap.size w2 W3 := (Below.refl _ _).grown hgrow3 (Nat.le_refl _) (by intro k e; cases e)
    have R3 : NsG (s.ps i) W3 w2.heap.size 0 := by
      refine ⟨own_lt hown3, fun i hi => ⟨?_, World.ownsRow.frozenAt hown3 i⟩, fun i hi => by omega, fun i hi => by omega, fun i hi => by omega⟩
      rw [HPN.out] at hi
      obtain ⟨v, hv⟩ := madeN_at #[.slice none 0 0, .slice none 0 0, .slice none 0 0] (l * 3) i hi
      exact ⟨v, (World.ownsRow.cellAt hown3 i (by omega)).trans hv⟩
    clear hown3 hgrow3
    go_wp2
    go_loopg [8] l (fun g v wx => ∃ (k : Nat), v = .int .i64 k ∧ k ≤ l ∧ g = l - k ∧ NsG (s.ps i) wx w2.heap.size k ∧ Below w2.heap.size w2 wx)
    case atStart => exact ⟨0, rfl, Nat.zero_le _, rfl, R3, hB3⟩
    case round =>
    clear R3 hB3
    obtain ⟨k, rfl, hk, hgk, G, hB4⟩ := hrel
    by_cases hkl : k < l
    · have hsk : k < (s.ps i).n := by rw [HPN.out]; exact hkl
      obtain rfl := HPA.out (by omega)
      have ok' := HPO.out.below hB4
      have c0 := ok'.c0 k hsk
      have c1 := ok'.c1 k hsk
      unfold SD.val at c0 c1
      have G2 := NsG_put (NsG_drew G) hsk
      have hB5 := hid (set3_below hB4.drew (Nat.le_refl _) (k * 3) ((s.ps i).P k).v.val ((s.ps i).P k).u.val (.slice none 0 0))
      obtain ⟨⟨u0, e0⟩, f0⟩ := G.old (k * 3) (by omega)
      obtain ⟨⟨u1, e1⟩, f1⟩ := G.old (k * 3 + 1) (by omega)
      obtain ⟨⟨u2, e2⟩, f2⟩ := G.old (k * 3 + 2) (by omega)
      have HG2 := hid G2
      clear ok' G G2 hB4
      go_wp2
      go_region
      all_goals go_wp2
      all_goals go_roundg (l - (k + 1))
      case measure => omega
      case rel => exact ⟨k + 1, by go_num, by omega, rfl, HG2.out, hB5.out⟩
    · have e : k = l := by omega
      subst e
      have hx := HPN.out
      have hx2 := HRN.out
      have hx3 := F2.out.lt
      have hB6 := (Below.refl wr.heap.size wr).alloc (Nat.le_refl _) (.cells #[.string ⟨#[]⟩, .bool false, .string ⟨#[]⟩, .string ⟨#[]⟩, .bool false, .slice (some ⟨rb, 0, none⟩) m m, .slice (some ⟨w2.heap.size, 0, none⟩) k k] 79)
      have x5 := box_cell wr #[.string ⟨#[]⟩, .bool false, .string ⟨#[]⟩, .string ⟨#[]⟩, .bool false, .slice (some ⟨rb, 0, none⟩) m m, .slice (some ⟨w2.heap.size, 0, none⟩) k k] 79 5
      have x6 := box_cell wr #[.string ⟨#[]⟩, .bool false, .string ⟨#[]⟩, .string ⟨#[]⟩, .bool false, .slice (some ⟨rb, 0, none⟩) m m, .slice (some ⟨w2.heap.size, 0, none⟩) k k] 79 6
      have hsz : wr.heap.size < (wr.alloc (.cells #[.string ⟨#[]⟩, .bool false, .string ⟨#[]⟩, .string ⟨#[]⟩, .bool false, .slice (some ⟨rb, 0, none⟩) m m, .slice (some ⟨w2.heap.size, 0, none⟩) k k] 79)).heap.size := by simp
      simp only [List.getElem?_toArray, List.getElem?_cons_zero, List.getElem?_cons_succ] at x5 x6
      have S4 : SubAt s i (wr.alloc (.cells #[.string ⟨#[]⟩, .bool false, .string ⟨#[]⟩, .string ⟨#[]⟩, .bool false, .slice (some ⟨rb, 0, none⟩) m m, .slice (some ⟨w2.heap.size, 0, none⟩) k k] 79)) (w.heap.size + 1) wr.heap.size rb w2.heap.size :=
        ⟨by have := hB4.size; omega, by omega, by omega, hsz, by rw [hx2]; exact x5, by rw [hx]; exact x6, by rw [hx2]; exact RsG_below (RsG_below HR.out hB4) hB6, by rw [hx]; exact NsG_block G (hB6.block _ G.lt) hB6.size⟩
      have F4 := SubsG_below (SubsG_below F2.out hB4) hB6
      have F5 := hid (SubsG_put F4 hsi S4)
      have hB7 := hB2.out.trans (hB4.mono hB2.out.size)
      have hB8 := hid ((hB7.trans (hB6.mono hB7.size)).setCell (p := ⟨w.heap.size, i, none⟩) (Nat.le_refl _) (.pointer (some ⟨wr.heap.size, 0, none⟩)))
      obtain ⟨⟨u0, e0⟩, f0⟩ := F4.old i hsi
      clear F4 S4 G hB4 hB6 hB7 x5 x6 hsz
      go_wp2
      go_roundg (n - (i + 1))
      case measure => omega
      case rel => exact ⟨i + 1, by go_num, by omega, rfl, F5.out, hB8.out⟩
  · have e : i = n := by omega
    rw [e] at F
    go_wp2
    go_ret
    exact ⟨_, rfl, F, Nat.le_refl _, hB⟩

theorem newCov25 (a : Option Addr) (n c : Nat) (w : World) :
    Calls Try.prog 25 #[.slice a n c] w fun e w' => e = .returned (.pointer (some ⟨w.heap.size, 0, none⟩)) ∧ w' = w.alloc (.cells #[.slice a n c, .map none, .map none] 73) := by
  go_enter Try.func25, Try.ntmps25
  go_wp2
  go_ret
  exact ⟨rfl, rfl⟩
end Go.Proofs.Qxb6606073a
