import Derived.Test.Qxb6606073aSc
set_option linter.unusedSimpArgs false
set_option linter.unusedVariables false
namespace Go.Proofs.Qxb6606073a
open Go.RowKit

def RetInt (e : Ending) : Prop := ∃ t : Int, e = .returned (.int .i64 t)

theorem rb_of (e : EsD) (h : cap (entriesT e) ≤ 1048576) : ∀ i j, i < e.n → j < (e.rs i).n → RB ((e.rs i).R j) := by
  intro i j hi hj
  have hT := cap_sm h
  have hent := Nat.le_trans (ssum_one (entT e) hi) hT
  have hrs : rulesT (e.rs i) ≤ 1048576 := by unfold entT at hent; exact cap_sm (by omega)
  have hru : ruleT ((e.rs i).R j) ≤ 1048576 := by
    have h2 := ssum_one (fun j => cap (ruleT ((e.rs i).R j))) hj
    unfold rulesT at hrs
    exact cap_sm (Nat.le_trans h2 hrs)
  unfold ruleT at hru
  have sz : ∀ s : SD, cap (strsT s) ≤ 1048576 → ∀ k, k < s.n → (s.S k).size ≤ 1048576 := fun s hs k hk => by
    have h1 := cap_sm hs
    have h2 := ssum_one (fun i => (s.S i).size) hk
    unfold strsT at h1
    omega
  exact ⟨strs_n (by omega), strs_n (by omega), strs_n (by omega), strs_n (by omega), sz _ (by omega), sz _ (by omega), sz _ (by omega)⟩

set_option maxRecDepth 20000 in
set_option maxHeartbeats 2000000 in
theorem entriesCost23 (s : EsD) (w : World) (h : s.ok w) (hbd : Bd s) (hrb : ∀ i j, i < s.n → j < (s.rs i).n → RB ((s.rs i).R j)) : Calls Try.prog 23 #[s.val] w fun e w' => RetInt e ∧ Below w.heap.size w w' := by
  have hn := hbd.n
  have HA := hid h.ad
  have HO := hid h
  have HB := hid hbd
  have HRB := hid hrb
  clear h hbd hrb
  unfold EsD.val
  generalize hsn : s.n = n at *
  have HN := hid hsn
  generalize hsa : s.a = a at *
  clear hsn hsa
  go_enter Try.func23, Try.ntmps23
  go_wp2
  go_loopg [3, 4] n (fun g v3 v4 wx => (∃ (t i : Nat), v3 = .int .i64 t ∧ v4 = .int .i64 i ∧ t ≤ 67108864 + i ∧ i ≤ n ∧ g = n - i) ∧ Below w.heap.size w wx)
  case atStart => exact ⟨⟨0, 0, rfl, rfl, by omega, Nat.zero_le _, rfl⟩, Below.refl _ _⟩
  case round =>
  obtain ⟨⟨t, i, rfl, rfl, ht, hi, hg⟩, hB⟩ := hrel
  by_cases hlt : i < n
  · obtain rfl := HA.out (by omega)
    have ok' := HO.out.below hB
    have hsi : i < s.n := by rw [HN.out]; exact hlt
    have c0 := ok'.c0 i hsi
    have okr := ok'.rs i hsi
    have hrn := HB.out.rn i hsi
    have HRA := hid okr.ad
    have HRO := hid okr
    have HRR : Hid (∀ j, j < (s.rs i).n → RB ((s.rs i).R j)) := fun j hj => HRB.out i j (by rw [← HN.out]; exact hsi) hj
    unfold RsD.val at c0
    clear ok' okr
    generalize s.rs i = r at *
    generalize hrn' : r.n = m at *
    have HRN := hid hrn'
    generalize hra : r.a = ra at *
    clear hrn' hra
    obtain ⟨wo, rfl⟩ : ∃ wo : World, wo = wr := ⟨_, rfl⟩
    go_wp2
    go_loopg [3, 6] m (fun g v3 v6 wx => (∃ (t j : Nat), v3 = .int .i64 t ∧ v6 = .int .i64 j ∧ t ≤ 67108864 + (i + 1) ∧ j ≤ m ∧ g = m - j) ∧ Below wo.heap.size wo wx)
    case atStart => exact ⟨⟨t + 1, 0, by go_num, rfl, by omega, Nat.zero_le _, rfl⟩, Below.refl _ _⟩
    case round =>
    clear c0
    obtain ⟨⟨t2, j, rfl, rfl, ht2, hj, hgj⟩, hB2⟩ := hrel
    have hB3 := hB.trans (hB2.mono hB.size)
    by_cases hjm : j < m
    · obtain rfl := HRA.out (by omega)
      have ok' := HRO.out.below hB2
      have hsj : j < r.n := by rw [HRN.out]; exact hjm
      have C := ruleCost46 (r.R j) wr (ok'.R j hsj) (HRR.out j (by rw [← HRN.out]; exact hsj))
      have c0 := ok'.c0 j hsj
      have c1 := ok'.c1 j hsj
      have c2 := ok'.c2 j hsj
      have c3 := ok'.c3 j hsj
      have c4 := ok'.c4 j hsj
      have c5 := ok'.c5 j hsj
      unfold RD.val at C
      clear ok' hsj
      generalize (r.R j).v.val = v1 at *
      generalize (r.R j).g.val = v2 at *
      generalize (r.R j).r.val = v3 at *
      generalize (r.R j).m.val = v4 at *
      generalize (r.R j).y.val = v5 at *
      generalize (r.R j).q = v6 at *
      go_wp2_with fail
      refine C.mono ?_
      rintro e w2 ⟨z, rfl, hz, hb2⟩
      clear C c0 c1 c2 c3 c4 c5
      have hB4 := hB2.trans (hb2.mono hB2.size)
      have hB5 := hB3.trans (hb2.mono hB3.size)
      by_cases hy : t2 + z ≤ 67108864
      · go_wp2
        go_roundg (m - (j + 1))
        case measure => omega
        case rel => exact ⟨⟨t2 + z, j + 1, by go_num, by go_num, by omega, by omega, rfl⟩, hB4⟩
      · go_wp2
        go_ret
        exact ⟨⟨_, rfl⟩, hB5⟩
    · clear HRA HRO HRR HRN
      have ok2 := HO.out.below hB3
      have c1 := ok2.c1 i hsi
      have okp := ok2.ps i hsi
      have hpn := HB.out.pn i hsi
      have HPA := hid okp.ad
      have HPO := hid okp
      have HPV : Hid (∀ k, k < (s.ps i).n → ((s.ps i).P k).v.n ≤ 65536 ∧ ((s.ps i).P k).u.n ≤ 65536) := fun k hk => ⟨HB.out.pv i k hsi hk, HB.out.pu i k hsi hk⟩
      unfold PsD.val at c1
      clear ok2 okp
      generalize s.ps i = p at *
      generalize hpn' : p.n = l at *
      have HPN := hid hpn'
      generalize hpa : p.a = pa at *
      clear hpn' hpa
      obtain ⟨wo2, rfl⟩ : ∃ wo2 : World, wo2 = wr := ⟨_, rfl⟩
      go_wp2
      go_loopg [3, 8] l (fun g v3 v8 wx => (∃ (t k : Nat), v3 = .int .i64 t ∧ v8 = .int .i64 k ∧ t ≤ 67108864 + (i + 1) ∧ k ≤ l ∧ g = l - k) ∧ Below wo2.heap.size wo2 wx)
      case atStart => exact ⟨⟨t2, 0, rfl, rfl, by omega, Nat.zero_le _, rfl⟩, Below.refl _ _⟩
      case round =>
      clear c1
      obtain ⟨⟨t3, k, rfl, rfl, ht3, hk, hgk⟩, hB4⟩ := hrel
      have hB5 := hB3.trans (hB4.mono hB3.size)
      by_cases hkl : k < l
      · obtain rfl := HPA.out (by omega)
        have ok' := HPO.out.below hB4
        have hsk : k < p.n := by rw [HPN.out]; exact hkl
        have c0 := ok'.c0 k hsk
        have c1 := ok'.c1 k hsk
        obtain ⟨hv, hu⟩ := HPV.out k (by rw [← HPN.out]; exact hsk)
        unfold SD.val at c0 c1
        clear ok' hsk
        generalize (p.P k).v.n = n1 at *
        generalize (p.P k).u.n = n2 at *
        have C := fun q => mulCap42 n1 (1 + n2) (wr.drewN q) (by omega) (by omega)
        have hz := mulC_bd n1 (1 + n2)
        generalize mulC n1 (1 + n2) = z at *
        have i1 : (k : Int) < (l : Int) := by omega
        have i2 : (0 : Int) ≤ (k : Int) := by omega
        go_wp2
        go_quiet ((go_at_call 42; exact quiet_eq (C _)))
        have hB6 := below_drewN hB4 nq
        have hB7 := below_drewN hB5 nq
        clear C c0 c1
        by_cases hy : t3 + z ≤ 67108864
        · go_wp2
          go_roundg (l - (k + 1))
          case measure => omega
          case rel => exact ⟨⟨t3 + z, k + 1, by go_num, by go_num, by omega, by omega, rfl⟩, hB6⟩
        · go_wp2
          go_ret
          exact ⟨⟨_, rfl⟩, hB7⟩
      · go_wp2
        go_roundg (n - (i + 1))
        case measure => omega
        case rel => exact ⟨⟨t3, i + 1, rfl, by go_num, by omega, by omega, rfl⟩, hB5⟩
  · go_wp2
    go_ret
    exact ⟨⟨_, rfl⟩, hB⟩
end Go.Proofs.Qxb6606073a
