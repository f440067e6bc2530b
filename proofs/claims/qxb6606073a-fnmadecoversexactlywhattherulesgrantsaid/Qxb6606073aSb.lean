import Derived.Test.Qxb6606073aSa
set_option linter.unusedSimpArgs false
set_option linter.unusedVariables false
namespace Go.Proofs.Qxb6606073a
open Go.RowKit

def pathsT (s : PsD) : Nat := ssum (fun j => cap (pathT (s.P j))) s.n
theorem paths_ge (s : PsD) : 48 * s.n ≤ pathsT s := by
  have h := ssum_mono (f := fun _ => 48) (g := fun i => cap (pathT (s.P i))) s.n (fun i _ => cap_path _)
  rw [ssum_const] at h
  exact h
def entT (e : EsD) (i : Nat) : Nat := 48 + cap (rulesT (e.rs i)) + pathsT (e.ps i)
def entriesT (e : EsD) : Nat := ssum (entT e) e.n
theorem entries_ge (e : EsD) : 48 * e.n ≤ entriesT e := by
  have h := ssum_mono (f := fun _ => 48) (g := entT e) e.n (fun i _ => by unfold entT; omega)
  rw [ssum_const] at h
  exact h

set_option maxRecDepth 20000 in
set_option maxHeartbeats 2000000 in
theorem entriesBytes21 (s : EsD) (w : World) (h : s.ok w) : Calls Try.prog 21 #[s.val] w fun e w' => e = .returned (.int .i64 (cap (entriesT s) : Nat)) ∧ Below w.heap.size w w' := by
  have hn := h.n_le
  have HA := hid h.ad
  have HO := hid h
  have hge := entries_ge s
  have HF : Hid (entriesT s = ssum (entT s) s.n) := rfl
  clear h
  unfold EsD.val
  generalize entriesT s = T at *
  by_cases h1 : s.n ≤ 1048576
  · generalize hsn : s.n = n at *
    have HN := hid hsn
    generalize hsa : s.a = a at *
    clear hsn hsa
    go_enter Try.func21, Try.ntmps21
    go_wp2
    go_loopg [3, 4] n (fun g v3 v4 wx => (∃ (t i : Nat), v3 = .int .i64 t ∧ v4 = .int .i64 i ∧ Hid (t = ssum (entT s) i) ∧ t ≤ 1048576 ∧ i ≤ n ∧ g = n - i) ∧ Below w.heap.size w wx)
    case atStart => exact ⟨⟨0, 0, rfl, rfl, hid rfl, by omega, Nat.zero_le _, rfl⟩, Below.refl _ _⟩
    case round =>
    obtain ⟨⟨t, i, rfl, rfl, ht, hts, hi, hg⟩, hB⟩ := hrel
    by_cases hlt : i < n
    · obtain rfl := HA.out (by omega)
      have ok' := HO.out.below hB
      have hsi : i < s.n := by rw [HN.out]; exact hlt
      have C := rulesBytes8 (s.rs i) wr (ok'.rs i hsi)
      have c0 := ok'.c0 i hsi
      have hat := ssum_at (entT s) hlt
      have hTT : Hid (t + entT s i ≤ T) := by rw [HF.out, ht.out]; exact hat
      have ht2 : Hid (t + entT s i = ssum (entT s) (i + 1)) := by rw [ht.out]; rfl
      have hbd := cap_bd (rulesT (s.rs i))
      have HE : Hid (entT s i = 48 + cap (rulesT (s.rs i)) + pathsT (s.ps i)) := rfl
      clear hat ok'
      generalize cap (rulesT (s.rs i)) = z at *
      generalize (s.rs i).val = v1 at *
      go_wp2_with fail
      refine C.mono ?_
      rintro e w2 ⟨rfl, hb2⟩
      clear C c0
      have hB2 := hB.trans (hb2.mono hB.size)
      by_cases hy : t + (48 + z) ≤ 1048576
      · have ok2 := HO.out.below hB2
        have c1 := ok2.c1 i hsi
        have okp := ok2.ps i hsi
        have hpge := paths_ge (s.ps i)
        have hpn := okp.n_le
        have HPA := hid okp.ad
        have HPO := hid okp
        have HPF : Hid (pathsT (s.ps i) = ssum (fun j => cap (pathT ((s.ps i).P j))) (s.ps i).n) := rfl
        unfold PsD.val at c1
        clear ok2 okp hB hb2
        generalize s.ps i = p at *
        have hTT2 : t + (48 + z) + pathsT p ≤ T := by have := hTT.out; rw [HE.out] at this; omega
        generalize pathsT p = TP at *
        by_cases hz : p.n ≤ 1048576
        · generalize hpn' : p.n = m at *
          have HPN := hid hpn'
          generalize hpa : p.a = pa at *
          clear hpn' hpa
          go_wp2
          obtain ⟨wo, rfl⟩ : ∃ wo : World, wo = w2 := ⟨_, rfl⟩
          go_loopg [3, 6] m (fun g v3 v6 wx => (∃ (t' j : Nat), v3 = .int .i64 t' ∧ v6 = .int .i64 j ∧ Hid (t' = t + (48 + z) + ssum (fun j => cap (pathT (p.P j))) j) ∧ t' ≤ 1048576 ∧ j ≤ m ∧ g = m - j) ∧ Below wo.heap.size wo wx)
          case atStart => exact ⟨⟨t + (48 + z), 0, by go_num, rfl, hid rfl, by omega, Nat.zero_le _, rfl⟩, Below.refl _ _⟩
          case round =>
          obtain ⟨⟨t', j, rfl, rfl, ht', hts', hj, hgj⟩, hB⟩ := hrel
          have hB3 := hB2.trans (hB.mono hB2.size)
          by_cases hjl : j < m
          · obtain rfl := HPA.out (by omega)
            have ok' := HPO.out.below hB
            have hsj : j < p.n := by rw [HPN.out]; exact hjl
            have C := pathBytes45 (p.P j) wr (ok'.P j hsj)
            have c0 := ok'.c0 j hsj
            have c1 := ok'.c1 j hsj
            have hat := ssum_at (fun j => cap (pathT (p.P j))) hjl
            have hTT3 : t' + cap (pathT (p.P j)) ≤ T := by have := HPF.out; have := ht'.out; omega
            have ht2' : Hid (t' + cap (pathT (p.P j)) = t + (48 + z) + ssum (fun j => cap (pathT (p.P j))) (j + 1)) := by rw [ht'.out]; exact Nat.add_assoc _ _ _
            have hbd := cap_bd (pathT (p.P j))
            unfold PD.val at C
            clear hat ok' hsj
            generalize cap (pathT (p.P j)) = x at *
            generalize (p.P j).v.val = v1 at *
            generalize (p.P j).u.val = v2 at *
            go_wp2_with fail
            refine C.mono ?_
            rintro e w3 ⟨rfl, hb3⟩
            clear C c0 c1
            have hB4 := hB.trans (hb3.mono hB.size)
            have hB5 := hB3.trans (hb3.mono hB3.size)
            by_cases hy : t' + x ≤ 1048576
            · go_wp2
              go_roundg (m - (j + 1))
              case measure => omega
              case rel => exact ⟨⟨t' + x, j + 1, by go_num, by go_num, ht2', by omega, by omega, rfl⟩, hB4⟩
            · have H : Hid (cap T = 1048577) := cap_gt (by omega)
              go_wp2
              go_ret
              exact ⟨ret_int (by rw [H.out]; rfl), hB5⟩
          · have e : j = m := by omega
            have e3 : Hid (t' = ssum (entT s) (i + 1)) := by
              have a1 := ht2.out
              have a2 := HE.out
              have a3 := ht'.out
              have a4 := HPF.out
              rw [e] at a3
              refine hid ?_
              omega
            clear e
            go_wp2
            go_roundg (n - (i + 1))
            case measure => omega
            case rel => exact ⟨⟨t', i + 1, rfl, by go_num, e3, by omega, by omega, rfl⟩, hB3⟩
        · have H : Hid (cap T = 1048577) := cap_gt (by omega)
          go_wp2
          go_ret
          exact ⟨ret_int (by rw [H.out]; rfl), hB2⟩
      · have H : Hid (cap T = 1048577) := cap_gt (by have := hTT.out; rw [HE.out] at this; omega)
        go_wp2
        go_ret
        exact ⟨ret_int (by rw [H.out]; rfl), hB2⟩
    · have e : i = n := by omega
      have H : Hid (cap T = t) := by
        have e2 : T = t := by rw [HF.out, ht.out, e]
        rw [e2]; exact cap_le hts
      clear e
      go_wp2
      go_ret
      exact ⟨ret_int (by rw [H.out]), hB⟩
  · have H : Hid (cap T = 1048577) := cap_gt (by omega)
    go_enter Try.func21, Try.ntmps21
    go_wp2
    go_ret
    exact ⟨ret_int (by rw [H.out]; rfl), Below.refl _ _⟩

def textT (a b c d : ByteArray) : Nat := a.size + b.size + c.size + d.size

set_option maxHeartbeats 1000000 in
theorem textBytes22 (a b c d : ByteArray) (w : World) (ha : a.size ≤ 9223372036854775807) (hb : b.size ≤ 9223372036854775807) (hc : c.size ≤ 9223372036854775807) (hd : d.size ≤ 9223372036854775807) :
    Calls Try.prog 22 #[.string a, .string b, .string c, .string d] w fun e w' => e = .returned (.int .i64 (cap (textT a b c d) : Nat)) ∧ w = w' := by
  by_cases h1 : a.size ≤ 1048576
  · by_cases h2 : b.size ≤ 1048576
    · by_cases h3 : c.size ≤ 1048576
      · by_cases h4 : d.size ≤ 1048576
        · have C := capBytes40 (a.size + b.size + c.size + d.size) w (by omega)
          unfold textT
          go_enter Try.func22, Try.ntmps22
          go_wp2_with fail
          refine C.mono ?_
          rintro e w' ⟨rfl, rfl⟩
          go_wp2
          go_ret
          exact ⟨rfl, rfl⟩
        · have H : Hid (cap (textT a b c d) = 1048577) := cap_gt (by unfold textT; omega)
          go_enter Try.func22, Try.ntmps22
          go_wp2
          go_ret
          exact ⟨ret_int (by rw [H.out]; rfl), rfl⟩
      · have H : Hid (cap (textT a b c d) = 1048577) := cap_gt (by unfold textT; omega)
        go_enter Try.func22, Try.ntmps22
        go_wp2
        go_ret
        exact ⟨ret_int (by rw [H.out]; rfl), rfl⟩
    · have H : Hid (cap (textT a b c d) = 1048577) := cap_gt (by unfold textT; omega)
      go_enter Try.func22, Try.ntmps22
      go_wp2
      go_ret
      exact ⟨ret_int (by rw [H.out]; rfl), rfl⟩
  · have H : Hid (cap (textT a b c d) = 1048577) := cap_gt (by unfold textT; omega)
    go_enter Try.func22, Try.ntmps22
    go_wp2
    go_ret
    exact ⟨ret_int (by rw [H.out]; rfl), rfl⟩

/-! ### what the size says -/
/-- Few enough: what the walks behind need. -/
structure Bd (e : EsD) : Prop where
  n : e.n ≤ 65536
  rn : ∀ i, i < e.n → (e.rs i).n ≤ 65536
  pn : ∀ i, i < e.n → (e.ps i).n ≤ 65536
  rv : ∀ i j, i < e.n → j < (e.rs i).n → ((e.rs i).R j).v.n ≤ 65536
  rg : ∀ i j, i < e.n → j < (e.rs i).n → ((e.rs i).R j).g.n ≤ 65536
  rr : ∀ i j, i < e.n → j < (e.rs i).n → ((e.rs i).R j).r.n ≤ 65536
  rm : ∀ i j, i < e.n → j < (e.rs i).n → ((e.rs i).R j).m.n ≤ 65536
  ry : ∀ i j, i < e.n → j < (e.rs i).n → ((e.rs i).R j).y.n ≤ 65536
  pv : ∀ i j, i < e.n → j < (e.ps i).n → ((e.ps i).P j).v.n ≤ 65536
  pu : ∀ i j, i < e.n → j < (e.ps i).n → ((e.ps i).P j).u.n ≤ 65536
  vt : ssum (fun i => ssum (fun j => ((e.ps i).P j).v.n) (e.ps i).n) e.n ≤ 65536

theorem cap_mono {a b : Nat} (h : a ≤ b) : cap a ≤ cap b := by unfold cap; split <;> split <;> omega
theorem strs_n {s : SD} (h : cap (strsT s) ≤ 1048576) : s.n ≤ 65536 := by
  have := cap_sm h
  unfold strsT at this
  omega

theorem bd_of (e : EsD) (h : cap (entriesT e) ≤ 1048576) : Bd e := by
  have hT := cap_sm h
  have hge := entries_ge e
  have hent : ∀ i, i < e.n → entT e i ≤ 1048576 := fun i hi => Nat.le_trans (ssum_one (entT e) hi) hT
  have hrs : ∀ i, i < e.n → rulesT (e.rs i) ≤ 1048576 := fun i hi => by
    have := hent i hi
    unfold entT at this
    exact cap_sm (by omega)
  have hps : ∀ i, i < e.n → pathsT (e.ps i) ≤ 1048576 := fun i hi => by
    have := hent i hi
    unfold entT at this
    omega
  have hru : ∀ i j, i < e.n → j < (e.rs i).n → ruleT ((e.rs i).R j) ≤ 1048576 := fun i j hi hj => by
    have h1 := hrs i hi
    have h2 := ssum_one (fun j => cap (ruleT ((e.rs i).R j))) hj
    unfold rulesT at h1
    exact cap_sm (Nat.le_trans h2 h1)
  have hpa : ∀ i j, i < e.n → j < (e.ps i).n → pathT ((e.ps i).P j) ≤ 1048576 := fun i j hi hj => by
    have h1 := hps i hi
    have h2 := ssum_one (fun j => cap (pathT ((e.ps i).P j))) hj
    unfold pathsT at h1
    exact cap_sm (Nat.le_trans h2 h1)
  refine ⟨by omega, fun i hi => ?_, fun i hi => ?_, fun i j hi hj => ?_, fun i j hi hj => ?_, fun i j hi hj => ?_, fun i j hi hj => ?_, fun i j hi hj => ?_, fun i j hi hj => ?_, fun i j hi hj => ?_, ?_⟩
  · have := hrs i hi; have := rules_ge (e.rs i); omega
  · have := hps i hi; have := paths_ge (e.ps i); omega
  · have := hru i j hi hj; unfold ruleT at this; exact strs_n (by omega)
  · have := hru i j hi hj; unfold ruleT at this; exact strs_n (by omega)
  · have := hru i j hi hj; unfold ruleT at this; exact strs_n (by omega)
  · have := hru i j hi hj; unfold ruleT at this; exact strs_n (by omega)
  · have := hru i j hi hj; unfold ruleT at this; exact strs_n (by omega)
  · have := hpa i j hi hj; unfold pathT at this; exact strs_n (by omega)
  · have := hpa i j hi hj; unfold pathT at this; exact strs_n (by omega)
  · have h16 : ∀ i, i < e.n → 16 * ssum (fun j => ((e.ps i).P j).v.n) (e.ps i).n ≤ entT e i := by
      intro i hi
      have hm : ∀ n, n ≤ (e.ps i).n → 16 * ssum (fun j => ((e.ps i).P j).v.n) n ≤ ssum (fun j => cap (pathT ((e.ps i).P j))) n := by
        intro n
        induction n with
        | zero => intro _; exact Nat.le_refl _
        | succ n ih =>
          intro hn
          have h1 := ih (by omega)
          have h2 := hpa i n hi (by omega)
          have h3 : 16 * ((e.ps i).P n).v.n ≤ cap (pathT ((e.ps i).P n)) := by
            rw [cap_le h2]
            unfold pathT at h2 ⊢
            have h4 := cap_sm (n := strsT ((e.ps i).P n).v) (by omega)
            rw [cap_le h4]
            unfold strsT
            omega
          unfold ssum
          omega
      have := hm _ (Nat.le_refl _)
      unfold entT pathsT
      omega
    have hm : ∀ n, n ≤ e.n → 16 * ssum (fun i => ssum (fun j => ((e.ps i).P j).v.n) (e.ps i).n) n ≤ ssum (entT e) n := by
      intro n
      induction n with
      | zero => intro _; exact Nat.le_refl _
      | succ n ih =>
        intro hn
        have h1 := ih (by omega)
        have h2 := h16 n (by omega)
        have e1 : ssum (fun i => ssum (fun j => ((e.ps i).P j).v.n) (e.ps i).n) (n + 1) = ssum (fun i => ssum (fun j => ((e.ps i).P j).v.n) (e.ps i).n) n + ssum (fun j => ((e.ps n).P j).v.n) (e.ps n).n := rfl
        have e2 : ssum (entT e) (n + 1) = ssum (entT e) n + entT e n := rfl
        omega
    have := hm _ (Nat.le_refl _)
    unfold entriesT at hT
    omega
end Go.Proofs.Qxb6606073a
