import Derived.Test.Qxb6606270aWi
set_option linter.unusedSimpArgs false
set_option linter.unusedVariables false
namespace Go.Proofs.Qxb6606270a
open Go.RowKit

set_option maxRecDepth 20000 in
set_option maxHeartbeats 2000000 in
theorem zz6 (a1 : Option Addr) (K1 c1 : Nat) (N1 : Nat → Nat) (L1 : Nat → Nat → Nat) (X1 : Nat → Nat → Nat → Int) (a2 : Option Addr) (K2 c2 : Nat) (N2 : Nat → Nat) (L2 : Nat → Nat → Nat) (X2 : Nat → Nat → Nat → Int)
    (aw : Option Addr) (nw cw : Nat) (w : World) (m1 : ICube w a1 K1 N1 L1 X1) (m2 : ICube w a2 K2 N2 L2 X2) (hnw : nw ≤ 9223372036854775807) :
    Calls Try.prog 6 #[.slice a1 K1 c1, .slice a2 K2 c2, .slice aw nw cw] w fun e w' => RetB e ∧ w = w' := by
  obtain ⟨b1, o1, A1, C1, hn1, ha1, bl1, hT1, hm1⟩ := m1
  obtain ⟨b2, o2, A2, C2, hn2, ha2, bl2, hT2, hm2⟩ := m2
  clear bl1 bl2
  have HM1 : Hid (∀ k, k < K1 → Nonempty (IMat w (A1 k) (N1 k) (L1 k) (X1 k))) := hm1
  have HM2 : Hid (∀ k, k < K2 → Nonempty (IMat w (A2 k) (N2 k) (L2 k) (X2 k))) := hm2
  have HT1 : Hid (Tops w b1 o1 K1 A1 N1 C1) := hT1
  have HT2 : Hid (Tops w b2 o2 K2 A2 N2 C2) := hT2
  have HA1 : Hid (0 < K1 → a1 = some ⟨b1, o1, none⟩) := ha1
  have HA2 : Hid (0 < K2 → a2 = some ⟨b2, o2, none⟩) := ha2
  clear hm1 hm2 hT1 hT2 ha1 ha2
  by_cases h : K1 ≤ 1048576
  · go_enter Try.func6, Try.ntmps6
    go_wp2
    go_loopg [7, 8] K1 (fun g v5 v6 wx => (∃ (s : Int) (i : Nat), v5 = .int .i64 s ∧ v6 = .int .i64 i ∧ 0 ≤ s ∧ s ≤ 1048576 ∧ i ≤ K1 ∧ g = K1 - i) ∧ wx = w)
    case atStart => exact ⟨⟨_, 0, rfl, rfl, by omega, by omega, Nat.zero_le _, rfl⟩, rfl⟩
    case round =>
    obtain ⟨⟨s, i, rfl, rfl, hs0, hs1, hi, hg⟩, rfl⟩ := hrel
    by_cases hlt : i < K1
    · obtain rfl := HA1.out (by omega)
      obtain ⟨hc, hL⟩ := HT1.out i hlt
      by_cases hb : N1 i ≤ 1048576
      · by_cases hb2 : s + N1 i ≤ 1048576
        · obtain ⟨wo, rfl⟩ : ∃ wo : World, wo = wr := ⟨_, rfl⟩
          obtain ⟨p⟩ := HM1.out i hlt
          have pad := hid p.ad
          have ptop := hid p.tops
          generalize p.b = pb at *
          generalize p.o = po at *
          generalize p.A = pA at *
          generalize p.C = pC at *
          clear p
          generalize A1 i = ai at *
          go_wp2
          go_loopg [7, 9] (N1 i) (fun g v5 v6 wx => (∃ (s : Int) (j : Nat), v5 = .int .i64 s ∧ v6 = .int .i64 j ∧ 0 ≤ s ∧ s ≤ 1048576 ∧ j ≤ N1 i ∧ g = N1 i - j) ∧ wx = wo)
          case atStart => exact ⟨⟨_, 0, rfl, rfl, by omega, by omega, Nat.zero_le _, rfl⟩, rfl⟩
          case round =>
          obtain ⟨⟨s, j, rfl, rfl, hs0, hs1, hj, hgj⟩, rfl⟩ := hrel
          by_cases hjl : j < N1 i
          · obtain rfl := pad.out (by omega)
            obtain ⟨hc2, hL2⟩ := ptop.out j hjl
            clear pad ptop
            by_cases hb3 : L1 i j ≤ 1048576
            · by_cases hb4 : s + L1 i j ≤ 1048576
              · go_wp2
                go_roundg (N1 i - (j + 1))
                case measure => omega
                case rel => exact ⟨⟨_, j + 1, rfl, by go_num, by omega, by omega, by omega, rfl⟩, rfl⟩
              · go_wp2
                go_ret
                exact ⟨⟨_, rfl⟩, rfl⟩
            · go_wp2
              go_ret
              exact ⟨⟨_, rfl⟩, rfl⟩
          · go_wp2
            go_roundg (K1 - (i + 1))
            case measure => omega
            case rel => exact ⟨⟨_, i + 1, rfl, by go_num, by omega, by omega, by omega, rfl⟩, rfl⟩
        · go_wp2
          go_ret
          exact ⟨⟨_, rfl⟩, rfl⟩
      · go_wp2
        go_ret
        exact ⟨⟨_, rfl⟩, rfl⟩
    · clear HT1 HM1 HA1
      by_cases h2 : K2 ≤ 1048576
      · by_cases h3 : s + K2 ≤ 1048576
        · obtain ⟨wo, rfl⟩ : ∃ wo : World, wo = wr := ⟨_, rfl⟩
          go_wp2
          go_loopg [7, 10] K2 (fun g v5 v6 wx => (∃ (s : Int) (i : Nat), v5 = .int .i64 s ∧ v6 = .int .i64 i ∧ 0 ≤ s ∧ s ≤ 1048576 ∧ i ≤ K2 ∧ g = K2 - i) ∧ wx = wo)
          case atStart => exact ⟨⟨_, 0, rfl, rfl, by omega, by omega, Nat.zero_le _, rfl⟩, rfl⟩
          case round =>
          obtain ⟨⟨s, i, rfl, rfl, hs0, hs1, hi, hg⟩, rfl⟩ := hrel
          by_cases hlt : i < K2
          · obtain rfl := HA2.out (by omega)
            obtain ⟨hc, hL⟩ := HT2.out i hlt
            by_cases hb : N2 i ≤ 1048576
            · by_cases hb2 : s + N2 i ≤ 1048576
              · obtain ⟨wo, rfl⟩ : ∃ wo : World, wo = wr := ⟨_, rfl⟩
                obtain ⟨p⟩ := HM2.out i hlt
                have pad := hid p.ad
                have ptop := hid p.tops
                generalize p.b = pb at *
                generalize p.o = po at *
                generalize p.A = pA at *
                generalize p.C = pC at *
                clear p
                generalize A2 i = ai at *
                go_wp2
                go_loopg [7, 11] (N2 i) (fun g v5 v6 wx => (∃ (s : Int) (j : Nat), v5 = .int .i64 s ∧ v6 = .int .i64 j ∧ 0 ≤ s ∧ s ≤ 1048576 ∧ j ≤ N2 i ∧ g = N2 i - j) ∧ wx = wo)
                case atStart => exact ⟨⟨_, 0, rfl, rfl, by omega, by omega, Nat.zero_le _, rfl⟩, rfl⟩
                case round =>
                obtain ⟨⟨s, j, rfl, rfl, hs0, hs1, hj, hgj⟩, rfl⟩ := hrel
                by_cases hjl : j < N2 i
                · obtain rfl := pad.out (by omega)
                  obtain ⟨hc2, hL2⟩ := ptop.out j hjl
                  clear pad ptop
                  by_cases hb3 : L2 i j ≤ 1048576
                  · by_cases hb4 : s + L2 i j ≤ 1048576
                    · go_wp2
                      go_roundg (N2 i - (j + 1))
                      case measure => omega
                      case rel => exact ⟨⟨_, j + 1, rfl, by go_num, by omega, by omega, by omega, rfl⟩, rfl⟩
                    · go_wp2
                      go_ret
                      exact ⟨⟨_, rfl⟩, rfl⟩
                  · go_wp2
                    go_ret
                    exact ⟨⟨_, rfl⟩, rfl⟩
                · go_wp2
                  go_roundg (K2 - (i + 1))
                  case measure => omega
                  case rel => exact ⟨⟨_, i + 1, rfl, by go_num, by omega, by omega, by omega, rfl⟩, rfl⟩
              · go_wp2
                go_ret
                exact ⟨⟨_, rfl⟩, rfl⟩
            · go_wp2
              go_ret
              exact ⟨⟨_, rfl⟩, rfl⟩
          · by_cases h5 : nw ≤ 1048576
            · by_cases h6 : s + nw ≤ 1048576
              · go_wp2
                go_ret
                exact ⟨⟨_, rfl⟩, rfl⟩
              · go_wp2
                go_ret
                exact ⟨⟨_, rfl⟩, rfl⟩
            · go_wp2
              go_ret
              exact ⟨⟨_, rfl⟩, rfl⟩
        · go_wp2
          go_ret
          exact ⟨⟨_, rfl⟩, rfl⟩
      · go_wp2
        go_ret
        exact ⟨⟨_, rfl⟩, rfl⟩
  · go_enter Try.func6, Try.ntmps6
    go_wp2
    go_ret
    exact ⟨⟨_, rfl⟩, rfl⟩
end Go.Proofs.Qxb6606270a
