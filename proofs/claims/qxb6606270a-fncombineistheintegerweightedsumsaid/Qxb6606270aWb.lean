import Derived.Test.Qxb6606270aWa
set_option linter.unusedSimpArgs false
set_option linter.unusedVariables false
namespace Go.Proofs.Qxb6606270a
open Go.RowKit

theorem hid {p : Prop} (h : p) : Hid p := h
def RetB (e : Ending) : Prop := ∃ r, e = .returned (.bool r)

set_option maxHeartbeats 1000000 in
theorem zz13 (a1 : Option Addr) (b1 o1 n1 c1 : Nat) (A1 : Nat → Option Addr) (L1 C1 : Nat → Nat) (a2 : Option Addr) (b2 o2 n2 c2 : Nat) (A2 : Nat → Option Addr) (L2 C2 : Nat → Nat) (w : World)
    (hn1 : n1 ≤ 9223372036854775807) (ha1 : 0 < n1 → a1 = some ⟨b1, o1, none⟩) (hT1 : Tops w b1 o1 n1 A1 L1 C1) (hn2 : n2 ≤ 9223372036854775807) (ha2 : 0 < n2 → a2 = some ⟨b2, o2, none⟩) (hT2 : Tops w b2 o2 n2 A2 L2 C2) :
    Calls Try.prog 13 #[.slice a1 n1 c1, .slice a2 n2 c2] w fun e w' => RetB e ∧ w = w' := by
  by_cases h : n1 ≤ 1048576
  · go_enter Try.func13, Try.ntmps13
    go_wp2
    go_loopg [5, 6] n1 (fun g v5 v6 wx => (∃ (s : Int) (i : Nat), v5 = .int .i64 s ∧ v6 = .int .i64 i ∧ 0 ≤ s ∧ s ≤ 1048576 ∧ i ≤ n1 ∧ g = n1 - i) ∧ wx = w)
    case atStart => exact ⟨⟨_, 0, rfl, rfl, by omega, by omega, Nat.zero_le _, rfl⟩, rfl⟩
    case round =>
    obtain ⟨⟨s, i, rfl, rfl, hs0, hs1, hi, hg⟩, rfl⟩ := hrel
    by_cases hlt : i < n1
    · obtain rfl := ha1 (by omega)
      obtain ⟨hc, hL⟩ := hT1 i hlt
      clear hT1 hT2 ha1 ha2
      by_cases hb : L1 i ≤ 1048576
      · by_cases hb2 : s + L1 i ≤ 1048576
        · go_wp2
          go_roundg (n1 - (i + 1))
          case measure => omega
          case rel => exact ⟨⟨_, i + 1, rfl, by go_num, by omega, by omega, by omega, rfl⟩, rfl⟩
        · go_wp2
          go_ret
          exact ⟨⟨_, rfl⟩, rfl⟩
      · go_wp2
        go_ret
        exact ⟨⟨_, rfl⟩, rfl⟩
    · by_cases h2 : n2 ≤ 1048576
      · by_cases h3 : s + n2 ≤ 1048576
        · obtain ⟨wo, rfl⟩ : ∃ wo : World, wo = wr := ⟨_, rfl⟩
          clear hT1 ha1
          go_wp2
          go_loopg [5, 7] n2 (fun g v5 v7 wx => (∃ (s : Int) (i : Nat), v5 = .int .i64 s ∧ v7 = .int .i64 i ∧ 0 ≤ s ∧ s ≤ 1048576 ∧ i ≤ n2 ∧ g = n2 - i) ∧ wx = wo)
          case atStart => exact ⟨⟨_, 0, rfl, rfl, by omega, by omega, Nat.zero_le _, rfl⟩, rfl⟩
          case round =>
          obtain ⟨⟨s, i, rfl, rfl, hs0, hs1, hi, hg⟩, rfl⟩ := hrel
          by_cases hlt : i < n2
          · obtain rfl := ha2 (by omega)
            obtain ⟨hc, hL⟩ := hT2 i hlt
            clear hT2 ha2
            by_cases hb : L2 i ≤ 1048576
            · by_cases hb2 : s + L2 i ≤ 1048576
              · go_wp2
                go_roundg (n2 - (i + 1))
                case measure => omega
                case rel => exact ⟨⟨_, i + 1, rfl, by go_num, by omega, by omega, by omega, rfl⟩, rfl⟩
              · go_wp2
                go_ret
                exact ⟨⟨_, rfl⟩, rfl⟩
            · go_wp2
              go_ret
              exact ⟨⟨_, rfl⟩, rfl⟩
          · go_wp2
            go_ret
            exact ⟨⟨_, rfl⟩, rfl⟩
        · clear hT1 hT2 ha1 ha2
          go_wp2
          go_ret
          exact ⟨⟨_, rfl⟩, rfl⟩
      · clear hT1 hT2 ha1 ha2
        go_wp2
        go_ret
        exact ⟨⟨_, rfl⟩, rfl⟩
  · go_enter Try.func13, Try.ntmps13
    go_wp2
    go_ret
    exact ⟨⟨_, rfl⟩, rfl⟩

/-- A bool comes back; where it is true, p holds. -/
def RetI (e : Ending) (p : Prop) : Prop := ∃ t, e = .returned (.bool t) ∧ (t = true → p)

set_option maxHeartbeats 400000 in
theorem shape21 (a : Option Addr) (b o n c : Nat) (A : Nat → Option Addr) (L C : Nat → Nat) (r q : Int) (w : World) (hn : n ≤ 9223372036854775807) (ha : 0 < n → a = some ⟨b, o, none⟩) (hT : Tops w b o n A L C) :
    Calls Try.prog 21 #[.slice a n c, .int .i64 r, .int .i64 q] w fun e w' => RetI e (Hid ((n : Int) = r ∧ ∀ i, i < n → (L i : Int) = q)) ∧ w = w' := by
  by_cases h : (n : Int) = r
  · subst h
    go_enter Try.func21, Try.ntmps21
    go_wp2
    go_loopg [7] n (fun g v7 wx => (∃ (i : Nat), v7 = .int .i64 i ∧ i ≤ n ∧ g = n - i ∧ Hid (∀ j, j < i → (L j : Int) = q)) ∧ wx = w)
    case atStart => exact ⟨⟨0, rfl, Nat.zero_le _, rfl, fun j hj => by omega⟩, rfl⟩
    case round =>
    obtain ⟨⟨i, rfl, hi, hg, hH⟩, rfl⟩ := hrel
    by_cases hlt : i < n
    · obtain rfl := ha (by omega)
      obtain ⟨hc, hL⟩ := hT i hlt
      clear hT ha
      by_cases hq : (L i : Int) = q
      · have hq' : ((L i : Int) != q) = false := by simp [hq]
        have HQ : Hid ((L i : Int) = q) := hq
        clear hq
        go_wp2
        go_roundg (n - (i + 1))
        case measure => omega
        case rel => exact ⟨⟨i + 1, by go_num, by omega, rfl, fun j hj => by
            by_cases e : j = i
            · rw [e]; exact HQ.out
            · exact hH.out j (by omega)⟩, rfl⟩
      · have hq' : ((L i : Int) != q) = true := by simp [hq]
        clear hq
        go_wp2
        go_ret
        exact ⟨⟨false, rfl, fun h => by simp at h⟩, rfl⟩
    · go_wp2
      go_ret
      exact ⟨⟨true, rfl, fun _ => hid ⟨by first | rfl | trivial, fun j hj => hH.out j (by omega)⟩⟩, rfl⟩
  · have h' : ((n : Int) != r) = true := by simp [h]
    clear h
    go_enter Try.func21, Try.ntmps21
    go_wp2
    go_ret
    exact ⟨⟨false, rfl, fun h => by simp at h⟩, rfl⟩

set_option maxHeartbeats 400000 in
theorem rect15 (a : Option Addr) (b o n c : Nat) (A : Nat → Option Addr) (L C : Nat → Nat) (w : World) (hn : n ≤ 9223372036854775807) (ha : 0 < n → a = some ⟨b, o, none⟩) (hT : Tops w b o n A L C) :
    Calls Try.prog 15 #[.slice a n c] w fun e w' => RetI e (Hid (0 < n ∧ ∀ i, i < n → L i = L 0)) ∧ w = w' := by
  by_cases h0 : 0 < n
  · have C21 := shape21 a b o n c A L C n (L 0) w hn ha hT
    obtain rfl := ha h0
    obtain ⟨hc, hL⟩ := hT 0 h0
    rw [Nat.add_zero] at hc
    have h0i : (0 : Int) < (n : Int) := by omega
    clear hT ha
    go_enter Try.func15, Try.ntmps15
    go_wp2_with (go_at_call 21; refine C21.mono ?_; rintro e w' ⟨⟨t, rfl, ht⟩, rfl⟩)
    go_ret
    exact ⟨⟨_, rfl, fun h => hid ⟨h0, fun i hi => by have := (ht h).out.2 i hi; omega⟩⟩, rfl⟩
  · go_enter Try.func15, Try.ntmps15
    go_wp2
    go_ret
    exact ⟨⟨false, rfl, fun h => by simp at h⟩, rfl⟩
end Go.Proofs.Qxb6606270a
