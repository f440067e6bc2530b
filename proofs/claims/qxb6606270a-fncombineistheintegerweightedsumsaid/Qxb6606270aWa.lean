import Derived.Test.Qxb6606270aRows
import Derived.WalkKit
import Derived.WalkSpells
import Derived.WalkLawsBesides
import Derived.Deep.QuietTactic
import Derived.BigQuiet
import Derived.Deep.DeepCutAuto
import Derived.Deep.LoopGhost
import Derived.Deep.Light
import Derived.Deep.RegionHeld3
import Derived.Test.Qxb6606270aFi
set_option linter.unusedSimpArgs false
set_option linter.unusedVariables false
namespace Go.Proofs.Qxb6606270a
open Go.RowKit

/-- The headers of n rows, in memory. -/
def Tops (w : World) (b o n : Nat) (A : Nat → Option Addr) (L C : Nat → Nat) : Prop := ∀ i, i < n → w.cell? ⟨b, o + i, none⟩ = some (.slice (A i) (L i) (C i)) ∧ L i ≤ 9223372036854775807

def sz8 (n : Nat) : Int := if n ≤ 1048576 then 8 * (n : Int) else 1048577

theorem sz8_le {n : Nat} (h : n ≤ 1048576) : sz8 n = 8 * (n : Int) := by unfold sz8; rw [if_pos h]
theorem sz8_gt {n : Nat} (h : ¬ n ≤ 1048576) : sz8 n = 1048577 := by unfold sz8; rw [if_neg h]
theorem sz8_bd (n : Nat) : 0 ≤ sz8 n ∧ sz8 n ≤ 8388608 ∧ (sz8 n ≤ 1048576 → n ≤ 131072) := by unfold sz8; split <;> omega

theorem ret_int {k : IntKind} {a b : Int} (h : a = b) : Ending.returned (.int k a) = .returned (.int k b) := by rw [h]
theorem ret_bool {a b : Bool} (h : a = b) : Ending.returned (.bool a) = .returned (.bool b) := by rw [h]

set_option maxHeartbeats 400000 in
theorem size19 (a : Option Addr) (n c : Nat) (w : World) (hn : n ≤ 9223372036854775807) : Calls Try.prog 19 #[.slice a n c] w fun e w' => e = .returned (.int .i64 (sz8 n)) ∧ w = w' := by
  by_cases h : n ≤ 1048576
  · have H : Hid (sz8 n = 8 * (n : Int)) := sz8_le h
    go_enter Try.func19, Try.ntmps19
    go_wp2
    go_ret
    exact ⟨ret_int H.out.symm, rfl⟩
  · have H : Hid (sz8 n = 1048577) := sz8_gt h
    go_enter Try.func19, Try.ntmps19
    go_wp2
    go_ret
    exact ⟨ret_int H.out.symm, rfl⟩

/-- What the size of a matrix says. -/
def SzP (n : Nat) (L : Nat → Nat) (s : Int) : Prop := 0 ≤ s ∧ s ≤ 1048577 ∧ (s ≤ 1048576 → n ≤ 131072 ∧ ∀ i, i < n → L i ≤ 131072)

set_option maxHeartbeats 1000000 in
theorem size14 (a : Option Addr) (b o n c : Nat) (A : Nat → Option Addr) (L C : Nat → Nat) (w : World) (hn : n ≤ 9223372036854775807) (ha : 0 < n → a = some ⟨b, o, none⟩) (hT : Tops w b o n A L C) :
    Calls Try.prog 14 #[.slice a n c] w fun e w' => ∃ s, e = .returned (.int .i64 s) ∧ SzP n L s ∧ w = w' := by
  by_cases h : n ≤ 131072
  · go_enter Try.func14, Try.ntmps14
    go_wp2
    go_loopg [3, 4] n (fun g v3 v4 wx => (∃ (s : Int) (i : Nat), v3 = .int .i64 s ∧ v4 = .int .i64 i ∧ 0 ≤ s ∧ s ≤ 1048576 ∧ i ≤ n ∧ g = n - i ∧ Hid (∀ j, j < i → L j ≤ 131072)) ∧ wx = w)
    case atStart => exact ⟨⟨_, 0, rfl, rfl, by omega, by omega, Nat.zero_le _, rfl, fun j hj => by omega⟩, rfl⟩
    case round =>
    obtain ⟨⟨s, i, rfl, rfl, hs0, hs1, hi, hg, hH⟩, rfl⟩ := hrel
    by_cases hlt : i < n
    · obtain rfl := ha (by omega)
      obtain ⟨hc, hL⟩ := hT i hlt
      have C19 := size19 (A i) (L i) (C i) wr hL
      have hb := sz8_bd (L i)
      generalize hz : sz8 (L i) = z at *
      have HZ : Hid (sz8 (L i) = z) := hz
      clear hz
      obtain ⟨hb0, hb1, hb2⟩ := hb
      have HB : Hid (z ≤ 1048576 → L i ≤ 131072) := hb2
      clear hb2 hT ha
      by_cases hbig : s + z ≤ 1048576
      · go_wp2_with (go_at_call 19; refine C19.mono ?_; rintro e w' ⟨rfl, rfl⟩)
        go_roundg (n - (i + 1))
        case measure => omega
        case rel => exact ⟨⟨_, i + 1, rfl, by go_num, by omega, by omega, by omega, rfl, fun j hj => by
            by_cases e : j = i
            · rw [e]; exact HB.out (by omega)
            · exact hH.out j (by omega)⟩, rfl⟩
      · go_wp2_with (go_at_call 19; refine C19.mono ?_; rintro e w' ⟨rfl, rfl⟩)
        go_ret
        exact ⟨_, rfl, ⟨by omega, by omega, fun h => by omega⟩, rfl⟩
    · go_wp2
      go_ret
      exact ⟨_, rfl, ⟨hs0, by omega, fun _ => ⟨h, fun j hj => hH.out j (by omega)⟩⟩, rfl⟩
  · by_cases h2 : n ≤ 1048576
    · go_enter Try.func14, Try.ntmps14
      go_wp2
      go_ret
      exact ⟨_, rfl, ⟨by omega, by omega, fun h => by omega⟩, rfl⟩
    · go_enter Try.func14, Try.ntmps14
      go_wp2
      go_ret
      exact ⟨_, rfl, ⟨by omega, by omega, fun h => by omega⟩, rfl⟩
end Go.Proofs.Qxb6606270a
