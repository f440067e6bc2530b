import Derived.Test.Qxb6606061aRows
import Derived.WalkKit
import Derived.WalkSpells
import Derived.WalkLawsBesides
import Derived.Deep.QuietTactic
import Derived.BigQuiet
import Derived.Deep.DeepCutAuto
import Derived.Deep.LoopGhost
import Derived.Deep.Light
import Derived.Test.Qxb6606061aQuote
import Derived.Test.Qxb6606061aRunes
set_option linter.unusedSimpArgs false
set_option linter.unusedVariables false
namespace Go.Proofs.Qxb6606061a
open Go.RowKit

/-- The rune at place k. -/
def gr (zs : List Int) (k : Nat) : Int := zs[k]?.getD 0

/-- A row of runes in memory. -/
def Rw (w : World) (b off : Nat) (zs : List Int) : Prop := ∀ k, k < zs.length → w.cell? ⟨b, off + k, none⟩ = some (.int .i32 (gr zs k))

theorem ret_bool {a b : Bool} (h : a = b) : Ending.returned (.bool a) = .returned (.bool b) := by rw [h]

theorem gr_ne {xs ys : List Int} {k : Nat} (h : gr xs k ≠ gr ys k) : decide (xs = ys) = false := by
  simp only [decide_eq_false_iff_not]; intro e; subst e; exact h rfl
theorem len_ne {xs ys : List Int} (h : ¬ xs.length = ys.length) : decide (xs = ys) = false := by
  simp only [decide_eq_false_iff_not]; intro e; subst e; exact h rfl

set_option maxHeartbeats 400000 in
theorem eq_any (b1 o1 c1 b2 o2 c2 : Nat) (xs ys : List Int) (w : World) (hx : Rw w b1 o1 xs) (hy : Rw w b2 o2 ys) (lx : xs.length ≤ 1048576) (ly : ys.length ≤ 1048576) :
    Calls Try.prog 14 #[.slice (some ⟨b1, o1, none⟩) xs.length c1, .slice (some ⟨b2, o2, none⟩) ys.length c2] w fun e w' => e = .returned (.bool (decide (xs = ys))) ∧ ∃ n, w' = w.drewN n := by
  by_cases hl : xs.length = ys.length
  · have HL : Hid (xs.length = ys.length) := hl
    have h1 : xs.length ≤ ys.length := by omega
    have h2 : ys.length ≤ xs.length := by omega
    clear hl
    go_enter Try.func14, Try.ntmps14
    go_wp2
    go_loopw [5] (fun i wr => ∃ k nq : Nat, k ≤ xs.length ∧ i = .int .i64 k ∧ wr = w.drewN nq ∧ Hid (∀ j, j < k → gr xs j = gr ys j)) (fun i _ => xs.length - (intOf i).toNat)
    case atStart => exact ⟨0, 0, Nat.zero_le _, rfl, rfl, fun j hj => by omega⟩
    case round =>
      obtain ⟨k, nq, hk, rfl, rfl, hH⟩ := hrel
      by_cases hlt : k < xs.length
      · have hc1 := hx k hlt
        have hc2 := hy k (by omega)
        by_cases he : gr xs k = gr ys k
        · have he' : (gr xs k != gr ys k) = false := by simp [he]
          have HE : Hid (gr xs k = gr ys k) := he
          clear he
          go_wp2
          go_quiet (fail)
          go_wp2
          go_roundw
          case rel => exact ⟨k + 1, _, by omega, by go_num, rfl, fun j hj => by
            by_cases h : j = k
            · rw [h]; exact HE.out
            · exact hH.out j (by omega)⟩
          case measure => simp [intOf]; omega
        · have he' : (gr xs k != gr ys k) = true := by simp [he]
          have HE : Hid (gr xs k ≠ gr ys k) := he
          clear he
          go_wp2
          go_quiet (fail)
          go_wp2
          go_ret
          exact ⟨ret_bool (gr_ne HE.out).symm, _, World.drewN_drewN _ _ _⟩
      · go_wp2
        go_ret
        refine ⟨ret_bool ?_, _, rfl⟩
        simp only [true_eq_decide_iff]
        exact eq_upto xs ys HL.out (fun j hj => hH.out j (by omega))
  · have hl' : ((xs.length : Int) != (ys.length : Int)) = true := by simp; omega
    have HL : Hid (¬ xs.length = ys.length) := hl
    clear hl
    go_enter Try.func14, Try.ntmps14
    go_wp2
    go_ret
    exact ⟨ret_bool (len_ne HL.out).symm, 0, rfl⟩
end Go.Proofs.Qxb6606061a
