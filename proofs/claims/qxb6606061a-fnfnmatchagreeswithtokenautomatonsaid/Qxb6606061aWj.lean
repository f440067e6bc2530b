import Derived.Test.Qxb6606061aWi
set_option linter.unusedSimpArgs false
set_option linter.unusedVariables false
namespace Go.Proofs.Qxb6606061a
open Go.RowKit

set_option maxHeartbeats 400000 in
theorem zz10_true (a b : ByteArray) (w : World) (h : a.size + b.size ≤ 1048576) :
    Calls Try.prog 10 #[.string a, .string b] w fun e w' => e = .returned (.bool true) ∧ w = w' := by
  go_enter Try.func10, Try.ntmps10
  go_wp2
  go_ret
  exact ⟨rfl, rfl⟩

set_option maxHeartbeats 400000 in
theorem zz10_false (a b : ByteArray) (w : World) (wa : a.size ≤ maxLen) (wb : b.size ≤ maxLen) (h : ¬ a.size + b.size ≤ 1048576) :
    Calls Try.prog 10 #[.string a, .string b] w fun e w' => e = .returned (.bool false) ∧ w = w' := by
  unfold maxLen at wa wb
  by_cases h1 : 1048576 < a.size
  · go_enter Try.func10, Try.ntmps10
    go_wp2
    go_ret
    exact ⟨rfl, rfl⟩
  · by_cases h2 : 1048576 < b.size
    · go_enter Try.func10, Try.ntmps10
      go_wp2
      go_ret
      exact ⟨rfl, rfl⟩
    · go_enter Try.func10, Try.ntmps10
      go_wp2
      go_ret
      exact ⟨rfl, rfl⟩

theorem law5_no (a b : ByteArray) (w : World) (wa : a.size ≤ maxLen) (wb : b.size ≤ maxLen) (h : ¬ a.size + b.size ≤ 1048576) :
    Calls Try.prog 5 #[.string a, .string b] w fun e w' => e = .returned (.bool true) ∧ Below w.heap.size w w' := by
  have C := zz10_false a b w wa wb h
  clear h
  go_enter Try.func5, Try.ntmps5
  go_wp2_with (go_at_call 10; refine C.mono ?_; rintro e w' ⟨rfl, rfl⟩)
  go_ret
  exact ⟨rfl, Below.refl _ _⟩

theorem law5_big (a b : ByteArray) (w : World) (h : a.size + b.size ≤ 1048576) (hb : 256 < a.size ∨ 4096 < b.size) :
    Calls Try.prog 5 #[.string a, .string b] w fun e w' => e = .returned (.bool true) ∧ Below w.heap.size w w' := by
  have C := zz10_true a b w h
  by_cases ha : 256 < a.size
  · clear hb
    go_enter Try.func5, Try.ntmps5
    go_wp2_with (go_at_call 10; refine C.mono ?_; rintro e w' ⟨rfl, rfl⟩)
    go_ret
    exact ⟨rfl, Below.refl _ _⟩
  · have hb : 4096 < b.size := by omega
    go_enter Try.func5, Try.ntmps5
    go_wp2_with (go_at_call 10; refine C.mono ?_; rintro e w' ⟨rfl, rfl⟩)
    go_ret
    exact ⟨rfl, Below.refl _ _⟩

set_option maxHeartbeats 1000000 in
theorem law5_main (a b : ByteArray) (w : World) (ha : a.size ≤ 256) (hb : b.size ≤ 4096) :
    Calls Try.prog 5 #[.string a, .string b] w fun e w' => e = .returned (.bool true) ∧ Below w.heap.size w w' := by
  have C := zz10_true a b w (by omega)
  have C1 := zf_any a b w (by omega) (by omega)
  have lp : (runes a).length ≤ 256 := Nat.le_trans (runes_length a) ha
  have lo : (runes b).length ≤ 4096 := Nat.le_trans (runes_length b) hb
  go_enter Try.func5, Try.ntmps5
  go_wp2_with (go_at_call 10; refine C.mono ?_; rintro e w' ⟨rfl, rfl⟩)
  refine C1.mono ?_
  rintro e w1 ⟨rfl, hb1⟩
  have hz := hb1.size
  obtain ⟨cp, W2, r2, hcp, hR2, hb2, hz2⟩ := conv_runes w1 a (by omega)
  obtain ⟨cn, W3, r3, hcn, hR3, hb3, hz3⟩ := conv_runes W2 b (by omega)
  have hRa : Rw W3 w1.heap.size 0 (runes a) := Rw_below hR2 hb3 (by omega)
  have hB3 : Below w.heap.size w W3 := hb1.trans ((hb2.mono (by omega)).trans (hb3.mono (by omega)))
  have C2 := glob_any w1.heap.size cp W2.heap.size cn (runes a) (runes b) W3 hRa hR3 (by omega) (by omega) (by omega) (by omega) hcp
  generalize M (T (runes a)) (runes b) = B at *
  clear C C1 hR2 hR3 hRa
  rw [hz2] at r3 C2
  go_wp2_with fail
  refine C2.mono ?_
  rintro e w5 ⟨rfl, hb5⟩
  go_wp2
  go_ret
  exact ⟨ret_bool (by cases B <;> rfl), hB3.trans (hb5.mono (by omega))⟩
end Go.Proofs.Qxb6606061a
