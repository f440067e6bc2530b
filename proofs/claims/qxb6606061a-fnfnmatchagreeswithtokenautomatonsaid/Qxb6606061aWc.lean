import Derived.Test.Qxb6606061aWb
set_option linter.unusedSimpArgs false
set_option linter.unusedVariables false
namespace Go.Proofs.Qxb6606061a
open Go.RowKit

theorem inSet_open (b o cap : Nat) (p : List Int) (c : Int) (w : World) (hp : Rw w b o p) (h0 : 0 < p.length) (lp : p.length ≤ 1048576) (hcap : p.length ≤ cap)(h : ¬ cls p < p.length) :
    Calls Try.prog 15 #[.slice (some ⟨b, o, none⟩) p.length cap, .int .i32 c] w fun e w' => e = .returned (.tuple #[.int .i64 0, .bool false, .bool false]) ∧ w' = w :=
  (inSet_any b o cap p c w hp h0 lp hcap).mono fun e w' ⟨he, hw⟩ => ⟨by rw [he, inSetV_open h], hw⟩

theorem inSet_closed (b o cap : Nat) (p : List Int) (c : Int) (w : World) (hp : Rw w b o p) (h0 : 0 < p.length) (lp : p.length ≤ 1048576) (hcap : p.length ≤ cap)(h : cls p < p.length) :
    Calls Try.prog 15 #[.slice (some ⟨b, o, none⟩) p.length cap, .int .i32 c] w fun e w' => e = .returned (.tuple #[.int .i64 ((cls p : Int) + 1), .bool (setAcc p c), .bool true]) ∧ w' = w :=
  (inSet_any b o cap p c w hp h0 lp hcap).mono fun e w' ⟨he, hw⟩ => ⟨by rw [he, inSetV_closed rfl h], hw⟩

def mOneV (p : List Int) (c : Int) : Value := .tuple #[.int .i64 (tw p), .bool (ta p c)]

theorem mOne_any_q {p : List Int} {c : Int} (h : gr p 0 = 63) : mOneV p c = .tuple #[.int .i64 1, .bool true] := by
  unfold mOneV tw ta
  have h : p[(0 : Nat)]?.getD 0 = 63 := h
  rw [h]; simp
theorem mOne_any_s {p : List Int} {c : Int} (h : gr p 0 = 91) (hc : cls p < p.length) : mOneV p c = .tuple #[.int .i64 ((cls p : Int) + 1), .bool (setAcc p c)] := by
  unfold mOneV tw ta
  have h : p[(0 : Nat)]?.getD 0 = 91 := h
  rw [h]; simp [hc]
theorem mOne_any_l {p : List Int} {c : Int} (h1 : gr p 0 ≠ 63) (h : gr p 0 ≠ 91 ∨ ¬ cls p < p.length) : mOneV p c = .tuple #[.int .i64 1, .bool (gr p 0 == c)] := by
  unfold mOneV tw ta
  have e : p[(0 : Nat)]?.getD 0 = gr p 0 := rfl
  rw [e, if_neg h1, if_neg (fun k => h.elim (fun h => h k.1) (fun h => h k.2)), if_neg (fun k => h.elim (fun h => h k.1) (fun h => h k.2))]
  rfl

set_option maxHeartbeats 400000 in
theorem matchOne_any (b o cap : Nat) (p : List Int) (c : Int) (w : World) (hp : Rw w b o p) (h0 : 0 < p.length) (lp : p.length ≤ 1048576) (hcap : p.length ≤ cap):
    Calls Try.prog 20 #[.slice (some ⟨b, o, none⟩) p.length cap, .int .i32 c] w fun e w' => e = .returned (mOneV p c) ∧ ∃ n, w' = w.drewN n := by
  have hc0 : w.cell? ⟨b, o, none⟩ = some (.int .i32 (gr p 0)) := hp 0 h0
  have h0i : (0 : Int) < (p.length : Int) := by omega
  by_cases h63 : gr p 0 = 63
  · have V := mOne_any_q (c := c) h63
    have HV : Hid (mOneV p c = _) := V
    have h63' : (gr p 0 == 63) = true := by simp [h63]
    clear h63 V
    go_enter Try.func20, Try.ntmps20
    go_wp2
    go_ret2
    exact ⟨ret_val HV.out.symm, 0, rfl⟩
  · have h63' : (gr p 0 == 63) = false := by simp [h63]
    by_cases h91 : gr p 0 = 91
    · have h91' : (gr p 0 == 91) = true := by simp [h91]
      by_cases hcl : cls p < p.length
      · have V := mOne_any_s (c := c) h91 hcl
        have HV : Hid (mOneV p c = _) := V
        have C := inSet_closed b o cap p c w hp h0 lp hcap hcl
        clear h63 h91 V
        go_enter Try.func20, Try.ntmps20
        go_wp2_with (go_at_call 15; refine C.mono ?_; rintro e w' ⟨rfl, rfl⟩)
        go_ret2
        exact ⟨ret_val HV.out.symm, 0, rfl⟩
      · have V := mOne_any_l (c := c) h63 (.inr hcl)
        have HV : Hid (mOneV p c = _) := V
        have C := inSet_open b o cap p c w hp h0 lp hcap hcl
        clear h63 h91 V
        go_enter Try.func20, Try.ntmps20
        go_wp2_with (go_at_call 15; refine C.mono ?_; rintro e w' ⟨rfl, rfl⟩)
        go_quiet (fail)
        go_wp2
        go_ret2
        exact ⟨ret_val HV.out.symm, _, rfl⟩
    · have h91' : (gr p 0 == 91) = false := by simp [h91]
      have V := mOne_any_l (c := c) h63 (.inl h91)
      have HV : Hid (mOneV p c = _) := V
      clear h63 h91 V
      go_enter Try.func20, Try.ntmps20
      go_wp2_with fail
      go_quiet (fail)
      go_wp2
      go_ret2
      exact ⟨ret_val HV.out.symm, _, rfl⟩
end Go.Proofs.Qxb6606061a
