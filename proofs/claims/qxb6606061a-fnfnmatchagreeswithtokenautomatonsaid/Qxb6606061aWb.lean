import Derived.Test.Qxb6606061aWa
set_option linter.unusedSimpArgs false
set_option linter.unusedVariables false
namespace Go.Proofs.Qxb6606061a
open Go.RowKit

/-- Does a closing bracket stand right where the members start? -/
def eqS (p : List Int) : Bool := decide (start p < p.length) && gr p (start p) == 93
/-- From e on one finds where the set closes. -/
def Cl (p : List Int) (e : Nat) : Prop := (cls p < p.length → fnd p e = cls p) ∧ (fnd p e < p.length → cls p < p.length)

theorem bang_out {p : List Int} (h : ¬ 1 < p.length) : bang p = false := by
  unfold bang
  rw [List.getElem?_eq_none (by omega)]; rfl

theorem Cl_skip {p : List Int} (h : eqS p = true) : start p + 1 ≤ p.length ∧ Cl p (start p + 1) := by
  unfold eqS at h
  simp at h
  exact ⟨by omega, fun _ => rfl, fun h => h⟩

theorem Cl_stay {p : List Int} (h0 : 0 < p.length) (h : eqS p = false) : Cl p (start p) := by
  have hs := start_le p h0
  unfold eqS at h
  by_cases hl : start p < p.length
  · simp [hl] at h
    have : fnd p (start p) = cls p := fnd_miss p (start p) hl h
    exact ⟨fun _ => this, fun h => by omega⟩
  · have h1 : fnd p (start p) = start p := fnd_out p _ (by omega)
    have h2 : cls p = start p + 1 := fnd_out p _ (by omega)
    exact ⟨fun h => by omega, fun h => by omega⟩

theorem Cl_next {p : List Int} {e : Nat} (h : Cl p e) (he : e < p.length) (hn : gr p e ≠ 93) : Cl p (e + 1) := by
  have := fnd_miss p e he hn
  unfold Cl at *
  rw [← this]; exact h

theorem Cl_hit {p : List Int} {e : Nat} (h : Cl p e) (he : e < p.length) (hn : gr p e = 93) : cls p = e := by
  have h1 := fnd_hit p e he hn
  have := h.2 (by omega)
  have := h.1 this
  omega

theorem Cl_end {p : List Int} {e : Nat} (h : Cl p e) (he : p.length ≤ e) : ¬ cls p < p.length := by
  have h1 := fnd_out p e he
  intro hc
  have := h.1 hc
  omega

theorem members_len {p : List Int} {e : Nat} (h : cls p = e) (he : e ≤ p.length) : (members p).length = e - start p := by
  unfold members
  rw [h]; simp; omega

theorem members_gr {p : List Int} {e : Nat} (h : cls p = e) (he : e ≤ p.length) {k : Nat} (hk : k < (members p).length) : gr (members p) k = gr p (start p + k) := by
  rw [members_len h he] at hk
  unfold gr members
  rw [h, List.getElem?_drop, List.getElem?_take]
  rw [if_pos (by omega)]

theorem members_rw {w : World} {b o : Nat} {p : List Int} {e : Nat} (hp : Rw w b o p) (h : cls p = e) (he : e ≤ p.length) : Rw w b (o + start p) (members p) := by
  intro k hk
  rw [members_gr h he hk, Nat.add_assoc]
  rw [members_len h he] at hk
  exact hp (start p + k) (by omega)

theorem range_step {m : List Int} {c : Int} {k : Nat} {inn X : Bool} (v : Bool) (hI : Hid ((inn || memb (m.drop k) c) = X)) (h : k + 2 < m.length) (e : (gr m (k + 1) == 45) = true)
    (hv : v = (inn || (decide (gr m k ≤ c) && decide (c ≤ gr m (k + 2))))) : Hid ((v || memb (m.drop (k + 3)) c) = X) := by
  have h1 := hI.out
  rw [memb_range m c k h (by simpa [gr] using e)] at h1
  show _ = _
  rw [← h1, hv, Bool.or_assoc]; rfl

theorem one_step {m : List Int} {c : Int} {k : Nat} {inn X : Bool} (v : Bool) (hI : Hid ((inn || memb (m.drop k) c) = X)) (h : k < m.length) (e : ¬ k + 2 < m.length ∨ (gr m (k + 1) == 45) = false)
    (hv : v = (inn || gr m k == c)) : Hid ((v || memb (m.drop (k + 1)) c) = X) := by
  have h1 := hI.out
  rw [memb_one m c k h (by rcases e with e | e; exact .inl (by omega); exact .inr (by simpa [gr] using e))] at h1
  show _ = _
  rw [← h1, hv, Bool.or_assoc]; rfl

/-- What inSet answers. -/
def inSetV (p : List Int) (c : Int) : Value := .tuple #[.int .i64 (if cls p < p.length then ((cls p + 1 : Nat) : Int) else 0), .bool (if cls p < p.length then setAcc p c else false), .bool (decide (cls p < p.length))]

theorem inSetV_open {p : List Int} {c : Int} (h : ¬ cls p < p.length) : inSetV p c = .tuple #[.int .i64 0, .bool false, .bool false] := by
  simp [inSetV, h]
theorem inSetV_closed {p : List Int} {c : Int} {e : Nat} (h : cls p = e) (he : e < p.length) : inSetV p c = .tuple #[.int .i64 ((e : Int) + 1), .bool (setAcc p c), .bool true] := by
  have : cls p < p.length := by omega
  simp [inSetV, this]; omega

theorem ret_val {a b : Value} (h : a = b) : Ending.returned a = .returned b := by rw [h]

set_option maxHeartbeats 1000000 in
theorem inSet_any (b o cap : Nat) (p : List Int) (c : Int) (w : World) (hp : Rw w b o p) (h0 : 0 < p.length) (lp : p.length ≤ 1048576) (hcap : p.length ≤ cap):
    Calls Try.prog 15 #[.slice (some ⟨b, o, none⟩) p.length cap, .int .i32 c] w fun e w' => e = .returned (inSetV p c) ∧ w' = w := by
  have hs := start_le p h0
  go_enter Try.func15, Try.ntmps15
  go_upto_region 2 with fail
  go_cut [8] from 12 to 22 (fun v wx => v = .bool (bang p) ∧ wx = w)
  case first =>
    by_cases h1 : 1 < p.length
    · have hc1 := hp 1 h1
      go_wp2
      go_meet
      exact ⟨rfl, rfl⟩
    · have hb := bang_out h1
      go_wp2
      go_meet
      case rel => exact ⟨by rw [hb], rfl⟩
  case rest =>
  obtain ⟨rfl, rfl⟩ := hcut
  go_upto_if 23 with fail
  go_cut [7, 8] from 23 to 25 (fun v v8 wx => v = .int .i64 (start p) ∧ v8 = .bool (bang p) ∧ wx = wc)
  case first =>
    go_wp2
    · have hb : bang p = true := by assumption
      go_meet
      case rel => exact ⟨by unfold start; rw [if_pos hb]; rfl, rfl, rfl⟩
    · have hb : bang p = false := by assumption
      go_meet
      case rel => exact ⟨by unfold start; rw [hb]; rfl, rfl, rfl⟩
  case rest =>
  obtain ⟨rfl, rfl, rfl⟩ := hcut
  go_upto_region 6 with fail
  go_cut [37] from 27 to 36 (fun v wx => v = .bool (eqS p) ∧ wx = wc)
  case first =>
    by_cases h1 : start p < p.length
    · have hc1 := hp _ h1
      have he : eqS p = (gr p (start p) == 93) := by unfold eqS; simp [h1]
      have HE : Hid (eqS p = (gr p (start p) == 93)) := he
      clear he
      go_wp2
      go_meet
      case rel => exact ⟨by rw [HE.out], rfl⟩
    · have he : eqS p = false := by unfold eqS; simp [h1]
      have HE : Hid (eqS p = false) := he
      clear he
      go_wp2
      go_meet
      case rel => exact ⟨by rw [HE.out], rfl⟩
  case rest =>
  obtain ⟨rfl, rfl⟩ := hcut
  go_upto_if 37 with fail
  go_cut [9] from 27 to 39 (fun v wx => (∃ e : Nat, v = .int .i64 e ∧ e ≤ p.length ∧ start p ≤ e ∧ Cl p e) ∧ wx = wc)
  case first =>
    go_wp2
    · obtain ⟨h1, h2⟩ := Cl_skip (p := p) (by assumption)
      go_meet
      case rel => exact ⟨⟨start p + 1, by go_num, h1, by omega, h2⟩, rfl⟩
    · have h2 := Cl_stay (p := p) h0 (by assumption)
      go_meet
      case rel => exact ⟨⟨start p, rfl, hs, Nat.le_refl _, h2⟩, rfl⟩
  case rest =>
  obtain ⟨⟨e0, rfl, hl0, hs0, hCl0⟩, rfl⟩ := hcut
  go_wp2
  go_loopg [9] (p.length - e0) (fun g v wx => (∃ e : Nat, v = .int .i64 e ∧ e ≤ p.length ∧ start p ≤ e ∧ Cl p e ∧ g = p.length - e) ∧ wx = wc)
  case atStart => exact ⟨⟨e0, rfl, hl0, hs0, hCl0, rfl⟩, rfl⟩
  case round =>
  obtain ⟨⟨e, rfl, hl, hse, hCl, hg⟩, rfl⟩ := hrel
  by_cases hlt : e < p.length
  · have hc1 := hp e hlt
    by_cases h93 : gr p e = 93
    · have h93' : (gr p e != 93) = false := by simp [h93]
      have hcl := Cl_hit hCl hlt h93
      have HC : Hid (cls p = e) := hcl
      have hml := members_len hcl hl
      have HML : Hid ((members p).length = e - start p) := hml
      have hmr := members_rw hp hcl hl
      have hep : ((e : Int) == (p.length : Int)) = false := by simp; omega
      clear h93 hcl hml
      go_wp2
      have hlm1 : (members p).length ≤ e - start p := by rw [HML.out]; exact Nat.le_refl _
      have hlm2 : e - start p ≤ (members p).length := by rw [HML.out]; exact Nat.le_refl _
      go_loopg [5, 11] ((members p).length) (fun g v vk wx => (∃ (k : Nat) (inn : Bool), v = .bool inn ∧ vk = .int .i64 k ∧ k ≤ (members p).length ∧ Hid ((inn || memb ((members p).drop k) c) = memb (members p) c) ∧ g = (members p).length - k) ∧ wx = wr)
      case atStart => exact ⟨⟨0, false, rfl, rfl, Nat.zero_le _, by simp [Hid], rfl⟩, rfl⟩
      case round =>
      obtain ⟨⟨k, inn, rfl, rfl, hk, hI, hgk⟩, rfl⟩ := hrel
      by_cases hkl : k < (members p).length
      · have hck := hmr k hkl
        by_cases hk2 : k + 2 < (members p).length
        · have hck1 := hmr (k + 1) (by omega)
          have hck2 := hmr (k + 2) hk2
          go_wp2
          all_goals go_light
          all_goals first
            | (go_roundg ((members p).length - (k + 3)); (case measure => omega); (case rel => exact ⟨⟨k + 3, _, rfl, by go_num, by omega, range_step _ hI hk2 (by assumption) (by simp [*] <;> (intros; omega)), rfl⟩, rfl⟩))
            | (go_roundg ((members p).length - (k + 1)); (case measure => omega); (case rel => exact ⟨⟨k + 1, _, rfl, by go_num, by omega, one_step _ hI hkl (.inr (by assumption)) (by simp [*]), rfl⟩, rfl⟩))
        · go_wp2
          all_goals go_light
          all_goals (go_roundg ((members p).length - (k + 1)); (case measure => omega); (case rel => exact ⟨⟨k + 1, _, rfl, by go_num, by omega, one_step _ hI hkl (.inl hk2) (by simp [*]), rfl⟩, rfl⟩))
      · go_wp2
        go_ret3
        refine ⟨ret_val ?_, rfl⟩
        rw [inSetV_closed HC.out hlt]
        have h1 := hI.out
        rw [memb_end _ _ _ (by omega)] at h1
        unfold setAcc
        rw [← h1]
        cases inn <;> cases (bang p) <;> rfl
    · have h93' : (gr p e != 93) = true := by simp [h93]
      have hn := Cl_next hCl hlt h93
      clear h93
      go_wp2
      go_roundg (p.length - (e + 1))
      case measure => omega
      case rel => exact ⟨⟨e + 1, by go_num, by omega, by omega, hn, rfl⟩, rfl⟩
  · have hcl := Cl_end hCl (by omega)
    go_wp2
    go_ret3
    exact ⟨ret_val (inSetV_open hcl).symm, rfl⟩
end Go.Proofs.Qxb6606061a
