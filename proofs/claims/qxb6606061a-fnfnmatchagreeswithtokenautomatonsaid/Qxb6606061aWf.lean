import Derived.Test.Qxb6606061aWe
import Derived.Test.Qxb6606061aAuto
set_option linter.unusedSimpArgs false
set_option linter.unusedVariables false
namespace Go.Proofs.Qxb6606061a
open Go.RowKit

/-- What mb1SetClose answers. -/
def clInt (p : List Int) : Int := if cls p < p.length then (cls p : Int) else -1

theorem clInt_open {p : List Int} (h : ¬ cls p < p.length) : clInt p = -1 := by unfold clInt; rw [if_neg h]
theorem clInt_closed {p : List Int} (h : cls p < p.length) : clInt p = cls p := by unfold clInt; rw [if_pos h]

/-- The state of mb1SetClose's loop. -/
def Cs (p : List Int) (g : Nat) (ca : Int) (k : Nat) : Prop := g = p.length + 2 - k ∧ k ≤ p.length + 1 ∧ ((ca = -1 ∧ fnd p k = cls p) ∨ (0 ≤ ca ∧ ca = clInt p))

theorem Cs_hit {p : List Int} {g k : Nat} (h : Cs p g (-1) k) (hk : k < p.length) (e : gr p k = 93) : Cs p (p.length + 2 - (k + 1)) k (k + 1) ∧ p.length + 2 - (k + 1) < g := by
  obtain ⟨h1, h2, h3⟩ := h
  have h4 : fnd p k = cls p := by
    rcases h3 with h3 | h3
    · exact h3.2
    · omega
  have h5 := fnd_hit p k hk e
  refine ⟨⟨rfl, by omega, .inr ⟨by omega, ?_⟩⟩, by omega⟩
  rw [clInt_closed (by omega)]; omega

theorem Cs_miss {p : List Int} {g k : Nat} (h : Cs p g (-1) k) (hk : k < p.length) (e : gr p k ≠ 93) : Cs p (p.length + 2 - (k + 1)) (-1) (k + 1) ∧ p.length + 2 - (k + 1) < g := by
  obtain ⟨h1, h2, h3⟩ := h
  have h4 : fnd p k = cls p := by
    rcases h3 with h3 | h3
    · exact h3.2
    · omega
  have h5 := fnd_miss p k hk e
  exact ⟨⟨rfl, by omega, .inl ⟨rfl, by omega⟩⟩, by omega⟩

theorem Cs_end {p : List Int} {g k : Nat} {ca : Int} (h : Cs p g ca k) (hk : ¬ k < p.length ∨ 0 ≤ ca) : ca = clInt p := by
  obtain ⟨h1, h2, h3⟩ := h
  rcases h3 with h3 | h3
  · have hk : ¬ k < p.length := by
      rcases hk with hk | hk
      · exact hk
      · omega
    have h5 := fnd_out p k (by omega)
    rw [clInt_open (by omega)]; exact h3.1
  · exact h3.2

theorem Cs_cases {p : List Int} {g k : Nat} {ca : Int} (h : Cs p g ca k) : ca = -1 ∨ 0 ≤ ca := by
  rcases h.2.2 with h | h
  · exact .inl h.1
  · exact .inr h.1

theorem ret_mid {a b : Int} {x y : Value} (h : a = b) : Ending.returned (.tuple #[x, .int .i64 a, y]) = .returned (.tuple #[x, .int .i64 b, y]) := by rw [h]

theorem start_bd (p : List Int) : 1 ≤ start p ∧ start p ≤ 2 := by unfold start; split <;> omega

set_option maxHeartbeats 1000000 in
theorem setClose_any (b o cap : Nat) (p : List Int) (w : World) (hp : Rw w b o p) (h0 : 0 < p.length) (lp : p.length ≤ 1048576) :
    Calls Try.prog 17 #[.slice (some ⟨b, o, none⟩) p.length cap] w fun e w' => e = .returned (.tuple #[.int .i64 (start p), .int .i64 (clInt p), .bool (bang p)]) ∧ w = w' := by
  have hs := start_le p h0
  have hsb := start_bd p
  go_enter Try.func17, Try.ntmps17
  go_upto_region 3 with fail
  go_cut [17] from 9 to 16 (fun v wx => v = .bool (bang p) ∧ wx = w)
  case first =>
    by_cases h1 : 1 < p.length
    · have hc1 := hp 1 h1
      go_wp2
      go_meet
      exact ⟨rfl, rfl⟩
    · have hb := bang_out h1
      go_wp2
      go_meet
      case rel => exact ⟨by rw [hb], rfl⟩
  case rest =>
  obtain ⟨rfl, rfl⟩ := hcut
  go_upto_if 17 with fail
  go_cut [5, 6] from 9 to 17 (fun v v6 wx => v = .int .i64 (start p) ∧ v6 = .bool (bang p) ∧ wx = wc)
  case first =>
    go_wp2
    · have hb : bang p = true := by assumption
      go_meet
      case rel => exact ⟨by unfold start; rw [if_pos hb]; rfl, by rw [hb], rfl⟩
    · have hb : bang p = false := by assumption
      go_meet
      case rel => exact ⟨by unfold start; rw [hb]; rfl, by rw [hb], rfl⟩
  case rest =>
  obtain ⟨rfl, rfl, rfl⟩ := hcut
  obtain ⟨wo, rfl⟩ : ∃ wo : World, wo = wc := ⟨_, rfl⟩
  go_wp2
  go_loopg [7, 8] (p.length + 2 - (start p + 1)) (fun g v7 v8 wx => (∃ (ca : Int) (k : Nat), v7 = .int .i64 ca ∧ v8 = .int .i64 k ∧ Cs p g ca k ∧ k ≤ 1048577) ∧ wx = wo)
  case atStart => exact ⟨⟨-1, start p + 1, rfl, by go_num, ⟨rfl, by omega, .inl ⟨rfl, rfl⟩⟩, by omega⟩, rfl⟩
  case round =>
  obtain ⟨⟨ca, k, rfl, rfl, hC, hk⟩, rfl⟩ := hrel
  by_cases hlt : k < p.length
  · rcases Cs_cases hC with rfl | hca
    · have hck := hp k hlt
      by_cases h93 : gr p k = 93
      · have h93' : (gr p k == 93) = true := by simp [h93]
        obtain ⟨m1, m2⟩ := Cs_hit hC hlt h93
        clear h93
        go_wp2
        go_roundg (p.length + 2 - (k + 1))
        case measure => exact m2
        case rel => exact ⟨⟨_, k + 1, rfl, by go_num, m1, by omega⟩, rfl⟩
      · have h93' : (gr p k == 93) = false := by simp [h93]
        obtain ⟨m1, m2⟩ := Cs_miss hC hlt h93
        clear h93
        go_wp2
        go_roundg (p.length + 2 - (k + 1))
        case measure => exact m2
        case rel => exact ⟨⟨_, k + 1, rfl, by go_num, m1, by omega⟩, rfl⟩
    · have he := Cs_end hC (.inr hca)
      have HE : Hid (ca = clInt p) := he
      clear he
      go_wp2
      go_ret3
      exact ⟨ret_mid HE.out, rfl⟩
  · have he := Cs_end hC (.inl hlt)
    have HE : Hid (ca = clInt p) := he
    clear he
    go_wp2
    go_ret3
    exact ⟨ret_mid HE.out, rfl⟩

/-! ### mb1InAny -/
theorem gr_fst (l : List (Int × Int)) (k : Nat) (h : k < l.length) : gr (l.map Prod.fst) k = (l[k]'h).1 := by
  simp [gr, List.getElem?_eq_getElem h]
theorem gr_snd (l : List (Int × Int)) (k : Nat) (h : k < l.length) : gr (l.map Prod.snd) k = (l[k]'h).2 := by
  simp [gr, List.getElem?_eq_getElem h]

theorem inAny_yes (l : List (Int × Int)) (c : Int) (k : Nat) (h : k < l.length) (h1 : gr (l.map Prod.fst) k ≤ c) (h2 : c ≤ gr (l.map Prod.snd) k) : inAny l c = true := by
  unfold inAny
  rw [List.any_eq_true]
  rw [gr_fst l k h] at h1
  rw [gr_snd l k h] at h2
  exact ⟨l[k], List.getElem_mem h, by simp [inIv, h1, h2]⟩

theorem inAny_no (l : List (Int × Int)) (c : Int) (hn : ∀ k, k < l.length → ¬ (gr (l.map Prod.fst) k ≤ c ∧ c ≤ gr (l.map Prod.snd) k)) : inAny l c = false := by
  unfold inAny
  rw [List.any_eq_false]
  intro x hx
  obtain ⟨k, hk, rfl⟩ := List.getElem_of_mem hx
  have := hn k hk
  rw [gr_fst l k hk, gr_snd l k hk] at this
  simp only [inIv, Bool.and_eq_true, decide_eq_true_eq]
  exact this

set_option maxHeartbeats 400000 in
theorem inAny_any (b1 c1 b2 c2 : Nat) (l : List (Int × Int)) (c : Int) (w : World) (h1 : Rw w b1 0 (l.map Prod.fst)) (h2 : Rw w b2 0 (l.map Prod.snd)) (ll : l.length ≤ 1048576) :
    Calls Try.prog 22 #[.slice (some ⟨b1, 0, none⟩) l.length c1, .slice (some ⟨b2, 0, none⟩) l.length c2, .int .i32 c] w fun e w' => e = .returned (.bool (inAny l c)) ∧ w = w' := by
  go_enter Try.func22, Try.ntmps22
  go_wp2
  go_loopg [7] l.length (fun g v7 wx => (∃ k : Nat, v7 = .int .i64 k ∧ k ≤ l.length ∧ g = l.length - k ∧ Hid (∀ j, j < k → ¬ (gr (l.map Prod.fst) j ≤ c ∧ c ≤ gr (l.map Prod.snd) j))) ∧ wx = w)
  case atStart => exact ⟨⟨0, rfl, Nat.zero_le _, rfl, fun j hj => by omega⟩, rfl⟩
  case round =>
  obtain ⟨⟨k, rfl, hk, hg, hH⟩, rfl⟩ := hrel
  by_cases hlt : k < l.length
  · have k1 := h1 k (by simpa using hlt)
    have k2 := h2 k (by simpa using hlt)
    rw [Nat.zero_add] at k1 k2
    by_cases hin : gr (l.map Prod.fst) k ≤ c ∧ c ≤ gr (l.map Prod.snd) k
    · obtain ⟨g1, g2⟩ := hin
      have HY : Hid (inAny l c = true) := inAny_yes l c k hlt g1 g2
      go_wp2
      go_ret
      exact ⟨ret_bool HY.out.symm, rfl⟩
    · have HN : Hid (∀ j, j < k + 1 → ¬ (gr (l.map Prod.fst) j ≤ c ∧ c ≤ gr (l.map Prod.snd) j)) := fun j hj => by
        by_cases e : j = k
        · rw [e]; exact hin
        · exact hH.out j (by omega)
      by_cases g1 : gr (l.map Prod.fst) k ≤ c
      · have g2 : ¬ c ≤ gr (l.map Prod.snd) k := fun h => hin ⟨g1, h⟩
        clear hin
        go_wp2
        go_roundg (l.length - (k + 1))
        case measure => omega
        case rel => exact ⟨⟨k + 1, by go_num, by omega, rfl, HN⟩, rfl⟩
      · clear hin
        go_wp2
        go_roundg (l.length - (k + 1))
        case measure => omega
        case rel => exact ⟨⟨k + 1, by go_num, by omega, rfl, HN⟩, rfl⟩
  · have HN : Hid (inAny l c = false) := inAny_no l c (fun j hj => hH.out j (by omega))
    go_wp2
    go_ret
    exact ⟨ret_bool HN.out.symm, rfl⟩
end Go.Proofs.Qxb6606061a
