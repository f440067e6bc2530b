import Derived.Test.Qxb6606270aWj
set_option linter.unusedSimpArgs false
set_option linter.unusedVariables false
namespace Go.Proofs.Qxb6606270a
open Go.RowKit
attribute [local go_sem] run_store_float

theorem OutM_same {w : World} {B ob : Nat} {rb : Nat → Nat} {r c : Nat} {Z Z' : Nat → Nat → Nat} (h : OutM w B ob rb r c Z) (e : ∀ i j, i < r → j < c → Z i j = Z' i j) : OutM w B ob rb r c Z' :=
  ⟨h.ob_ge, h.ob_lt, h.rb_ge, h.rb_ne, h.rb_inj, h.top, fun i j hi hj => by rw [← e i j hi hj]; exact h.cel i j hi hj⟩

/-- One row more, of zeros. -/
theorem OutM_stepZ {w w1 : World} {B ob i c g : Nat} {rb : Nat → Nat} {Z Z' : Nat → Nat → Nat} (h : OutM w B ob rb i c Z) (hg : g = w.heap.size) (hZ : ∀ k j, k < i → j < c → Z' k j = Z k j) (hZ0 : ∀ j, j < c → Z' i j = 0)
    (ho : w1.ownsRow B 32 1 (.slice (some ⟨g, 0, none⟩) c c) c (madeCells #[.float .f64 0] c).toList) (hw : w.grownBy w1 none) (hc : ∃ v, w.cell? ⟨ob, i, none⟩ = some v) :
    OutM (w1.setCell ⟨ob, i, none⟩ (.slice (some ⟨g, 0, none⟩) c c)) B ob (putN rb i g) (i + 1) c Z' := by
  have hlt := own_lt ho
  have hsz := hw.size
  have hold : ∀ x : Addr, x.block < w.heap.size → w1.cell? x = w.cell? x := fun x hx => World.cell?_of_block (w := w) (hw.block x.block hx (by simp))
  have holdf : ∀ x : Addr, x.block < w.heap.size → w1.frozen? x = w.frozen? x := fun x hx => World.frozen?_of_block (w := w) (hw.block x.block hx (by simp))
  have hob := h.ob_lt
  have hgB : B ≤ g := (World.ownsRow.lt ho g (by simp [Value.ownBlock])).1
  refine ⟨h.ob_ge, by simp; omega, ?_, ?_, ?_, ?_, ?_⟩
  · intro k hk
    unfold putN
    by_cases e : k = i
    · rw [if_pos e]; exact ⟨hgB, by simpa using hlt⟩
    · rw [if_neg e]
      have := h.rb_ge k (by omega)
      exact ⟨this.1, by simp; omega⟩
  · intro k hk
    unfold putN
    by_cases e : k = i
    · rw [if_pos e]; omega
    · rw [if_neg e]; exact h.rb_ne k (by omega)
  · intro k l hk hl hkl
    unfold putN
    by_cases e : k = i
    · rw [if_pos e, if_neg (by omega)]
      have := h.rb_ge l (by omega)
      omega
    · rw [if_neg e]
      by_cases e2 : l = i
      · rw [if_pos e2]
        have := h.rb_ge k (by omega)
        omega
      · rw [if_neg e2]; exact h.rb_inj k l (by omega) (by omega) hkl
  · intro k hk
    unfold putN
    by_cases e : k = i
    · subst e
      rw [if_pos rfl]
      obtain ⟨v, hv⟩ := hc
      exact World.cell?_setCell_same _ _ _ ((hold ⟨ob, k, none⟩ hob).trans hv)
    · rw [if_neg e, World.cell?_setCell_other _ _ _ _ (by simp <;> omega), hold _ hob]
      exact h.top k (by omega)
  · intro k j hk hj
    unfold putN
    by_cases e : k = i
    · rw [if_pos e]
      rw [World.cell?_setCell_other _ _ _ _ (by simp <;> omega), World.frozen?_setCell, World.ownsRow.cellAt ho j (by omega), e, hZ0 j hj]
      exact ⟨made_at _ c j hj, World.ownsRow.frozenAt ho j⟩
    · rw [if_neg e]
      have hr := h.rb_ge k (by omega)
      have hne := h.rb_ne k (by omega)
      rw [World.cell?_setCell_other _ _ _ _ (by simp <;> omega), World.frozen?_setCell, hold ⟨rb k, j, none⟩ hr.2, holdf ⟨rb k, j, none⟩ hr.2, hZ k j (by omega) hj]
      exact h.cel k j (by omega) hj

/-- One cell written. -/
theorem OutM_set {w : World} {B ob : Nat} {rb : Nat → Nat} {r c : Nat} {Z Z' : Nat → Nat → Nat} (h : OutM w B ob rb r c Z) {i j z : Nat} (hi : i < r) (hj : j < c) (hZ : ∀ k l, k < r → l < c → ¬ (k = i ∧ l = j) → Z' k l = Z k l) (hz : Z' i j = z) :
    OutM (w.setCell ⟨rb i, j, none⟩ (.float .f64 z)) B ob rb r c Z' := by
  have hoth : ∀ x : Addr, x ≠ ⟨rb i, j, none⟩ → (w.setCell ⟨rb i, j, none⟩ (.float .f64 z)).cell? x = w.cell? x := fun x hx => World.cell?_setCell_other _ _ _ _ (fun e => hx e.symm)
  refine ⟨h.ob_ge, by simpa using h.ob_lt, fun k hk => ⟨(h.rb_ge k hk).1, by simpa using (h.rb_ge k hk).2⟩, h.rb_ne, h.rb_inj, fun k hk => ?_, fun k l hk hl => ?_⟩
  · rw [hoth _ (by intro e; injection e with e1; exact h.rb_ne i hi e1.symm)]
    exact h.top k hk
  · rw [World.frozen?_setCell]
    refine ⟨?_, (h.cel k l hk hl).2⟩
    by_cases e : k = i ∧ l = j
    · obtain ⟨rfl, rfl⟩ := e
      rw [hz]
      exact World.cell?_setCell_same _ _ _ (h.cel k l hk hl).1
    · rw [hoth _ (by
        intro e2
        injection e2 with e3 e4
        apply e
        by_cases ek : k = i
        · exact ⟨ek, e4⟩
        · exact absurd e3 (h.rb_inj k i hk hi ek)), hZ k l hk hl e]
      exact (h.cel k l hk hl).1

/-- The matrix half turned: rows before i, and in row i the cells before j. -/
def mixZ (F : Nat → Nat → Nat) (i j : Nat) : Nat → Nat → Nat := fun k l => if k < i ∨ (k = i ∧ l < j) then F k l else 0

def fl (n : Int) : Nat := floatOfInt .f64 n

set_option maxHeartbeats 1000000 in
theorem toF64 (a : Option Addr) (r c q : Nat) (X : Nat → Nat → Int) (w : World) (m : IMat w a r (fun _ => q) X) (hr : r ≤ 1048576) (hq : q ≤ 1048576) :
    Calls Try.prog 10 #[.slice a r c] w fun e w' => ∃ (ob : Nat) (rb : Nat → Nat), e = .returned (.slice (some ⟨ob, 0, none⟩) r r) ∧ OutM w' w.heap.size ob rb r q (fun i j => fl (X i j)) ∧ Below w.heap.size w w' := by
  obtain ⟨b, o, A, C, mrb, mro, hn, ad, bl, tp, rad, rl, row⟩ := m
  have HA : Hid (0 < r → a = some ⟨b, o, none⟩) := ad
  have HBL : Hid (0 < r → b < w.heap.size) := bl
  have HT0 : Hid (Tops w b o r A (fun _ => q) C) := tp
  have HRD : Hid (∀ i, i < r → 0 < q → A i = some ⟨mrb i, mro i, none⟩) := rad
  have HRL : Hid (∀ i, i < r → 0 < q → mrb i < w.heap.size) := rl
  have HROW : Hid (∀ i, i < r → Ir w (mrb i) (mro i) q (X i)) := row
  clear ad bl tp rad rl row
  obtain ⟨i1, hi1, hz01, hz11, hz21⟩ := info_parts Try.info31
  obtain ⟨i2, hi2, hz02, hz12, hz22⟩ := info_parts Try.info32
  go_enter Try.func10, Try.ntmps10
  go_wp2_with (at_make; refine wpList_make_full _ rfl _ _ 28 rfl w.heap.size 31 i1 (.slice none 0 0) 1 Try.underlying28 hi1 hz01 hz11 .i64 .i64 _ _ r rfl rfl rfl rfl ?_ ?_ ?_ ?_)
  · rw [hz21]; omega
  · unfold maxLen; omega
  · exact Nat.le_refl _
  intro W1 hown1 hgrow1
  have hlt1 := own_lt hown1
  have hB1 : Below w.heap.size w W1 := (Below.refl _ _).grown hgrow1 (Nat.le_refl _) (by intro k e; cases e)
  have O1 : OutM W1 w.heap.size w.heap.size (fun _ => 0) 0 q (fun i j => fl (X i j)) := ⟨Nat.le_refl _, hlt1, fun i hi => by omega, fun i hi => by omega, fun i j hi => by omega, fun i hi => by omega, fun i j hi => by omega⟩
  have T1 : ∀ k, k < r → (∃ v, W1.cell? ⟨w.heap.size, k, none⟩ = some v) ∧ W1.frozen? ⟨w.heap.size, k, none⟩ = false := fun k hk =>
    ⟨⟨_, (World.ownsRow.cellAt hown1 k (by omega)).trans (by simpa using made_at (.slice none 0 0) r k hk)⟩, World.ownsRow.frozenAt hown1 k⟩
  clear hown1 hgrow1 hi1 hz01 hz11 hz21
  go_wp2
  go_loopg [4] r (fun g v wx => ∃ (i : Nat) (rb : Nat → Nat), v = .int .i64 i ∧ i ≤ r ∧ g = r - i ∧ OutM wx w.heap.size w.heap.size rb i q (fun i j => fl (X i j)) ∧ Hid (∀ k, k < r → (∃ v, wx.cell? ⟨w.heap.size, k, none⟩ = some v) ∧ wx.frozen? ⟨w.heap.size, k, none⟩ = false) ∧ Below w.heap.size w wx)
  case atStart => exact ⟨0, _, rfl, Nat.zero_le _, rfl, O1, T1, hB1⟩
  case round =>
  clear O1 T1 hB1
  obtain ⟨i, rb, rfl, hi, hg, O, HT, hB⟩ := hrel
  have hob := O.ob_lt
  by_cases hlt : i < r
  · obtain ⟨⟨v, hv⟩, hf⟩ := HT.out i hlt
    obtain rfl := HA.out (by omega)
    have hbl := HBL.out (by omega)
    have tc0 := (HT0.out i hlt).1
    have tc := (hB.cell (p := ⟨b, o + i, none⟩) hbl).trans tc0
    go_wp2_with (at_make; refine wpList_make_full _ rfl _ _ 31 rfl w.heap.size 32 i2 (.float .f64 0) 1 Try.underlying31 hi2 hz02 hz12 .i64 .i64 _ _ q rfl rfl rfl rfl ?_ ?_ ?_ ?_)
    · first | omega | (rw [hz22]; omega)
    · unfold maxLen; omega
    · omega
    intro W2 hown2 hgrow2
    have hold : ∀ x : Addr, x.block < wr.heap.size → W2.cell? x = wr.cell? x := fun x hx => World.cell?_of_block (w := wr) (hgrow2.block x.block hx (by simp))
    have holdf : ∀ x : Addr, x.block < wr.heap.size → W2.frozen? x = wr.frozen? x := fun x hx => World.frozen?_of_block (w := wr) (hgrow2.block x.block hx (by simp))
    have hv2 := (hold ⟨w.heap.size, i, none⟩ hob).trans hv
    have hf2 := (holdf ⟨w.heap.size, i, none⟩ hob).trans hf
    have O2 := OutM_stepZ (Z' := mixZ (fun i j => fl (X i j)) i 0) O rfl (fun k j hk hj => by unfold mixZ; rw [if_pos (by omega)]) (fun j hj => by unfold mixZ; rw [if_neg (by omega)]) (by simpa using hown2) hgrow2 ⟨v, hv⟩
    have HT2 : Hid (∀ k, k < r → (∃ v, (W2.setCell ⟨w.heap.size, i, none⟩ (.slice (some ⟨wr.heap.size, 0, none⟩) q q)).cell? ⟨w.heap.size, k, none⟩ = some v) ∧ (W2.setCell ⟨w.heap.size, i, none⟩ (.slice (some ⟨wr.heap.size, 0, none⟩) q q)).frozen? ⟨w.heap.size, k, none⟩ = false) := by
      intro k hk
      obtain ⟨⟨u, hu⟩, hfu⟩ := HT.out k hk
      rw [World.frozen?_setCell]
      exact ⟨cell?_setCell_some ((hold ⟨w.heap.size, k, none⟩ hob).trans hu), (holdf ⟨w.heap.size, k, none⟩ hob).trans hfu⟩
    have hB2 : Below w.heap.size w (W2.setCell ⟨w.heap.size, i, none⟩ (.slice (some ⟨wr.heap.size, 0, none⟩) q q)) := (hB.grown hgrow2 (by have := hB.size; omega) (by intro k e; cases e)).setCell (Nat.le_refl _) _
    clear hold holdf hown2 hgrow2 HT O hB hv hf tc
    go_wp2
    generalize putN rb i wr.heap.size = rb2 at *
    generalize W2.setCell ⟨w.heap.size, i, none⟩ (.slice (some ⟨wr.heap.size, 0, none⟩) q q) = W3 at *
    obtain ⟨wo, rfl⟩ : ∃ wo : World, wo = wr := ⟨_, rfl⟩
    go_loopg [5] q (fun g v wx => ∃ (j : Nat), v = .int .i64 j ∧ j ≤ q ∧ g = q - j ∧ OutM wx w.heap.size w.heap.size rb2 (i + 1) q (mixZ (fun i j => fl (X i j)) i j) ∧ Hid (∀ k, k < r → (∃ v, wx.cell? ⟨w.heap.size, k, none⟩ = some v) ∧ wx.frozen? ⟨w.heap.size, k, none⟩ = false) ∧ Below w.heap.size w wx)
    case atStart => exact ⟨0, rfl, Nat.zero_le _, rfl, O2, HT2, hB2⟩
    case round =>
    clear O2 HT2 hB2
    obtain ⟨j, rfl, hj, hgj, O, HT, hB⟩ := hrel
    have tc := (hB.cell (p := ⟨b, o + i, none⟩) hbl).trans tc0
    by_cases hjq : j < q
    · obtain ⟨rc0, rc1, rc2⟩ := HROW.out i hlt j hjq
      have rc := (hB.cell (p := ⟨mrb i, mro i + j, none⟩) (HRL.out i hlt (by omega))).trans rc0
      rw [HRD.out i hlt (by omega)] at tc
      have tp := O.top i (by omega)
      obtain ⟨cz, fz⟩ := O.cel i j (by omega) hjq
      have O3 : OutM (wr.drew.setCell ⟨rb2 i, j, none⟩ (.float .f64 (floatOfInt .f64 (X i j)))) w.heap.size w.heap.size rb2 (i + 1) q (mixZ (fun i j => fl (X i j)) i (j + 1)) :=
        OutM_set (OutM_below O (below_drewN (Below.refl _ _) 1)) (by omega) hjq (fun k l hk hl hne => by
          unfold mixZ
          by_cases e : k < i ∨ k = i ∧ l < j
          · rw [if_pos e, if_pos (by omega)]
          · rw [if_neg e, if_neg (by omega)]) (by unfold mixZ; rw [if_pos (by omega)]; rfl)
      have hrge := (O.rb_ge i (by omega)).1
      have hrne := O.rb_ne i (by omega)
      have HT3 : Hid (∀ k, k < r → (∃ v, (wr.drew.setCell ⟨rb2 i, j, none⟩ (.float .f64 (floatOfInt .f64 (X i j)))).cell? ⟨w.heap.size, k, none⟩ = some v) ∧ (wr.drew.setCell ⟨rb2 i, j, none⟩ (.float .f64 (floatOfInt .f64 (X i j)))).frozen? ⟨w.heap.size, k, none⟩ = false) := by
        intro k hk
        obtain ⟨⟨u, hu⟩, hfu⟩ := HT.out k hk
        rw [World.frozen?_setCell]
        exact ⟨cell?_setCell_some hu, hfu⟩
      have hB3 : Below w.heap.size w (wr.drew.setCell ⟨rb2 i, j, none⟩ (.float .f64 (floatOfInt .f64 (X i j)))) := hB.drew.setCell hrge _
      have i1 : (i : Int) < (r : Int) := by omega
      have i2 : (j : Int) < (q : Int) := by omega
      have i4 : (0 : Int) ≤ (i : Int) := by omega
      have i5 : (0 : Int) ≤ (j : Int) := by omega
      clear O HT hB rc0 tc0
      generalize X i j = x at *
      generalize mixZ (fun i j => fl (X i j)) i j i j = z0 at *
      go_wp2
      go_region
      go_wp2
      go_roundg (q - (j + 1))
      case measure => omega
      case rel => exact ⟨j + 1, by go_num, by omega, rfl, O3, HT3, hB3⟩
    · have hjq2 : j = q := by omega
      have O4 : OutM wr w.heap.size w.heap.size rb2 (i + 1) q (fun i j => fl (X i j)) := OutM_same O (fun k l hk hl => by unfold mixZ; rw [if_pos (by omega)])
      clear O
      go_wp2
      go_roundg (r - (i + 1))
      case measure => omega
      case rel => exact ⟨i + 1, _, by go_num, by omega, rfl, O4, HT, hB⟩
  · have e : i = r := by omega
    rw [e] at O
    go_wp2
    go_ret
    exact ⟨_, rb, rfl, O, hB⟩
end Go.Proofs.Qxb6606270a
