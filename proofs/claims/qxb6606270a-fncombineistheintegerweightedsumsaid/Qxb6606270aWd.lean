import Derived.Test.Qxb6606270aWc
set_option linter.unusedSimpArgs false
set_option linter.unusedVariables false
namespace Go.Proofs.Qxb6606270a
open Go.RowKit

theorem Try.info31 : (Try.prog.info? 31).map (fun i => (i.zero, i.size, i.bytes)) = some (some (.slice none 0 0), 1, 24) := by kernel_rfl
theorem Try.info32 : (Try.prog.info? 32).map (fun i => (i.zero, i.size, i.bytes)) = some (some (.float .f64 0), 1, 8) := by kernel_rfl

theorem made_at (z : Value) (n j : Nat) (h : j < n) : (madeCells #[z] n).toList[j]? = some z := by
  have : (madeCells #[z] n)[j]? = some z := by
    unfold madeCells
    rw [Array.getElem?_map, Array.getElem?_range]
    simp [h, Nat.mod_one]
  simpa using this

theorem own_lt {w : World} {base : Nat} {e : TypeId} {size g n cap : Nat} {xs : List Value} (h : w.ownsRow base e size (.slice (some ⟨g, 0, none⟩) n cap) n xs) : g < w.heap.size := by
  have := World.ownsRow.lt h g (by simp [Value.ownBlock])
  exact this.2

/-- A matrix of one's own, r rows of c cells. -/
structure OutM (w : World) (B ob : Nat) (rb : Nat → Nat) (r c : Nat) (Z : Nat → Nat → Nat) : Prop where
  ob_ge : B ≤ ob
  ob_lt : ob < w.heap.size
  rb_ge : ∀ i, i < r → B ≤ rb i ∧ rb i < w.heap.size
  rb_ne : ∀ i, i < r → rb i ≠ ob
  rb_inj : ∀ i j, i < r → j < r → i ≠ j → rb i ≠ rb j
  top : ∀ i, i < r → w.cell? ⟨ob, i, none⟩ = some (.slice (some ⟨rb i, 0, none⟩) c c)
  cel : ∀ i j, i < r → j < c → w.cell? ⟨rb i, j, none⟩ = some (.float .f64 (Z i j)) ∧ w.frozen? ⟨rb i, j, none⟩ = false

def putN (rb : Nat → Nat) (i g : Nat) : Nat → Nat := fun k => if k = i then g else rb k

/-- One row more. -/
theorem OutM_step {w w1 : World} {B ob i c g : Nat} {rb : Nat → Nat} (h : OutM w B ob rb i c (fun _ _ => 0)) (hg : g = w.heap.size)
    (ho : w1.ownsRow B 32 1 (.slice (some ⟨g, 0, none⟩) c c) c (madeCells #[.float .f64 0] c).toList) (hw : w.grownBy w1 none) (hc : ∃ v, w.cell? ⟨ob, i, none⟩ = some v) :
    OutM (w1.setCell ⟨ob, i, none⟩ (.slice (some ⟨g, 0, none⟩) c c)) B ob (putN rb i g) (i + 1) c (fun _ _ => 0) := by
  have hlt := own_lt ho
  have hsz := hw.size
  have hold : ∀ x : Addr, x.block < w.heap.size → w1.cell? x = w.cell? x := fun x hx => World.cell?_of_block (w := w) (hw.block x.block hx (by simp))
  have holdf : ∀ x : Addr, x.block < w.heap.size → w1.frozen? x = w.frozen? x := fun x hx => World.frozen?_of_block (w := w) (hw.block x.block hx (by simp))
  have hob := h.ob_lt
  have hgB : B ≤ g := (World.ownsRow.lt ho g (by simp [Value.ownBlock])).1
  refine ⟨h.ob_ge, by simp; omega, ?_, ?_, ?_, ?_, ?_⟩
  · intro k hk
    unfold putN
    by_cases e : k = i
    · rw [if_pos e]; exact ⟨hgB, by simpa using hlt⟩
    · rw [if_neg e]
      have := h.rb_ge k (by omega)
      exact ⟨this.1, by simp; omega⟩
  · intro k hk
    unfold putN
    by_cases e : k = i
    · rw [if_pos e]; omega
    · rw [if_neg e]; exact h.rb_ne k (by omega)
  · intro k l hk hl hkl
    unfold putN
    by_cases e : k = i
    · rw [if_pos e, if_neg (by omega)]
      have := h.rb_ge l (by omega)
      omega
    · rw [if_neg e]
      by_cases e2 : l = i
      · rw [if_pos e2]
        have := h.rb_ge k (by omega)
        omega
      · rw [if_neg e2]; exact h.rb_inj k l (by omega) (by omega) hkl
  · intro k hk
    unfold putN
    by_cases e : k = i
    · subst e
      rw [if_pos rfl]
      obtain ⟨v, hv⟩ := hc
      exact World.cell?_setCell_same _ _ _ ((hold ⟨ob, k, none⟩ hob).trans hv)
    · rw [if_neg e, World.cell?_setCell_other _ _ _ _ (by simp <;> omega), hold _ hob]
      exact h.top k (by omega)
  · intro k j hk hj
    unfold putN
    by_cases e : k = i
    · rw [if_pos e]
      rw [World.cell?_setCell_other _ _ _ _ (by simp <;> omega), World.frozen?_setCell, World.ownsRow.cellAt ho j (by omega)]
      exact ⟨made_at _ c j hj, World.ownsRow.frozenAt ho j⟩
    · rw [if_neg e]
      have hr := h.rb_ge k (by omega)
      have hne := h.rb_ne k (by omega)
      rw [World.cell?_setCell_other _ _ _ _ (by simp <;> omega), World.frozen?_setCell, hold ⟨rb k, j, none⟩ hr.2, holdf ⟨rb k, j, none⟩ hr.2]
      exact h.cel k j (by omega) hj

set_option maxHeartbeats 1000000 in
theorem zeros28 (r c : Nat) (w : World) (hr : r ≤ 1048576) (hc : c ≤ 1048576) :
    Calls Try.prog 28 #[.int .i64 r, .int .i64 c] w fun e w' => ∃ (ob : Nat) (rb : Nat → Nat), e = .returned (.slice (some ⟨ob, 0, none⟩) r r) ∧ OutM w' w.heap.size ob rb r c (fun _ _ => 0) ∧ Below w.heap.size w w' := by
  obtain ⟨i1, hi1, hz01, hz11, hz21⟩ := info_parts Try.info31
  obtain ⟨i2, hi2, hz02, hz12, hz22⟩ := info_parts Try.info32
  go_enter Try.func28, Try.ntmps28
  go_wp2_with (at_make; refine wpList_make_full _ rfl _ _ 28 rfl w.heap.size 31 i1 (.slice none 0 0) 1 Try.underlying28 hi1 hz01 hz11 .i64 .i64 _ _ r rfl rfl rfl rfl ?_ ?_ ?_ ?_)
  · rw [hz21]; omega
  · unfold maxLen; omega
  · exact Nat.le_refl _
  intro W1 hown1 hgrow1
  have hlt1 := own_lt hown1
  have hB1 : Below w.heap.size w W1 := (Below.refl _ _).grown hgrow1 (Nat.le_refl _) (by intro k e; cases e)
  have O1 : OutM W1 w.heap.size w.heap.size (fun _ => 0) 0 c (fun _ _ => 0) := ⟨Nat.le_refl _, hlt1, fun i hi => by omega, fun i hi => by omega, fun i j hi => by omega, fun i hi => by omega, fun i j hi => by omega⟩
  have T1 : ∀ k, k < r → (∃ v, W1.cell? ⟨w.heap.size, k, none⟩ = some v) ∧ W1.frozen? ⟨w.heap.size, k, none⟩ = false := fun k hk =>
    ⟨⟨_, (World.ownsRow.cellAt hown1 k (by omega)).trans (by simpa using made_at (.slice none 0 0) r k hk)⟩, World.ownsRow.frozenAt hown1 k⟩
  clear hown1 hgrow1 hi1 hz01 hz11 hz21
  go_wp2
  go_loopg [11] r (fun g v wx => ∃ (i : Nat) (rb : Nat → Nat), v = .int .i64 i ∧ i ≤ r ∧ g = r - i ∧ OutM wx w.heap.size w.heap.size rb i c (fun _ _ => 0) ∧ Hid (∀ k, k < r → (∃ v, wx.cell? ⟨w.heap.size, k, none⟩ = some v) ∧ wx.frozen? ⟨w.heap.size, k, none⟩ = false) ∧ Below w.heap.size w wx)
  case atStart => exact ⟨0, _, rfl, Nat.zero_le _, rfl, O1, T1, hB1⟩
  case round =>
  clear O1 T1 hB1
  obtain ⟨i, rb, rfl, hi, hg, O, HT, hB⟩ := hrel
  have hob := O.ob_lt
  by_cases hlt : i < r
  · obtain ⟨⟨v, hv⟩, hf⟩ := HT.out i hlt
    go_wp2_with (at_make; refine wpList_make_full _ rfl _ _ 31 rfl w.heap.size 32 i2 (.float .f64 0) 1 Try.underlying31 hi2 hz02 hz12 .i64 .i64 _ _ c rfl rfl rfl rfl ?_ ?_ ?_ ?_)
    · rw [hz22]; omega
    · unfold maxLen; omega
    · omega
    intro W2 hown2 hgrow2
    have hold : ∀ x : Addr, x.block < wr.heap.size → W2.cell? x = wr.cell? x := fun x hx => World.cell?_of_block (w := wr) (hgrow2.block x.block hx (by simp))
    have holdf : ∀ x : Addr, x.block < wr.heap.size → W2.frozen? x = wr.frozen? x := fun x hx => World.frozen?_of_block (w := wr) (hgrow2.block x.block hx (by simp))
    have hv2 := (hold ⟨w.heap.size, i, none⟩ hob).trans hv
    have hf2 := (holdf ⟨w.heap.size, i, none⟩ hob).trans hf
    have O2 := OutM_step O rfl (by simpa using hown2) hgrow2 ⟨v, hv⟩
    have HT2 : Hid (∀ k, k < r → (∃ v, (W2.setCell ⟨w.heap.size, i, none⟩ (.slice (some ⟨wr.heap.size, 0, none⟩) c c)).cell? ⟨w.heap.size, k, none⟩ = some v) ∧ (W2.setCell ⟨w.heap.size, i, none⟩ (.slice (some ⟨wr.heap.size, 0, none⟩) c c)).frozen? ⟨w.heap.size, k, none⟩ = false) := by
      intro k hk
      obtain ⟨⟨u, hu⟩, hfu⟩ := HT.out k hk
      rw [World.frozen?_setCell]
      exact ⟨cell?_setCell_some ((hold ⟨w.heap.size, k, none⟩ hob).trans hu), (holdf ⟨w.heap.size, k, none⟩ hob).trans hfu⟩
    have hB2 : Below w.heap.size w (W2.setCell ⟨w.heap.size, i, none⟩ (.slice (some ⟨wr.heap.size, 0, none⟩) c c)) := (hB.grown hgrow2 (by have := hB.size; omega) (by intro k e; cases e)).setCell (Nat.le_refl _) _
    clear hold holdf hown2 hgrow2 HT O hB hv hf
    go_wp2
    go_roundg (r - (i + 1))
    case measure => omega
    case rel => exact ⟨i + 1, _, by go_num, by omega, rfl, O2, HT2, hB2⟩
  · have e : i = r := by omega
    rw [e] at O
    go_wp2
    go_ret
    exact ⟨_, rb, rfl, O, hB⟩
end Go.Proofs.Qxb6606270a
