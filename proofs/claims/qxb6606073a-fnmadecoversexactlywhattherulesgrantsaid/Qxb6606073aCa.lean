import Derived.Test.Qxb6606073aSd
set_option linter.unusedSimpArgs false
set_option linter.unusedVariables false
namespace Go.Proofs.Qxb6606073a
open Go.RowKit

theorem Try.info9 : (Try.prog.info? 9).map (fun i => (i.zero, i.size, i.bytes)) = some (some (.string ByteArray.empty), 1, 16) := by kernel_rfl

theorem made_at (z : Value) (n j : Nat) (h : j < n) : (madeCells #[z] n).toList[j]? = some z := by
  have : (madeCells #[z] n)[j]? = some z := by
    unfold madeCells
    rw [Array.getElem?_map, Array.getElem?_range]
    simp [h, Nat.mod_one]
  simpa using this

theorem madeN_at (zs : Array Value) (n j : Nat) (h : j < n) : ∃ v, (madeCells zs n).toList[j]? = some v := by
  have hs := size_madeCells zs n
  have : j < (madeCells zs n).toList.length := by simp [hs]; exact h
  exact ⟨_, List.getElem?_eq_getElem this⟩

theorem own_lt {w : World} {base : Nat} {e : TypeId} {size g n cap : Nat} {xs : List Value} (h : w.ownsRow base e size (.slice (some ⟨g, 0, none⟩) n cap) n xs) : g < w.heap.size := by
  have := World.ownsRow.lt h g (by simp [Value.ownBlock])
  exact this.2

/-- A row of one's own, filled as far as k. -/
structure Row1 (w : World) (b n : Nat) (V : Nat → Value) (k : Nat) : Prop where
  lt : b < w.heap.size
  old : ∀ i, i < n → (∃ v, w.cell? ⟨b, i, none⟩ = some v) ∧ w.frozen? ⟨b, i, none⟩ = false
  set : ∀ i, i < k → w.cell? ⟨b, i, none⟩ = some (V i)

theorem Row1_put {w : World} {b n k : Nat} {V : Nat → Value} (h : Row1 w b n V k) (hk : k < n) : Row1 (w.setCell ⟨b, k, none⟩ (V k)) b n V (k + 1) := by
  refine ⟨by simpa using h.lt, fun i hi => ?_, fun i hi => ?_⟩
  · rw [World.frozen?_setCell]
    obtain ⟨⟨v, hv⟩, hf⟩ := h.old i hi
    exact ⟨cell?_setCell_some hv, hf⟩
  · by_cases e : i = k
    · subst e
      obtain ⟨⟨v, hv⟩, hf⟩ := h.old i hk
      exact World.cell?_setCell_same _ _ _ hv
    · rw [World.cell?_setCell_other _ _ _ _ (by simp <;> omega)]
      exact h.set i (by omega)

theorem Row1_below {w w' : World} {b n k : Nat} {V : Nat → Value} (h : Row1 w b n V k) (hb : Below w.heap.size w w') : Row1 w' b n V k :=
  ⟨Nat.lt_of_lt_of_le h.lt hb.size, fun i hi => by rw [hb.cell (p := ⟨b, i, none⟩) h.lt, hb.frozen (p := ⟨b, i, none⟩) h.lt]; exact h.old i hi, fun i hi => (hb.cell (p := ⟨b, i, none⟩) h.lt).trans (h.set i hi)⟩

/-- The blocks from B on are as they were. -/
structure Above (B : Nat) (w w' : World) : Prop where
  size : w.heap.size ≤ w'.heap.size
  block : ∀ k, B ≤ k → k < w.heap.size → w'.heap[k]? = w.heap[k]?
theorem Above.cell {B : Nat} {w w' : World} (h : Above B w w') {p : Addr} (h1 : B ≤ p.block) (h2 : p.block < w.heap.size) : w'.cell? p = w.cell? p := World.cell?_of_block (w := w) (h.block p.block h1 h2)
theorem Above.refl (B : Nat) (w : World) : Above B w w := ⟨Nat.le_refl _, fun _ _ _ => rfl⟩
theorem Above.setCell {B : Nat} {a w : World} (h : Above B a w) {p : Addr} (hp : p.block < B) (u : Value) : Above B a (w.setCell p u) :=
  ⟨by rw [World.size_setCell]; exact h.size, fun k h1 h2 => (Below.heap_setCell w p u k (by omega)).trans (h.block k h1 h2)⟩

/-- New: from block B on. -/
def SD.fr (B : Nat) (s : SD) : Prop := 0 < s.n → B ≤ s.b
theorem SD.fr.mono {B B' : Nat} {s : SD} (h : s.fr B) (hB : B' ≤ B) : s.fr B' := fun h0 => Nat.le_trans hB (h h0)
theorem SD.ok.above {s : SD} {w w' : World} {B : Nat} (h : s.ok w) (hf : s.fr B) (ha : Above B w w') : s.ok w' :=
  ⟨h.n_le, h.ad, fun h0 => Nat.lt_of_lt_of_le (h.lt h0) ha.size, fun i hi => (ha.cell (p := ⟨s.b, s.o + i, none⟩) (hf (by omega)) (h.lt (by omega))).trans (h.cel i hi), h.sz⟩

/-- A value that is a clone of s. -/
def ClS (s : SD) (B : Nat) (v : Value) (w : World) : Prop := ∃ s' : SD, v = s'.val ∧ s'.n = s.n ∧ s'.ok w ∧ s'.fr B
theorem ClS.below {s : SD} {B : Nat} {v : Value} {w w' : World} (h : ClS s B v w) (hb : Below w.heap.size w w') : ClS s B v w' := by
  obtain ⟨s', h1, h2, h3, h4⟩ := h
  exact ⟨s', h1, h2, h3.below hb, h4⟩
theorem ClS.above {s : SD} {B : Nat} {v : Value} {w w' : World} (h : ClS s B v w) (hb : Above B w w') : ClS s B v w' := by
  obtain ⟨s', h1, h2, h3, h4⟩ := h
  exact ⟨s', h1, h2, h3.above h4 hb, h4⟩
theorem ClS.mono {s : SD} {B B' : Nat} {v : Value} {w : World} (h : ClS s B v w) (hb : B' ≤ B) : ClS s B' v w := by
  obtain ⟨s', h1, h2, h3, h4⟩ := h
  exact ⟨s', h1, h2, h3, h4.mono hb⟩

/-- What a clone of a slice of strings says. -/
def CloneS (s : SD) (e : Ending) (w w' : World) : Prop := ∃ v, e = .returned v ∧ ClS s w.heap.size v w' ∧ Below w.heap.size w w'

set_option maxRecDepth 20000 in
set_option maxHeartbeats 1000000 in
theorem cloneStrs37 (s : SD) (w : World) (h : s.ok w) (hn : s.n ≤ 65536) : Calls Try.prog 37 #[s.val] w fun e w' => CloneS s e w w' := by
  obtain ⟨hnl, ha, hl, hc, hz⟩ := h
  obtain ⟨a, n, c, b, o, S⟩ := s
  simp only [SD.val] at *
  have HS : Hid (∀ i, i < n → w.cell? ⟨b, o + i, none⟩ = some (.string (S i))) := hc
  have HZ : Hid (∀ i, i < n → (S i).size ≤ 9223372036854775807) := hz
  have HA : Hid (0 < n → a = some ⟨b, o, none⟩) := ha
  have HL : Hid (0 < n → b < w.heap.size) := hl
  clear hc hz ha hl
  obtain ⟨i1, hi1, hz01, hz11, hz21⟩ := info_parts Try.info9
  have hnil : ∀ (w : World) (a : Option Addr) (n c : Nat), (binOp .eql 23 (.slice a n c) (.slice none 0 0)).run Try.prog w = .ok (.bool a.isNone) w := fun w a n c => Lib.run_eql_slice_nil w 23 9 a n c 0 0 Try.underlying23
  cases a with
  | none =>
    have hn0 : n = 0 := by
      by_cases h0 : 0 < n
      · have := HA.out h0; cases this
      · omega
    subst hn0
    go_enter Try.func37, Try.ntmps37
    go_wp2
    go_ret
    exact ⟨_, rfl, ⟨⟨none, 0, 0, 0, 0, fun _ => ByteArray.empty⟩, rfl, rfl, ⟨by simp, fun h => by simp at h, fun h => by simp at h, fun i hi => by simp at hi, fun i hi => by simp at hi⟩, fun h => by simp at h⟩, Below.refl _ _⟩
  | some ad =>
    go_enter Try.func37, Try.ntmps37
    go_wp2_with (at_make; refine wpList_make_full _ rfl _ _ 23 rfl w.heap.size 9 i1 (.string ByteArray.empty) 1 Try.underlying23 hi1 hz01 hz11 .i64 .i64 _ _ n rfl rfl rfl rfl ?_ ?_ ?_ ?_)
    · first | omega | (rw [hz21]; omega)
    · unfold maxLen; omega
    · exact Nat.le_refl _
    intro W1 hown1 hgrow1
    have hB1 : Below w.heap.size w W1 := (Below.refl _ _).grown hgrow1 (Nat.le_refl _) (by intro k e; cases e)
    have R1 : Row1 W1 w.heap.size n (fun i => .string (S i)) 0 :=
      ⟨own_lt hown1, fun i hi => ⟨⟨_, (World.ownsRow.cellAt hown1 i (by omega)).trans (by simpa using made_at (.string ByteArray.empty) n i hi)⟩, World.ownsRow.frozenAt hown1 i⟩, fun i hi => by omega⟩
    clear hown1 hgrow1
    go_wp2
    go_loopg [4] n (fun g v wx => ∃ (i : Nat), v = .int .i64 i ∧ i ≤ n ∧ g = n - i ∧ Row1 wx w.heap.size n (fun i => .string (S i)) i ∧ Below w.heap.size w wx)
    case atStart => exact ⟨0, rfl, Nat.zero_le _, rfl, R1, hB1⟩
    case round =>
    clear R1 hB1
    obtain ⟨i, rfl, hi, hg, R, hB⟩ := hrel
    by_cases hlt : i < n
    · have ea : ad = ⟨b, o, none⟩ := by have := HA.out (by omega); simpa using this
      subst ea
      have cc := (hB.cell (p := ⟨b, o + i, none⟩) (HL.out (by omega))).trans (HS.out i hlt)
      obtain ⟨⟨v, hv⟩, hf⟩ := R.old i hlt
      have R2 := Row1_put R hlt
      have hB2 := hB.setCell (p := ⟨w.heap.size, i, none⟩) (Nat.le_refl _) (.string (S i))
      clear R hB
      go_wp2
      go_roundg (n - (i + 1))
      case measure => omega
      case rel => exact ⟨i + 1, by go_num, by omega, rfl, R2, hB2⟩
    · have e : i = n := by omega
      rw [e] at R
      go_wp2
      go_ret
      exact ⟨_, rfl, ⟨⟨some ⟨w.heap.size, 0, none⟩, n, n, w.heap.size, 0, S⟩, rfl, rfl, ⟨hnl, fun _ => rfl, fun _ => R.lt, fun i hi => by simpa using R.set i hi, HZ.out⟩, fun _ => Nat.le_refl _⟩, hB⟩
end Go.Proofs.Qxb6606073a
