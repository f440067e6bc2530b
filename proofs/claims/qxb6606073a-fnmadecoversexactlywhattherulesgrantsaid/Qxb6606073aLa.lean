import Derived.Test.Qxb6606073aVa
set_option linter.unusedSimpArgs false
set_option linter.unusedVariables false
namespace Go.Proofs.Qxb6606073a
open Go.RowKit

theorem made48_again (e : EsD) (cb : Nat) (w : World) (hm : Made e cb w) : Calls Try.prog 48 #[.pointer (some ⟨cb, 0, none⟩)] w fun en w' => en = .returned (.pointer (some ⟨cb, 0, none⟩)) ∧ w = w' := by
  obtain ⟨ab, pb, x1, x2, hlt, w0, hI⟩ := hm
  have hnil : ∀ (w : World) (r : Option Nat), (binOp .neq 70 (.map r) (.map none)).run Try.prog w = .ok (.bool (!r.isNone)) w := fun w r => run_neq_map_nil w 70 88 92 r Try.underlying70
  clear hI
  go_enter Try.func48, Try.ntmps48
  go_wp2
  go_ret
  exact ⟨rfl, rfl⟩
theorem ZZMade27_again (e : EsD) (cb : Nat) (w : World) (hm : Made e cb w) : Calls Try.prog 27 #[.pointer (some ⟨cb, 0, none⟩)] w fun en w' => en = .returned (.pointer (some ⟨cb, 0, none⟩)) ∧ w = w' := by
  have C := made48_again e cb w hm
  go_enter Try.func27, Try.ntmps27
  go_wp2_with fail
  refine C.mono ?_
  rintro en w' ⟨rfl, rfl⟩
  clear C
  go_wp2
  go_ret
  exact ⟨rfl, rfl⟩

/-- What is held for an action. -/
def HeldAt (w : World) (G : Gr) (a : AK) (q : Bool) (nm : Option Nat) : Prop :=
  (q = true ∧ G a none) ∨ (q = false ∧ ¬ G a none ∧ nm = none ∧ ∀ s, ¬ G a (some s)) ∨
  (q = false ∧ ¬ G a none ∧ ∃ nb, nm = some nb ∧ ∃ N : ByteArray → Option Value, MapK Try.prog 9 kfS w nb N ∧ (∀ s, N s = none ∨ N s = some (.bool true)) ∧ ∀ s, G a (some s) ↔ N s = some (.bool true))
theorem HeldS.at_ {B : Nat} {w : World} {T : Nat → Tag} {ab : Nat} {G : Gr} {H : AK → Option (Bool × Option Nat)} (h : HeldS B w T ab G H) (a : AK) :
    ∃ q nm, ((valH H) a).getD (heldV false none) = heldV q nm ∧ HeldAt w G a q nm := by
  unfold valH
  cases hh : H a with
  | none =>
    refine ⟨false, none, rfl, .inr (.inl ⟨rfl, ?_, rfl, ?_⟩)⟩
    · rw [h.all a]
      rintro ⟨nm, h1⟩
      rw [hh] at h1; cases h1
    · intro s hs
      by_cases ha : G a none
      · rw [h.all a, hh] at ha; obtain ⟨_, h1⟩ := ha; cases h1
      · obtain ⟨nb, h1⟩ := h.non a s ha hs
        rw [hh] at h1; cases h1
  | some x =>
    obtain ⟨q, nm⟩ := x
    refine ⟨q, nm, rfl, ?_⟩
    cases q with
    | true => exact .inl ⟨rfl, (h.all a).2 ⟨nm, hh⟩⟩
    | false =>
      have ha : ¬ G a none := by
        rw [h.all a]
        rintro ⟨nm', h1⟩
        rw [hh] at h1; cases h1
      cases nm with
      | none =>
        refine .inr (.inl ⟨rfl, ha, rfl, fun s hs => ?_⟩)
        obtain ⟨nb, h1⟩ := h.non a s ha hs
        rw [hh] at h1; cases h1
      | some nb =>
        obtain ⟨h1, h2, N, h3, h4, h5⟩ := h.nms a false nb hh
        exact .inr (.inr ⟨rfl, ha, nb, rfl, N, h3, h4, h5 ha⟩)

/-- Is an action granted? -/
def CG (G : Gr) (named : Bool) (name : ByteArray) (a : AK) : Prop := G a none ∨ (named = true ∧ G a (some name))
def star : ByteArray := ⟨#[42]⟩
def two (x : ByteArray) : Nat → ByteArray
  | 0 => x
  | _ => star

theorem idx89 (x : ByteArray) (i : Nat) (hi : i < 2) (w : World) : (Instr.index 89 (.agg #[.string x, .string ⟨#[42]⟩]) (.int .i64 i)).run Try.prog w = .ok (.string (two x i)) w := by
  obtain ⟨i1, hi1, hz01, hz11, hz21⟩ := info_parts Try.info9
  match i, hi with
  | 0, _ => simp [Instr.index, run_underlying Try.underlying89, run_underlying Try.underlying9, asIntOf, part, isAgg, sizeOf, typeInfo, hi1, hz11, two, star]
  | 1, _ => simp [Instr.index, run_underlying Try.underlying89, run_underlying Try.underlying9, asIntOf, part, isAgg, sizeOf, typeInfo, hi1, hz11, two, star]
theorem zero4 (w : World) : (zeroValue 4).run Try.prog w = .ok (.bool false) w := by
  have hi : (Try.prog.info? 4).map (fun i => (i.zero, i.size, i.bytes)) = some (some (.bool false), 1, 1) := by kernel_rfl
  obtain ⟨i1, hi1, hz01, hz11, hz21⟩ := info_parts hi
  simp [zeroValue, typeInfo, hi1, hz01]
theorem look_nil90 (s : ByteArray) (h : s.size ≤ 9223372036854775807) (w : World) : (Instr.lookup 90 (.map none) (.string s) false).run Try.prog w = .ok (.bool false) w := by
  obtain ⟨l, hl⟩ := okS s h
  unfold kfS at hl
  rcases KS.find w hl [] (fun e he => by cases he) with ⟨f1, _⟩ | ⟨j, e0, _, f2, _⟩
  · simp [Instr.lookup, run_underlying Try.underlying90, KS.check w _ hl, f1, zero4, Result.andThen]
  · cases f2

set_option maxRecDepth 20000 in
set_option maxHeartbeats 4000000 in
theorem covers49 (B cb ab : Nat) (T : Nat → Tag) (G : Gr) (H : AK → Option (Bool × Option Nat)) (w : World) (hcB : cb < B) (hB : B ≤ w.heap.size) (hc : w.cell? ⟨cb, 1, none⟩ = some (.map (some ab))) (hS : HeldS B w T ab G H)
    (v g r : ByteArray) (q : Bool) (nm : ByteArray) (named : Bool) (hv : v.size ≤ 9223372036854775807) (hg : g.size ≤ 9223372036854775807) (hr : r.size ≤ 9223372036854775807) (hnm : nm.size ≤ 9223372036854775807) :
    Calls Try.prog 49 #[.pointer (some ⟨cb, 0, none⟩), .string v, .string g, .agg #[.string r, .bool q], .string nm, .bool named] w fun en w' =>
      ∃ b : Bool, en = .returned (.bool b) ∧ (b = true ↔ ∃ i, i < 2 ∧ ∃ j, j < 2 ∧ CG G named nm (two v i, two g j, r, q)) ∧ Below w.heap.size w w' := by
  have HK : Hid (∀ i j, KeyOk Try.prog 88 (kfA (two v i, two g j, r, q))) := by
    intro i j
    have h2 : ∀ (x : ByteArray) (i : Nat), x.size ≤ 9223372036854775807 → (two x i).size ≤ 9223372036854775807 := by
      intro x i hx
      match i with
      | 0 => exact hx
      | i + 1 => exact (by decide : star.size ≤ 9223372036854775807)
    exact okA _ (h2 v i hv) (h2 g j hg) hr
  obtain ⟨W1, hW1⟩ : ∃ W, W = w.alloc (.cells #[.string r, .bool q] 83) := ⟨_, rfl⟩
  have hb1 : Below w.heap.size w W1 := by rw [hW1]; exact (Below.refl _ _).alloc (Nat.le_refl _) _
  have k0 := box_cell w #[.string r, .bool q] 83 0
  have k1 := box_cell w #[.string r, .bool q] 83 1
  simp only [List.getElem?_toArray, List.getElem?_cons_zero, List.getElem?_cons_succ] at k0 k1
  rw [← hW1] at k0 k1
  have hz1 : w.heap.size < W1.heap.size := by rw [hW1]; simp
  have HX : Hid (∀ wx, Below W1.heap.size W1 wx → wx.cell? ⟨w.heap.size, 0, none⟩ = some (.string r) ∧ wx.cell? ⟨w.heap.size, 1, none⟩ = some (.bool q) ∧ wx.cell? ⟨cb, 1, none⟩ = some (.map (some ab)) ∧ HeldS B wx T ab G H ∧ Below w.heap.size w wx ∧ W1.heap.size ≤ wx.heap.size) := by
    intro wx hx
    have hx1 := hb1.trans (hx.mono hb1.size)
    exact ⟨(hx.cell (p := ⟨w.heap.size, 0, none⟩) hz1).trans k0, (hx.cell (p := ⟨w.heap.size, 1, none⟩) hz1).trans k1, (hx1.cell (p := ⟨cb, 1, none⟩) (by show cb < _; omega)).trans hc,
      hS.kept (Eff.new (p := noTag) (T' := T) hx1 hB (fun _ _ => rfl)) (fun _ _ => rfl), hx1, hx.size⟩
  go_enter Try.func49, Try.ntmps49
  go_wp2
  rw [← hW1]
  clear hW1 k0 k1 hc hS hb1 hv hg hr
  go_loopg [20] 2 (fun gk v20 wx => ∃ (i : Nat), v20 = .int .i64 i ∧ i ≤ 2 ∧ gk = 2 - i ∧ (∀ i', i' < i → ∀ j, j < 2 → ¬ CG G named nm (two v i', two g j, r, q)) ∧ Below W1.heap.size W1 wx)
  case atStart => exact ⟨0, rfl, Nat.zero_le _, rfl, fun i' hi => by omega, Below.refl _ _⟩
  case round =>
  obtain ⟨i, rfl, hi, hgi, hno, hB1⟩ := hrel
  have HNO := hid hno
  clear hno
  by_cases hlt : i < 2
  · have hix := idx89 v i hlt wr
    go_wp2
    go_loopg [25] 2 (fun gk v25 wx => ∃ (j : Nat), v25 = .int .i64 j ∧ j ≤ 2 ∧ gk = 2 - j ∧ (∀ j', j' < j → ¬ CG G named nm (two v i, two g j', r, q)) ∧ Below W1.heap.size W1 wx)
    case atStart => exact ⟨0, rfl, Nat.zero_le _, rfl, fun i' hi => by omega, hB1⟩
    case round =>
    clear hix hB1
    obtain ⟨j, rfl, hj, hgj, hno, hB1⟩ := hrel
    have HNJ := hid hno
    clear hno
    by_cases hjl : j < 2
    · have hix := idx89 g j hjl wr
      obtain ⟨y0, y1, hcY, SY, hbw, hsz⟩ := HX.out wr hB1
      obtain ⟨qq, nm', hval, hAt⟩ := SY.at_ (two v i, two g j, r, q)
      have L1 := (SY.map.kept (w' := wr.drew) rfl).look KA kfA_inj Try.underlying70 (zero92 _) (HK.out i j)
      have hbY : Below wr.heap.size wr (wr.alloc (.cells #[.bool false, .map none] 92)) := (Below.refl _ _).alloc (Nat.le_refl _) _
      have hBw : B ≤ wr.heap.size := by omega
      have SY2 := SY.kept (Eff.new (p := noTag) (T' := T) hbY hBw (fun _ _ => rfl)) (fun _ _ => rfl)
      have L2 := (SY2.map.kept (w' := (wr.alloc (.cells #[.bool false, .map none] 92)).drew) rfl).look KA kfA_inj Try.underlying70 (zero92 _) (HK.out i j)
      rw [hval] at L1 L2
      unfold kfA heldV at L1 L2
      have hz2 : w.heap.size < wr.heap.size := by omega
      have z0 := (hbY.cell (p := ⟨w.heap.size, 0, none⟩) hz2).trans y0
      have z1 := (hbY.cell (p := ⟨w.heap.size, 1, none⟩) hz2).trans y1
      have zc := (hbY.cell (p := ⟨cb, 1, none⟩) (by show cb < _; omega)).trans hcY
      have HAt := hid hAt
      have HBW := hid hbw
      have HNX : Hid (¬ CG G named nm (two v i, two g j, r, q) → ∀ j', j' < j + 1 → ¬ CG G named nm (two v i, two g j', r, q)) := by
        intro h j' hj'
        by_cases ej : j' = j
        · rw [ej]; exact h
        · exact HNJ.out j' (by omega)
      have HY : Hid (CG G named nm (two v i, two g j, r, q) → ∃ i, i < 2 ∧ ∃ j, j < 2 ∧ CG G named nm (two v i, two g j, r, q)) := fun h => ⟨i, hlt, j, hjl, h⟩
      clear SY SY2 hval hAt hbY hbw HNJ
      dsimp only at L1 L2
      generalize two v i = vi at *
      generalize two g j = gj at *
      go_wp2
      go_region
      all_goals
        clear L1 L2 y0 y1 hcY z0 z1 zc hix
        obtain ⟨X2, hX2⟩ : ∃ Y, Y = wr.alloc (.cells #[.bool qq, .map nm'] 92) := ⟨_, rfl⟩
        have hb2 : Below wr.heap.size wr X2 := by rw [hX2]; exact (Below.refl _ _).alloc (Nat.le_refl _) _
        have x0 := box_cell wr #[.bool qq, .map nm'] 92 0
        have x1 := box_cell wr #[.bool qq, .map nm'] 92 1
        simp only [List.getElem?_toArray, List.getElem?_cons_zero, List.getElem?_cons_succ] at x0 x1
        rw [← hX2] at x0 x1
        rw [← hX2]
        clear hX2
        have hB5 := hid ((hB1.trans (hb2.mono hB1.size)).drew)
        have hB6 := hid ((HBW.out.trans (hb2.mono HBW.out.size)).drew)
        rcases HAt.out with ⟨rfl, hG⟩ | ⟨rfl, hG, rfl, hNo⟩ | ⟨rfl, hG, nb, rfl, N, hN, hN2, hN3⟩
        · clear HAt
          go_wp2
          go_ret
          exact ⟨true, rfl, ⟨fun _ => HY.out (.inl hG), fun _ => rfl⟩, hB6.out⟩
        · have hne : ¬ CG G named nm (vi, gj, r, q) := by
            rintro (h | ⟨_, h⟩)
            · exact hG h
            · exact hNo _ h
          have HNE := hid hne
          have hlk := look_nil90 nm hnm X2.drew
          clear HAt hG hNo hne
          cases named with
          | false =>
            go_wp2
            go_roundg (2 - (j + 1))
            case measure => omega
            case rel => exact ⟨j + 1, by go_num, by omega, rfl, HNX.out HNE.out, hB5.out⟩
          | true =>
            go_wp2
            go_roundg (2 - (j + 1))
            case measure => omega
            case rel => exact ⟨j + 1, by go_num, by omega, rfl, HNX.out HNE.out, hB5.out⟩
        · have hlk := (hN.kept (w' := X2.drew) (hb2.block nb hN.lt)).look KS kfS_inj Try.underlying90 (zero4 _) (okS nm hnm)
          have HG := hid hG
          have HN3 := hid (hN3 nm)
          have HN2 := hid (hN2 nm)
          unfold kfS at hlk
          clear HAt hG hN hN2 hN3
          cases named with
          | false =>
            clear hlk
            go_wp2
            go_roundg (2 - (j + 1))
            case measure => omega
            case rel =>
              refine ⟨j + 1, by go_num, by omega, rfl, HNX.out ?_, hB5.out⟩
              rintro (h | ⟨h, _⟩)
              · exact HG.out h
              · cases h
          | true =>
            rcases HN2.out with hN | hN
            · rw [hN] at hlk
              have HN' := hid hN
              clear hN
              dsimp only [Option.getD] at hlk
              go_wp2
              go_roundg (2 - (j + 1))
              case measure => omega
              case rel =>
                refine ⟨j + 1, by go_num, by omega, rfl, HNX.out ?_, hB5.out⟩
                rintro (h | ⟨_, h⟩)
                · exact HG.out h
                · rw [HN3.out, HN'.out] at h
                  cases h
            · rw [hN] at hlk
              have HN' := hid hN
              clear hN
              dsimp only [Option.getD] at hlk
              go_wp2
              go_ret
              exact ⟨true, rfl, ⟨fun _ => HY.out (.inr ⟨rfl, HN3.out.2 HN'.out⟩), fun _ => rfl⟩, hB6.out⟩
    · obtain rfl : j = 2 := by omega
      go_wp2
      go_roundg (2 - (i + 1))
      case measure => omega
      case rel =>
        refine ⟨i + 1, by go_num, by omega, rfl, fun i' hi' j' hj' => ?_, hB1⟩
        by_cases ei : i' = i
        · rw [ei]; exact HNJ.out j' hj'
        · exact HNO.out i' (by omega) j' hj'
  · obtain rfl : i = 2 := by omega
    have hbw := (HX.out wr hB1).2.2.2.2.1
    go_wp2
    go_ret
    exact ⟨false, rfl, ⟨fun h => (by cases h), fun ⟨i', h1, j', h2, h3⟩ => absurd h3 (HNO.out i' h1 j' h2)⟩, hbw⟩

theorem ZZCovers28 (e : EsD) (cb : Nat) (w : World) (hm : Made e cb w)
    (v g r : ByteArray) (q : Bool) (nm : ByteArray) (named : Bool) (hv : v.size ≤ 9223372036854775807) (hg : g.size ≤ 9223372036854775807) (hr : r.size ≤ 9223372036854775807) (hnm : nm.size ≤ 9223372036854775807) :
    Calls Try.prog 28 #[.pointer (some ⟨cb, 0, none⟩), .string v, .string g, .string r, .bool q, .string nm, .bool named] w fun en w' =>
      ∃ b : Bool, en = .returned (.bool b) ∧ (b = true ↔ ∃ i, i < 2 ∧ ∃ j, j < 2 ∧ CG (pE e) named nm (two v i, two g j, r, q)) ∧ Below w.heap.size w w' := by
  obtain ⟨ab, pb, x1, x2, hlt, w0, hI⟩ := hm
  obtain ⟨T, H, V, hS, _⟩ := hI.ex
  have C := covers49 (cb + 1) cb ab T (pE e) H w (Nat.lt_succ_self _) hlt x1 hS v g r q nm named hv hg hr hnm
  clear hI hS x1 x2
  go_enter Try.func28, Try.ntmps28
  go_wp2_with fail
  refine C.mono ?_
  rintro en w' ⟨b, rfl, hb, hB⟩
  clear C
  go_wp2
  go_ret
  exact ⟨b, rfl, hb, hB⟩
end Go.Proofs.Qxb6606073a
