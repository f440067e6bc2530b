import Derived.Test.Qxb6606073aHb
set_option linter.unusedSimpArgs false
set_option linter.unusedVariables false
namespace Go.Proofs.Qxb6606073a
open Go.RowKit

theorem Try.info92 : (Try.prog.info? 92).map (fun i => (i.zero, i.size, i.bytes)) = some (some (.agg #[.bool false, .map none]), 2, 16) := by kernel_rfl
theorem zero92 (w : World) : (zeroValue 92).run Try.prog w = .ok (heldV false none) w := by
  obtain ⟨i1, hi1, hz01, hz11, hz21⟩ := info_parts Try.info92
  simp [zeroValue, typeInfo, hi1, hz01, heldV]

theorem AddX_succ (s : SD) (k : Nat) (hn : s.n ≠ 0) (x : Option ByteArray) : AddX s (k + 1) x ↔ (AddX s k x ∨ x = some (s.S k)) := by
  cases x with
  | none => simp [AddX, hn]
  | some y =>
    simp only [AddX]
    constructor
    · rintro ⟨i, hi, h⟩
      by_cases e : i = k
      · subst e; exact .inr (by rw [h])
      · exact .inl ⟨i, by omega, h⟩
    · rintro (⟨i, hi, h⟩ | h)
      · exact ⟨i, by omega, h⟩
      · injection h with h; exact ⟨k, by omega, h.symm⟩
theorem addG_succ (G : AK → Option ByteArray → Prop) (a : AK) (s : SD) (k : Nat) (hn : s.n ≠ 0) (a' : AK) (x : Option ByteArray) : (addG G a s k a' x ∨ (a' = a ∧ x = some (s.S k))) ↔ addG G a s (k + 1) a' x := by
  unfold addG
  rw [AddX_succ s k hn]
  constructor
  · rintro ((h | ⟨h1, h2⟩) | ⟨h1, h2⟩)
    · exact .inl h
    · exact .inr ⟨h1, .inl h2⟩
    · exact .inr ⟨h1, .inr h2⟩
  · rintro (h | ⟨h1, h2 | h2⟩)
    · exact .inl (.inl h)
    · exact .inl (.inr ⟨h1, h2⟩)
    · exact .inr ⟨h1, h2⟩
theorem addG_zero (G : AK → Option ByteArray → Prop) (a : AK) (s : SD) (hn : s.n ≠ 0) (a' : AK) (x : Option ByteArray) : G a' x ↔ addG G a s 0 a' x := by
  unfold addG
  refine ⟨.inl, ?_⟩
  rintro (h | ⟨h1, h2⟩)
  · exact h
  · cases x with
    | none => exact absurd h2 hn
    | some y => obtain ⟨i, hi, _⟩ := h2; omega

/-- One round of hold's loop. -/
theorem hold_round {B : Nat} {w wx : World} {T T' : Nat → Tag} {ab : Nat} {G : AK → Option ByteArray → Prop} {H : AK → Option (Bool × Option Nat)} {a : AK} {s : SD} {i nb hb : Nat} (hS : HeldS B wx T' ab (addG G a s i) H) (he : Eff heldTag B w wx T T') (hB : B ≤ w.heap.size)
    (hc : wx.cell? ⟨hb, 1, none⟩ = some (.map (some nb))) (hne : hb ≠ nb) (hH : H a = some (false, some nb)) (ha : ¬ G a none) (hn : s.n ≠ 0) (hk : KeyOk Try.prog 9 (kfS (s.S i))) :
    ∃ w', (Instr.mapUpdate 90 (.map (some nb)) (.string (s.S i)) (.bool true)).run Try.prog wx = .ok () w' ∧ HeldS B w' T' ab (addG G a s (i + 1)) H ∧ Eff heldTag B w w' T T' ∧ w'.cell? ⟨hb, 1, none⟩ = some (.map (some nb)) := by
  obtain ⟨t1, t2, N, h3, h4, h5⟩ := hS.nms a false nb hH
  have hna : ¬ addG G a s i a none := by
    rintro (h | ⟨_, h⟩)
    · exact ha h
    · exact hn h
  obtain ⟨w', hr, hm, hg⟩ := h3.put KS kfS_inj Try.underlying90 hk (.bool true)
  refine ⟨w', hr, (hS.setName hna hH h4 (h5 hna) hm hg (Q := fun x => x = some (s.S i)) (fun _ => Iff.rfl)).congr (fun a' x => addG_succ G a s i hn a' x), he.trans (Eff.grown hg t1 (Nat.le_trans hB he.bel.size) (by rw [t2]; rfl)), ?_⟩
  have hlt : hb < wx.heap.size := by
    rcases Nat.lt_or_ge hb wx.heap.size with h | h
    · exact h
    · exfalso
      have : wx.heap[hb]? = none := by simp [h]
      simp [World.cell?, this] at hc
  exact (World.cell?_of_block (a := ⟨hb, 1, none⟩) (hg.block hb hlt (by intro e; injection e with e; exact hne e))).trans hc

theorem run_makeMap_hint (n : Int) (w : World) : (Instr.makeMap 90 (some (.int .i64 n))).run Try.prog w = .ok (.map (some w.heap.size)) (w.alloc (.map #[] 0)) := by
  simp [Instr.makeMap, run_underlying Try.underlying90, asInt, Result.andThen]
  rfl

def HoldE (B : Nat) (ab : Nat) (a : AK) (s : SD) (T : Nat → Tag) (G : AK → Option ByteArray → Prop) (e : Ending) (w w' : World) : Prop :=
  e = .returned (.tuple #[]) ∧ ∃ T' H', HeldS B w' T' ab (addG G a s s.n) H' ∧ Eff heldTag B w w' T T'

set_option maxRecDepth 20000 in
set_option maxHeartbeats 2000000 in
theorem hold52 (B cb ab : Nat) (a : AK) (s : SD) (w : World) (T : Nat → Tag) (G : AK → Option ByteArray → Prop) (H : AK → Option (Bool × Option Nat))
    (hcb : cb < B) (hB : B ≤ w.heap.size) (hc : w.cell? ⟨cb, 1, none⟩ = some (.map (some ab))) (hS : HeldS B w T ab G H) (hs : s.ok w) (hsb : 0 < s.n → s.b < B) (hsn : s.n ≤ 65536) (hk : KeyOk Try.prog 88 (kfA a)) :
    Calls Try.prog 52 #[.pointer (some ⟨cb, 0, none⟩), kfA a, s.val] w fun e w' => HoldE B ab a s T G e w w' := by
  obtain ⟨a1, a2, a3, a4⟩ := a
  obtain ⟨W1, hW1⟩ : ∃ W, W = w.alloc (.cells #[.string a1, .string a2, .string a3, .bool a4] 88) := ⟨_, rfl⟩
  have hb1 : Below w.heap.size w W1 := by rw [hW1]; exact (Below.refl _ _).alloc (Nat.le_refl _) _
  have k0 := box_cell w #[.string a1, .string a2, .string a3, .bool a4] 88 0
  have k1 := box_cell w #[.string a1, .string a2, .string a3, .bool a4] 88 1
  have k2 := box_cell w #[.string a1, .string a2, .string a3, .bool a4] 88 2
  have k3 := box_cell w #[.string a1, .string a2, .string a3, .bool a4] 88 3
  simp only [List.getElem?_toArray, List.getElem?_cons_zero, List.getElem?_cons_succ] at k0 k1 k2 k3
  rw [← hW1] at k0 k1 k2 k3
  have hz1 : w.heap.size < W1.heap.size := by rw [hW1]; simp
  have hc1 := (hb1.cell (p := ⟨cb, 1, none⟩) (by show cb < _; omega)).trans hc
  unfold SD.val kfA
  go_enter Try.func52, Try.ntmps52
  go_wp2
  rw [← hW1]
  clear hW1
  have S1 := hS.kept (Eff.new (p := noTag) (T' := T) hb1 hB (fun _ _ => rfl)) (fun _ _ => rfl)
  obtain ⟨q, nm, hqn⟩ : ∃ q nm, (H (a1, a2, a3, a4)).getD (false, none) = (q, nm) := ⟨_, _, rfl⟩
  have hval : ((valH H) (a1, a2, a3, a4)).getD (heldV false none) = heldV q nm := by
    unfold valH
    cases hh : H (a1, a2, a3, a4) with
    | none => rw [hh] at hqn; simp at hqn; simp [hqn]
    | some x => rw [hh] at hqn; simp at hqn; simp [hqn]
  have L1 := (S1.map.kept (w' := W1.drew) rfl).look KA kfA_inj Try.underlying70 (zero92 _) hk
  obtain ⟨Y, hY⟩ : ∃ Y, Y = W1.alloc (.cells #[.bool false, .map none] 92) := ⟨_, rfl⟩
  have hbY : Below W1.heap.size W1 Y := by rw [hY]; exact (Below.refl _ _).alloc (Nat.le_refl _) _
  have SY := S1.kept (Eff.new (p := noTag) (T' := T) hbY (by omega) (fun _ _ => rfl)) (fun _ _ => rfl)
  have L2 := (SY.map.kept (w' := Y.drew) rfl).look KA kfA_inj Try.underlying70 (zero92 _) hk
  rw [hval] at L1 L2
  unfold kfA heldV at L1 L2
  have y0 := (hbY.cell (p := ⟨w.heap.size, 0, none⟩) hz1).trans k0
  have y1 := (hbY.cell (p := ⟨w.heap.size, 1, none⟩) hz1).trans k1
  have y2 := (hbY.cell (p := ⟨w.heap.size, 2, none⟩) hz1).trans k2
  have y3 := (hbY.cell (p := ⟨w.heap.size, 3, none⟩) hz1).trans k3
  have hcY := (hbY.cell (p := ⟨cb, 1, none⟩) (by show cb < _; omega)).trans hc1
  rw [hY] at L2 y0 y1 y2 y3 hcY
  go_region
  all_goals
    clear L1 L2 y0 y1 y2 y3 hcY SY hbY hY hval
    obtain ⟨X2, hX2⟩ : ∃ Y, Y = W1.alloc (.cells #[.bool q, .map nm] 92) := ⟨_, rfl⟩
    have hb2 : Below W1.heap.size W1 X2 := by rw [hX2]; exact (Below.refl _ _).alloc (Nat.le_refl _) _
    have x0 := box_cell W1 #[.bool q, .map nm] 92 0
    have x1 := box_cell W1 #[.bool q, .map nm] 92 1
    have fx : X2.frozen? ⟨W1.heap.size, 1, none⟩ = false := by rw [hX2]; simp
    simp only [List.getElem?_toArray, List.getElem?_cons_zero, List.getElem?_cons_succ] at x0 x1
    rw [← hX2] at x0 x1
    have hz2 : W1.heap.size < X2.heap.size := by rw [hX2]; simp
    have y0 := (hb2.cell (p := ⟨w.heap.size, 0, none⟩) hz1).trans k0
    have y1 := (hb2.cell (p := ⟨w.heap.size, 1, none⟩) hz1).trans k1
    have y2 := (hb2.cell (p := ⟨w.heap.size, 2, none⟩) hz1).trans k2
    have y3 := (hb2.cell (p := ⟨w.heap.size, 3, none⟩) hz1).trans k3
    have hcY := (hb2.cell (p := ⟨cb, 1, none⟩) (by show cb < _; omega)).trans hc1
    have hbw : Below w.heap.size w X2 := hb1.trans (hb2.mono hb1.size)
    have S2 := hid (hS.kept (Eff.new (p := noTag) (T' := T) hbw hB (fun _ _ => rfl)) (fun _ _ => rfl))
    have E2 : Hid (Eff heldTag B w X2 T T) := Eff.new hbw hB (fun _ _ => rfl)
    have hlts : ∀ q nb, H (a1, a2, a3, a4) = some (q, some nb) → nb < w.heap.size := fun q nb h => by
      obtain ⟨_, _, N, h3, _⟩ := hS.nms _ _ _ h
      exact h3.lt
    have habl := hS.map.lt
    have HHS := hid hS
    have HS := hid hs
    have HSB := hid hsb
    have HA := hid hs.ad
    rw [← hX2]
    clear k0 k1 k2 k3 hc1 hc S1 hS hs hsb hX2
    generalize hn' : s.n = n at *
    have HN := hid hn'
    generalize s.a = sa at *
    generalize s.c = sc at *
    clear hn'
    cases q with
    | true =>
      have hga : G (a1, a2, a3, a4) none := by
        refine (S2.out.all _).2 ⟨nm, ?_⟩
        cases hh : H (a1, a2, a3, a4) with
        | none => rw [hh] at hqn; simp at hqn
        | some x => rw [hh] at hqn; simp at hqn; rw [hqn]
      go_wp2
      refine bodyPost_ret (v := .tuple #[]) (by simp [results, Try.results52, go_sem]) rfl ?_
      exact ⟨rfl, T, H, (S2.out.weak hga _).kept (Eff.new (p := noTag) (T' := T) (Below.refl _ _).drew (by omega) (fun _ _ => rfl)) (fun _ _ => rfl), E2.out.trans (Eff.new (Below.refl _ _).drew (by omega) (fun _ _ => rfl))⟩
    | false =>
      have hng : ¬ G (a1, a2, a3, a4) none := by
        intro hga
        obtain ⟨nm', h'⟩ := (S2.out.all _).1 hga
        rw [h'] at hqn
        simp at hqn
      by_cases h0 : n = 0
      · subst h0
        obtain ⟨w3, hr3, hm3, hg3⟩ := (S2.out.map.kept (w' := X2.drew.drew) rfl).put KA kfA_inj Try.underlying70 hk (heldV true none)
        have S3 := hid (HeldS.setAll (S2.out.kept (w' := X2.drew.drew) (Eff.new (p := noTag) (T' := T) (Below.refl _ _).drew.drew (by omega) (fun _ _ => rfl)) (fun _ _ => rfl)) hm3 hg3 (Q := AddX s 0) HN.out)
        have E3 := hid (E2.out.trans ((Eff.new (Below.refl _ _).drew.drew (by omega) (fun _ _ => rfl)).trans (Eff.grown hg3 S2.out.ge (by show B ≤ X2.heap.size; omega) (by rw [S2.out.tag]; rfl))))
        unfold kfA heldV at hr3
        clear hm3 hg3
        go_wp2
        go_region
        all_goals go_wp2
        all_goals refine bodyPost_ret (v := .tuple #[]) (by simp [results, Try.results52, go_sem]) rfl ?_
        all_goals exact ⟨rfl, _, _, by rw [HN.out]; exact S3.out, E3.out⟩
      · have hnil : ∀ (w : World) (r : Option Nat), (binOp .eql 90 (.map r) (.map none)).run Try.prog w = .ok (.bool r.isNone) w := fun w r => run_eql_map_nil w 90 9 4 r Try.underlying90
        have hb0 : ((n : Int) == 0) = false := by simpa using h0
        cases nm with
        | some nb =>
        have hH2 : H (a1, a2, a3, a4) = some (false, some nb) := by
          cases hh : H (a1, a2, a3, a4) with
          | none => rw [hh] at hqn; simp at hqn
          | some x => rw [hh] at hqn; simp at hqn; rw [hqn]
        have hne : W1.heap.size ≠ nb := by have := hlts _ _ hH2; omega
        obtain ⟨H2, rfl⟩ : ∃ H2, H2 = H := ⟨_, rfl⟩
        obtain ⟨T2, hT2⟩ : ∃ T2, T2 = T := ⟨_, rfl⟩
        have SL : Hid (HeldS B X2.drew T2 ab (addG G (a1, a2, a3, a4) s 0) H2) := by
          rw [hT2]
          exact (S2.out.kept (Eff.new (p := noTag) (T' := T) (Below.refl _ _).drew (by omega) (fun _ _ => rfl)) (fun _ _ => rfl)).congr (addG_zero G _ s (by rw [HN.out]; exact h0))
        have EL : Hid (Eff heldTag B w X2.drew T T2) := by
          rw [hT2]
          exact E2.out.trans (Eff.new (Below.refl _ _).drew (by omega) (fun _ _ => rfl))
        have CL : X2.drew.cell? ⟨W1.heap.size, 1, none⟩ = some (.map (some nb)) := x1
        clear hT2
        go_wp2
        go_loopg [44] n (fun g v wx => ∃ (i : Nat), v = .int .i64 i ∧ i ≤ n ∧ g = n - i ∧ HeldS B wx T2 ab (addG G (a1, a2, a3, a4) s i) H2 ∧ Eff heldTag B w wx T T2 ∧ wx.cell? ⟨W1.heap.size, 1, none⟩ = some (.map (some nb)))
        case atStart => exact ⟨0, rfl, Nat.zero_le _, rfl, SL.out, EL.out, CL⟩
        case round =>
        clear SL EL CL
        obtain ⟨i, rfl, hi, hg, F, hE, hcl⟩ := hrel
        by_cases hlt : i < n
        · obtain rfl := HA.out (by omega)
          have cc := (hE.bel.cell (p := ⟨s.b, s.o + i, none⟩) (HSB.out (by omega))).trans (HS.out.cel i (by rw [HN.out]; exact hlt))
          obtain ⟨w5, hr5, S5, E5, C5⟩ := hold_round F hE hB hcl hne hH2 hng (by rw [HN.out]; omega) (okS (s.S i) (HS.out.sz i (by rw [HN.out]; exact hlt)))
          have S5 := hid S5
          have E5 := hid E5
          clear F hE
          go_wp2
          go_roundg (n - (i + 1))
          case measure => omega
          case rel => exact ⟨i + 1, by go_num, by omega, rfl, S5.out, E5.out, C5⟩
        · have e : i = n := by omega
          rw [e] at F
          go_wp2
          refine bodyPost_end (v := .tuple #[]) (by simp [results, Try.results52, go_sem]) rfl ?_
          exact ⟨rfl, _, _, by rw [HN.out]; exact F, hE⟩
        | none =>
        have hnm : ∀ q b, H (a1, a2, a3, a4) ≠ some (q, some b) := by
          intro q b hh
          rw [hh] at hqn
          simp at hqn
        have hmk := run_makeMap_hint n X2.drew
        obtain ⟨nb, hnb⟩ : ∃ nb, nb = X2.heap.size := ⟨_, rfl⟩
        obtain ⟨X3, hX3⟩ : ∃ Y, Y = (X2.setCell ⟨W1.heap.size, 1, none⟩ (.map (some nb))).alloc (.map #[] 0) := ⟨_, rfl⟩
        have hsz3 : (X2.setCell ⟨W1.heap.size, 1, none⟩ (.map (some nb))).heap.size = X2.heap.size := World.size_setCell _ _ _
        have hb3 : Below W1.heap.size W1 X3 := by
          rw [hX3]
          exact (hb2.setCell (p := ⟨W1.heap.size, 1, none⟩) (Nat.le_refl _) _).alloc (by omega) _
        have hbw3 : Below w.heap.size w X3 := hb1.trans (hb3.mono hb1.size)
        have hMK : MapK Try.prog 9 kfS X3 nb (fun _ => none) := by
          have := MapK.made (X2.setCell ⟨W1.heap.size, 1, none⟩ (.map (some nb))) Try.prog 9 kfS
          rw [hsz3, ← hnb, ← hX3] at this
          exact this
        have z0 := (hb3.cell (p := ⟨w.heap.size, 0, none⟩) hz1).trans (((hb2.cell (p := ⟨w.heap.size, 0, none⟩) hz1).symm).trans y0)
        have z1 := (hb3.cell (p := ⟨w.heap.size, 1, none⟩) hz1).trans (((hb2.cell (p := ⟨w.heap.size, 1, none⟩) hz1).symm).trans y1)
        have z2 := (hb3.cell (p := ⟨w.heap.size, 2, none⟩) hz1).trans (((hb2.cell (p := ⟨w.heap.size, 2, none⟩) hz1).symm).trans y2)
        have z3 := (hb3.cell (p := ⟨w.heap.size, 3, none⟩) hz1).trans (((hb2.cell (p := ⟨w.heap.size, 3, none⟩) hz1).symm).trans y3)
        have hcb1 : cb < W1.heap.size := by omega
        have zc := (hb3.cell (p := ⟨cb, 1, none⟩) hcb1).trans (((hb2.cell (p := ⟨cb, 1, none⟩) hcb1).symm).trans hcY)
        have hz2' : W1.heap.size < (X2.setCell ⟨W1.heap.size, 1, none⟩ (.map (some nb))).heap.size := by omega
        have h0c : X3.cell? ⟨W1.heap.size, 0, none⟩ = some (.bool false) := by
          rw [hX3]
          refine (World.cell?_of_block (a := ⟨W1.heap.size, 0, none⟩) (heap_alloc_old _ _ hz2')).trans ?_
          rw [World.cell?_setCell_other _ _ _ _ (by simp)]
          exact x0
        have h1c : X3.cell? ⟨W1.heap.size, 1, none⟩ = some (.map (some nb)) := by
          rw [hX3]
          refine (World.cell?_of_block (a := ⟨W1.heap.size, 1, none⟩) (heap_alloc_old _ _ hz2')).trans ?_
          exact World.cell?_setCell_same _ _ _ x1
        obtain ⟨T2, hT2⟩ : ∃ T2 : Nat → Tag, T2 = fun k => if k = nb then some (.inr (.inl (a1, a2, a3, a4))) else T k := ⟨_, rfl⟩
        have ht2 : ∀ k, k < w.heap.size → T2 k = T k := fun k hk => by rw [hT2]; simp only; rw [if_neg (by omega)]
        have hT2n : T2 nb = some (.inr (.inl (a1, a2, a3, a4))) := by rw [hT2]; simp
        have S3 := HHS.out.kept (Eff.new (p := noTag) (T' := T2) hbw3.drew.drew hB ht2) (fun _ _ => rfl)
        have E3 : Eff heldTag B w X3.drew.drew T T2 := Eff.new hbw3.drew.drew hB ht2
        obtain ⟨w4, hr4, hm4, hg4⟩ := S3.map.put KA kfA_inj Try.underlying70 hk (heldV false (some nb))
        have S4 := S3.setNew hm4 hg4 hng hnm (by omega) hT2n (hMK.kept (w' := X3.drew.drew) rfl)
        have hz3 : W1.heap.size < X3.heap.size := by rw [hX3, World.size_alloc]; omega
        have CL : w4.cell? ⟨W1.heap.size, 1, none⟩ = some (.map (some nb)) := (World.cell?_of_block (a := ⟨W1.heap.size, 1, none⟩) (hg4.block W1.heap.size hz3 (by intro e; have e' : W1.heap.size = ab := Option.some.inj e; omega))).trans h1c
        have SL : Hid (HeldS B w4 T2 ab (addG G (a1, a2, a3, a4) s 0) (putH H (a1, a2, a3, a4) (false, some nb))) := S4.congr (addG_zero G _ s (by rw [HN.out]; exact h0))
        have EL : Hid (Eff heldTag B w w4 T T2) := E3.trans (Eff.grown hg4 S3.ge (Nat.le_trans hB E3.bel.size) (by rw [S3.tag]; rfl))
        have hH2 := putH_eq H (a1, a2, a3, a4) (false, some nb)
        generalize putH H (a1, a2, a3, a4) (false, some nb) = H2 at *
        have hne : W1.heap.size ≠ nb := by omega
        unfold kfA heldV at hr4
        clear hT2 ht2 hT2n S3 E3 S4 hm4 hg4 hMK hbw3 hb3 HHS S2 E2
        go_wp2
        rw [← hnb, ← hX3]
        clear hX3 hnb hsz3 hz2' hmk
        go_region
        go_wp2
        go_loopg [44] n (fun g v wx => ∃ (i : Nat), v = .int .i64 i ∧ i ≤ n ∧ g = n - i ∧ HeldS B wx T2 ab (addG G (a1, a2, a3, a4) s i) H2 ∧ Eff heldTag B w wx T T2 ∧ wx.cell? ⟨W1.heap.size, 1, none⟩ = some (.map (some nb)))
        case atStart => exact ⟨0, rfl, Nat.zero_le _, rfl, SL.out, EL.out, CL⟩
        case round =>
        clear SL EL CL
        obtain ⟨i, rfl, hi, hg, F, hE, hcl⟩ := hrel
        by_cases hlt : i < n
        · obtain rfl := HA.out (by omega)
          have cc := (hE.bel.cell (p := ⟨s.b, s.o + i, none⟩) (HSB.out (by omega))).trans (HS.out.cel i (by rw [HN.out]; exact hlt))
          obtain ⟨w5, hr5, S5, E5, C5⟩ := hold_round F hE hB hcl hne hH2 hng (by rw [HN.out]; omega) (okS (s.S i) (HS.out.sz i (by rw [HN.out]; exact hlt)))
          have S5 := hid S5
          have E5 := hid E5
          clear F hE
          go_wp2
          go_roundg (n - (i + 1))
          case measure => omega
          case rel => exact ⟨i + 1, by go_num, by omega, rfl, S5.out, E5.out, C5⟩
        · have e : i = n := by omega
          rw [e] at F
          go_wp2
          refine bodyPost_end (v := .tuple #[]) (by simp [results, Try.results52, go_sem]) rfl ?_
          exact ⟨rfl, _, _, by rw [HN.out]; exact F, hE⟩
end Go.Proofs.Qxb6606073a
