import Derived.Test.Qxb6606073aHc
set_option linter.unusedSimpArgs false
set_option linter.unusedVariables false
namespace Go.Proofs.Qxb6606073a
open Go.RowKit

def strs (s : SD) : List ByteArray := (List.range s.n).map s.S
def vals (l : List ByteArray) : List Value := l.map Value.string

/-- append of a slice of strings, nil or not. -/
theorem run_append_strs (w : World) (B : Nat) (v : Value) (l : List ByteArray) (hown : w.ownsRow B 9 1 v l.length (vals l)) (s : SD) (hs : s.ok w) (hlen : l.length + s.n ≤ 4398046511104) (hB : B ≤ w.heap.size) (ty : TypeId) :
    ∃ v' w', (Builtin.append_ #[23, 23] ty #[v, s.val]).run Try.prog w = .ok v' w' ∧ w'.ownsRow B 9 1 v' (l ++ strs s).length (vals (l ++ strs s)) ∧ w.grownBy w' v.ownBlock ∧ (v'.ownBlock = v.ownBlock ∨ v'.ownBlock = some w.heap.size) := by
  obtain ⟨i1, hi1, hz01, hz11, hz21⟩ := info_parts Try.info9
  have hll : (l ++ strs s).length = l.length + s.n := by simp [strs]
  have hvv : vals (l ++ strs s) = vals l ++ vals (strs s) := by simp [vals]
  rw [hll, hvv]
  unfold SD.val
  cases ha : s.a with
  | some ad =>
    have hc : ∀ j u, (vals (strs s))[j]? = some u → w.cell? (ad.add j) = some u := by
      intro j u hj
      have hjn : j < s.n := by
        have := (List.getElem?_eq_some_iff.1 hj).1
        simpa [vals, strs] using this
      have e1 := hs.ad (by omega)
      rw [ha] at e1
      have e1 : ad = ⟨s.b, s.o, none⟩ := Option.some.inj e1
      rw [e1]
      have hu : u = .string (s.S j) := by
        have : (vals (strs s))[j]? = some (.string (s.S j)) := by simp [vals, strs, hjn]
        rw [hj] at this
        exact Option.some.inj this
      rw [hu]
      have := hs.cel j hjn
      rw [Addr.add_lit]
      exact this
    obtain ⟨v', w', h1, h2, h3, h4, h5⟩ := run_append_own_at (P := Try.prog) w B 23 ty 9 i1 (.string ByteArray.empty) 1 16 Try.underlying23 hi1 hz01 hz11 hz21 rfl (by omega) v l.length (vals l) hown ad s.n s.c (vals (strs s)) (by simp [vals, strs]) hc
      (by intro u hu; simp [vals] at hu; obtain ⟨x, _, rfl⟩ := hu; rfl) (by unfold maxLen; omega) (by omega) hB
    exact ⟨v', w', h1, h2, h3, h5⟩
  | none =>
    have h0 : s.n = 0 := by
      by_cases h : 0 < s.n
      · have := hs.ad h; rw [ha] at this; cases this
      · omega
    have hx : vals (strs s) = [] := by simp [vals, strs, h0]
    rw [h0, hx]
    refine ⟨v, w, ?_, by simpa using hown, ⟨rfl, rfl, rfl, Nat.le_refl _, fun _ _ _ => rfl⟩, .inl rfl⟩
    rcases hown.2 with ⟨rfl, hn⟩ | ⟨g, cap, cur, rfl, hbg, hg, hnc, hcm, hcs, htake⟩
    · simp [Builtin.append_, run_underlying Try.underlying23, sizeOf, typeInfo, hi1, Builtin.lenOf, Builtin.firstCells, loadCells, loadCellsFrom]
    · simp [Builtin.append_, run_underlying Try.underlying23, sizeOf, typeInfo, hi1, Builtin.lenOf, Builtin.firstCells, loadCells, loadCellsFrom, hnc, storeCells]

/-- What the map of paths holds. -/
structure PathS (B : Nat) (w : World) (T : Nat → Tag) (pb : Nat) (L : ByteArray → List ByteArray) (V : ByteArray → Option Value) : Prop where
  ge : B ≤ pb
  tag : T pb = some (.inl true)
  map : MapK Try.prog 9 kfS w pb V
  row : ∀ v u, V v = some u → w.ownsRow B 9 1 u (L v).length (vals (L v)) ∧ ∀ g, u.ownBlock = some g → T g = some (.inr (.inr v))
  non : ∀ v, V v = none → L v = []

theorem own_blk {w : World} {B : Nat} {u : Value} {n : Nat} {xs : List Value} (h : w.ownsRow B 9 1 u n xs) {g : Nat} (hg : u.ownBlock = some g) : B ≤ g ∧ g < w.heap.size := World.ownsRow.lt h g hg
theorem own_kept {w w' : World} {B : Nat} {u : Value} {n : Nat} {xs : List Value} (h : w.ownsRow B 9 1 u n xs) (hk : ∀ g, u.ownBlock = some g → w'.heap[g]? = w.heap[g]?) : w'.ownsRow B 9 1 u n xs := by
  refine ⟨h.1, ?_⟩
  rcases h.2 with h' | ⟨g, cap, cur, rfl, h1, h2, h3⟩
  · exact .inl h'
  · exact .inr ⟨g, cap, cur, rfl, h1, (hk g rfl).trans h2, h3⟩

section
variable {B : Nat} {w w' : World} {T T' : Nat → Tag} {pb : Nat} {L : ByteArray → List ByteArray} {V : ByteArray → Option Value}
theorem PathS.kept (h : PathS B w T pb L V) {p : Tag → Bool} (he : Eff p B w w' T T') (hp : ∀ t, pathTag t = true → p t = false) : PathS B w' T' pb L V := by
  refine ⟨h.ge, (he.tag pb h.map.lt).trans h.tag, h.map.kept (he.blk pb h.map.lt (hp _ (by rw [h.tag]; rfl))), fun v u hu => ?_, h.non⟩
  obtain ⟨h1, h2⟩ := h.row v u hu
  exact ⟨own_kept h1 (fun g hg => he.blk g (own_blk h1 hg).2 (hp _ (by rw [h2 g hg]; rfl))), fun g hg => (he.tag g (own_blk h1 hg).2).trans (h2 g hg)⟩

def addL (L : ByteArray → List ByteArray) (v : ByteArray) (s : SD) : ByteArray → List ByteArray := fun v' => L v' ++ (if v' = v then strs s else [])

/-- c.paths[v] = append(c.paths[v], urls...) -/
theorem PathS.step (h : PathS B w T pb L V) (hB : B ≤ w.heap.size) {v : ByteArray} (hv : v.size ≤ 9223372036854775807) {s : SD} (hs : s.ok w) (hlen : (L v).length + s.n ≤ 4398046511104) (ty : TypeId) :
    ∃ x x' w1 w2 T' V', (Instr.lookup 71 (.map (some pb)) (.string v) false).run Try.prog w = .ok x w ∧ (Builtin.append_ #[23, 23] ty #[x, s.val]).run Try.prog w = .ok x' w1 ∧
      (Instr.mapUpdate 71 (.map (some pb)) (.string v) x').run Try.prog w1 = .ok () w2 ∧ Below B w w1 ∧ PathS B w2 T' pb (addL L v s) V' ∧ Eff pathTag B w w2 T T' ∧ (∃ a n c, x = .slice a n c) := by
  have hk := okS v hv
  have zz : (zeroValue 23).run Try.prog w = .ok (.slice none 0 0) w := by
    have hi : (Try.prog.info? 23).map (fun i => (i.zero, i.size, i.bytes)) = some (some (.slice none 0 0), 1, 24) := by kernel_rfl
    obtain ⟨i1, hi1, hz01, hz11, hz21⟩ := info_parts hi
    simp [zeroValue, typeInfo, hi1, hz01]
  have hl := h.map.look KS kfS_inj Try.underlying71 zz hk
  obtain ⟨x, hx⟩ : ∃ x, x = (V v).getD (.slice none 0 0) := ⟨_, rfl⟩
  rw [← hx] at hl
  have own : w.ownsRow B 9 1 x (L v).length (vals (L v)) ∧ ∀ g, x.ownBlock = some g → T g = some (.inr (.inr v)) := by
    cases hV : V v with
    | none =>
      rw [hV] at hx
      simp at hx
      subst hx
      rw [h.non v hV]
      exact ⟨World.ownsRow_nil w B 9 1, fun g hg => by cases hg⟩
    | some u =>
      rw [hV] at hx
      simp at hx
      subst hx
      exact h.row v x hV
  obtain ⟨x', w1, ha, ho, hg1, hat⟩ := run_append_strs w B x (L v) own.1 s hs hlen hB ty
  obtain ⟨T', hT'⟩ : ∃ T' : Nat → Tag, T' = fun k => if k = w.heap.size then some (.inr (.inr v)) else T k := ⟨_, rfl⟩
  have ht : ∀ k, k < w.heap.size → T' k = T k := fun k hk => by rw [hT']; simp only; rw [if_neg (by omega)]
  have hE1 : Eff pathTag B w w1 T T' := by
    refine ⟨(Below.refl _ _).grown hg1 hB (fun k e => (own_blk own.1 (by rw [e])).1), fun k hk hp => hg1.block k hk ?_, ht⟩
    intro e
    have := own.2 k e.symm
    rw [this] at hp
    cases hp
  -- the paths' map is not the row
  have hpb1 : w1.heap[pb]? = w.heap[pb]? := hg1.block pb h.map.lt (by
    intro e
    have := own.2 pb e.symm
    rw [h.tag] at this
    cases this)
  have hm1 := h.map.kept hpb1
  obtain ⟨w2, hr2, hm2, hg2⟩ := hm1.put KS kfS_inj Try.underlying71 hk x'
  have htag : T' pb = some (.inl true) := (ht pb h.map.lt).trans h.tag
  have hE2 : Eff pathTag B w1 w2 T' T' := Eff.grown hg2 h.ge (Nat.le_trans hB hE1.bel.size) (by rw [htag]; rfl)
  have hxt : ∀ g, x'.ownBlock = some g → T' g = some (.inr (.inr v)) := by
    intro g hg
    rcases hat with e | e
    · rw [e] at hg
      rw [ht g (own_blk own.1 hg).2]
      exact own.2 g hg
    · rw [e] at hg
      have hg' : w.heap.size = g := Option.some.inj hg
      rw [hT', ← hg']
      simp
  refine ⟨x, x', w1, w2, T', putM V v x', hl, ha, hr2, hE1.bel, ⟨h.ge, htag, hm2, fun v' u hu => ?_, fun v' hv' => ?_⟩, hE1.trans hE2, ?_⟩
  · by_cases e : v' = v
    · subst e
      unfold putM at hu
      rw [if_pos rfl] at hu
      obtain rfl : x' = u := Option.some.inj hu
      unfold addL
      rw [if_pos rfl]
      refine ⟨own_kept ho (fun g hg => hg2.block g (own_blk ho hg).2 ?_), hxt⟩
      intro e1
      have e2 : g = pb := Option.some.inj e1
      have e3 := hxt g hg
      rw [e2, htag] at e3
      cases e3
    · unfold putM at hu
      rw [if_neg e] at hu
      obtain ⟨h1, h2⟩ := h.row v' u hu
      unfold addL
      rw [if_neg e, List.append_nil]
      have hne : ∀ g, u.ownBlock = some g → some g ≠ x.ownBlock := by
        intro g hg e1
        have := own.2 g e1.symm
        rw [h2 g hg] at this
        injection this with this
        injection this with this
        injection this with this
        exact e this
      refine ⟨own_kept h1 (fun g hg => ?_), fun g hg => (ht g (own_blk h1 hg).2).trans (h2 g hg)⟩
      refine (hg2.block g (Nat.lt_of_lt_of_le (own_blk h1 hg).2 hg1.size) ?_).trans (hg1.block g (own_blk h1 hg).2 (hne g hg))
      intro e1
      have e2 : g = pb := Option.some.inj e1
      have e3 := h2 g hg
      rw [e2, h.tag] at e3
      cases e3
  · unfold putM at hv'
    by_cases e : v' = v
    · rw [if_pos e] at hv'; cases hv'
    · rw [if_neg e] at hv'
      unfold addL
      rw [if_neg e, List.append_nil]
      exact h.non v' hv'
  · rcases own.1.2 with ⟨rfl, _⟩ | ⟨g, cap, cur, rfl, _⟩
    · exact ⟨_, _, _, rfl⟩
    · exact ⟨_, _, _, rfl⟩
end
end Go.Proofs.Qxb6606073a
