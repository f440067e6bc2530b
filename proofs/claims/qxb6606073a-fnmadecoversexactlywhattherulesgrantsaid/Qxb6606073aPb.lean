import Derived.Test.Qxb6606073aPa
set_option linter.unusedSimpArgs false
set_option linter.unusedVariables false
namespace Go.Proofs.Qxb6606073a
open Go.RowKit

abbrev Gr := AK → Option ByteArray → Prop
abbrev Li := ByteArray → List ByteArray
def Or2 (G G' : Gr) : Gr := fun a x => G a x ∨ G' a x
def Acc (p : Nat → Gr) (n : Nat) : Gr := fun a x => ∃ i, i < n ∧ p i a x
theorem Or2_zero (G : Gr) (p : Nat → Gr) : Or2 G (Acc p 0) = G := by
  funext a x
  exact propext ⟨fun h => by rcases h with h | ⟨i, hi, _⟩; exact h; omega, .inl⟩
theorem Or2_succ (G : Gr) (p : Nat → Gr) (k : Nat) : Or2 (Or2 G (Acc p k)) (p k) = Or2 G (Acc p (k + 1)) := by
  funext a x
  refine propext ⟨?_, ?_⟩
  · rintro ((h | ⟨i, hi, h⟩) | h)
    · exact .inl h
    · exact .inr ⟨i, by omega, h⟩
    · exact .inr ⟨k, by omega, h⟩
  · rintro (h | ⟨i, hi, h⟩)
    · exact .inl (.inl h)
    · by_cases e : i = k
      · subst e; exact .inr h
      · exact .inl (.inr ⟨i, by omega, h⟩)
theorem Acc_succ (p : Nat → Gr) (k : Nat) : Or2 (Acc p k) (p k) = Acc p (k + 1) := by
  funext a x
  refine propext ⟨?_, ?_⟩
  · rintro (⟨i, hi, h⟩ | h)
    · exact ⟨i, by omega, h⟩
    · exact ⟨k, by omega, h⟩
  · rintro ⟨i, hi, h⟩
    by_cases e : i = k
    · subst e; exact .inr h
    · exact .inl ⟨i, by omega, h⟩

def LAcc (p : Nat → Li) : Nat → Li
  | 0 => fun _ => []
  | n + 1 => fun v => LAcc p n v ++ p n v
def Cat (L L' : Li) : Li := fun v => L v ++ L' v
theorem Cat_zero (L : Li) (p : Nat → Li) : Cat L (LAcc p 0) = L := by funext v; simp [Cat, LAcc]
theorem Cat_succ (L : Li) (p : Nat → Li) (k : Nat) : Cat (Cat L (LAcc p k)) (p k) = Cat L (LAcc p (k + 1)) := by funext v; simp [Cat, LAcc]
theorem LAcc_succ (p : Nat → Li) (k : Nat) : Cat (LAcc p k) (p k) = LAcc p (k + 1) := rfl

def pM (r : RD) (k l m : Nat) : Gr := fun a x => a = (r.v.S k, r.g.S l, r.r.S m, r.q) ∧ AddX r.m r.m.n x
def pG (r : RD) (k l : Nat) : Gr := Acc (pM r k l) r.r.n
def pV (r : RD) (k : Nat) : Gr := Acc (pG r k) r.g.n
def pR (r : RD) : Gr := Acc (pV r) r.v.n
def pRs (s : RsD) : Gr := Acc (fun j => pR (s.R j)) s.n
def pE (e : EsD) : Gr := Acc (fun i => pRs (e.rs i)) e.n
theorem addG_eq (G : Gr) (r : RD) (k l m : Nat) : addG G (r.v.S k, r.g.S l, r.r.S m, r.q) r.m r.m.n = Or2 G (pM r k l m) := rfl
def qV (p : PD) (k : Nat) : Li := fun v => if v = p.v.S k then strs p.u else []
def qP (p : PD) : Li := LAcc (qV p) p.v.n
def qPs (s : PsD) : Li := LAcc (fun j => qP (s.P j)) s.n
def qE (e : EsD) : Li := LAcc (fun i => qPs (e.ps i)) e.n
theorem addL_eq (L : Li) (p : PD) (k : Nat) : addL L (p.v.S k) p.u = Cat L (qV p k) := rfl

theorem len_LAcc (p : Nat → Li) (f : Nat → Nat) (v : ByteArray) : ∀ n, (∀ i, i < n → (p i v).length ≤ 65536 * f i) → (LAcc p n v).length ≤ 65536 * ssum f n
  | 0, _ => by simp [LAcc]
  | n + 1, h => by
    have h1 := len_LAcc p f v n (fun i hi => h i (by omega))
    have h2 := h n (by omega)
    simp only [LAcc, List.length_append, ssum, Nat.mul_add]
    omega
theorem len_qV (p : PD) (hu : p.u.n ≤ 65536) (k : Nat) (v : ByteArray) : (LAcc (qV p) k v).length ≤ 65536 * k := by
  have h := len_LAcc (qV p) (fun _ => 1) v k (fun i _ => by unfold qV; split <;> simp [strs]; exact hu)
  rw [ssum_const] at h
  omega
theorem len_qP (p : PD) (hu : p.u.n ≤ 65536) (v : ByteArray) : (qP p v).length ≤ 65536 * p.v.n := len_qV p hu _ v
theorem len_st (e : EsD) (hb : Bd e) {i j k : Nat} (hi : i < e.n) (hj : j < (e.ps i).n) (hk : k < ((e.ps i).P j).v.n) (v : ByteArray) :
    ((Cat (Cat (LAcc (fun i => qPs (e.ps i)) i) (LAcc (fun j => qP ((e.ps i).P j)) j)) (LAcc (qV ((e.ps i).P j)) k)) v).length + ((e.ps i).P j).u.n ≤ 4398046511104 := by
  have h1 := len_LAcc (fun i => qPs (e.ps i)) (fun i => ssum (fun j => ((e.ps i).P j).v.n) (e.ps i).n) v i (fun i' hi' => len_LAcc _ (fun j => ((e.ps i').P j).v.n) v _ (fun j' hj' => len_qP _ (hb.pu i' j' (by omega) hj') v))
  have h2 := len_LAcc (fun j => qP ((e.ps i).P j)) (fun j => ((e.ps i).P j).v.n) v j (fun j' hj' => len_qP _ (hb.pu i j' hi (by omega)) v)
  have h3 := len_qV ((e.ps i).P j) (hb.pu i j hi hj) k v
  have s1 := ssum_at (fun i => ssum (fun j => ((e.ps i).P j).v.n) (e.ps i).n) hi
  have s2 := ssum_at (fun j => ((e.ps i).P j).v.n) hj
  have s3 := hb.vt
  have s4 := hb.pu i j hi hj
  simp only [Cat, List.length_append] at *
  omega

/-! ### boxes -/
structure RBox (r : RD) (w : World) (x : Nat) : Prop where
  lt : x < w.heap.size
  c0 : w.cell? ⟨x, 0, none⟩ = some r.v.val
  c1 : w.cell? ⟨x, 1, none⟩ = some r.g.val
  c2 : w.cell? ⟨x, 2, none⟩ = some r.r.val
  c3 : w.cell? ⟨x, 3, none⟩ = some r.m.val
  c5 : w.cell? ⟨x, 5, none⟩ = some (.bool r.q)
theorem RBox.kept {r : RD} {w w' : World} {x : Nat} (h : RBox r w x) (hb : w'.heap[x]? = w.heap[x]?) (hz : w.heap.size ≤ w'.heap.size) : RBox r w' x := by
  have hc : ∀ i, w'.cell? ⟨x, i, none⟩ = w.cell? ⟨x, i, none⟩ := fun i => World.cell?_of_block (w := w) (a := ⟨x, i, none⟩) hb
  exact ⟨Nat.lt_of_lt_of_le h.lt hz, (hc _).trans h.c0, (hc _).trans h.c1, (hc _).trans h.c2, (hc _).trans h.c3, (hc _).trans h.c5⟩
theorem RBox.new (r : RD) (w : World) : RBox r (w.alloc (.cells #[r.v.val, r.g.val, r.r.val, r.m.val, r.y.val, .bool r.q] 34)) w.heap.size :=
  ⟨by simp, box_cell _ _ _ _, box_cell _ _ _ _, box_cell _ _ _ _, box_cell _ _ _ _, box_cell _ _ _ _⟩
structure PBox (p : PD) (w : World) (x : Nat) : Prop where
  lt : x < w.heap.size
  c0 : w.cell? ⟨x, 0, none⟩ = some p.v.val
  c1 : w.cell? ⟨x, 1, none⟩ = some p.u.val
theorem PBox.kept {p : PD} {w w' : World} {x : Nat} (h : PBox p w x) (hb : w'.heap[x]? = w.heap[x]?) (hz : w.heap.size ≤ w'.heap.size) : PBox p w' x := by
  have hc : ∀ i, w'.cell? ⟨x, i, none⟩ = w.cell? ⟨x, i, none⟩ := fun i => World.cell?_of_block (w := w) (a := ⟨x, i, none⟩) hb
  exact ⟨Nat.lt_of_lt_of_le h.lt hz, (hc _).trans h.c0, (hc _).trans h.c1⟩
theorem PBox.new (p : PD) (v : Value) (w : World) : PBox p (w.alloc (.cells #[p.v.val, p.u.val, v] 76)) w.heap.size :=
  ⟨by simp, box_cell _ _ _ _, box_cell _ _ _ _⟩

/-- made's state. -/
structure InS (B ab pb : Nat) (w0 : World) (G : Gr) (L : Li) (w : World) : Prop where
  ex : ∃ T H V, HeldS B w T ab G H ∧ PathS B w T pb L V
  bel : Below B w0 w
  le : B ≤ w0.heap.size
structure InR (B ab pb : Nat) (w0 : World) (G : Gr) (L : Li) (r : RD) (x : Nat) (w : World) : Prop where
  ex : ∃ T H V, HeldS B w T ab G H ∧ PathS B w T pb L V ∧ T x = none
  bel : Below B w0 w
  le : B ≤ w0.heap.size
  box : RBox r w x
structure InP (B ab pb : Nat) (w0 : World) (G : Gr) (L : Li) (p : PD) (x : Nat) (w : World) : Prop where
  ex : ∃ T H V, HeldS B w T ab G H ∧ PathS B w T pb L V ∧ T x = none
  bel : Below B w0 w
  le : B ≤ w0.heap.size
  box : PBox p w x

section
variable {B ab pb : Nat} {w0 w w' : World} {G : Gr} {L : Li} {r : RD} {p : PD} {x : Nat}
theorem new_tags (h : InS B ab pb w0 G L w) (hb : Below w.heap.size w w') : ∃ T H V, HeldS B w' T ab G H ∧ PathS B w' T pb L V ∧ T w.heap.size = none := by
  obtain ⟨T, H, V, h1, h2⟩ := h.ex
  have hB : B ≤ w.heap.size := Nat.le_trans h.le h.bel.size
  have ht : ∀ k, k < w.heap.size → (fun k => if k < w.heap.size then T k else none) k = T k := fun k hk => if_pos hk
  refine ⟨fun k => if k < w.heap.size then T k else none, H, V, h1.kept (Eff.new (p := noTag) hb hB ht) (fun _ _ => rfl), h2.kept (Eff.new (p := noTag) hb hB ht) (fun _ _ => rfl), ?_⟩
  simp
theorem InS.rbox (h : InS B ab pb w0 G L w) (r : RD) : InR B ab pb w0 G L r w.heap.size (w.alloc (.cells #[r.v.val, r.g.val, r.r.val, r.m.val, r.y.val, .bool r.q] 34)) :=
  have hb : Below w.heap.size w (w.alloc (.cells #[r.v.val, r.g.val, r.r.val, r.m.val, r.y.val, .bool r.q] 34)) := (Below.refl _ _).alloc (Nat.le_refl _) _
  ⟨new_tags h hb, h.bel.trans (hb.mono (Nat.le_trans h.le h.bel.size)), h.le, RBox.new r w⟩
theorem InS.pbox (h : InS B ab pb w0 G L w) (p : PD) (v : Value) : InP B ab pb w0 G L p w.heap.size (w.alloc (.cells #[p.v.val, p.u.val, v] 76)) :=
  have hb : Below w.heap.size w (w.alloc (.cells #[p.v.val, p.u.val, v] 76)) := (Below.refl _ _).alloc (Nat.le_refl _) _
  ⟨new_tags h hb, h.bel.trans (hb.mono (Nat.le_trans h.le h.bel.size)), h.le, PBox.new p v w⟩
theorem InR.out (h : InR B ab pb w0 G L r x w) : InS B ab pb w0 G L w := by
  obtain ⟨T, H, V, h1, h2, _⟩ := h.ex
  exact ⟨⟨T, H, V, h1, h2⟩, h.bel, h.le⟩
theorem InP.out (h : InP B ab pb w0 G L p x w) : InS B ab pb w0 G L w := by
  obtain ⟨T, H, V, h1, h2, _⟩ := h.ex
  exact ⟨⟨T, H, V, h1, h2⟩, h.bel, h.le⟩
theorem InR.hold {T : Nat → Tag} {H : AK → Option (Bool × Option Nat)} {V : ByteArray → Option Value} (h2 : PathS B w T pb L V) (h3 : T x = none) (hb : Below B w0 w) (hl : B ≤ w0.heap.size) (hr : RBox r w x) {a : AK} {s : SD} {e : Ending} (he : HoldE B ab a s T G e w w') :
    InR B ab pb w0 (addG G a s s.n) L r x w' := by
  obtain ⟨_, T', H', k1, k2⟩ := he
  exact ⟨⟨T', H', V, k1, h2.kept k2 (fun _ h => path_held h), (k2.tag x hr.lt).trans h3⟩, hb.trans k2.bel, hl, hr.kept (k2.blk x hr.lt (by rw [h3]; rfl)) k2.bel.size⟩
theorem InP.step (h : InP B ab pb w0 G L p x w) {v : ByteArray} (hv : v.size ≤ 9223372036854775807) (hs : p.u.ok w) (hlen : (L v).length + p.u.n ≤ 4398046511104) (ty : TypeId) :
    ∃ a n c x' w1 w2, (Instr.lookup 71 (.map (some pb)) (.string v) false).run Try.prog w.drew = .ok (.slice a n c) w.drew ∧ (Builtin.append_ #[23, 23] ty #[.slice a n c, p.u.val]).run Try.prog w.drew = .ok x' w1 ∧
      (Instr.mapUpdate 71 (.map (some pb)) (.string v) x').run Try.prog w1 = .ok () w2 ∧ Below B w w1 ∧ InP B ab pb w0 G (addL L v p.u) p x w2 := by
  obtain ⟨T, H, V, h1, h2, h3⟩ := h.ex
  have hB : B ≤ w.heap.size := Nat.le_trans h.le h.bel.size
  have hd : Below w.heap.size w w.drew := (Below.refl _ _).drew
  have he : ∀ q, Eff q B w w.drew T T := fun q => Eff.new hd hB (fun _ _ => rfl)
  obtain ⟨y, x', w1, w2, T', V', k1, k2, k3, k4, k5, k6, a, n, c, rfl⟩ := (h2.kept (he noTag) (fun _ _ => rfl)).step hB hv (hs.below hd) hlen ty
  have hE := (he pathTag).trans k6
  exact ⟨a, n, c, x', w1, w2, k1, k2, k3, (hd.mono hB).trans k4, ⟨T', H, V', h1.kept hE (fun _ h => held_path h), k5, (hE.tag x h.box.lt).trans h3⟩, h.bel.trans hE.bel, h.le, h.box.kept (hE.blk x h.box.lt (by rw [h3]; rfl)) hE.bel.size⟩
end
end Go.Proofs.Qxb6606073a
