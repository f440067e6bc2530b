import Derived.Test.Qxb6606061aWg
set_option linter.unusedSimpArgs false
set_option linter.unusedVariables false
namespace Go.Proofs.Qxb6606061a
open Go.RowKit

/-- A row of states in memory, which may be written. -/
def BRow (w : World) (b : Nat) (f : Nat → Bool) (t : Nat) : Prop := ∀ j, j ≤ t → w.cell? ⟨b, j, none⟩ = some (.bool (f j)) ∧ w.frozen? ⟨b, j, none⟩ = false
/-- A row of kinds in memory. -/
def Kr (w : World) (b : Nat) (ks : List Int) : Prop := ∀ k, k < ks.length → w.cell? ⟨b, k, none⟩ = some (.int .u8 (gr ks k))
/-- Nothing has turned but block b. -/
structure Only (b : Nat) (w w' : World) : Prop where
  os : w'.os = w.os
  tape : w'.tape = w.tape
  output : w'.output = w.output
  size : w'.heap.size = w.heap.size
  block : ∀ k, k ≠ b → w'.heap[k]? = w.heap[k]?

theorem Only.refl (b : Nat) (w : World) : Only b w w := ⟨rfl, rfl, rfl, rfl, fun _ _ => rfl⟩
theorem Only.trans {b : Nat} {a c d : World} (h : Only b a c) (k : Only b c d) : Only b a d :=
  ⟨k.os.trans h.os, k.tape.trans h.tape, k.output.trans h.output, k.size.trans h.size, fun i hi => (k.block i hi).trans (h.block i hi)⟩
theorem Only.set {b : Nat} (w : World) (o : Nat) (v : Value) : Only b w (w.setCell ⟨b, o, none⟩ v) :=
  ⟨rfl, rfl, rfl, by simp, fun k hk => Below.heap_setCell _ _ _ _ hk⟩
theorem Only.drewN {b : Nat} {w w' : World} (h : Only b w w') (n : Nat) : Only b w (w'.drewN n) := ⟨h.os, h.tape, h.output, h.size, h.block⟩
theorem Only.below {b B : Nat} {w w' : World} (h : Only b w w') (hB : B ≤ b) : Below B w w' :=
  ⟨h.os, h.tape, h.output, by rw [h.size]; exact Nat.le_refl _, fun k hk => h.block k (by omega)⟩
theorem Only.cell {b : Nat} {w w' : World} (h : Only b w w') {x : Addr} (hx : x.block ≠ b) : w'.cell? x = w.cell? x := World.cell?_of_block (w := w) (h.block x.block hx)
theorem Only.frozen {b : Nat} {w w' : World} (h : Only b w w') {x : Addr} (hx : x.block ≠ b) : w'.frozen? x = w.frozen? x := World.frozen?_of_block (w := w) (h.block x.block hx)

theorem Kr_only {b : Nat} {w w' : World} {bk : Nat} {ks : List Int} (h : Kr w bk ks) (ho : Only b w w') (hne : bk ≠ b) : Kr w' bk ks :=
  fun k hk => (ho.cell (x := ⟨bk, k, none⟩) hne).trans (h k hk)
theorem Kr_below {B : Nat} {w w' : World} {bk : Nat} {ks : List Int} (h : Kr w bk ks) (hb : Below B w w') (hB : bk < B) : Kr w' bk ks :=
  fun k hk => (hb.cell (p := ⟨bk, k, none⟩) hB).trans (h k hk)
theorem BRow_only {b : Nat} {w w' : World} {b2 : Nat} {f : Nat → Bool} {t : Nat} (h : BRow w b2 f t) (ho : Only b w w') (hne : b2 ≠ b) : BRow w' b2 f t :=
  fun j hj => ⟨(ho.cell (x := ⟨b2, j, none⟩) hne).trans (h j hj).1, (ho.frozen (x := ⟨b2, j, none⟩) hne).trans (h j hj).2⟩
theorem BRow_below {B : Nat} {w w' : World} {b2 : Nat} {f : Nat → Bool} {t : Nat} (h : BRow w b2 f t) (hb : Below B w w') (hB : b2 < B) : BRow w' b2 f t :=
  fun j hj => ⟨(hb.cell (p := ⟨b2, j, none⟩) hB).trans (h j hj).1, (hb.frozen (p := ⟨b2, j, none⟩) hB).trans (h j hj).2⟩
theorem BRow_drewN {w : World} {b2 : Nat} {f : Nat → Bool} {t n : Nat} (h : BRow w b2 f t) : BRow (w.drewN n) b2 f t := h

def setF (f : Nat → Bool) (i : Nat) (v : Bool) : Nat → Bool := fun x => if x = i then v else f x

theorem BRow_set {w : World} {b : Nat} {f : Nat → Bool} {t i : Nat} (h : BRow w b f t) (hi : i ≤ t) (v : Bool) : BRow (w.setCell ⟨b, i, none⟩ (.bool v)) b (setF f i v) t := by
  intro j hj
  refine ⟨?_, by rw [World.frozen?_setCell]; exact (h j hj).2⟩
  unfold setF
  by_cases e : j = i
  · subst e
    rw [if_pos rfl]
    exact World.cell?_setCell_same _ _ _ (h j hj).1
  · rw [if_neg e, World.cell?_setCell_other _ _ _ _ (by simp <;> omega)]
    exact (h j hj).1

theorem BRow_upd {w : World} {b : Nat} {f : Nat → Bool} {t i : Nat} (h : BRow w b f t) (hi : i ≤ t) : BRow (w.setCell ⟨b, i, none⟩ (.bool true)) b (upd f i) t := BRow_set h hi true

theorem passN_yes {ts : List Tk} {f : Nat → Bool} {k : Nat} (h1 : passN ts f k k = true) (h2 : stAt ts k = true) : passN ts f (k + 1) = upd (passN ts f k) (k + 1) := by
  simp only [passN]; rw [h1, h2]; rfl
theorem passN_no {ts : List Tk} {f : Nat → Bool} {k : Nat} (h : passN ts f k k = false ∨ stAt ts k = false) : passN ts f (k + 1) = passN ts f k := by
  simp only [passN]
  rcases h with h | h
  · rw [h]; rfl
  · rw [h, Bool.and_false]; rfl

set_option maxHeartbeats 1000000 in
theorem passStars_any (bs cs bk ck : Nat) (ks : List Int) (ts : List Tk) (f : Nat → Bool) (w : World) (hne : bk ≠ bs) (hS : BRow w bs f ks.length) (hK : Kr w bk ks) (ht : Hid (ts.length = ks.length)) (hst : ∀ k, k < ks.length → stAt ts k = (gr ks k == 42)) (lk : ks.length ≤ 1048576) :
    Calls Try.prog 18 #[.slice (some ⟨bs, 0, none⟩) (ks.length + 1) cs, .slice (some ⟨bk, 0, none⟩) ks.length ck] w fun e w' => e = .returned (.tuple #[]) ∧ BRow w' bs (passN ts f ks.length) ks.length ∧ Only bs w w' := by
  go_enter Try.func18, Try.ntmps18
  go_wp2
  go_loopg [4] ks.length (fun g v wx => ∃ k : Nat, v = .int .i64 k ∧ k ≤ ks.length ∧ g = ks.length - k ∧ BRow wx bs (passN ts f k) ks.length ∧ Only bs w wx)
  case atStart => exact ⟨0, rfl, Nat.zero_le _, rfl, hS, Only.refl _ _⟩
  case round =>
  clear hS
  obtain ⟨k, rfl, hk, hg, hS, hO⟩ := hrel
  by_cases hlt : k < ks.length
  · obtain ⟨c1, _⟩ := hS k (by omega)
    have c2 := Kr_only hK hO hne k hlt
    obtain ⟨c3, f3⟩ := hS (k + 1) (by omega)
    have hs := hst k hlt
    clear hst
    by_cases hp : passN ts f k k = true
    · rw [hp] at c1
      by_cases h42 : (gr ks k == 42) = true
      · rw [h42] at hs
        have HP : Hid (passN ts f (k + 1) = upd (passN ts f k) (k + 1)) := passN_yes hp hs
        have hS2 := BRow_upd (i := k + 1) hS (by omega)
        clear hp hs
        go_wp2
        go_roundg (ks.length - (k + 1))
        case measure => omega
        case rel => exact ⟨k + 1, by go_num, by omega, rfl, by rw [HP.out]; exact hS2, hO.trans (Only.set _ _ _)⟩
      · have h42' : (gr ks k == 42) = false := by simpa using h42
        rw [h42'] at hs
        have HP : Hid (passN ts f (k + 1) = passN ts f k) := passN_no (.inr hs)
        clear hp hs h42
        go_wp2
        go_roundg (ks.length - (k + 1))
        case measure => omega
        case rel => exact ⟨k + 1, by go_num, by omega, rfl, by rw [HP.out]; exact hS, hO⟩
    · have hp' : passN ts f k k = false := by simpa using hp
      rw [hp'] at c1
      have HP : Hid (passN ts f (k + 1) = passN ts f k) := passN_no (.inl hp')
      clear hp hp' hs
      go_wp2
      go_roundg (ks.length - (k + 1))
      case measure => omega
      case rel => exact ⟨k + 1, by go_num, by omega, rfl, by rw [HP.out]; exact hS, hO⟩
  · have e : Hid (k = ks.length) := by show _ = _; omega
    go_wp2
    go_end0
    exact ⟨rfl, by rw [e.out] at hS; exact hS, hO⟩
end Go.Proofs.Qxb6606061a
