import Derived.Test.Qxb6606073aSb
set_option linter.unusedSimpArgs false
set_option linter.unusedVariables false
namespace Go.Proofs.Qxb6606073a
open Go.RowKit

def mulC (a b : Nat) : Nat := if a * b ≤ 67108864 then a * b else 67108865
theorem mulC_bd (a b : Nat) : mulC a b ≤ 67108865 := by unfold mulC; split <;> omega

set_option maxHeartbeats 1000000 in
theorem mulCap42 (a b : Nat) (w : World) (ha : a ≤ 9223372036854775807) (hb : b ≤ 9223372036854775807) : Calls Try.prog 42 #[.int .i64 a, .int .i64 b] w fun e w' => e = .returned (.int .i64 (mulC a b : Nat)) ∧ w = w' := by
  have hm : ((a * b : Nat) : Int) = (a : Int) * (b : Int) := Int.natCast_mul a b
  by_cases h1 : a = 0
  · have H : Hid (mulC a b = 0) := hid (by unfold mulC; rw [h1]; simp)
    subst h1
    clear hm
    go_enter Try.func42, Try.ntmps42
    go_wp2
    go_ret
    exact ⟨ret_int (by rw [H.out]; rfl), rfl⟩
  · by_cases h2 : b = 0
    · have H : Hid (mulC a b = 0) := hid (by unfold mulC; rw [h2]; simp)
      subst h2
      clear hm
      have h1' : (0 : Int) < (a : Int) := by omega
      go_enter Try.func42, Try.ntmps42
      go_wp2
      go_ret
      exact ⟨ret_int (by rw [H.out]; rfl), rfl⟩
    · have h1' : (0 : Int) < (a : Int) := by omega
      have h2' : (0 : Int) < (b : Int) := by omega
      have hge : a ≤ a * b := Nat.le_mul_of_pos_right a (by omega)
      have hge2 : b ≤ a * b := Nat.le_mul_of_pos_left b (by omega)
      by_cases h5 : a * b ≤ 67108864
      · have H : Hid (mulC a b = a * b) := hid (by unfold mulC; rw [if_pos h5])
        have h7 : (a : Int) * (b : Int) ≤ 67108864 := by rw [← hm]; omega
        have h8 : (0 : Int) ≤ (a : Int) * (b : Int) := by rw [← hm]; omega
        have h6 : (a : Int) ≤ (67108864 : Int) / (b : Int) := (Int.le_ediv_iff_mul_le h2').2 h7
        have h3 : (a : Int) ≤ 67108864 := by omega
        have h4 : (b : Int) ≤ 67108864 := by omega
        have HM := hid hm
        clear hm hge hge2 h5
        go_enter Try.func42, Try.ntmps42
        go_wp2
        go_ret
        exact ⟨ret_int (by rw [H.out, HM.out]), rfl⟩
      · have H : Hid (mulC a b = 67108865) := hid (by unfold mulC; rw [if_neg h5])
        by_cases h3 : a ≤ 67108864
        · by_cases h4 : b ≤ 67108864
          · have h6 : (67108864 : Int) / (b : Int) < (a : Int) := (Int.ediv_lt_iff_lt_mul h2').2 (by rw [← hm]; omega)
            have h9 : (0 : Int) ≤ (67108864 : Int) / (b : Int) := Int.ediv_nonneg (by omega) (by omega)
            clear hm hge hge2 h5
            go_enter Try.func42, Try.ntmps42
            go_wp2
            go_ret
            exact ⟨ret_int (by rw [H.out]; rfl), rfl⟩
          · clear hm hge hge2 h5
            go_enter Try.func42, Try.ntmps42
            go_wp2
            go_ret
            exact ⟨ret_int (by rw [H.out]; rfl), rfl⟩
        · clear hm hge hge2 h5
          go_enter Try.func42, Try.ntmps42
          go_wp2
          go_ret
          exact ⟨ret_int (by rw [H.out]; rfl), rfl⟩

/-- The longest. -/
def maxL (S : Nat → ByteArray) : Nat → Nat
  | 0 => 0
  | n + 1 => if maxL S n < (S n).size then (S n).size else maxL S n
theorem maxL_bd {S : Nat → ByteArray} {m : Nat} : ∀ n, (∀ i, i < n → (S i).size ≤ m) → maxL S n ≤ m
  | 0, _ => Nat.zero_le _
  | n + 1, h => by
    have h1 := maxL_bd n (fun i hi => h i (by omega))
    have h2 := h n (by omega)
    unfold maxL
    split <;> omega

set_option maxHeartbeats 1000000 in
theorem maxLen41 (s : SD) (w : World) (h : s.ok w) : Calls Try.prog 41 #[s.val] w fun e w' => e = .returned (.int .i64 (maxL s.S s.n : Nat)) ∧ w = w' := by
  obtain ⟨hn, ha, _, hc, hz⟩ := h
  obtain ⟨a, n, c, b, o, S⟩ := s
  simp only [SD.val] at *
  have HS : Hid (∀ i, i < n → w.cell? ⟨b, o + i, none⟩ = some (.string (S i))) := hc
  have HZ : Hid (∀ i, i < n → (S i).size ≤ 9223372036854775807) := hz
  have HA : Hid (0 < n → a = some ⟨b, o, none⟩) := ha
  clear hc hz ha
  obtain ⟨T, hT⟩ : ∃ T, T = maxL S n := ⟨_, rfl⟩
  rw [← hT]
  have HT := hid hT
  clear hT
  go_enter Try.func41, Try.ntmps41
  go_wp2
  go_loopg [3, 4] n (fun g v3 v4 wx => (∃ (t i : Nat), v3 = .int .i64 t ∧ v4 = .int .i64 i ∧ Hid (t = maxL S i) ∧ t ≤ 9223372036854775807 ∧ i ≤ n ∧ g = n - i) ∧ wx = w)
  case atStart => exact ⟨⟨0, 0, rfl, rfl, hid rfl, by omega, Nat.zero_le _, rfl⟩, rfl⟩
  case round =>
  obtain ⟨⟨t, i, rfl, rfl, ht, hts, hi, hg⟩, rfl⟩ := hrel
  by_cases hlt : i < n
  · obtain rfl := HA.out (by omega)
    have cc := HS.out i hlt
    have cz := HZ.out i hlt
    have hst : Hid (maxL S (i + 1) = if t < (S i).size then (S i).size else t) := by rw [ht.out]; exact hid rfl
    generalize S i = x at *
    by_cases hx : t < x.size
    · have h2 : Hid (x.size = maxL S (i + 1)) := by refine hid ?_; rw [hst.out, if_pos hx]
      clear hst
      go_wp2
      go_roundg (n - (i + 1))
      case measure => omega
      case rel => exact ⟨⟨x.size, i + 1, by go_num, by go_num, h2, by omega, by omega, rfl⟩, rfl⟩
    · have h2 : Hid (t = maxL S (i + 1)) := by refine hid ?_; rw [hst.out, if_neg hx]
      clear hst
      go_wp2
      go_roundg (n - (i + 1))
      case measure => omega
      case rel => exact ⟨⟨t, i + 1, by go_num, by go_num, h2, by omega, by omega, rfl⟩, rfl⟩
  · have e : i = n := by omega
    have H : Hid (T = t) := by refine hid ?_; rw [HT.out, ht.out, e]
    clear e
    go_wp2
    go_ret
    exact ⟨ret_int (by rw [H.out]), rfl⟩

/-- A rule small enough. -/
structure RB (x : RD) : Prop where
  v : x.v.n ≤ 65536
  g : x.g.n ≤ 65536
  r : x.r.n ≤ 65536
  m : x.m.n ≤ 65536
  vs : ∀ i, i < x.v.n → (x.v.S i).size ≤ 1048576
  gs : ∀ i, i < x.g.n → (x.g.S i).size ≤ 1048576
  rs : ∀ i, i < x.r.n → (x.r.S i).size ≤ 1048576

def tripC (r : RD) : Nat := mulC (mulC r.v.n r.g.n) r.r.n

set_option maxHeartbeats 1000000 in
theorem triples16 (r : RD) (w : World) (hv : r.v.n ≤ 65536) (hg : r.g.n ≤ 65536) (hr : r.r.n ≤ 65536) : Calls Try.prog 16 #[r.val] w fun e w' => e = .returned (.int .i64 (tripC r : Nat)) ∧ Below w.heap.size w w' := by
  have hb : Below w.heap.size w (w.alloc (.cells #[r.v.val, r.g.val, r.r.val, r.m.val, r.y.val, .bool r.q] 25)) := (Below.refl _ _).alloc (Nat.le_refl _) _
  have HB := hid hb
  clear hb
  unfold tripC
  unfold RD.val
  generalize r.m.val = v4 at *
  generalize r.y.val = v5 at *
  unfold SD.val at *
  generalize r.v.n = n1 at *
  generalize r.g.n = n2 at *
  generalize r.r.n = n3 at *
  have hbd := mulC_bd n1 n2
  have C1 := fun n => mulCap42 n1 n2 ((w.alloc (.cells #[.slice r.v.a n1 r.v.c, .slice r.g.a n2 r.g.c, .slice r.r.a n3 r.r.c, v4, v5, .bool r.q] 25)).drewN n) (by omega) (by omega)
  have C2 := fun n => mulCap42 (mulC n1 n2) n3 ((w.alloc (.cells #[.slice r.v.a n1 r.v.c, .slice r.g.a n2 r.g.c, .slice r.r.a n3 r.r.c, v4, v5, .bool r.q] 25)).drewN n) (by omega) (by omega)
  generalize mulC n1 n2 = k at *
  go_enter Try.func16, Try.ntmps16
  go_wp2
  have x0 := box_cell w #[.slice r.v.a n1 r.v.c, .slice r.g.a n2 r.g.c, .slice r.r.a n3 r.r.c, v4, v5, .bool r.q] 25 0
  have x1 := box_cell w #[.slice r.v.a n1 r.v.c, .slice r.g.a n2 r.g.c, .slice r.r.a n3 r.r.c, v4, v5, .bool r.q] 25 1
  have x2 := box_cell w #[.slice r.v.a n1 r.v.c, .slice r.g.a n2 r.g.c, .slice r.r.a n3 r.r.c, v4, v5, .bool r.q] 25 2
  simp only [List.getElem?_toArray, List.getElem?_cons_zero, List.getElem?_cons_succ] at x0 x1 x2
  generalize w.alloc (.cells #[.slice r.v.a n1 r.v.c, .slice r.g.a n2 r.g.c, .slice r.r.a n3 r.r.c, v4, v5, .bool r.q] 25) = W at *
  go_quiet (first
    | (go_at_call_of 42 (Value.int IntKind.i64 (n1 : Int)); exact quiet_eq (C1 _))
    | (go_at_call_of 42 (Value.int IntKind.i64 (k : Int)); exact quiet_eq (C2 _)))
  go_wp2
  go_ret
  exact ⟨rfl, below_drewN HB.out _⟩

set_option maxHeartbeats 1000000 in
theorem ruleCost46 (r : RD) (w : World) (h : r.ok w) (hB : RB r) : Calls Try.prog 46 #[r.val] w fun e w' => ∃ t : Nat, e = .returned (.int .i64 t) ∧ t ≤ 67108865 ∧ Below w.heap.size w w' := by
  have hb : Below w.heap.size w (w.alloc (.cells #[r.v.val, r.g.val, r.r.val, r.m.val, r.y.val, .bool r.q] 25)) := (Below.refl _ _).alloc (Nat.le_refl _) _
  have h' := h.below hb
  have C1 := fun n => maxLen41 r.v _ (h'.v.below (drewN_same _ n))
  have C2 := fun n => maxLen41 r.g _ (h'.g.below (drewN_same _ n))
  have C3 := fun n => maxLen41 r.r _ (h'.r.below (drewN_same _ n))
  have b1 := maxL_bd r.v.n hB.vs
  have b2 := maxL_bd r.g.n hB.gs
  have b3 := maxL_bd r.r.n hB.rs
  have b4 := hB.m
  have C16 := fun n => triples16 r ((w.alloc (.cells #[r.v.val, r.g.val, r.r.val, r.m.val, r.y.val, .bool r.q] 25)).drewN n) hB.v hB.g hB.r
  have b5 : tripC r ≤ 67108865 := mulC_bd _ _
  generalize tripC r = z at *
  have HB := hid hb
  clear h h' hb hB
  unfold RD.val at *
  generalize maxL r.v.S r.v.n = t1 at *
  generalize maxL r.g.S r.g.n = t2 at *
  generalize maxL r.r.S r.r.n = t3 at *
  generalize r.v.val = v1 at *
  generalize r.g.val = v2 at *
  generalize r.r.val = v3 at *
  generalize r.y.val = v5 at *
  unfold SD.val at *
  generalize r.m.n = n4 at *
  go_enter Try.func46, Try.ntmps46
  go_wp2
  have x0 := box_cell w #[v1, v2, v3, .slice r.m.a n4 r.m.c, v5, .bool r.q] 25 0
  have x1 := box_cell w #[v1, v2, v3, .slice r.m.a n4 r.m.c, v5, .bool r.q] 25 1
  have x2 := box_cell w #[v1, v2, v3, .slice r.m.a n4 r.m.c, v5, .bool r.q] 25 2
  have x3 := box_cell w #[v1, v2, v3, .slice r.m.a n4 r.m.c, v5, .bool r.q] 25 3
  have x4 := box_cell w #[v1, v2, v3, .slice r.m.a n4 r.m.c, v5, .bool r.q] 25 4
  have x5 := box_cell w #[v1, v2, v3, .slice r.m.a n4 r.m.c, v5, .bool r.q] 25 5
  simp only [List.getElem?_toArray, List.getElem?_cons_zero, List.getElem?_cons_succ] at x0 x1 x2 x3 x4 x5
  generalize w.alloc (.cells #[v1, v2, v3, .slice r.m.a n4 r.m.c, v5, .bool r.q] 25) = W at *
  go_quiet (first
    | (go_at_call_of 41 v1; exact quiet_eq (C1 _))
    | (go_at_call_of 41 v2; exact quiet_eq (C2 _))
    | (go_at_call_of 41 v3; exact quiet_eq (C3 _)))
  clear C1 C2 C3
  go_wp2_with fail
  refine (C16 nq).mono ?_
  rintro e w2 ⟨rfl, hb2⟩
  have C42 := mulCap42 z (1 + n4 + t1 + t2 + t3) w2 (by omega) (by omega)
  go_wp2_with fail
  refine C42.mono ?_
  rintro e w3 ⟨rfl, rfl⟩
  clear C42 C16
  go_wp2
  go_ret
  exact ⟨_, rfl, mulC_bd _ _, (below_drewN HB.out nq).trans (hb2.mono (below_drewN HB.out nq).size)⟩
end Go.Proofs.Qxb6606073a
