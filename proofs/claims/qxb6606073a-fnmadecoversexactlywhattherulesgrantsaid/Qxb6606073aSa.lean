import Derived.Test.Qxb6606073aDa
set_option linter.unusedSimpArgs false
set_option linter.unusedVariables false
namespace Go.Proofs.Qxb6606073a
open Go.RowKit

set_option maxHeartbeats 400000 in
theorem capBytes40 (n : Nat) (w : World) (hn : n ≤ 9223372036854775807) : Calls Try.prog 40 #[.int .i64 n] w fun e w' => e = .returned (.int .i64 (cap n : Nat)) ∧ w = w' := by
  by_cases h : n ≤ 1048576
  · have H : Hid (cap n = n) := cap_le h
    go_enter Try.func40, Try.ntmps40
    go_wp2
    go_ret
    exact ⟨ret_int (by rw [H.out]), rfl⟩
  · have H : Hid (cap n = 1048577) := cap_gt h
    go_enter Try.func40, Try.ntmps40
    go_wp2
    go_ret
    exact ⟨ret_int (by rw [H.out]; rfl), rfl⟩

def strsT (s : SD) : Nat := 16 * s.n + ssum (fun i => (s.S i).size) s.n

set_option maxHeartbeats 1000000 in
theorem strsBytes36 (s : SD) (w : World) (h : s.ok w) : Calls Try.prog 36 #[s.val] w fun e w' => e = .returned (.int .i64 (cap (strsT s) : Nat)) ∧ w = w' := by
  obtain ⟨hn, ha, _, hc, hz⟩ := h
  obtain ⟨a, n, c, b, o, S⟩ := s
  simp only [SD.val, strsT] at *
  have HS : Hid (∀ i, i < n → w.cell? ⟨b, o + i, none⟩ = some (.string (S i))) := hc
  have HZ : Hid (∀ i, i < n → (S i).size ≤ 9223372036854775807) := hz
  have HA : Hid (0 < n → a = some ⟨b, o, none⟩) := ha
  clear hc hz ha
  obtain ⟨T, hT⟩ : ∃ T, T = 16 * n + ssum (fun i => (S i).size) n := ⟨_, rfl⟩
  rw [← hT]
  have HT := hid hT
  clear hT
  by_cases h1 : n ≤ 65536
  · go_enter Try.func36, Try.ntmps36
    go_wp2
    go_loopg [3, 4] n (fun g v3 v4 wx => (∃ (t i : Nat), v3 = .int .i64 t ∧ v4 = .int .i64 i ∧ Hid (t = 16 * n + ssum (fun i => (S i).size) i) ∧ t ≤ 1048576 ∧ i ≤ n ∧ g = n - i) ∧ wx = w)
    case atStart => exact ⟨⟨16 * n, 0, by go_num, rfl, hid (by simp [ssum]), by omega, Nat.zero_le _, rfl⟩, rfl⟩
    case round =>
    obtain ⟨⟨t, i, rfl, rfl, ht, hts, hi, hg⟩, rfl⟩ := hrel
    by_cases hlt : i < n
    · obtain rfl := HA.out (by omega)
      have cc := HS.out i hlt
      have cz := HZ.out i hlt
      have hat := ssum_at (fun i => (S i).size) hlt
      have ht2 : Hid (t + (S i).size = 16 * n + ssum (fun i => (S i).size) (i + 1)) := by rw [ht.out]; exact Nat.add_assoc _ _ _
      have hTT : t + (S i).size ≤ T := by rw [HT.out, ht.out]; omega
      clear hat
      generalize S i = x at *
      by_cases hx : x.size ≤ 1048576
      · by_cases hy : t + x.size ≤ 1048576
        · go_wp2
          go_roundg (n - (i + 1))
          case measure => omega
          case rel => exact ⟨⟨t + x.size, i + 1, by go_num, by go_num, ht2, by omega, by omega, rfl⟩, rfl⟩
        · have H : Hid (cap T = 1048577) := cap_gt (by omega)
          go_wp2
          go_ret
          exact ⟨ret_int (by rw [H.out]; rfl), rfl⟩
      · have H : Hid (cap T = 1048577) := cap_gt (by omega)
        go_wp2
        go_ret
        exact ⟨ret_int (by rw [H.out]; rfl), rfl⟩
    · have e : i = n := by omega
      have H : Hid (cap T = t) := by
        have e2 : T = t := by rw [HT.out, ht.out, e]
        rw [e2]; exact cap_le hts
      clear e
      go_wp2
      go_ret
      exact ⟨ret_int (by rw [H.out]), rfl⟩
  · have H : Hid (cap T = 1048577) := cap_gt (by rw [HT.out]; omega)
    by_cases h2 : n ≤ 1048576
    · go_enter Try.func36, Try.ntmps36
      go_wp2
      go_ret
      exact ⟨ret_int (by rw [H.out]; rfl), rfl⟩
    · go_enter Try.func36, Try.ntmps36
      go_wp2
      go_ret
      exact ⟨ret_int (by rw [H.out]; rfl), rfl⟩

def ruleT (r : RD) : Nat := 128 + cap (strsT r.v) + cap (strsT r.g) + cap (strsT r.r) + cap (strsT r.m) + cap (strsT r.y)

theorem drewN_same (w : World) (n : Nat) : Below w.heap.size w (w.drewN n) := below_drewN (Below.refl _ _) n

theorem quiet_eq {P : Program} {f : FuncId} {args : Array Value} {w : World} {n : Nat} {v : Value} (h : Calls P f args (w.drewN n) fun e w' => e = .returned v ∧ w.drewN n = w') : Calls P f args (w.drewN n) fun e w'' => e = .returned v ∧ ∃ m, w'' = w.drewN m :=
  h.mono fun _ _ ⟨a, b⟩ => ⟨a, n, b.symm⟩

theorem box_cell (w : World) (xs : Array Value) (t : TypeId) (i : Nat) : (w.alloc (.cells xs t)).cell? ⟨w.heap.size, i, none⟩ = xs[i]? := World.cell?_alloc_new _ _ _ _

set_option maxHeartbeats 1000000 in
theorem ruleBytes9 (r : RD) (w : World) (h : r.ok w) : Calls Try.prog 9 #[r.val] w fun e w' => e = .returned (.int .i64 (cap (ruleT r) : Nat)) ∧ Below w.heap.size w w' := by
  have hb : Below w.heap.size w (w.alloc (.cells #[r.v.val, r.g.val, r.r.val, r.m.val, r.y.val, .bool r.q] 25)) := (Below.refl _ _).alloc (Nat.le_refl _) _
  have h' := h.below hb
  have C1 := fun n => strsBytes36 r.v _ (h'.v.below (drewN_same _ n))
  have C2 := fun n => strsBytes36 r.g _ (h'.g.below (drewN_same _ n))
  have C3 := fun n => strsBytes36 r.r _ (h'.r.below (drewN_same _ n))
  have C4 := fun n => strsBytes36 r.m _ (h'.m.below (drewN_same _ n))
  have C5 := fun n => strsBytes36 r.y _ (h'.y.below (drewN_same _ n))
  have b1 := cap_bd (strsT r.v)
  have b2 := cap_bd (strsT r.g)
  have b3 := cap_bd (strsT r.r)
  have b4 := cap_bd (strsT r.m)
  have b5 := cap_bd (strsT r.y)
  have HB := hid hb
  clear h h' hb
  unfold ruleT
  unfold RD.val
  generalize cap (strsT r.v) = t1 at *
  generalize cap (strsT r.g) = t2 at *
  generalize cap (strsT r.r) = t3 at *
  generalize cap (strsT r.m) = t4 at *
  generalize cap (strsT r.y) = t5 at *
  generalize r.v.val = v1 at *
  generalize r.g.val = v2 at *
  generalize r.r.val = v3 at *
  generalize r.m.val = v4 at *
  generalize r.y.val = v5 at *
  have C6 := fun n => capBytes40 (128 + t1 + t2 + t3 + t4 + t5) ((w.alloc (.cells #[v1, v2, v3, v4, v5, .bool r.q] 25)).drewN n) (by omega)
  go_enter Try.func9, Try.ntmps9
  go_wp2
  have x0 := box_cell w #[v1, v2, v3, v4, v5, .bool r.q] 25 0
  have x1 := box_cell w #[v1, v2, v3, v4, v5, .bool r.q] 25 1
  have x2 := box_cell w #[v1, v2, v3, v4, v5, .bool r.q] 25 2
  have x3 := box_cell w #[v1, v2, v3, v4, v5, .bool r.q] 25 3
  have x4 := box_cell w #[v1, v2, v3, v4, v5, .bool r.q] 25 4
  simp only [List.getElem?_toArray, List.getElem?_cons_zero, List.getElem?_cons_succ] at x0 x1 x2 x3 x4
  generalize w.alloc (.cells #[v1, v2, v3, v4, v5, .bool r.q] 25) = W at *
  go_quiet (first
    | (go_at_call_of 36 v1; exact quiet_eq (C1 _))
    | (go_at_call_of 36 v2; exact quiet_eq (C2 _))
    | (go_at_call_of 36 v3; exact quiet_eq (C3 _))
    | (go_at_call_of 36 v4; exact quiet_eq (C4 _))
    | (go_at_call_of 36 v5; exact quiet_eq (C5 _))
    | (go_at_call 40; exact quiet_eq (C6 _)))
  go_wp2
  go_ret
  exact ⟨rfl, below_drewN HB.out _⟩

def pathT (p : PD) : Nat := 48 + cap (strsT p.v) + cap (strsT p.u)

set_option maxHeartbeats 1000000 in
theorem pathBytes45 (r : PD) (w : World) (h : r.ok w) : Calls Try.prog 45 #[r.val] w fun e w' => e = .returned (.int .i64 (cap (pathT r) : Nat)) ∧ Below w.heap.size w w' := by
  have hb : Below w.heap.size w (w.alloc (.cells #[r.v.val, r.u.val] 58)) := (Below.refl _ _).alloc (Nat.le_refl _) _
  have h' := h.below hb
  have C1 := fun n => strsBytes36 r.v _ (h'.v.below (drewN_same _ n))
  have C2 := fun n => strsBytes36 r.u _ (h'.u.below (drewN_same _ n))
  have b1 := cap_bd (strsT r.v)
  have b2 := cap_bd (strsT r.u)
  have HB := hid hb
  clear h h' hb
  unfold pathT
  unfold PD.val
  generalize cap (strsT r.v) = t1 at *
  generalize cap (strsT r.u) = t2 at *
  generalize r.v.val = v1 at *
  generalize r.u.val = v2 at *
  have C6 := fun n => capBytes40 (48 + t1 + t2) ((w.alloc (.cells #[v1, v2] 58)).drewN n) (by omega)
  go_enter Try.func45, Try.ntmps45
  go_wp2
  have x0 := box_cell w #[v1, v2] 58 0
  have x1 := box_cell w #[v1, v2] 58 1
  simp only [List.getElem?_toArray, List.getElem?_cons_zero, List.getElem?_cons_succ] at x0 x1
  generalize w.alloc (.cells #[v1, v2] 58) = W at *
  go_quiet (first
    | (go_at_call_of 36 v1; exact quiet_eq (C1 _))
    | (go_at_call_of 36 v2; exact quiet_eq (C2 _))
    | (go_at_call 40; exact quiet_eq (C6 _)))
  go_wp2
  go_ret
  exact ⟨rfl, below_drewN HB.out _⟩

def rulesT (s : RsD) : Nat := ssum (fun i => cap (ruleT (s.R i))) s.n

theorem cap_rule (r : RD) : 128 ≤ cap (ruleT r) := by
  unfold cap
  split
  · unfold ruleT; omega
  · omega
theorem cap_path (r : PD) : 48 ≤ cap (pathT r) := by
  unfold cap
  split
  · unfold pathT; omega
  · omega

theorem rules_ge (s : RsD) : 128 * s.n ≤ rulesT s := by
  have h := ssum_mono (f := fun _ => 128) (g := fun i => cap (ruleT (s.R i))) s.n (fun i _ => cap_rule _)
  rw [ssum_const] at h
  exact h

set_option maxHeartbeats 1000000 in
theorem rulesBytes8 (s : RsD) (w : World) (h : s.ok w) : Calls Try.prog 8 #[s.val] w fun e w' => e = .returned (.int .i64 (cap (rulesT s) : Nat)) ∧ Below w.heap.size w w' := by
  have hn := h.n_le
  have HA := hid h.ad
  have HL := hid h.lt
  have HO := hid h
  have hge := rules_ge s
  have HF : Hid (rulesT s = ssum (fun i => cap (ruleT (s.R i))) s.n) := rfl
  clear h
  unfold RsD.val
  generalize rulesT s = T at *
  by_cases h1 : s.n ≤ 1048576
  · generalize hsn : s.n = n at *
    have HN := hid hsn
    generalize hsa : s.a = a at *
    clear hsn hsa
    go_enter Try.func8, Try.ntmps8
    go_wp2
    go_loopg [3, 4] n (fun g v3 v4 wx => (∃ (t i : Nat), v3 = .int .i64 t ∧ v4 = .int .i64 i ∧ Hid (t = ssum (fun i => cap (ruleT (s.R i))) i) ∧ t ≤ 1048576 ∧ i ≤ n ∧ g = n - i) ∧ Below w.heap.size w wx)
    case atStart => exact ⟨⟨0, 0, rfl, rfl, hid rfl, by omega, Nat.zero_le _, rfl⟩, Below.refl _ _⟩
    case round =>
    obtain ⟨⟨t, i, rfl, rfl, ht, hts, hi, hg⟩, hB⟩ := hrel
    by_cases hlt : i < n
    · obtain rfl := HA.out (by omega)
      have ok' := HO.out.below hB
      have hsi : i < s.n := by rw [HN.out]; exact hlt
      have C := ruleBytes9 (s.R i) wr (ok'.R i hsi)
      have c0 := ok'.c0 i hsi
      have c1 := ok'.c1 i hsi
      have c2 := ok'.c2 i hsi
      have c3 := ok'.c3 i hsi
      have c4 := ok'.c4 i hsi
      have c5 := ok'.c5 i hsi
      have hat := ssum_at (fun i => cap (ruleT (s.R i))) hlt
      have hTT : t + cap (ruleT (s.R i)) ≤ T := by rw [HF.out, ht.out]; exact hat
      have ht2 : Hid (t + cap (ruleT (s.R i)) = ssum (fun i => cap (ruleT (s.R i))) (i + 1)) := by rw [ht.out]; rfl
      have hbd := cap_bd (ruleT (s.R i))
      unfold RD.val at C
      clear hat ok' hsi
      generalize cap (ruleT (s.R i)) = z at *
      generalize (s.R i).v.val = v1 at *
      generalize (s.R i).g.val = v2 at *
      generalize (s.R i).r.val = v3 at *
      generalize (s.R i).m.val = v4 at *
      generalize (s.R i).y.val = v5 at *
      generalize (s.R i).q = v6 at *
      go_wp2_with fail
      refine C.mono ?_
      rintro e w2 ⟨rfl, hb2⟩
      clear C c0 c1 c2 c3 c4 c5
      have hB2 := hB.trans (hb2.mono hB.size)
      by_cases hy : t + z ≤ 1048576
      · go_wp2
        go_roundg (n - (i + 1))
        case measure => omega
        case rel => exact ⟨⟨t + z, i + 1, by go_num, by go_num, ht2, by omega, by omega, rfl⟩, hB2⟩
      · have H : Hid (cap T = 1048577) := cap_gt (by omega)
        go_wp2
        go_ret
        exact ⟨ret_int (by rw [H.out]; rfl), hB2⟩
    · have e : i = n := by omega
      have H : Hid (cap T = t) := by
        have e2 : T = t := by rw [HF.out, ht.out, e]
        rw [e2]; exact cap_le hts
      clear e
      go_wp2
      go_ret
      exact ⟨ret_int (by rw [H.out]), hB⟩
  · have H : Hid (cap T = 1048577) := cap_gt (by omega)
    go_enter Try.func8, Try.ntmps8
    go_wp2
    go_ret
    exact ⟨ret_int (by rw [H.out]; rfl), Below.refl _ _⟩
end Go.Proofs.Qxb6606073a
