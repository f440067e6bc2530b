import Derived.Test.Qxb6606061aWd
set_option linter.unusedSimpArgs false
set_option linter.unusedVariables false
namespace Go.Proofs.Qxb6606061a
open Go.RowKit

set_option maxHeartbeats 400000 in
theorem zz13_true (a b : ByteArray) (w : World) (h : a.size + b.size ≤ 1048576) :
    Calls Try.prog 13 #[.string a, .string b] w fun e w' => e = .returned (.bool true) ∧ w = w' := by
  go_enter Try.func13, Try.ntmps13
  go_wp2
  go_ret
  exact ⟨rfl, rfl⟩

set_option maxHeartbeats 400000 in
theorem zz13_false (a b : ByteArray) (w : World) (wa : a.size ≤ maxLen) (wb : b.size ≤ maxLen) (h : ¬ a.size + b.size ≤ 1048576) :
    Calls Try.prog 13 #[.string a, .string b] w fun e w' => e = .returned (.bool false) ∧ w = w' := by
  unfold maxLen at wa wb
  by_cases h1 : 1048576 < a.size
  · go_enter Try.func13, Try.ntmps13
    go_wp2
    go_ret
    exact ⟨rfl, rfl⟩
  · by_cases h2 : 1048576 < b.size
    · go_enter Try.func13, Try.ntmps13
      go_wp2
      go_ret
      exact ⟨rfl, rfl⟩
    · go_enter Try.func13, Try.ntmps13
      go_wp2
      go_ret
      exact ⟨rfl, rfl⟩

set_option maxHeartbeats 400000 in
theorem zf_any (s t : ByteArray) (w : World) (hs : s.size ≤ 1048576) (ht : t.size ≤ 1048576) :
    Calls Try.prog 11 #[.string s, .string t] w fun e w' => e = .returned (.bool (M (T (runes s)) (runes t))) ∧ Below w.heap.size w w' := by
  have C := fnmatch_any s t w hs ht
  go_enter Try.func11, Try.ntmps11
  go_wp2_with (go_at_call 16; refine C.mono ?_; rintro e w' ⟨rfl, hb⟩)
  go_ret
  exact ⟨rfl, by assumption⟩

theorem Try.info21 : (Try.prog.info? 21).map (fun i => (i.zero, i.size, i.bytes)) = some (some (.int .i32 0), 1, 4) := by kernel_rfl

theorem conv_str {w : World} {base : Nat} {v : Value} {zs : List Int} (h : w.ownsRow base 21 1 v zs.length (zs.map (Value.int .i32))) :
    (convert 22 9 v).run Try.prog w = .ok (.string (runesBytes zs)) w := by
  rcases h.2 with ⟨rfl, hz⟩ | ⟨g, cap, cur, rfl, h1⟩
  · have : zs = [] := List.length_eq_zero_iff.1 hz
    subst this
    exact run_convert_runes_nil w 22 9 21 _ _ Try.underlying22 Try.underlying21 Try.underlying9
  · have := run_convert_runes (P := Try.prog) w 22 9 21 ⟨g, 0, none⟩ zs.length cap zs (Nat.le_refl _) Try.underlying22 Try.underlying21 Try.underlying9 (fun j hj => by
      have := World.ownsRow.cellAt h j (by omega)
      have e : (⟨g, 0, none⟩ : Addr).add j = ⟨g, j, none⟩ := by simp [Addr.add]; intro h; rw [h]
      rw [e, this]
      simp [List.getD, List.getElem?_eq_getElem hj])
    rw [List.take_length] at this
    exact this

theorem quote_take (l : List Int) (k : Nat) (h : k < l.length) : quote (l.take (k + 1)) = quote (l.take k) ++ q1 (gr l k) := by
  rw [List.take_succ_eq_append_getElem h, quote_snoc]
  simp [gr, List.getElem?_eq_getElem h]

theorem law6_no (a b : ByteArray) (w : World) (wa : a.size ≤ maxLen) (wb : b.size ≤ maxLen) (h : ¬ a.size + b.size ≤ 1048576) :
    Calls Try.prog 6 #[.string a, .string b] w fun e w' => e = .returned (.bool true) ∧ Below w.heap.size w w' := by
  have C := zz13_false a b w wa wb h
  clear h
  go_enter Try.func6, Try.ntmps6
  go_wp2_with (go_at_call 13; refine C.mono ?_; rintro e w' ⟨rfl, rfl⟩)
  go_ret
  exact ⟨rfl, Below.refl _ _⟩

theorem law6_big (a b : ByteArray) (w : World) (h : a.size + b.size ≤ 1048576) (hb : 4096 < a.size ∨ 4096 < b.size) :
    Calls Try.prog 6 #[.string a, .string b] w fun e w' => e = .returned (.bool true) ∧ Below w.heap.size w w' := by
  have C := zz13_true a b w h
  by_cases ha : 4096 < a.size
  · clear hb
    go_enter Try.func6, Try.ntmps6
    go_wp2_with (go_at_call 13; refine C.mono ?_; rintro e w' ⟨rfl, rfl⟩)
    go_ret
    exact ⟨rfl, Below.refl _ _⟩
  · have hb : 4096 < b.size := by omega
    go_enter Try.func6, Try.ntmps6
    go_wp2_with (go_at_call 13; refine C.mono ?_; rintro e w' ⟨rfl, rfl⟩)
    go_ret
    exact ⟨rfl, Below.refl _ _⟩

theorem cells_new (w : World) (C : Array Value) (t : TypeId) : ∀ (j : Nat) (u : Value), C.toList[j]? = some u → (w.alloc (.cells C t)).cell? ((⟨w.heap.size, 0, none⟩ : Addr).add j) = some u := by
  intro j u h
  have e : (⟨w.heap.size, 0, none⟩ : Addr).add j = ⟨w.heap.size, 0 + j, none⟩ := by simp [Addr.add]; intro h; rw [h]
  rw [e]
  exact cell_alloc_new w C t j u (by simpa using h)

theorem own_ge {w : World} {base : Nat} {e : TypeId} {size : Nat} {v : Value} {n : Nat} {xs : List Value} (h : w.ownsRow base e size v n xs) : ∀ k, v.ownBlock = some k → base ≤ k := by
  intro k hk
  rcases h.2 with ⟨rfl, _⟩ | ⟨g, cap, cur, rfl, h1, _⟩
  · simp [Value.ownBlock] at hk
  · simp [Value.ownBlock] at hk; omega

theorem own_step {w : World} {base : Nat} {v : Value} {q q' r : List Int} {m : Nat} {news : List Value} (h : w.ownsRow base 21 1 v (q.length + m) (q.map (Value.int .i32) ++ news)) (hq : Hid (q' = q ++ r)) (hm : r.length = m) (hn : r.map (Value.int .i32) = news) :
    w.ownsRow base 21 1 v q'.length (q'.map (Value.int .i32)) := by
  rw [hq.out, List.map_append, hn, List.length_append, hm]; exact h

set_option maxHeartbeats 1000000 in
theorem law6_main (a b : ByteArray) (w : World) (ha : a.size ≤ 4096) (hb : b.size ≤ 4096) :
    Calls Try.prog 6 #[.string a, .string b] w fun e w' => e = .returned (.bool true) ∧ Below w.heap.size w w' := by
  have C := zz13_true a b w (by omega)
  obtain ⟨cp, W1, r1, hcp, hR1, hb1, hz1⟩ := conv_runes w a (by omega)
  have lp : (runes a).length ≤ 4096 := Nat.le_trans (runes_length a) ha
  obtain ⟨nr, hn⟩ : ∃ nr, nr = runes a := ⟨_, rfl⟩
  rw [← hn] at r1 hcp hR1 lp
  have HN : Hid (nr = runes a) := hn
  clear hn
  obtain ⟨i0, hi, hz0', hz1', hz2'⟩ := info_parts Try.info21
  go_enter Try.func6, Try.ntmps6
  go_wp2_with (first | (go_at_call 13; refine C.mono ?_; rintro e w' ⟨rfl, rfl⟩) | (at_make; go_loud (refine wpList_make_own _ rfl _ _ 22 rfl (w.heap.size + 1) 21 i0 (.int .i32 0) 1 Try.underlying22 hi hz0' hz1' .i64 .i64 _ (3 * nr.length) rfl rfl ?_ ?_ ?_ ?_ ?_)))
  · go_num
  · rw [hz2']; omega
  · unfold maxLen; omega
  · omega
  intro W2 hown hgrow
  have hB2 : Below (w.heap.size + 1) W1 W2 := (Below.refl _ _).grown hgrow (by omega) (by intro k h; cases h)
  have hz2 : w.heap.size + 1 ≤ W2.heap.size := by have := hgrow.size; omega
  clear hgrow r1 C
  go_wp2
  go_loopg [6, 7] nr.length (fun g v6 v7 wx => ∃ k : Nat, k ≤ nr.length ∧ v7 = .int .i64 k ∧ wx.ownsRow (w.heap.size + 1) 21 1 v6 (quote (nr.take k)).length ((quote (nr.take k)).map (Value.int .i32)) ∧ Below (w.heap.size + 1) W1 wx ∧ w.heap.size + 1 ≤ wx.heap.size ∧ g = nr.length - k)
  case atStart => exact ⟨0, Nat.zero_le _, rfl, by simpa [quote] using hown, hB2, hz2, rfl⟩
  case round =>
  clear hown hB2 hz2
  obtain ⟨k, hk, rfl, hown, hB2, hz2, hg⟩ := hrel
  have hql := quote_length (nr.take k)
  have hql : (quote (nr.take k)).length ≤ 12288 := by rw [List.length_take] at hql; omega
  by_cases hlt : k < nr.length
  · have hck := (hB2.cell (p := ⟨w.heap.size, 0 + k, none⟩) (by simp)).trans (hR1 k hlt)
    rw [Nat.zero_add] at hck
    have hqt := quote_take nr k hlt
    have HQ : Hid (quote (nr.take (k + 1)) = quote (nr.take k) ++ q1 (gr nr k)) := hqt
    clear hqt
    by_cases hsp : special (gr nr k) = true
    · have hq1 : Hid (q1 (gr nr k) = [91, gr nr k, 93]) := by show _ = _; simp [q1, hsp]
      have hcase : (gr nr k == 42) = true ∨ ((gr nr k == 42) = false ∧ (gr nr k == 63) = true) ∨ ((gr nr k == 42) = false ∧ (gr nr k == 63) = false ∧ (gr nr k == 91) = true) := by
        unfold special at hsp
        cases h1 : (gr nr k == 42) <;> cases h2 : (gr nr k == 63) <;> cases h3 : (gr nr k == 91) <;> simp [h1, h2, h3] at hsp ⊢
      clear hsp
      rcases hcase with h1 | ⟨h1, h2⟩ | ⟨h1, h2, h3⟩
      all_goals
        go_wp2_with (at_builtin; refine wpList_append_own _ rfl _ _ 22 rfl (w.heap.size + 1) 21 i0 (.int .i32 0) 1 4 Try.underlying22 hi hz0' hz1' hz2' rfl (by decide) _ _ _ rfl (hown.alloc _) ⟨wr.heap.size, 0, none⟩ 3 3 [.int .i32 91, .int .i32 (gr nr k), .int .i32 93] rfl rfl ?_ ?_ ?_ ?_ ?_ ?_)
        · exact cells_new wr _ 21
        · intro u hu; simp at hu; rcases hu with rfl | rfl | rfl <;> rfl
        · unfold maxLen; omega
        · omega
        · simp; omega
        intro v' w1 hown' hgrow' _
        have ho := own_step hown' HQ (by rw [hq1.out]; rfl) (by rw [hq1.out]; rfl)
        have hB3 : Below (w.heap.size + 1) W1 w1 := (hB2.alloc hz2 _).grown hgrow' (by simp; omega) (own_ge hown)
        have hz3 : w.heap.size + 1 ≤ w1.heap.size := by have := hgrow'.size; simp at this; omega
        clear hown' hgrow' hown hck
        go_wp2
        go_roundg (nr.length - (k + 1))
        case measure => omega
        case rel => exact ⟨k + 1, by omega, by go_num, ho, hB3, hz3, rfl⟩
    · have hq1 : Hid (q1 (gr nr k) = [gr nr k]) := by show _ = _; simp [q1, hsp]
      have hcase : (gr nr k == 42) = false ∧ (gr nr k == 63) = false ∧ (gr nr k == 91) = false := by
        unfold special at hsp
        cases h1 : (gr nr k == 42) <;> cases h2 : (gr nr k == 63) <;> cases h3 : (gr nr k == 91) <;> simp [h1, h2, h3] at hsp ⊢
      clear hsp
      obtain ⟨h1, h2, h3⟩ := hcase
      go_wp2_with (at_builtin; refine wpList_append_own _ rfl _ _ 22 rfl (w.heap.size + 1) 21 i0 (.int .i32 0) 1 4 Try.underlying22 hi hz0' hz1' hz2' rfl (by decide) _ _ _ rfl (hown.alloc _) ⟨wr.heap.size, 0, none⟩ 1 1 [.int .i32 (gr nr k)] rfl rfl ?_ ?_ ?_ ?_ ?_ ?_)
      · exact cells_new wr _ 21
      · intro u hu; simp at hu; subst hu; rfl
      · unfold maxLen; omega
      · omega
      · simp; omega
      intro v' w1 hown' hgrow' _
      have ho := own_step hown' HQ (by rw [hq1.out]; rfl) (by rw [hq1.out]; rfl)
      have hB3 : Below (w.heap.size + 1) W1 w1 := (hB2.alloc hz2 _).grown hgrow' (by simp; omega) (own_ge hown)
      have hz3 : w.heap.size + 1 ≤ w1.heap.size := by have := hgrow'.size; simp at this; omega
      clear hown' hgrow' hown hck
      go_wp2
      go_roundg (nr.length - (k + 1))
      case measure => omega
      case rel => exact ⟨k + 1, by omega, by go_num, ho, hB3, hz3, rfl⟩
  · have hkk : k = nr.length := by omega
    have hown2 : wr.ownsRow (w.heap.size + 1) 21 1 u6 (quote nr).length ((quote nr).map (Value.int .i32)) := by
      rw [hkk, List.take_length] at hown; exact hown
    clear hown hkk
    have hcs := conv_str hown2
    have hsz : (runesBytes (quote nr)).size ≤ 1048576 := by
      have h1 := runesBytes_size_le (quote nr)
      have h2 := quote_length nr
      omega
    have hru : runes (runesBytes (quote nr)) = quote nr := by
      apply runes_enc
      intro r hr
      unfold quote at hr
      rw [List.mem_flatMap] at hr
      obtain ⟨x, hx, hr⟩ := hr
      rw [HN.out] at hx
      have hox := runes_ok a x hx
      unfold q1 at hr
      split at hr
      · simp at hr
        rcases hr with rfl | rfl | rfl
        · unfold okRune; omega
        · exact hox
        · unfold okRune; omega
      · simp at hr; subst hr; exact hox
    have C1 := zf_any (runesBytes (quote nr)) a wr hsz (by omega)
    rw [hru, M_quote, ← HN.out, decide_eq_true rfl] at C1
    have hBw : Below w.heap.size w wr := hb1.trans (hB2.mono (by omega))
    have C2 := fun w2 => zf_any (runesBytes (quote nr)) b w2 hsz (by omega)
    rw [hru, M_quote] at C2
    generalize runesBytes (quote nr) = pat at *
    go_wp2_with fail
    refine C1.mono ?_
    rintro e w2 ⟨rfl, hb2⟩
    have hz2' : wr.heap.size ≤ w2.heap.size := hb2.size
    go_wp2_with fail
    refine (C2 w2).mono ?_
    rintro e w3 ⟨rfl, hb3⟩
    have hz3' : w2.heap.size ≤ w3.heap.size := hb3.size
    obtain ⟨co, W4, r4, hco, hR4, hb4, hz4⟩ := conv_runes w3 b (by omega)
    have lo : (runes b).length ≤ 4096 := Nat.le_trans (runes_length b) hb
    have hRn : Rw W4 w.heap.size 0 nr := Rw_below (Rw_below (Rw_below (Rw_below hR1 hB2 (by omega)) hb2 (by omega)) hb3 (by omega)) hb4 (by omega)
    have hB4 : Below w.heap.size w W4 := hBw.trans ((hb2.mono (by omega)).trans ((hb3.mono (by omega)).trans (hb4.mono (by omega))))
    have C3 := eq_any w.heap.size 0 cp w3.heap.size 0 co nr (runes b) W4 hRn hR4 (by omega) (by omega)
    generalize decide (nr = runes b) = B at *
    clear C1 C2 hcs
    go_wp2_with fail
    refine C3.mono ?_
    rintro e w5 ⟨rfl, n5, rfl⟩
    go_wp2
    go_ret
    exact ⟨ret_bool (by cases B <;> rfl), below_drewN hB4 _⟩

end Go.Proofs.Qxb6606061a
