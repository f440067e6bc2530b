import Derived.Test.Qxb6606061aWc
set_option linter.unusedSimpArgs false
set_option linter.unusedVariables false
namespace Go.Proofs.Qxb6606061a
open Go.RowKit

theorem Rw_below {B : Nat} {w w' : World} {b o : Nat} {zs : List Int} (h : Rw w b o zs) (hb : Below B w w') (hB : b < B) : Rw w' b o zs :=
  fun k hk => (hb.cell (p := ⟨b, o + k, none⟩) hB).trans (h k hk)

theorem Rw_drewN {w : World} {n : Nat} {b o : Nat} {zs : List Int} (h : Rw w b o zs) : Rw (w.drewN n) b o zs := h

theorem cell_alloc_new (w : World) (C : Array Value) (t : TypeId) (k : Nat) (v : Value) (h : C[k]? = some v) : (w.alloc (.cells C t)).cell? ⟨w.heap.size, 0 + k, none⟩ = some v := by
  have : (w.alloc (.cells C t)).heap[w.heap.size]? = some (.cells C t) := by
    show (w.heap.push (.cells C t))[w.heap.size]? = _
    simp
  unfold World.cell?
  rw [this]
  simp [h]

theorem conv_runes (w : World) (s : ByteArray) (hs : s.size ≤ 1048576) : ∃ (cap : Nat) (W : World), (convert 9 22 (.string s)).run Try.prog w = .ok (.slice (some ⟨w.heap.size, 0, none⟩) (runes s).length cap) W ∧
    (runes s).length ≤ cap ∧ Rw W w.heap.size 0 (runes s) ∧ Below w.heap.size w W ∧ W.heap.size = w.heap.size + 1 := by
  have hl := runes_length s
  have h := run_runes_of_string (P := Try.prog) w 9 22 21 s Try.underlying9 Try.underlying22 Try.underlying21 (by rw [runesFrom_runes]; simp; omega)
  have hz : (Conv.runesFrom s s.size 0 #[]).size = (runes s).length := by rw [runesFrom_runes]; simp
  rw [hz] at h
  refine ⟨_, _, h, grownCap_ge _ _ _ _, ?_, ?_, ?_⟩
  · intro k hk
    refine cell_alloc_new w.drew _ 21 k _ ?_
    rw [runesFrom_runes, Array.getElem?_append_left (by simpa using hk)]
    simp [gr, List.getElem?_eq_getElem hk]
  · exact (Below.refl _ _).drew.alloc (Nat.le_refl _) _
  · simp

theorem Rw_drop {w : World} {b : Nat} {p : List Int} {i : Nat} (h : Rw w b 0 p) : Rw w b i (p.drop i) := by
  intro k hk
  simp at hk
  have := h (i + k) (by omega)
  rw [Nat.zero_add] at this
  rw [this]
  simp [gr]

theorem matchOne_at (b cap i : Nat) (p : List Int) (c : Int) (w : World) (hp : Rw w b 0 p) (hi : i < p.length) (lp : p.length ≤ 1048576) (hcap : p.length ≤ cap) :
    Calls Try.prog 20 #[.slice (some ⟨b, i, none⟩) (p.length - i) (cap - i), .int .i32 c] w fun e w' => e = .returned (.tuple #[.int .i64 (tw (p.drop i)), .bool (ta (p.drop i) c)]) ∧ ∃ n, w' = w.drewN n := by
  have h := matchOne_any b i (cap - i) (p.drop i) c w (Rw_drop hp) (by simp; omega) (by simp; omega) (by simp; omega)
  rw [List.length_drop] at h
  exact h

theorem iNat {a : Int} {b : Nat} (h : a = b) : Value.int .i64 a = .int .i64 b := by rw [h]

/-- What holds at the head of each round. -/
def Rd (p n : List Int) (g : Nat) (st : Int) (fr i j : Nat) : Prop := Inv p n st fr i j ∧ -1 ≤ st ∧ st < i ∧ fr ≤ j ∧ g = mu p.length n.length st fr i

theorem Rd_star {p n : List Int} {g : Nat} {st : Int} {fr i j : Nat} (h : Rd p n g st fr i j) (hi : i < p.length) (e : gr p i = 42) :
    mu p.length n.length (i : Int) j (i + 1) < g ∧ Rd p n (mu p.length n.length (i : Int) j (i + 1)) (i : Int) j (i + 1) j := by
  obtain ⟨v, h1, h2, h3, rfl⟩ := h
  exact ⟨mu_star _ _ _ _ _ _ h1 h2 hi, inv_star v hi e, by omega, by omega, Nat.le_refl _, rfl⟩

theorem Rd_match {p n : List Int} {g : Nat} {st : Int} {fr i j : Nat} (h : Rd p n g st fr i j) (hi : i < p.length) (hj : j < n.length) (e : gr p i ≠ 42) (ht : ta (p.drop i) (gr n j) = true) :
    mu p.length n.length st fr (i + tw (p.drop i)) < g ∧ Rd p n (mu p.length n.length st fr (i + tw (p.drop i))) st fr (i + tw (p.drop i)) (j + 1) ∧ i + tw (p.drop i) ≤ p.length := by
  obtain ⟨v, h1, h2, h3, rfl⟩ := h
  have hv := inv_match v hi hj e ht
  have hw := tw_pos (p.drop i)
  exact ⟨mu_match _ _ _ _ _ _ (by omega) hv.i_le, ⟨hv, h1, by omega, by omega, rfl⟩, hv.i_le⟩

theorem Rd_back {p n : List Int} {g : Nat} {st : Int} {fr i j : Nat} (h : Rd p n g st fr i j) (hst : 0 ≤ st) (hj : j < n.length) (hr : refuses p n i j) :
    mu p.length n.length st (fr + 1) (st.toNat + 1) < g ∧ Rd p n (mu p.length n.length st (fr + 1) (st.toNat + 1)) st (fr + 1) (st.toNat + 1) (fr + 1) := by
  obtain ⟨v, h1, h2, h3, rfl⟩ := h
  exact ⟨mu_back _ _ _ _ _ _ (by omega), inv_back v hst hj hr, h1, by omega, Nat.le_refl _, rfl⟩

theorem Rd_bounds {p n : List Int} {g : Nat} {st : Int} {fr i j : Nat} (h : Rd p n g st fr i j) : -1 ≤ st ∧ st < i ∧ fr ≤ j ∧ i ≤ p.length ∧ j ≤ n.length :=
  ⟨h.2.1, h.2.2.1, h.2.2.2.1, h.1.i_le, h.1.j_le⟩

set_option maxHeartbeats 1000000 in
theorem fnmatch_any (s t : ByteArray) (w : World) (hs : s.size ≤ 1048576) (ht : t.size ≤ 1048576) :
    Calls Try.prog 16 #[.string s, .string t] w fun e w' => e = .returned (.bool (M (T (runes s)) (runes t))) ∧ Below w.heap.size w w' := by
  obtain ⟨cp, W1, r1, hcp, hR1, hb1, hz1⟩ := conv_runes w s hs
  obtain ⟨cn, W2, r2, hcn, hR2, hb2, hz2⟩ := conv_runes W1 t ht
  have lp : (runes s).length ≤ 1048576 := Nat.le_trans (runes_length s) hs
  have ln : (runes t).length ≤ 1048576 := Nat.le_trans (runes_length t) ht
  have HR1 : Rw W2 w.heap.size 0 (runes s) := Rw_below hR1 hb2 (by omega)
  have hB : Below w.heap.size w W2 := hb1.trans (hb2.mono (by omega))
  generalize hp : runes s = p at *
  generalize hn : runes t = n at *
  generalize hbp : w.heap.size = bp at *
  rw [hz1] at r2 hR2
  clear hz2 hb2 hb1 hR1 hp hn
  go_enter Try.func16, Try.ntmps16
  go_wp2
  clear r1 r2 hz1
  go_loopg [7, 8, 9, 10] (mu p.length n.length (-1) 0 0) (fun g v7 v8 v9 v10 wx => ∃ (st : Int) (fr i j : Nat), v7 = .int .i64 st ∧ v8 = .int .i64 fr ∧ v9 = .int .i64 i ∧ v10 = .int .i64 j ∧ Rd p n g st fr i j ∧ Rw wx bp 0 p ∧ Rw wx (bp + 1) 0 n ∧ Below bp w wx)
  case atStart => exact ⟨-1, 0, 0, 0, rfl, rfl, rfl, rfl, ⟨inv_init p n, by omega, by omega, by omega, rfl⟩, HR1, hR2, hB⟩
  case round =>
  clear HR1 hR2 hB
  obtain ⟨st, fr, i, j, rfl, rfl, rfl, rfl, hR, HR1, hR2, hB⟩ := hrel
  obtain ⟨k1, k2, k3, k4, k5⟩ := Rd_bounds hR
  by_cases hj : j < n.length
  · have hcj := hR2 j hj
    rw [Nat.zero_add] at hcj
    by_cases hi : i < p.length
    · have hci := HR1 i hi
      rw [Nat.zero_add] at hci
      by_cases h42 : gr p i = 42
      · have h42' : (gr p i == 42) = true := by simp [h42]
        obtain ⟨m1, m2⟩ := Rd_star hR hi h42
        clear h42
        go_wp2
        go_roundg (mu p.length n.length (i : Int) j (i + 1))
        case measure => exact m1
        case rel => exact ⟨_, _, i + 1, _, rfl, rfl, by go_num, rfl, m2, HR1, hR2, hB⟩
      · have h42' : (gr p i == 42) = false := by simp [h42]
        have C := fun nq => matchOne_at bp cp i p (gr n j) (wr.drewN nq) (Rw_drewN HR1) hi lp hcp
        by_cases hta : ta (p.drop i) (gr n j) = true
        · obtain ⟨m1, m2, m3⟩ := Rd_match hR hi hj h42 hta
          clear h42
          go_wp2_with fail
          go_quiet ((go_at_call 20; exact Calls.quiet_of (C _)))
          go_wp2
          go_roundg (mu p.length n.length st fr (i + tw (p.drop i)))
          case measure => exact m1
          case rel => exact ⟨_, _, i + tw (p.drop i), j + 1, rfl, rfl, by go_num, by go_num, m2, Rw_drewN HR1, Rw_drewN hR2, below_drewN hB _⟩
        · have hta' : ta (p.drop i) (gr n j) = false := by simpa using hta
          have hrf : refuses p n i j := .inr ⟨h42, hta'⟩
          clear hta h42
          by_cases hst : st < 0
          · have hm := inv_fail hR.1 hst hj hrf
            have HM : Hid (M (T p) n = false) := hm
            clear hm
            go_wp2_with fail
            go_quiet ((go_at_call 20; exact Calls.quiet_of (C _)))
            go_wp2
            go_ret
            exact ⟨ret_bool HM.out.symm, below_drewN hB _⟩
          · obtain ⟨m1, m2⟩ := Rd_back hR (by omega) hj hrf
            go_wp2_with fail
            go_quiet ((go_at_call 20; exact Calls.quiet_of (C _)))
            go_wp2
            go_roundg (mu p.length n.length st (fr + 1) (st.toNat + 1))
            case measure => exact m1
            case rel => exact ⟨_, fr + 1, st.toNat + 1, fr + 1, rfl, by go_num, iNat (by omega), by go_num, m2, Rw_drewN HR1, Rw_drewN hR2, below_drewN hB _⟩
    · have hrf : refuses p n i j := .inl (by omega)
      by_cases hst : st < 0
      · have hm := inv_fail hR.1 hst hj hrf
        have HM : Hid (M (T p) n = false) := hm
        clear hm
        go_wp2
        go_ret
        exact ⟨ret_bool HM.out.symm, hB⟩
      · obtain ⟨m1, m2⟩ := Rd_back hR (by omega) hj hrf
        go_wp2
        go_roundg (mu p.length n.length st (fr + 1) (st.toNat + 1))
        case measure => exact m1
        case rel => exact ⟨_, fr + 1, st.toNat + 1, fr + 1, rfl, by go_num, iNat (by omega), by go_num, m2, HR1, hR2, hB⟩
  · have hm := inv_end hR.1 (by omega)
    have HM : Hid (M (T p) n = allStar (p.drop i)) := hm
    clear hm
    obtain ⟨wo, rfl⟩ : ∃ wo : World, wo = wr := ⟨_, rfl⟩
    go_wp2
    go_loopg [9] (p.length - i) (fun g v wx => (∃ e : Nat, v = .int .i64 e ∧ e ≤ p.length ∧ Hid (M (T p) n = allStar (p.drop e)) ∧ g = p.length - e) ∧ wx = wo)
    case atStart => exact ⟨⟨i, rfl, k4, HM, rfl⟩, rfl⟩
    case round =>
    obtain ⟨⟨e, rfl, he, hE, hg⟩, rfl⟩ := hrel
    by_cases hel : e < p.length
    · have hce := HR1 e hel
      rw [Nat.zero_add] at hce
      by_cases h42 : gr p e = 42
      · have h42' : (gr p e == 42) = true := by simp [h42]
        have hs := allStar_step p e hel h42
        have HS : Hid (M (T p) n = allStar (p.drop (e + 1))) := hE.out.trans hs
        clear h42 hs
        go_wp2
        go_roundg (p.length - (e + 1))
        case measure => omega
        case rel => exact ⟨⟨e + 1, by go_num, by omega, HS, rfl⟩, rfl⟩
      · have h42' : (gr p e == 42) = false := by simp [h42]
        have hs := allStar_stop p e hel h42
        have HS : Hid (M (T p) n = false) := hE.out.trans hs
        have hne : ((e : Int) == (p.length : Int)) = false := by simp; omega
        clear h42 hs
        go_wp2
        go_ret
        exact ⟨ret_bool HS.out.symm, hB⟩
    · have hs := allStar_end p e (by omega)
      have HS : Hid (M (T p) n = true) := hE.out.trans hs
      have hne : ((e : Int) == (p.length : Int)) = true := by simp; omega
      clear hs
      go_wp2
      go_ret
      exact ⟨ret_bool HS.out.symm, hB⟩
end Go.Proofs.Qxb6606061a
