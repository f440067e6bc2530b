import Derived.Test.Qxb6606061aWf
set_option linter.unusedSimpArgs false
set_option linter.unusedVariables false
namespace Go.Proofs.Qxb6606061a
open Go.RowKit

/-- An owned row of runes is a row of runes in memory. -/
theorem own_Rw {w : World} {base g cap : Nat} {zs : List Int} (h : w.ownsRow base 21 1 (.slice (some ⟨g, 0, none⟩) zs.length cap) zs.length (zs.map (Value.int .i32))) : Rw w g 0 zs := by
  intro k hk
  have := World.ownsRow.cellAt h k (by omega)
  rw [Nat.zero_add, this]
  simp [gr, List.getElem?_eq_getElem hk]

theorem own_lt {w : World} {base : Nat} {e : TypeId} {size g n cap : Nat} {xs : List Value} (h : w.ownsRow base e size (.slice (some ⟨g, 0, none⟩) n cap) n xs) : g < w.heap.size := by
  have := World.ownsRow.lt h g (by simp [Value.ownBlock])
  exact this.2

theorem own_cast {w : World} {base : Nat} {e : TypeId} {size : Nat} {v v' : Value} {n n' : Nat} {xs xs' : List Value} (h : w.ownsRow base e size v n xs) (h1 : v = v') (h2 : n = n') (h3 : xs = xs') : w.ownsRow base e size v' n' xs' := by
  subst h1 h2 h3; exact h

def loV (acc : List (Int × Int)) : List Value := (acc.map Prod.fst).map (Value.int .i32)
def hiV (acc : List (Int × Int)) : List Value := (acc.map Prod.snd).map (Value.int .i32)
theorem loV_snoc (acc : List (Int × Int)) (x y : Int) : loV acc ++ [.int .i32 x] = loV (acc ++ [(x, y)]) := by simp [loV]
theorem hiV_snoc (acc : List (Int × Int)) (x y : Int) : hiV acc ++ [.int .i32 y] = hiV (acc ++ [(x, y)]) := by simp [hiV]

/-- The state of mb1Intervals's loop. -/
structure Iv (m : List Int) (B B1 : Nat) (w : World) (acc : List (Int × Int)) (k : Nat) (wx : World) : Prop where
  split : ivs m = acc ++ ivs (m.drop k)
  len : acc.length ≤ k
  kle : k ≤ m.length
  lo : wx.ownsRow B 21 1 (.slice (some ⟨B, 0, none⟩) acc.length m.length) acc.length (loV acc)
  hi : wx.ownsRow B 21 1 (.slice (some ⟨B1, 0, none⟩) acc.length m.length) acc.length (hiV acc)
  below : Below B w wx
  sz : B ≤ wx.heap.size

/-- Two appends behind one another, to two rows of one's own. -/
theorem Iv_step {m : List Int} {B B1 : Nat} {w : World} {acc : List (Int × Int)} {k k' : Nat} {wx w1 w2 : World} {o1 o2 : Obj} {x y : Int} (h : Iv m B B1 w acc k wx) (hB : B < B1)
    (h1 : w1.ownsRow B 21 1 (.slice (some ⟨B, 0, none⟩) (acc.length + 1) m.length) (acc.length + 1) (loV acc ++ [.int .i32 x])) (g1 : (wx.alloc o1).grownBy w1 (some B))
    (h2 : w2.ownsRow B 21 1 (.slice (some ⟨B1, 0, none⟩) (acc.length + 1) m.length) (acc.length + 1) (hiV acc ++ [.int .i32 y])) (g2 : (w1.alloc o2).grownBy w2 (some B1))
    (hs : Hid (ivs (m.drop k) = (x, y) :: ivs (m.drop k'))) (hk : k < k') (hk' : k' ≤ m.length) : Iv m B B1 w (acc ++ [(x, y)]) k' w2 := by
  have z1 := g1.size
  have z2 := g2.size
  have z0 := h.sz
  simp at z1 z2
  refine ⟨?_, ?_, hk', ?_, ?_, ?_, by omega⟩
  · rw [h.split, hs.out]; simp
  · have := h.len; simp; omega
  · exact own_cast ((h1.alloc _).kept g2 (.inr (by simp [Value.ownBlock]; omega))) (by simp) (by simp) (loV_snoc _ _ _)
  · exact own_cast h2 (by simp) (by simp) (hiV_snoc _ _ _)
  · exact (((h.below.alloc (by omega) _).grown g1 (by simp; omega) (by intro k e; cases e; exact Nat.le_refl _)).alloc (by omega) _).grown g2 (by simp; omega) (by intro k e; cases e; omega)

theorem Iv_own2 {m : List Int} {B B1 : Nat} {w : World} {acc : List (Int × Int)} {k : Nat} {wx w1 : World} {o1 : Obj} (h : Iv m B B1 w acc k wx) (hB : B < B1) (g1 : (wx.alloc o1).grownBy w1 (some B)) :
    w1.ownsRow B 21 1 (.slice (some ⟨B1, 0, none⟩) acc.length m.length) acc.length (hiV acc) ∧ Below B w w1 := by
  have z1 := g1.size
  have z0 := h.sz
  simp at z1
  exact ⟨(h.hi.alloc _).kept g1 (.inr (by simp [Value.ownBlock]; omega)), (h.below.alloc (by omega) _).grown g1 (by simp; omega) (by intro k e; cases e; exact Nat.le_refl _)⟩

theorem ret_lens {l l' : List (Int × Int)} {a b : Option Addr} {c d : Nat} (h : l = l') : Ending.returned (.tuple #[.slice a l.length c, .slice b l.length d]) = .returned (.tuple #[.slice a l'.length c, .slice b l'.length d]) := by rw [h]

set_option maxHeartbeats 1000000 in
theorem intervals_any (b o cap : Nat) (m : List Int) (w : World) (hm : Rw w b o m) (hb : b < w.heap.size) (lm : m.length ≤ 1048576) :
    Calls Try.prog 21 #[.slice (some ⟨b, o, none⟩) m.length cap] w fun e w' => ∃ g1 c1 g2 c2 : Nat, e = .returned (.tuple #[.slice (some ⟨g1, 0, none⟩) (ivs m).length c1, .slice (some ⟨g2, 0, none⟩) (ivs m).length c2]) ∧
      Rw w' g1 0 ((ivs m).map Prod.fst) ∧ Rw w' g2 0 ((ivs m).map Prod.snd) ∧ (ivs m).length ≤ m.length ∧ Below w.heap.size w w' := by
  obtain ⟨i0, hi, hz0', hz1', hz2'⟩ := info_parts Try.info21
  go_enter Try.func21, Try.ntmps21
  go_wp2_with (at_make; refine wpList_make_own _ rfl _ _ 22 rfl w.heap.size 21 i0 (.int .i32 0) 1 Try.underlying22 hi hz0' hz1' .i64 .i64 _ m.length rfl rfl rfl ?_ ?_ ?_ ?_)
  · rw [hz2']; omega
  · unfold maxLen; omega
  · exact Nat.le_refl _
  intro W1 hown1 hgrow1
  have hlt1 := own_lt hown1
  go_wp2_with (at_make; refine wpList_make_own _ rfl _ _ 22 rfl w.heap.size 21 i0 (.int .i32 0) 1 Try.underlying22 hi hz0' hz1' .i64 .i64 _ m.length rfl rfl rfl ?_ ?_ ?_ ?_)
  · rw [hz2']; omega
  · unfold maxLen; omega
  · omega
  intro W2 hown2 hgrow2
  have I0 : Iv m w.heap.size W1.heap.size w [] 0 W2 := by
    refine ⟨by simp, Nat.zero_le _, Nat.zero_le _, ?_, ?_, ?_, ?_⟩
    · exact own_cast (hown1.kept hgrow2 (.inr (by simp [Value.ownBlock]))) rfl rfl rfl
    · exact own_cast hown2 rfl rfl rfl
    · exact ((Below.refl _ _).grown hgrow1 (Nat.le_refl _) (by intro k e; cases e)).grown hgrow2 (by omega) (by intro k e; cases e)
    · have := hgrow2.size; omega
  generalize hB1 : W1.heap.size = B1 at *
  clear hown1 hown2 hgrow1 hgrow2 hB1
  go_wp2
  go_loopg [4, 5, 6] m.length (fun g v4 v5 v6 wx => ∃ (acc : List (Int × Int)) (k : Nat), v4 = .slice (some ⟨w.heap.size, 0, none⟩) acc.length m.length ∧ v5 = .slice (some ⟨B1, 0, none⟩) acc.length m.length ∧ v6 = .int .i64 k ∧ g = m.length - k ∧ Iv m w.heap.size B1 w acc k wx)
  case atStart => exact ⟨[], 0, rfl, rfl, rfl, rfl, I0⟩
  case round =>
  clear I0
  obtain ⟨acc, k, rfl, rfl, rfl, hg, I⟩ := hrel
  have kl := I.len
  have hk := I.kle
  have zz := I.sz
  by_cases hlt : k < m.length
  · have hck := (I.below.cell (p := ⟨b, o + k, none⟩) hb).trans (hm k hlt)
    by_cases hr : k + 2 < m.length ∧ gr m (k + 1) = 45
    · obtain ⟨hk2, h45⟩ := hr
      have hck1 := (I.below.cell (p := ⟨b, o + (k + 1), none⟩) hb).trans (hm (k + 1) (by omega))
      have h45' : (gr m (k + 1) == 45) = true := by simp [h45]
      have HS : Hid (ivs (m.drop k) = (gr m k, gr m (k + 2)) :: ivs (m.drop (k + 3))) := ivs_range m k hk2 h45
      clear h45
      go_wp2_with (at_builtin; refine wpList_append_fits _ rfl _ _ 22 rfl w.heap.size 21 i0 1 Try.underlying22 hi hz1' w.heap.size acc.length m.length _ rfl (I.lo.alloc _) ⟨wr.heap.size, 0, none⟩ 1 1 [.int .i32 (gr m k)] rfl rfl ?_ ?_ ?_ ?_)
      · exact cells_new wr _ 21
      · intro u hu; simp at hu; subst hu; rfl
      · omega
      intro w1 h1 g1
      obtain ⟨ho2, hb2⟩ := Iv_own2 I (by omega) g1
      have hck2 := (hb2.cell (p := ⟨b, o + (k + 2), none⟩) hb).trans (hm (k + 2) (by omega))
      clear hck hck1
      go_wp2_with (at_builtin; refine wpList_append_fits _ rfl _ _ 22 rfl w.heap.size 21 i0 1 Try.underlying22 hi hz1' B1 acc.length m.length _ rfl (ho2.alloc _) ⟨w1.heap.size, 0, none⟩ 1 1 [.int .i32 (gr m (k + 2))] rfl rfl ?_ ?_ ?_ ?_)
      · exact cells_new w1 _ 21
      · intro u hu; simp at hu; subst hu; rfl
      · omega
      intro w2 h2 g2
      have I2 := Iv_step I (by omega) h1 g1 h2 g2 HS (by omega : k < k + 3) (by omega)
      clear h1 g1 h2 g2 ho2 hb2 hck2
      go_wp2
      go_roundg (m.length - (k + 3))
      case measure => omega
      case rel => exact ⟨_, k + 3, by simp, by simp, by go_num, rfl, I2⟩
    · have HS : Hid (ivs (m.drop k) = (gr m k, gr m k) :: ivs (m.drop (k + 1))) := by
        refine ivs_one m k hlt ?_
        by_cases h2 : k + 2 < m.length
        · exact .inr (fun h3 => hr ⟨h2, h3⟩)
        · exact .inl (by omega)
      have hgo : (k + 2 < m.length ∧ (gr m (k + 1) == 45) = false) ∨ ¬ k + 2 < m.length := by
        by_cases h2 : k + 2 < m.length
        · exact .inl ⟨h2, by simp; exact fun h3 => hr ⟨h2, h3⟩⟩
        · exact .inr h2
      have hck1 : k + 2 < m.length → wr.cell? ⟨b, o + (k + 1), none⟩ = some (.int .i32 (gr m (k + 1))) := fun h => (I.below.cell (p := ⟨b, o + (k + 1), none⟩) hb).trans (hm (k + 1) (by omega))
      clear hr
      have step : ∀ (w1 w2 : World) (o1 o2 : Obj), w1.ownsRow w.heap.size 21 1 (.slice (some ⟨w.heap.size, 0, none⟩) (acc.length + 1) m.length) (acc.length + 1) (loV acc ++ [.int .i32 (gr m k)]) → (wr.alloc o1).grownBy w1 (some w.heap.size) →
          w2.ownsRow w.heap.size 21 1 (.slice (some ⟨B1, 0, none⟩) (acc.length + 1) m.length) (acc.length + 1) (hiV acc ++ [.int .i32 (gr m k)]) → (w1.alloc o2).grownBy w2 (some B1) → Iv m w.heap.size B1 w (acc ++ [(gr m k, gr m k)]) (k + 1) w2 :=
        fun w1 w2 o1 o2 h1 g1 h2 g2 => Iv_step I (by omega) h1 g1 h2 g2 HS (by omega : k < k + 1) (by omega)
      rcases hgo with ⟨hk2, h45⟩ | hk2
      · have hck1' := hck1 hk2
        clear hck1
        go_wp2_with (at_builtin; refine wpList_append_fits _ rfl _ _ 22 rfl w.heap.size 21 i0 1 Try.underlying22 hi hz1' w.heap.size acc.length m.length _ rfl (I.lo.alloc _) ⟨wr.heap.size, 0, none⟩ 1 1 [.int .i32 (gr m k)] rfl rfl ?_ ?_ ?_ ?_)
        · exact cells_new wr _ 21
        · intro u hu; simp at hu; subst hu; rfl
        · omega
        intro w1 h1 g1
        obtain ⟨ho2, hb2⟩ := Iv_own2 I (by omega) g1
        have hck2 := (hb2.cell (p := ⟨b, o + k, none⟩) hb).trans (hm k hlt)
        clear hck hck1'
        go_wp2_with (at_builtin; refine wpList_append_fits _ rfl _ _ 22 rfl w.heap.size 21 i0 1 Try.underlying22 hi hz1' B1 acc.length m.length _ rfl (ho2.alloc _) ⟨w1.heap.size, 0, none⟩ 1 1 [.int .i32 (gr m k)] rfl rfl ?_ ?_ ?_ ?_)
        · exact cells_new w1 _ 21
        · intro u hu; simp at hu; subst hu; rfl
        · omega
        intro w2 h2 g2
        have I2 := step w1 w2 _ _ h1 g1 h2 g2
        clear h1 g1 h2 g2 ho2 hb2 hck2 step
        go_wp2
        go_roundg (m.length - (k + 1))
        case measure => omega
        case rel => exact ⟨_, k + 1, by simp, by simp, by go_num, rfl, I2⟩
      · clear hck1
        go_wp2_with (at_builtin; refine wpList_append_fits _ rfl _ _ 22 rfl w.heap.size 21 i0 1 Try.underlying22 hi hz1' w.heap.size acc.length m.length _ rfl (I.lo.alloc _) ⟨wr.heap.size, 0, none⟩ 1 1 [.int .i32 (gr m k)] rfl rfl ?_ ?_ ?_ ?_)
        all_goals first | exact cells_new wr _ 21 | (intro u hu; simp at hu; subst hu; rfl) | rfl | omega | skip
        intro w1 h1 g1
        obtain ⟨ho2, hb2⟩ := Iv_own2 I (by omega) g1
        have hck2 := (hb2.cell (p := ⟨b, o + k, none⟩) hb).trans (hm k hlt)
        clear hck
        go_wp2_with (at_builtin; refine wpList_append_fits _ rfl _ _ 22 rfl w.heap.size 21 i0 1 Try.underlying22 hi hz1' B1 acc.length m.length _ rfl (ho2.alloc _) ⟨w1.heap.size, 0, none⟩ 1 1 [.int .i32 (gr m k)] rfl rfl ?_ ?_ ?_ ?_)
        all_goals first | exact cells_new w1 _ 21 | (intro u hu; simp at hu; subst hu; rfl) | rfl | omega | skip
        intro w2 h2 g2
        have I2 := step w1 w2 _ _ h1 g1 h2 g2
        clear h1 g1 h2 g2 ho2 hb2 hck2 step
        go_wp2
        go_roundg (m.length - (k + 1))
        case measure => omega
        case rel => exact ⟨_, k + 1, by simp, by simp, by go_num, rfl, I2⟩
  · have he : Hid (ivs m = acc) := by
      have := I.split
      rw [ivs_end m k (by omega), List.append_nil] at this
      exact this
    go_wp2
    go_ret2
    refine ⟨w.heap.size, m.length, B1, m.length, ret_lens he.out.symm, ?_, ?_, ?_, I.below⟩
    · rw [he.out]; exact own_Rw (cap := m.length) (own_cast I.lo (by simp) (by simp) rfl)
    · rw [he.out]; exact own_Rw (cap := m.length) (own_cast I.hi (by simp) (by simp) rfl)
    · rw [he.out]; omega

/-! ### mb1TokenAccepts -/
theorem tka_q (tok : List Int) (c : Int) : tka tok 63 c = true := rfl
theorem tka_e (tok : List Int) (c : Int) : tka tok 61 c = (gr tok 0 == c) := rfl
theorem tka_s (tok : List Int) (c : Int) : tka tok 91 c = if cls tok < tok.length then setAcc tok c else false := rfl

set_option maxHeartbeats 1000000 in
theorem tokAcc_any (b o cap : Nat) (tok : List Int) (kind c : Int) (w : World) (hm : Rw w b o tok) (hb : b < w.heap.size) (h0 : 0 < tok.length) (lt : tok.length ≤ 1048576) (hcap : tok.length ≤ cap) (hk : kind = 63 ∨ kind = 61 ∨ kind = 91) :
    Calls Try.prog 19 #[.slice (some ⟨b, o, none⟩) tok.length cap, .int .u8 kind, .int .i32 c] w fun e w' => e = .returned (.bool (tka tok kind c)) ∧ Below w.heap.size w w' := by
  rcases hk with rfl | rfl | rfl
  · rw [tka_q]
    go_enter Try.func19, Try.ntmps19
    go_wp2
    go_ret
    exact ⟨rfl, Below.refl _ _⟩
  · rw [tka_e]
    have hc0 : w.cell? ⟨b, o, none⟩ = some (.int .i32 (gr tok 0)) := hm 0 h0
    go_enter Try.func19, Try.ntmps19
    go_wp2
    go_ret
    exact ⟨rfl, Below.refl _ _⟩
  · rw [tka_s]
    have C := setClose_any b o cap tok w hm h0 lt
    have hs := start_bd tok
    by_cases hc : cls tok < tok.length
    · rw [if_pos hc]
      rw [clInt_closed hc] at C
      have hg := cls_ge tok
      have hml := members_len (p := tok) (e := cls tok) rfl (by omega)
      have hmr := members_rw (p := tok) (e := cls tok) hm rfl (by omega)
      have C2 := intervals_any b (o + start tok) (cap - start tok) (members tok) w hmr hb (by omega)
      rw [hml] at C2
      have HB : Hid (setAcc tok c = (inAny (ivs (members tok)) c != bang tok)) := by
        show _ = _
        unfold setAcc
        rw [inAny_members]
      have hml' : (members tok).length ≤ 1048576 := by omega
      clear hml
      go_enter Try.func19, Try.ntmps19
      go_wp2_with (first | (go_at_call 17; refine C.mono ?_; rintro e w' ⟨rfl, rfl⟩) | (go_at_call 21; refine C2.mono ?_; rintro e w' ⟨g1, c1, g2, c2, rfl, hR1, hR2, hl, hbel⟩; have C3 := inAny_any g1 c1 g2 c2 (ivs (members tok)) c w' hR1 hR2 (by omega)) | (go_at_call 22; refine C3.mono ?_; rintro e w' ⟨rfl, rfl⟩))
      go_ret
      refine ⟨ret_bool ?_, by assumption⟩
      rw [HB.out]
      cases (inAny (ivs (members tok)) c) <;> cases (bang tok) <;> rfl
    · rw [if_neg hc]
      rw [clInt_open hc] at C
      go_enter Try.func19, Try.ntmps19
      go_wp2_with (go_at_call 17; refine C.mono ?_; rintro e w' ⟨rfl, rfl⟩)
      go_ret
      exact ⟨rfl, Below.refl _ _⟩
end Go.Proofs.Qxb6606061a
