import Derived.Test.Qxb6606061aWh
import Derived.Deep.RegionHeld3
set_option linter.unusedSimpArgs false
set_option linter.unusedVariables false
namespace Go.Proofs.Qxb6606061a
open Go.RowKit

theorem Try.info5 : (Try.prog.info? 5).map (fun i => (i.zero, i.size, i.bytes)) = some (some (.int .u8 0), 1, 1) := by kernel_rfl
theorem Try.info3 : (Try.prog.info? 3).map (fun i => (i.zero, i.size, i.bytes)) = some (some (.int .i64 0), 1, 8) := by kernel_rfl
theorem Try.info4 : (Try.prog.info? 4).map (fun i => (i.zero, i.size, i.bytes)) = some (some (.bool false), 1, 1) := by kernel_rfl

def kV (p : List Int) (S : List Nat) : List Value := S.map fun s => .int .u8 (kd (p.drop s))
def fV (S : List Nat) : List Value := S.map fun (s : Nat) => .int .i64 (s : Int)
def tV (p : List Int) (S : List Nat) : List Value := S.map fun s => .int .i64 ((s + tw (p.drop s) : Nat) : Int)

/-- The state of the cutting loop: the places where the tokens begin, and the three rows. -/
structure Tz (p : List Int) (B Bf Bt : Nat) (w : World) (S : List Nat) (i : Nat) (wx : World) : Prop where
  split : T p = S.map (tokAt p) ++ T (p.drop i)
  len : S.length ≤ i
  ile : i ≤ p.length
  ok : ∀ s ∈ S, s < p.length
  kn : wx.ownsRow B 5 1 (.slice (some ⟨B, 0, none⟩) S.length p.length) S.length (kV p S)
  fr : wx.ownsRow B 3 1 (.slice (some ⟨Bf, 0, none⟩) S.length p.length) S.length (fV S)
  tt : wx.ownsRow B 3 1 (.slice (some ⟨Bt, 0, none⟩) S.length p.length) S.length (tV p S)
  below : Below B w wx
  sz : B ≤ wx.heap.size

theorem Tz_a1 {p : List Int} {B Bf Bt : Nat} {w : World} {S : List Nat} {i : Nat} {wx w1 : World} {o1 : Obj} (h : Tz p B Bf Bt w S i wx) (hB : B < Bf) (hB2 : Bf < Bt) (g1 : (wx.alloc o1).grownBy w1 (some B)) :
    w1.ownsRow B 3 1 (.slice (some ⟨Bf, 0, none⟩) S.length p.length) S.length (fV S) ∧ w1.ownsRow B 3 1 (.slice (some ⟨Bt, 0, none⟩) S.length p.length) S.length (tV p S) ∧ Below B w w1 ∧ B ≤ w1.heap.size := by
  have z1 := g1.size
  have z0 := h.sz
  simp at z1
  exact ⟨(h.fr.alloc _).kept g1 (.inr (by simp [Value.ownBlock]; omega)), (h.tt.alloc _).kept g1 (.inr (by simp [Value.ownBlock]; omega)), (h.below.alloc (by omega) _).grown g1 (by simp; omega) (by intro k e; cases e; exact Nat.le_refl _), by omega⟩

theorem Tz_a2 {B Bf Bt : Nat} {w : World} {w1 w2 : World} {o2 : Obj} {n n' c c' : Nat} {xs ys : List Value} (hB : B < Bf) (hB2 : Bf < Bt) (hk : w1.ownsRow B 5 1 (.slice (some ⟨B, 0, none⟩) n c) n xs) (ht : w1.ownsRow B 3 1 (.slice (some ⟨Bt, 0, none⟩) n' c') n' ys) (hb : Below B w w1) (hz : B ≤ w1.heap.size) (g2 : (w1.alloc o2).grownBy w2 (some Bf)) :
    w2.ownsRow B 5 1 (.slice (some ⟨B, 0, none⟩) n c) n xs ∧ w2.ownsRow B 3 1 (.slice (some ⟨Bt, 0, none⟩) n' c') n' ys ∧ Below B w w2 ∧ B ≤ w2.heap.size := by
  have z1 := g2.size
  simp at z1
  exact ⟨(hk.alloc _).kept g2 (.inr (by simp [Value.ownBlock]; omega)), (ht.alloc _).kept g2 (.inr (by simp [Value.ownBlock]; omega)), (hb.alloc (by omega) _).grown g2 (by simp; omega) (by intro k e; cases e; omega), by omega⟩

theorem Tz_a3 {B Bf Bt : Nat} {w : World} {w2 w3 : World} {o3 : Obj} {n n' c c' : Nat} {xs ys : List Value} (hB : B < Bf) (hB2 : Bf < Bt) (hk : w2.ownsRow B 5 1 (.slice (some ⟨B, 0, none⟩) n c) n xs) (hf : w2.ownsRow B 3 1 (.slice (some ⟨Bf, 0, none⟩) n' c') n' ys) (hb : Below B w w2) (hz : B ≤ w2.heap.size) (g3 : (w2.alloc o3).grownBy w3 (some Bt)) :
    w3.ownsRow B 5 1 (.slice (some ⟨B, 0, none⟩) n c) n xs ∧ w3.ownsRow B 3 1 (.slice (some ⟨Bf, 0, none⟩) n' c') n' ys ∧ Below B w w3 ∧ B ≤ w3.heap.size := by
  have z1 := g3.size
  simp at z1
  exact ⟨(hk.alloc _).kept g3 (.inr (by simp [Value.ownBlock]; omega)), (hf.alloc _).kept g3 (.inr (by simp [Value.ownBlock]; omega)), (hb.alloc (by omega) _).grown g3 (by simp; omega) (by intro k e; cases e; omega), by omega⟩

theorem Tz_join {p : List Int} {B Bf Bt : Nat} {w : World} {S : List Nat} {i i' : Nat} {kind e : Int} {wx w3 : World} (h : Tz p B Bf Bt w S i wx) (hi : i < p.length) (hk : Hid (kd (p.drop i) = kind)) (hw : Hid (i + tw (p.drop i) = i')) (he : e = (i' : Int))
    (h1 : w3.ownsRow B 5 1 (.slice (some ⟨B, 0, none⟩) (S.length + 1) p.length) (S.length + 1) (kV p S ++ [.int .u8 kind]))
    (h2 : w3.ownsRow B 3 1 (.slice (some ⟨Bf, 0, none⟩) (S.length + 1) p.length) (S.length + 1) (fV S ++ [.int .i64 (i : Int)]))
    (h3 : w3.ownsRow B 3 1 (.slice (some ⟨Bt, 0, none⟩) (S.length + 1) p.length) (S.length + 1) (tV p S ++ [.int .i64 e])) (hb : Below B w w3) (hz : B ≤ w3.heap.size) :
    Tz p B Bf Bt w (S ++ [i]) i' w3 ∧ i' ≤ p.length ∧ i < i' := by
  have h4 := tw_le (p.drop i) (by simp; omega)
  have h5 := tw_pos (p.drop i)
  have hw' := hw.out
  simp at h4
  refine ⟨⟨?_, ?_, by omega, ?_, ?_, ?_, ?_, hb, hz⟩, by omega, by omega⟩
  · rw [h.split, T_next p i hi, hw']; simp
  · have := h.len; simp; omega
  · intro s hs
    rcases List.mem_append.1 hs with hs | hs
    · exact h.ok s hs
    · simp at hs; omega
  · exact own_cast h1 (by simp) (by simp) (by rw [← hk.out]; simp [kV])
  · exact own_cast h2 (by simp) (by simp) (by simp [fV])
  · exact own_cast h3 (by simp) (by simp) (by rw [he, ← hw']; simp [tV])

theorem kd_set {p : List Int} {i : Nat} (h91 : gr p i = 91) (hc : cls (p.drop i) < (p.drop i).length) : kd (p.drop i) = 91 ∧ i + tw (p.drop i) = i + cls (p.drop i) + 1 := by
  have e : (p.drop i)[(0 : Nat)]?.getD 0 = 91 := by rw [List.getElem?_drop]; exact h91
  unfold kd tw
  rw [if_pos ⟨e, hc⟩, if_pos ⟨e, hc⟩]
  exact ⟨rfl, by omega⟩

theorem kd_lit {p : List Int} {i : Nat} (h : ¬ (gr p i = 91 ∧ cls (p.drop i) < (p.drop i).length)) : kd (p.drop i) = (if gr p i = 42 then 42 else if gr p i = 63 then 63 else 61) ∧ i + tw (p.drop i) = i + 1 := by
  have e : (p.drop i)[(0 : Nat)]?.getD 0 = gr p i := by rw [List.getElem?_drop]; rfl
  unfold kd tw
  rw [e, if_neg h, if_neg h]
  exact ⟨rfl, rfl⟩

/-! ### behind the cutting loop -/
def sAt (S : List Nat) (k : Nat) : Nat := S[k]?.getD 0
def ksOf (p : List Int) (S : List Nat) : List Int := S.map fun s => kd (p.drop s)

theorem ksOf_gr {p : List Int} {S : List Nat} {k : Nat} (h : k < S.length) : gr (ksOf p S) k = kd (p.drop (sAt S k)) := by
  simp [gr, ksOf, sAt, List.getElem?_eq_getElem h]

theorem sAt_mem {S : List Nat} {k : Nat} (h : k < S.length) : sAt S k ∈ S := by
  simp [sAt, List.getElem?_eq_getElem h]

theorem toks_at {p : List Int} {S : List Nat} {k : Nat} (h : k < S.length) : (S.map (tokAt p))[k]? = some (tokAt p (sAt S k)) := by
  simp [sAt, List.getElem?_eq_getElem h]

theorem drop0 (p : List Int) (i : Nat) : (p.drop i)[(0 : Nat)]?.getD 0 = gr p i := by rw [List.getElem?_drop]; rfl

theorem stAt_ks {p : List Int} {S : List Nat} {k : Nat} (h : k < S.length) : stAt (S.map (tokAt p)) k = (gr (ksOf p S) k == 42) := by
  unfold stAt
  rw [toks_at h, ksOf_gr h]
  have h1 := kd_star (p.drop (sAt S k))
  rw [drop0] at h1
  unfold tokAt
  by_cases e : gr p (sAt S k) = 42
  · rw [if_pos (show p[sAt S k]?.getD 0 = 42 from e), h1.2 e]; rfl
  · rw [if_neg (show ¬ p[sAt S k]?.getD 0 = 42 from e)]
    simp [mt h1.1 e]

theorem acAt_ks {p : List Int} {S : List Nat} {k : Nat} {c : Int} (h : k < S.length) (hs : stAt (S.map (tokAt p)) k = false) : acAt (S.map (tokAt p)) c k = ta (p.drop (sAt S k)) c := by
  unfold stAt at hs
  unfold acAt
  rw [toks_at h] at hs ⊢
  unfold tokAt at hs ⊢
  by_cases e : p[sAt S k]?.getD 0 = 42
  · rw [if_pos e] at hs; simp at hs
  · rw [if_neg e]

theorem made_at (n j : Nat) (h : j < n) : (madeCells #[Value.bool false] n).toList[j]? = some (.bool false) := by
  have hs := size_madeCells #[Value.bool false] n
  have : (madeCells #[Value.bool false] n)[j]? = some (.bool false) := by
    unfold madeCells
    rw [Array.getElem?_map, Array.getElem?_range]
    simp [h, Nat.mod_one]
  simpa using this

theorem made_BRow {w : World} {base g n cap t : Nat} (h : w.ownsRow base 4 1 (.slice (some ⟨g, 0, none⟩) n cap) n (madeCells #[Value.bool false] n).toList) (hn : n = t + 1) : BRow w g (fun _ => false) t := by
  intro j hj
  refine ⟨?_, World.ownsRow.frozenAt h j⟩
  rw [World.ownsRow.cellAt h j (by omega)]
  exact made_at n j (by omega)

theorem stepN_no {ts : List Tk} {f : Nat → Bool} {c : Int} {k : Nat} (h : f k = false) : stepN ts f c (k + 1) = stepN ts f c k := by
  simp only [stepN]; rw [h]; rfl
theorem stepN_st {ts : List Tk} {f : Nat → Bool} {c : Int} {k : Nat} (h : f k = true) (h2 : stAt ts k = true) : stepN ts f c (k + 1) = upd (stepN ts f c k) k := by
  simp only [stepN]; rw [h, h2]; rfl
theorem stepN_ac {ts : List Tk} {f : Nat → Bool} {c : Int} {k : Nat} (h : f k = true) (h2 : stAt ts k = false) (h3 : acAt ts c k = true) : stepN ts f c (k + 1) = upd (stepN ts f c k) (k + 1) := by
  simp only [stepN]; rw [h, h2, h3]; rfl
theorem stepN_na {ts : List Tk} {f : Nat → Bool} {c : Int} {k : Nat} (h : f k = true) (h2 : stAt ts k = false) (h3 : acAt ts c k = false) : stepN ts f c (k + 1) = stepN ts f c k := by
  simp only [stepN]; rw [h, h2, h3]; rfl

def zf (fx : Nat → Bool) (k : Nat) : Nat → Bool := fun x => if x < k then false else fx x
theorem zf_step (fx : Nat → Bool) (k x : Nat) : setF (zf fx k) k false x = zf fx (k + 1) x := by
  unfold setF zf
  by_cases h : x = k
  · subst h; simp
  · rw [if_neg h]
    by_cases h2 : x < k
    · rw [if_pos h2, if_pos (by omega)]
    · rw [if_neg h2, if_neg (by omega)]
theorem zf_all (fx : Nat → Bool) {k x : Nat} (h : x < k) : zf fx k x = false := by unfold zf; rw [if_pos h]

theorem BRow_congr {w : World} {b : Nat} {f f' : Nat → Bool} {t : Nat} (h : BRow w b f t) (e : ∀ j, j ≤ t → f j = f' j) : BRow w b f' t :=
  fun j hj => by rw [← e j hj]; exact h j hj

theorem passStars_at (bs cs bk ck t : Nat) (ks : List Int) (ts : List Tk) (f : Nat → Bool) (w : World) (hkl : ks.length = t) (hne : bk ≠ bs) (hS : BRow w bs f t) (hK : Kr w bk ks) (ht : ts.length = t) (hst : ∀ k, k < t → stAt ts k = (gr ks k == 42)) (lk : t ≤ 1048576) :
    Calls Try.prog 18 #[.slice (some ⟨bs, 0, none⟩) (t + 1) cs, .slice (some ⟨bk, 0, none⟩) t ck] w fun e w' => e = .returned (.tuple #[]) ∧ BRow w' bs (passN ts f t) t ∧ Only bs w w' := by
  subst hkl
  exact passStars_any bs cs bk ck ks ts f w hne hS hK ht hst lk

theorem Kr_own {w : World} {base g cap : Nat} {p : List Int} {S : List Nat} (h : w.ownsRow base 5 1 (.slice (some ⟨g, 0, none⟩) S.length cap) S.length (kV p S)) : Kr w g (ksOf p S) := by
  intro k hk
  have hk' : k < S.length := by simpa [ksOf] using hk
  rw [World.ownsRow.cellAt h k (by omega)]
  simp [kV, gr, ksOf, List.getElem?_eq_getElem hk']

theorem fr_own {w : World} {base g cap : Nat} {S : List Nat} (h : w.ownsRow base 3 1 (.slice (some ⟨g, 0, none⟩) S.length cap) S.length (fV S)) : ∀ k, k < S.length → w.cell? ⟨g, k, none⟩ = some (.int .i64 (sAt S k : Int)) := by
  intro k hk'
  rw [World.ownsRow.cellAt h k (by omega)]
  simp [fV, sAt, List.getElem?_eq_getElem hk']

theorem to_own {w : World} {base g cap : Nat} {p : List Int} {S : List Nat} (h : w.ownsRow base 3 1 (.slice (some ⟨g, 0, none⟩) S.length cap) S.length (tV p S)) : ∀ k, k < S.length → w.cell? ⟨g, k, none⟩ = some (.int .i64 ((sAt S k : Int) + (tw (p.drop (sAt S k)) : Int))) := by
  intro k hk'
  rw [World.ownsRow.cellAt h k (by omega)]
  simp [tV, sAt, List.getElem?_eq_getElem hk']

theorem tokAcc_at (bp cp s d : Nat) (p : List Int) (kind c : Int) (A : Bool) (w : World) (hp : Rw w bp 0 p) (hb : bp < w.heap.size) (hs : s < p.length) (lp : p.length ≤ 1048576) (hcp : p.length ≤ cp) (h42 : gr p s ≠ 42) (hd : d = tw (p.drop s)) (hk : kind = kd (p.drop s)) (hA : A = ta (p.drop s) c) :
    Calls Try.prog 19 #[.slice (some ⟨bp, s, none⟩) d (cp - s), .int .u8 kind, .int .i32 c] w fun e w' => e = .returned (.bool A) ∧ Below w.heap.size w w' := by
  have h1 := tw_pos (p.drop s)
  have h2 := tw_le (p.drop s) (by simp; omega)
  have hlen : ((p.drop s).take (tw (p.drop s))).length = d := by rw [hd]; simp; simp at h2; omega
  have hR : Rw w bp s ((p.drop s).take (tw (p.drop s))) := by
    intro k hk
    have hk2 : k < tw (p.drop s) := by rw [hlen] at hk; omega
    have := Rw_drop hp (i := s) k (by omega)
    rw [this]
    unfold gr
    rw [List.getElem?_take, if_pos hk2]
  have hkk : kind = 63 ∨ kind = 61 ∨ kind = 91 := by
    rw [hk]
    have h3 := kd_star (p.drop s)
    rw [drop0] at h3
    unfold kd at h3 ⊢
    rw [drop0] at h3 ⊢
    split
    · exact .inr (.inr rfl)
    · split
      · exact .inl rfl
      · exact .inr (.inl rfl)
  have h := tokAcc_any bp s (cp - s) _ kind c w hR hb (by omega) (by simp at h2; omega) (by simp at h2; omega) hkk
  rw [hlen] at h
  have e : tka ((p.drop s).take (tw (p.drop s))) kind c = A := by rw [hk, hA]; exact tka_ta _ _ (by rw [drop0]; exact h42)
  rw [e] at h
  exact h

set_option maxRecDepth 20000 in
set_option maxHeartbeats 2000000 in
theorem glob_any (bp cp bn cn : Nat) (p n : List Int) (w : World) (hp : Rw w bp 0 p) (hn : Rw w bn 0 n) (hbp : bp < w.heap.size) (hbn : bn < w.heap.size) (lp : p.length ≤ 1048576) (ln : n.length ≤ 1048576) (hcp : p.length ≤ cp) :
    Calls Try.prog 12 #[.slice (some ⟨bp, 0, none⟩) p.length cp, .slice (some ⟨bn, 0, none⟩) n.length cn] w fun e w' => e = .returned (.bool (M (T p) n)) ∧ Below w.heap.size w w' := by
  obtain ⟨i5, hi5, hz05, hz15, hz25⟩ := info_parts Try.info5
  obtain ⟨i3, hi3, hz03, hz13, hz23⟩ := info_parts Try.info3
  obtain ⟨i4, hi4, hz04, hz14, hz24⟩ := info_parts Try.info4
  go_enter Try.func12, Try.ntmps12
  go_wp2_with (at_make; refine wpList_make_own _ rfl _ _ 29 rfl w.heap.size 5 i5 (.int .u8 0) 1 Try.underlying29 hi5 hz05 hz15 .i64 .i64 _ p.length rfl rfl rfl ?_ ?_ ?_ ?_)
  · rw [hz25]; omega
  · unfold maxLen; omega
  · exact Nat.le_refl _
  intro W1 hown1 hgrow1
  have hlt1 := own_lt hown1
  go_wp2_with (at_make; refine wpList_make_own _ rfl _ _ 30 rfl w.heap.size 3 i3 (.int .i64 0) 1 Try.underlying30 hi3 hz03 hz13 .i64 .i64 _ p.length rfl rfl rfl ?_ ?_ ?_ ?_)
  · rw [hz23]; omega
  · unfold maxLen; omega
  · omega
  intro W2 hown2 hgrow2
  have hlt2 := own_lt hown2
  go_wp2_with (at_make; refine wpList_make_own _ rfl _ _ 30 rfl w.heap.size 3 i3 (.int .i64 0) 1 Try.underlying30 hi3 hz03 hz13 .i64 .i64 _ p.length rfl rfl rfl ?_ ?_ ?_ ?_)
  · rw [hz23]; omega
  · unfold maxLen; omega
  · omega
  intro W3 hown3 hgrow3
  have Z0 : Tz p w.heap.size W1.heap.size W2.heap.size w [] 0 W3 := by
    refine ⟨by simp, Nat.zero_le _, Nat.zero_le _, by simp, ?_, ?_, ?_, ?_, ?_⟩
    · exact own_cast ((hown1.kept hgrow2 (.inr (by simp [Value.ownBlock]))).kept hgrow3 (.inr (by simp [Value.ownBlock]))) rfl rfl rfl
    · exact own_cast (hown2.kept hgrow3 (.inr (by simp [Value.ownBlock]))) rfl rfl rfl
    · exact own_cast hown3 rfl rfl rfl
    · exact (((Below.refl _ _).grown hgrow1 (Nat.le_refl _) (by intro k e; cases e)).grown hgrow2 (by omega) (by intro k e; cases e)).grown hgrow3 (by omega) (by intro k e; cases e)
    · have := hgrow3.size; omega
  generalize hBf' : W1.heap.size = Bf at *
  generalize hBt' : W2.heap.size = Bt at *
  have hBf : w.heap.size < Bf := hlt1
  have hBt : Bf < Bt := hlt2
  clear hown1 hown2 hown3 hgrow1 hgrow2 hgrow3 hBf' hBt' hlt1 hlt2
  go_wp2
  go_loopg [5, 6, 7, 8] p.length (fun g v5 v6 v7 v8 wx => ∃ (S : List Nat) (i : Nat), v5 = .slice (some ⟨w.heap.size, 0, none⟩) S.length p.length ∧ v6 = .slice (some ⟨Bf, 0, none⟩) S.length p.length ∧ v7 = .slice (some ⟨Bt, 0, none⟩) S.length p.length ∧ v8 = .int .i64 i ∧ g = p.length - i ∧ Tz p w.heap.size Bf Bt w S i wx)
  case atStart => exact ⟨[], 0, rfl, rfl, rfl, rfl, rfl, Z0⟩
  case round =>
  clear Z0
  obtain ⟨S, i, rfl, rfl, rfl, rfl, hg, Z⟩ := hrel
  have hSl := Z.len
  have hil := Z.ile
  have hsz := Z.sz
  by_cases hlt : i < p.length
  · have hR := Rw_below hp Z.below hbp
    have hci := hR i hlt
    rw [Nat.zero_add] at hci
    have C := setClose_any bp i (cp - i) (p.drop i) wr (Rw_drop hR) (by simp; omega) (by simp; omega)
    rw [List.length_drop] at C
    by_cases hset : gr p i = 91 ∧ cls (p.drop i) < (p.drop i).length
    · obtain ⟨h91, hcl⟩ := hset
      have h91' : (gr p i == 91) = true := by simp [h91]
      obtain ⟨hk, hw⟩ := kd_set h91 hcl
      have HK : Hid (kd (p.drop i) = 91) := hk
      have HW : Hid (i + tw (p.drop i) = i + cls (p.drop i) + 1) := hw
      rw [clInt_closed hcl] at C
      have hcb : cls (p.drop i) ≤ 1048576 := by rw [List.length_drop] at hcl; omega
      generalize cls (p.drop i) = cl at *
      clear hk hw h91 hcl
      go_wp2_with (first | (go_at_call 17; refine C.mono ?_; rintro e w' ⟨rfl, rfl⟩) | (at_builtin; refine wpList_append_fits _ rfl _ _ 29 rfl w.heap.size 5 i5 1 Try.underlying29 hi5 hz15 w.heap.size S.length p.length _ rfl (Z.kn.alloc _) ⟨wr.heap.size, 0, none⟩ 1 1 [.int .u8 91] rfl rfl ?_ ?_ ?_ ?_))
      all_goals first | exact cells_new wr _ 5 | (intro u hu; simp at hu; subst hu; rfl) | rfl | omega | skip
      intro w1 h1 g1
      obtain ⟨hf1, ht1, hb1, hz1⟩ := Tz_a1 Z hBf hBt g1
      go_wp2_with (at_builtin; refine wpList_append_fits _ rfl _ _ 30 rfl w.heap.size 3 i3 1 Try.underlying30 hi3 hz13 Bf S.length p.length _ rfl (hf1.alloc _) ⟨w1.heap.size, 0, none⟩ 1 1 [.int .i64 (i : Int)] rfl rfl ?_ ?_ ?_ ?_)
      all_goals first | exact cells_new w1 _ 3 | (intro u hu; simp at hu; subst hu; rfl) | rfl | omega | skip
      intro w2 h2 g2
      obtain ⟨hk2, ht2, hb2, hz2⟩ := Tz_a2 hBf hBt h1 ht1 hb1 hz1 g2
      clear h1 hf1 ht1 hb1
      go_wp2_with (at_builtin; refine wpList_append_fits _ rfl _ _ 30 rfl w.heap.size 3 i3 1 Try.underlying30 hi3 hz13 Bt S.length p.length _ rfl (ht2.alloc _) ⟨w2.heap.size, 0, none⟩ 1 1 [.int .i64 ((i : Int) + (cl : Int) + 1)] rfl rfl ?_ ?_ ?_ ?_)
      all_goals first | exact cells_new w2 _ 3 | (intro u hu; simp at hu; subst hu; rfl) | rfl | omega | skip
      intro w3 h3 g3
      obtain ⟨hk3, hf3, hb3, hz3⟩ := Tz_a3 hBf hBt hk2 h2 hb2 hz2 g3
      obtain ⟨Z', hle, hlt'⟩ := Tz_join Z hlt HK HW (by go_light; omega) hk3 hf3 h3 hb3 hz3
      clear hk3 hf3 h3 hb3 hk2 ht2 hb2 h2 g1 g2 g3
      go_wp2
      go_roundg (p.length - (i + cl + 1))
      case measure => go_light; omega
      case rel => exact ⟨_, (i + cl + 1), by simp, by simp, by simp, by go_num, rfl, Z'⟩
    · obtain ⟨hk, hw⟩ := kd_lit hset
      have HW : Hid (i + tw (p.drop i) = i + 1) := hw
      by_cases h91 : gr p i = 91
      · have hcl : ¬ cls (p.drop i) < (p.drop i).length := fun h => hset ⟨h91, h⟩
        rw [clInt_open hcl] at C
        have HK : Hid (kd (p.drop i) = 61) := by show _ = _; rw [hk, h91]; rfl
        have h91' : (gr p i == 91) = true := by simp [h91]
        have h42' : (gr p i == 42) = false := by simp [h91]
        have h63' : (gr p i == 63) = false := by simp [h91]
        clear hk hw h91 hcl hset
        go_wp2_with (first | (go_at_call 17; refine C.mono ?_; rintro e w' ⟨rfl, rfl⟩) | (at_builtin; refine wpList_append_fits _ rfl _ _ 29 rfl w.heap.size 5 i5 1 Try.underlying29 hi5 hz15 w.heap.size S.length p.length _ rfl (Z.kn.alloc _) ⟨wr.heap.size, 0, none⟩ 1 1 [.int .u8 61] rfl rfl ?_ ?_ ?_ ?_))
        all_goals first | exact cells_new wr _ 5 | (intro u hu; simp at hu; subst hu; rfl) | rfl | omega | skip
        intro w1 h1 g1
        obtain ⟨hf1, ht1, hb1, hz1⟩ := Tz_a1 Z hBf hBt g1
        go_wp2_with (at_builtin; refine wpList_append_fits _ rfl _ _ 30 rfl w.heap.size 3 i3 1 Try.underlying30 hi3 hz13 Bf S.length p.length _ rfl (hf1.alloc _) ⟨w1.heap.size, 0, none⟩ 1 1 [.int .i64 (i : Int)] rfl rfl ?_ ?_ ?_ ?_)
        all_goals first | exact cells_new w1 _ 3 | (intro u hu; simp at hu; subst hu; rfl) | rfl | omega | skip
        intro w2 h2 g2
        obtain ⟨hk2, ht2, hb2, hz2⟩ := Tz_a2 hBf hBt h1 ht1 hb1 hz1 g2
        clear h1 hf1 ht1 hb1
        go_wp2_with (at_builtin; refine wpList_append_fits _ rfl _ _ 30 rfl w.heap.size 3 i3 1 Try.underlying30 hi3 hz13 Bt S.length p.length _ rfl (ht2.alloc _) ⟨w2.heap.size, 0, none⟩ 1 1 [.int .i64 ((i : Int) + 1)] rfl rfl ?_ ?_ ?_ ?_)
        all_goals first | exact cells_new w2 _ 3 | (intro u hu; simp at hu; subst hu; rfl) | rfl | omega | skip
        intro w3 h3 g3
        obtain ⟨hk3, hf3, hb3, hz3⟩ := Tz_a3 hBf hBt hk2 h2 hb2 hz2 g3
        obtain ⟨Z', hle, hlt'⟩ := Tz_join Z hlt HK HW (by go_light; omega) hk3 hf3 h3 hb3 hz3
        clear hk3 hf3 h3 hb3 hk2 ht2 hb2 h2 g1 g2 g3
        go_wp2
        go_roundg (p.length - (i + 1))
        case measure => go_light; omega
        case rel => exact ⟨_, (i + 1), by simp, by simp, by simp, by go_num, rfl, Z'⟩
      · have h91' : (gr p i == 91) = false := by simp [h91]
        clear hset h91
        by_cases h42 : gr p i = 42
        · have HK : Hid (kd (p.drop i) = 42) := by show _ = _; rw [hk, h42]; rfl
          have h42' : (gr p i == 42) = true := by simp [h42]
          clear hk hw h42
          go_wp2_with (first | (go_at_call 17; refine C.mono ?_; rintro e w' ⟨rfl, rfl⟩) | (at_builtin; refine wpList_append_fits _ rfl _ _ 29 rfl w.heap.size 5 i5 1 Try.underlying29 hi5 hz15 w.heap.size S.length p.length _ rfl (Z.kn.alloc _) ⟨wr.heap.size, 0, none⟩ 1 1 [.int .u8 42] rfl rfl ?_ ?_ ?_ ?_))
          all_goals first | exact cells_new wr _ 5 | (intro u hu; simp at hu; subst hu; rfl) | rfl | omega | skip
          intro w1 h1 g1
          obtain ⟨hf1, ht1, hb1, hz1⟩ := Tz_a1 Z hBf hBt g1
          go_wp2_with (at_builtin; refine wpList_append_fits _ rfl _ _ 30 rfl w.heap.size 3 i3 1 Try.underlying30 hi3 hz13 Bf S.length p.length _ rfl (hf1.alloc _) ⟨w1.heap.size, 0, none⟩ 1 1 [.int .i64 (i : Int)] rfl rfl ?_ ?_ ?_ ?_)
          all_goals first | exact cells_new w1 _ 3 | (intro u hu; simp at hu; subst hu; rfl) | rfl | omega | skip
          intro w2 h2 g2
          obtain ⟨hk2, ht2, hb2, hz2⟩ := Tz_a2 hBf hBt h1 ht1 hb1 hz1 g2
          clear h1 hf1 ht1 hb1
          go_wp2_with (at_builtin; refine wpList_append_fits _ rfl _ _ 30 rfl w.heap.size 3 i3 1 Try.underlying30 hi3 hz13 Bt S.length p.length _ rfl (ht2.alloc _) ⟨w2.heap.size, 0, none⟩ 1 1 [.int .i64 ((i : Int) + 1)] rfl rfl ?_ ?_ ?_ ?_)
          all_goals first | exact cells_new w2 _ 3 | (intro u hu; simp at hu; subst hu; rfl) | rfl | omega | skip
          intro w3 h3 g3
          obtain ⟨hk3, hf3, hb3, hz3⟩ := Tz_a3 hBf hBt hk2 h2 hb2 hz2 g3
          obtain ⟨Z', hle, hlt'⟩ := Tz_join Z hlt HK HW (by go_light; omega) hk3 hf3 h3 hb3 hz3
          clear hk3 hf3 h3 hb3 hk2 ht2 hb2 h2 g1 g2 g3
          go_wp2
          go_roundg (p.length - (i + 1))
          case measure => go_light; omega
          case rel => exact ⟨_, (i + 1), by simp, by simp, by simp, by go_num, rfl, Z'⟩
        · have h42' : (gr p i == 42) = false := by simp [h42]
          by_cases h63 : gr p i = 63
          · have HK : Hid (kd (p.drop i) = 63) := by show _ = _; rw [hk, h63]; rfl
            have h63' : (gr p i == 63) = true := by simp [h63]
            clear hk hw h42 h63
            go_wp2_with (first | (go_at_call 17; refine C.mono ?_; rintro e w' ⟨rfl, rfl⟩) | (at_builtin; refine wpList_append_fits _ rfl _ _ 29 rfl w.heap.size 5 i5 1 Try.underlying29 hi5 hz15 w.heap.size S.length p.length _ rfl (Z.kn.alloc _) ⟨wr.heap.size, 0, none⟩ 1 1 [.int .u8 63] rfl rfl ?_ ?_ ?_ ?_))
            all_goals first | exact cells_new wr _ 5 | (intro u hu; simp at hu; subst hu; rfl) | rfl | omega | skip
            intro w1 h1 g1
            obtain ⟨hf1, ht1, hb1, hz1⟩ := Tz_a1 Z hBf hBt g1
            go_wp2_with (at_builtin; refine wpList_append_fits _ rfl _ _ 30 rfl w.heap.size 3 i3 1 Try.underlying30 hi3 hz13 Bf S.length p.length _ rfl (hf1.alloc _) ⟨w1.heap.size, 0, none⟩ 1 1 [.int .i64 (i : Int)] rfl rfl ?_ ?_ ?_ ?_)
            all_goals first | exact cells_new w1 _ 3 | (intro u hu; simp at hu; subst hu; rfl) | rfl | omega | skip
            intro w2 h2 g2
            obtain ⟨hk2, ht2, hb2, hz2⟩ := Tz_a2 hBf hBt h1 ht1 hb1 hz1 g2
            clear h1 hf1 ht1 hb1
            go_wp2_with (at_builtin; refine wpList_append_fits _ rfl _ _ 30 rfl w.heap.size 3 i3 1 Try.underlying30 hi3 hz13 Bt S.length p.length _ rfl (ht2.alloc _) ⟨w2.heap.size, 0, none⟩ 1 1 [.int .i64 ((i : Int) + 1)] rfl rfl ?_ ?_ ?_ ?_)
            all_goals first | exact cells_new w2 _ 3 | (intro u hu; simp at hu; subst hu; rfl) | rfl | omega | skip
            intro w3 h3 g3
            obtain ⟨hk3, hf3, hb3, hz3⟩ := Tz_a3 hBf hBt hk2 h2 hb2 hz2 g3
            obtain ⟨Z', hle, hlt'⟩ := Tz_join Z hlt HK HW (by go_light; omega) hk3 hf3 h3 hb3 hz3
            clear hk3 hf3 h3 hb3 hk2 ht2 hb2 h2 g1 g2 g3
            go_wp2
            go_roundg (p.length - (i + 1))
            case measure => go_light; omega
            case rel => exact ⟨_, (i + 1), by simp, by simp, by simp, by go_num, rfl, Z'⟩
          · have h63' : (gr p i == 63) = false := by simp [h63]
            have HK : Hid (kd (p.drop i) = 61) := by show _ = _; rw [hk, if_neg h42, if_neg h63]
            clear hk hw h42 h63
            go_wp2_with (first | (go_at_call 17; refine C.mono ?_; rintro e w' ⟨rfl, rfl⟩) | (at_builtin; refine wpList_append_fits _ rfl _ _ 29 rfl w.heap.size 5 i5 1 Try.underlying29 hi5 hz15 w.heap.size S.length p.length _ rfl (Z.kn.alloc _) ⟨wr.heap.size, 0, none⟩ 1 1 [.int .u8 61] rfl rfl ?_ ?_ ?_ ?_))
            all_goals first | exact cells_new wr _ 5 | (intro u hu; simp at hu; subst hu; rfl) | rfl | omega | skip
            intro w1 h1 g1
            obtain ⟨hf1, ht1, hb1, hz1⟩ := Tz_a1 Z hBf hBt g1
            go_wp2_with (at_builtin; refine wpList_append_fits _ rfl _ _ 30 rfl w.heap.size 3 i3 1 Try.underlying30 hi3 hz13 Bf S.length p.length _ rfl (hf1.alloc _) ⟨w1.heap.size, 0, none⟩ 1 1 [.int .i64 (i : Int)] rfl rfl ?_ ?_ ?_ ?_)
            all_goals first | exact cells_new w1 _ 3 | (intro u hu; simp at hu; subst hu; rfl) | rfl | omega | skip
            intro w2 h2 g2
            obtain ⟨hk2, ht2, hb2, hz2⟩ := Tz_a2 hBf hBt h1 ht1 hb1 hz1 g2
            clear h1 hf1 ht1 hb1
            go_wp2_with (at_builtin; refine wpList_append_fits _ rfl _ _ 30 rfl w.heap.size 3 i3 1 Try.underlying30 hi3 hz13 Bt S.length p.length _ rfl (ht2.alloc _) ⟨w2.heap.size, 0, none⟩ 1 1 [.int .i64 ((i : Int) + 1)] rfl rfl ?_ ?_ ?_ ?_)
            all_goals first | exact cells_new w2 _ 3 | (intro u hu; simp at hu; subst hu; rfl) | rfl | omega | skip
            intro w3 h3 g3
            obtain ⟨hk3, hf3, hb3, hz3⟩ := Tz_a3 hBf hBt hk2 h2 hb2 hz2 g3
            obtain ⟨Z', hle, hlt'⟩ := Tz_join Z hlt HK HW (by go_light; omega) hk3 hf3 h3 hb3 hz3
            clear hk3 hf3 h3 hb3 hk2 ht2 hb2 h2 g1 g2 g3
            go_wp2
            go_roundg (p.length - (i + 1))
            case measure => go_light; omega
            case rel => exact ⟨_, (i + 1), by simp, by simp, by simp, by go_num, rfl, Z'⟩
  · have hsp := Z.split
    rw [List.drop_eq_nil_of_le (by omega), T_nil, List.append_nil] at hsp
    have HT : Hid (T p = S.map (tokAt p)) := hsp
    have hSok := Z.ok
    have hSp : S.length ≤ 1048576 := by omega
    have hKr := Kr_own Z.kn
    have hFr := fr_own Z.fr
    have hTo := to_own Z.tt
    have hB0 := Z.below
    have hKlt := own_lt Z.kn
    have hFlt := own_lt Z.fr
    have hTlt := own_lt Z.tt
    have hRp := Rw_below hp hB0 hbp
    have hRn := Rw_below hn hB0 hbn
    have hst : ∀ k, k < S.length → stAt (S.map (tokAt p)) k = (gr (ksOf p S) k == 42) := fun k hk => stAt_ks hk
    have htl : (S.map (tokAt p)).length = S.length := by simp
    have hkl : (ksOf p S).length = S.length := by simp [ksOf]
    have HST : Hid (∀ k, k < S.length → stAt (S.map (tokAt p)) k = (gr (ksOf p S) k == 42)) := hst
    have HTL : Hid ((S.map (tokAt p)).length = S.length) := htl
    have HKL : Hid ((ksOf p S).length = S.length) := hkl
    have HOK : Hid (∀ s ∈ S, s < p.length) := hSok
    have HFR : Hid (∀ k, k < S.length → wr.cell? ⟨Bf, k, none⟩ = some (.int .i64 (sAt S k : Int))) := hFr
    have HTO : Hid (∀ k, k < S.length → wr.cell? ⟨Bt, k, none⟩ = some (.int .i64 ((sAt S k : Int) + (tw (p.drop (sAt S k)) : Int)))) := hTo
    clear Z hsp hp hn hi5 hz05 hz15 hz25 hi3 hz03 hz13 hz23 hst htl hkl hSok hFr hTo
    obtain ⟨W0, rfl⟩ : ∃ W0 : World, W0 = wr := ⟨_, rfl⟩
    go_wp2_with (at_make; refine wpList_make_full _ rfl _ _ 33 rfl W0.heap.size 4 i4 (.bool false) 1 Try.underlying33 hi4 hz04 hz14 .i64 .i64 _ _ (S.length + 1) rfl rfl (by go_num) (by go_num) ?_ ?_ ?_ ?_)
    · rw [hz24]; omega
    · unfold maxLen; omega
    · exact Nat.le_refl _
    intro W4 hown4 hgrow4
    have hlt4 := own_lt hown4
    go_wp2_with (at_make; refine wpList_make_full _ rfl _ _ 33 rfl W0.heap.size 4 i4 (.bool false) 1 Try.underlying33 hi4 hz04 hz14 .i64 .i64 _ _ (S.length + 1) rfl rfl (by go_num) (by go_num) ?_ ?_ ?_ ?_)
    · rw [hz24]; omega
    · unfold maxLen; omega
    · omega
    intro W5 hown5 hgrow5
    have hlt5 := own_lt hown5
    have hBc := made_BRow (t := S.length) (hown4.kept hgrow5 (.inr (by simp [Value.ownBlock]))) rfl
    have hBx := made_BRow (t := S.length) hown5 rfl
    have hBW : Below W0.heap.size W0 W5 := ((Below.refl _ _).grown hgrow4 (Nat.le_refl _) (by intro k e; cases e)).grown hgrow5 (by omega) (by intro k e; cases e)
    obtain ⟨bc, hbc⟩ : ∃ bc, bc = W0.heap.size := ⟨_, rfl⟩
    obtain ⟨bx, hbx⟩ : ∃ bx, bx = W4.heap.size := ⟨_, rfl⟩
    obtain ⟨c0, f0⟩ := hBc 0 (Nat.zero_le _)
    have hBc1 := BRow_set hBc (Nat.zero_le S.length) true
    have hBW1 : Below W0.heap.size W0 (W5.setCell ⟨W0.heap.size, 0, none⟩ (.bool true)) := hBW.setCell (Nat.le_refl _) _
    have hBx1 := BRow_only hBx (Only.set (b := W0.heap.size) W5 0 (.bool true)) (by omega)
    have C18 := passStars_at W0.heap.size (S.length + 1) w.heap.size p.length S.length (ksOf p S) (S.map (tokAt p)) _ _ HKL.out (by omega) hBc1 (Kr_below hKr hBW1 hKlt) HTL.out HST.out hSp
    have hwz : W4.heap.size < (W5.setCell ⟨W0.heap.size, 0, none⟩ (.bool true)).heap.size := by simpa using hlt5
    clear hown4 hgrow4 hown5 hgrow5 hBc hBx hbc hbx
    go_wp2_with fail
    refine C18.mono ?_
    rintro e w6 ⟨rfl, hS6, hO6⟩
    have hAut : Aut (S.map (tokAt p)) n 0 (passN (S.map (tokAt p)) (setF (fun _ => false) 0 true) S.length) := by
      have := aut_init (S.map (tokAt p)) n (setF (fun _ => false) 0 true) (fun x _ => by unfold setF first0; rfl)
      rw [HTL.out] at this
      exact this
    have hBx6 := BRow_only hBx1 hO6 (by omega)
    have hB6 : Below W0.heap.size W0 w6 := hBW1.trans (hO6.below (Nat.le_refl _))
    have hz6 : W4.heap.size < w6.heap.size := by rw [hO6.size]; exact hwz
    generalize passN (S.map (tokAt p)) (setF (fun _ => false) 0 true) S.length = f0' at *
    generalize hbx : W4.heap.size = bx0 at *
    clear C18 hBc1 hBx1 hBW1 hwz hBW c0 f0 hO6 hbx
    go_wp2
    go_loopg [14, 15, 16] n.length (fun g v14 v15 v16 wx => ∃ (bc bx j : Nat) (f fx : Nat → Bool), v14 = .slice (some ⟨bc, 0, none⟩) (S.length + 1) (S.length + 1) ∧ v15 = .slice (some ⟨bx, 0, none⟩) (S.length + 1) (S.length + 1) ∧ v16 = .int .i64 j ∧ j ≤ n.length ∧ g = n.length - j ∧ bc ≠ bx ∧ W0.heap.size ≤ bc ∧ W0.heap.size ≤ bx ∧ bc < wx.heap.size ∧ bx < wx.heap.size ∧ BRow wx bc f S.length ∧ BRow wx bx fx S.length ∧ Aut (S.map (tokAt p)) n j f ∧ Below W0.heap.size W0 wx)
    case atStart => exact ⟨_, _, 0, _, _, rfl, rfl, rfl, Nat.zero_le _, rfl, by omega, by omega, by omega, by omega, by omega, hS6, hBx6, hAut, hB6⟩
    case round =>
    clear hBx6 hAut hB6 hz6 hS6
    obtain ⟨bc, bx, j, f, fx, rfl, rfl, rfl, hjl, hgj, hne, hbc, hbx, hzc, hzx, hBc, hBx, hAut, hB6⟩ := hrel
    by_cases hj : j < n.length
    · obtain ⟨wo, rfl⟩ : ∃ wo : World, wo = wr := ⟨_, rfl⟩
      go_wp2
      go_loopg [17] (S.length + 1) (fun g v17 wx => ∃ (k : Nat), v17 = .int .i64 k ∧ k ≤ S.length + 1 ∧ g = S.length + 1 - k ∧ BRow wx bx (zf fx k) S.length ∧ Only bx wo wx)
      case atStart => exact ⟨0, rfl, by omega, rfl, BRow_congr hBx (fun x _ => rfl), Only.refl _ _⟩
      case round =>
      obtain ⟨k, rfl, hkl, hgk, hBk, hOk⟩ := hrel
      by_cases hk : k ≤ S.length
      · obtain ⟨c1, f1⟩ := hBk k hk
        have hBk2 := BRow_set hBk hk false
        go_wp2
        go_roundg (S.length + 1 - (k + 1))
        case measure => omega
        case rel => exact ⟨k + 1, by go_num, by omega, rfl, BRow_congr hBk2 (fun x hx => zf_step fx k x), hOk.trans (Only.set _ _ _)⟩
      · have hBz : BRow wr bx (stepN (S.map (tokAt p)) f (gr n j) 0) S.length := BRow_congr hBk (fun x hx => by rw [zf_all fx (by omega)]; rfl)
        have hBc2 := BRow_only hBc hOk hne
        have hB7 : Below W0.heap.size W0 wr := hB6.trans (hOk.below hbx)
        have hz1 : bc < wr.heap.size := by rw [hOk.size]; exact hzc
        have hz2 : bx < wr.heap.size := by rw [hOk.size]; exact hzx
        clear hBk hOk hBc hBx hB6
        obtain ⟨wp, rfl⟩ : ∃ wp : World, wp = wr := ⟨_, rfl⟩
        go_wp2
        clear hgk hkl hk
        go_loopg [18] S.length (fun g v18 wx => ∃ (k : Nat), v18 = .int .i64 k ∧ k ≤ S.length ∧ g = S.length - k ∧ BRow wx bx (stepN (S.map (tokAt p)) f (gr n j) k) S.length ∧ BRow wx bc f S.length ∧ Below W0.heap.size W0 wx ∧ bc < wx.heap.size ∧ bx < wx.heap.size)
        case atStart => exact ⟨0, rfl, Nat.zero_le _, rfl, hBz, hBc2, hB7, hz1, hz2⟩
        case round =>
        clear hBz hBc2 hB7 hz1 hz2
        obtain ⟨k', rfl, hkl, hgk, hBz, hBc2, hB7, hz1, hz2⟩ := hrel
        by_cases hk : k' < S.length
        · obtain ⟨c1, _⟩ := hBc2 k' (by omega)
          have hst := HST.out k' hk
          by_cases hf : f k' = true
          · rw [hf] at c1
            have c2 := Kr_below hKr hB7 hKlt k' (by rw [HKL.out]; exact hk)
            by_cases h42 : (gr (ksOf p S) k' == 42) = true
            · rw [h42] at hst
              obtain ⟨c3, f3⟩ := hBz k' (by omega)
              have HP : Hid (stepN (S.map (tokAt p)) f (gr n j) (k' + 1) = upd (stepN (S.map (tokAt p)) f (gr n j) k') k') := stepN_st hf hst
              have hB2 := BRow_upd (i := k') hBz (by omega)
              have hBc3 := BRow_only hBc2 (Only.set (b := bx) wr k' (.bool true)) (by omega)
              clear hf hst
              go_wp2
              go_roundg (S.length - (k' + 1))
              case measure => omega
              case rel => exact ⟨k' + 1, by go_num, by omega, rfl, by rw [HP.out]; exact hB2, hBc3, hB7.setCell hbx _, by simpa using hz1, by simpa using hz2⟩
            · have h42' : (gr (ksOf p S) k' == 42) = false := by simpa using h42
              rw [h42'] at hst
              clear h42
              have hsm := HOK.out _ (sAt_mem hk)
              have hkd := ksOf_gr (p := p) hk
              have hac := acAt_ks (p := p) (c := gr n j) hk hst
              have hn42 : gr p (sAt S k') ≠ 42 := by
                intro e
                have h3 := kd_star (p.drop (sAt S k'))
                rw [drop0] at h3
                rw [hkd, h3.2 e] at h42'
                simp at h42'
              have k1 := (hB7.cell (p := ⟨Bf, k', none⟩) hFlt).trans (HFR.out k' hk)
              have k2 := (hB7.cell (p := ⟨Bt, k', none⟩) hTlt).trans (HTO.out k' hk)
              have k4 := Rw_below hRn hB7 (by omega) j hj
              rw [Nat.zero_add] at k4
              have hd1 := tw_le (p.drop (sAt S k')) (by simp; omega)
              rw [List.length_drop] at hd1
              have hd2 := tw_pos (p.drop (sAt S k'))
              obtain ⟨A, hA⟩ : ∃ A, A = ta (p.drop (sAt S k')) (gr n j) := ⟨_, rfl⟩
              obtain ⟨s, hs⟩ : ∃ s, s = sAt S k' := ⟨_, rfl⟩
              obtain ⟨e, he⟩ : ∃ e, e = sAt S k' + tw (p.drop (sAt S k')) := ⟨_, rfl⟩
              obtain ⟨kk, hkk⟩ : ∃ kk, kk = gr (ksOf p S) k' := ⟨_, rfl⟩
              have hRp7 := Rw_below hRp hB7 (by omega)
              have HC : ∀ W : World, W.os = wr.os ∧ W.tape = wr.tape ∧ W.output = wr.output ∧ W.heap = wr.heap → Calls Try.prog 19 #[.slice (some ⟨bp, s, none⟩) (e - s) (cp - s), .int .u8 kk, .int .i32 (gr n j)] W fun e w' => e = .returned (.bool A) ∧ Below wr.heap.size wr w' := by
                intro W hW
                have hBW : Below wr.heap.size wr W := ⟨hW.1, hW.2.1, hW.2.2.1, by rw [hW.2.2.2]; exact Nat.le_refl _, fun k _ => by rw [hW.2.2.2]⟩
                have hz : bp < wr.heap.size := by have := hB7.size; omega
                have h := tokAcc_at bp cp s (e - s) p kk (gr n j) A W (Rw_below hRp7 hBW hz) (by rw [hW.2.2.2]; exact hz) (by rw [hs]; exact hsm) lp hcp (by rw [hs]; exact hn42) (by rw [he, hs]; omega) (by rw [hkk, hs]; exact hkd) (by rw [hA, hs])
                refine h.mono fun e' w' hh => ⟨hh.1, hBW.trans ?_⟩
                have := hh.2
                rw [hW.2.2.2] at this
                exact this
              have HN : Hid (A = true → stepN (S.map (tokAt p)) f (gr n j) (k' + 1) = upd (stepN (S.map (tokAt p)) f (gr n j) k') (k' + 1)) := fun h => stepN_ac hf hst (by rw [hac, ← hA]; exact h)
              have HNA : Hid (A = false → stepN (S.map (tokAt p)) f (gr n j) (k' + 1) = stepN (S.map (tokAt p)) f (gr n j) k') := fun h => stepN_na hf hst (by rw [hac, ← hA]; exact h)
              rw [← hs] at k1
              rw [show ((sAt S k' : Int) + (tw (p.drop (sAt S k')) : Int)) = (e : Int) by rw [he]; omega] at k2
              rw [← hkk] at c2 h42'
              have zz := hB7.size
              have zF : Bf < wr.heap.size := by omega
              have zT : Bt < wr.heap.size := by omega
              have zK : w.heap.size < wr.heap.size := by omega
              have zN : bn < wr.heap.size := by omega
              have b1 : (s : Int) ≤ (e : Int) := by rw [hs, he]; omega
              have b2 : (e : Int) ≤ (cp : Int) := by rw [he]; omega
              have b3 : ¬ cp = s := by rw [hs]; omega
              have b4 : (0 : Int) ≤ (s : Int) := by omega
              have b5 : (0 : Int) ≤ (k' : Int) := by omega
              have b6 : (k' : Int) < (S.length : Int) := by omega
              have b7 : (0 : Int) ≤ (j : Int) := by omega
              have b8 : (j : Int) < (n.length : Int) := by omega
              clear hst hf hac hkd hn42 hd1 hd2 hsm hA hs he hkk hRp7
              go_wp2_with fail
              go_cut [153] from 117 to 157 (fun v wx => v = .bool A ∧ Below wr.heap.size wr wx)
              case first =>
                go_region_held3 (fun w' => w'.cell? ⟨Bf, k', none⟩ = some (.int .i64 s) ∧ w'.cell? ⟨Bt, k', none⟩ = some (.int .i64 e) ∧ w'.cell? ⟨w.heap.size, k', none⟩ = some (.int .u8 kk) ∧ w'.cell? ⟨bn, j, none⟩ = some (.int .i32 (gr n j))) (first | go_keep | exact ⟨(hbel.cell (p := ⟨Bf, k', none⟩) zF).trans k1, (hbel.cell (p := ⟨Bt, k', none⟩) zT).trans k2, (hbel.cell (p := ⟨w.heap.size, k', none⟩) zK).trans c2, (hbel.cell (p := ⟨bn, j, none⟩) zN).trans k4⟩) (first | (go_at_call 19; refine (HC wr.drew ⟨rfl, rfl, rfl, rfl⟩).mono ?_; rintro e1 w' ⟨rfl, hbel⟩))
                go_wp2
                go_meet
                case rel => exact ⟨rfl, by assumption⟩
              case rest =>
              obtain ⟨rfl, hbel⟩ := hcut
              have hBz3 := BRow_below hBz hbel hz2
              have hBc3 := BRow_below hBc2 hbel hz1
              have hB8 : Below W0.heap.size W0 wc := hB7.trans (hbel.mono (by omega))
              have hz3 : bc < wc.heap.size := by have := hbel.size; omega
              have hz4 : bx < wc.heap.size := by have := hbel.size; omega
              clear HC k1 k2 k4 c2 c1 hBz hBc2 hB7 hz1 hz2 hbel
              cases A with
              | true =>
                obtain ⟨c3, f3⟩ := hBz3 (k' + 1) (by omega)
                have hB2 := BRow_upd (i := k' + 1) hBz3 (by omega)
                have hBc4 := BRow_only hBc3 (Only.set (b := bx) wc (k' + 1) (.bool true)) (by omega)
                have HP := HN.out rfl
                have HP : Hid (stepN (S.map (tokAt p)) f (gr n j) (k' + 1) = upd (stepN (S.map (tokAt p)) f (gr n j) k') (k' + 1)) := HP
                go_wp2
                go_roundg (S.length - (k' + 1))
                case measure => omega
                case rel => exact ⟨k' + 1, by go_num, by omega, rfl, by rw [HP.out]; exact hB2, hBc4, hB8.setCell hbx _, by simpa using hz3, by simpa using hz4⟩
              | false =>
                have HP : Hid (stepN (S.map (tokAt p)) f (gr n j) (k' + 1) = stepN (S.map (tokAt p)) f (gr n j) k') := HNA.out rfl
                go_wp2
                go_roundg (S.length - (k' + 1))
                case measure => omega
                case rel => exact ⟨k' + 1, by go_num, by omega, rfl, by rw [HP.out]; exact hBz3, hBc3, hB8, hz3, hz4⟩
          · have hf' : f k' = false := by simpa using hf
            rw [hf'] at c1
            have HP : Hid (stepN (S.map (tokAt p)) f (gr n j) (k' + 1) = stepN (S.map (tokAt p)) f (gr n j) k') := stepN_no hf'
            clear hf hf' hst
            go_wp2
            go_roundg (S.length - (k' + 1))
            case measure => omega
            case rel => exact ⟨k' + 1, by go_num, by omega, rfl, by rw [HP.out]; exact hBz, hBc2, hB7, hz1, hz2⟩
        · have hke : k' = S.length := by omega
          rw [hke] at hBz
          have C18 := passStars_at bx (S.length + 1) w.heap.size p.length S.length (ksOf p S) (S.map (tokAt p)) _ wr HKL.out (by omega) hBz (Kr_below hKr hB7 hKlt) HTL.out HST.out hSp
          have hA2 := aut_step hAut hj
          rw [HTL.out] at hA2
          have hA2 : Aut (S.map (tokAt p)) n (j + 1) (passN (S.map (tokAt p)) (stepN (S.map (tokAt p)) f (gr n j) S.length) S.length) := hA2
          clear hke hBz
          go_wp2_with fail
          refine C18.mono ?_
          rintro e w8 ⟨rfl, hS8, hO8⟩
          have hBc8 := BRow_only hBc2 hO8 hne
          have hB8 : Below W0.heap.size W0 w8 := hB7.trans (hO8.below hbx)
          have hz3 : bc < w8.heap.size := by rw [hO8.size]; exact hz1
          have hz4 : bx < w8.heap.size := by rw [hO8.size]; exact hz2
          clear C18 hO8 hBc2 hB7 hz1 hz2
          go_wp2
          go_roundg (n.length - (j + 1))
          case measure => omega
          case rel => exact ⟨bx, bc, j + 1, _, _, rfl, rfl, by go_num, by omega, rfl, fun h => hne h.symm, hbx, hbc, hz4, hz3, hS8, hBc8, hA2, hB8⟩
    · have hend := aut_end hAut (by omega)
      rw [HTL.out] at hend
      obtain ⟨c1, _⟩ := hBc S.length (Nat.le_refl _)
      rw [hend, ← HT.out] at c1
      go_wp2
      go_ret
      exact ⟨rfl, hB0.trans (hB6.mono (by omega))⟩

end Go.Proofs.Qxb6606061a
