import Derived.Test.Qxb6606073aPc
set_option linter.unusedSimpArgs false
set_option linter.unusedVariables false
namespace Go.Proofs.Qxb6606073a
open Go.RowKit

theorem ZZMade27 (e : EsD) (wS : World) (sb : Nat) (he : e.ok wS) (hbd : Bd e) (hS : SubsG e wS sb e.n) :
    Calls Try.prog 27 #[.pointer (some ⟨wS.heap.size, 0, none⟩)] (wS.alloc (.cells #[.slice (some ⟨sb, 0, none⟩) e.n e.n, .map none, .map none] 73))
      fun en w' => en = .returned (.pointer (some ⟨wS.heap.size, 0, none⟩)) ∧ Below wS.heap.size wS w' ∧ Made e wS.heap.size w' := by
  have C := made48 e wS sb he hbd hS
  generalize wS.alloc (.cells #[.slice (some ⟨sb, 0, none⟩) e.n e.n, .map none, .map none] 73) = W at *
  go_enter Try.func27, Try.ntmps27
  go_wp2_with fail
  refine C.mono ?_
  rintro en w' ⟨rfl, h1, h2⟩
  clear C
  go_wp2
  go_ret
  exact ⟨rfl, h1, h2⟩

/-- What build leaves. -/
def Built (e : EsD) (en : Ending) (w w' : World) : Prop := ∃ cb, en = .returned (.pointer (some ⟨cb, 0, none⟩)) ∧ Below w.heap.size w w' ∧ Made e cb w'

theorem build32 (e : EsD) (w : World) (he : e.ok w) (hbd : Bd e) : Calls Try.prog 32 #[e.val] w fun en w' => Built e en w w' := by
  have C := subjects26 e w he hbd
  have HE := hid he
  unfold EsD.val at C ⊢
  go_enter Try.func32, Try.ntmps32
  go_wp2_with fail
  refine C.mono ?_
  rintro en w1 ⟨b, rfl, hS, hb, hB⟩
  clear C
  have C2 := newCov25 (some ⟨b, 0, none⟩) e.n e.n w1
  have C3 := ZZMade27 e w1 b (HE.out.below hB) hbd hS
  go_wp2_with fail
  refine C2.mono ?_
  rintro en w2 ⟨rfl, rfl⟩
  clear C2
  generalize w1.alloc (.cells #[.slice (some ⟨b, 0, none⟩) e.n e.n, .map none, .map none] 73) = W at *
  have hZ := hB.size
  generalize hcb : w1.heap.size = cb at *
  go_wp2_with fail
  refine C3.mono ?_
  rintro en w3 ⟨rfl, h1, h2⟩
  clear C3
  go_wp2
  go_ret
  exact ⟨cb, rfl, hB.trans (h1.mono hZ), h2⟩

/-- A slice of strings that can be read. -/
structure SD.can (s : SD) (w : World) : Prop where
  n_le : s.n ≤ 9223372036854775807
  ad : 0 < s.n → s.a = some ⟨s.b, s.o, none⟩
  cel : ∀ i, i < s.n → w.cell? ⟨s.b, s.o + i, none⟩ = some (.string (s.S i))
theorem SD.ok.can {s : SD} {w : World} (h : s.ok w) : s.can w := ⟨h.n_le, h.ad, h.cel⟩

theorem own_can {w : World} {B : Nat} {u : Value} {l : List ByteArray} (h : w.ownsRow B 9 1 u l.length (vals l)) (hl : l.length ≤ 9223372036854775807) : ∃ s : SD, u = s.val ∧ s.can w ∧ strs s = l := by
  rcases h.2 with ⟨rfl, h0⟩ | ⟨g, cap, cur, rfl, hbg, hg, hnc, hcm, hcs, htake⟩
  · refine ⟨⟨none, 0, 0, 0, 0, fun _ => ByteArray.empty⟩, rfl, ⟨by simp, fun h => by simp at h, fun i hi => by simp at hi⟩, ?_⟩
    have : l = [] := List.eq_nil_of_length_eq_zero h0
    rw [this]; rfl
  · refine ⟨⟨some ⟨g, 0, none⟩, l.length, cap, g, 0, fun i => l[i]?.getD ByteArray.empty⟩, rfl, ⟨hl, fun _ => rfl, fun i hi => ?_⟩, ?_⟩
    · have hx := h.cells (g := g) rfl i (.string (l[i]?.getD ByteArray.empty)) (by
        have hi' : i < l.length := hi
        simp [vals, hi'])
      rw [Addr.add_lit] at hx
      exact hx
    · apply List.ext_getElem
      · simp [strs]
      · intro i h1 h2
        simp [strs, h2]

theorem ZZPaths31 (e : EsD) (cb : Nat) (v : ByteArray) (w : World) (hm : Made e cb w) (hv : v.size ≤ 9223372036854775807) (hlen : (qE e v).length ≤ 9223372036854775807) :
    Calls Try.prog 31 #[.pointer (some ⟨cb, 0, none⟩), .string v] w fun en w' => ∃ s : SD, en = .returned s.val ∧ s.can w ∧ strs s = qE e v ∧ w = w' := by
  obtain ⟨ab, pb, x1, x2, hlt, w0, hI⟩ := hm
  obtain ⟨T, H, V, _, hP⟩ := hI.ex
  have zz : (zeroValue 23).run Try.prog w = .ok (.slice none 0 0) w := by
    have hi : (Try.prog.info? 23).map (fun i => (i.zero, i.size, i.bytes)) = some (some (.slice none 0 0), 1, 24) := by kernel_rfl
    obtain ⟨i1, hi1, hz01, hz11, hz21⟩ := info_parts hi
    simp [zeroValue, typeInfo, hi1, hz01]
  have hl := hP.map.look KS kfS_inj Try.underlying71 zz (okS v hv)
  have own : w.ownsRow (cb + 1) 9 1 ((V v).getD (.slice none 0 0)) (qE e v).length (vals (qE e v)) := by
    cases hV : V v with
    | none => rw [hP.non v hV]; exact World.ownsRow_nil w _ 9 1
    | some u => exact (hP.row v u hV).1
  obtain ⟨s, h1, h2, h3⟩ := own_can own hlen
  rw [h1] at hl
  unfold kfS SD.val at hl
  have HC := hid h2
  have HS := hid h3
  clear h1 h2 h3 own hP hI zz
  go_enter Try.func31, Try.ntmps31
  go_wp2
  go_ret
  exact ⟨s, rfl, HC.out, HS.out, rfl⟩

/-! ### counting -/
theorem str_eq {a b : ByteArray} (h : a = b) : (a.toList == b.toList) = true := by rw [h]; exact beq_self_eq_true _
theorem str_ne {a b : ByteArray} (h : a ≠ b) : (a.toList == b.toList) = false := by
  cases hb : (a.toList == b.toList) with
  | false => rfl
  | true =>
    exfalso
    apply h
    have h1 : a.toList = b.toList := by simpa using hb
    rw [ByteArray.toList_eq, ByteArray.toList_eq] at h1
    cases a
    cases b
    congr
    exact Array.toList_inj.1 h1
def hasL (l : List ByteArray) (x : ByteArray) : Bool := l.any fun y => decide (y = x)
theorem hasL_iff (l : List ByteArray) (x : ByteArray) : hasL l x = true ↔ x ∈ l := by
  unfold hasL
  simp

def cntN (S : Nat → ByteArray) (x : ByteArray) : Nat → Nat
  | 0 => 0
  | k + 1 => cntN S x k + if S k = x then 1 else 0
theorem cntN_le (S : Nat → ByteArray) (x : ByteArray) : ∀ k, cntN S x k ≤ k
  | 0 => Nat.le_refl _
  | k + 1 => by
    have := cntN_le S x k
    unfold cntN
    split <;> omega
theorem cntN_succ (S : Nat → ByteArray) (x : ByteArray) (k : Nat) : cntN S x (k + 1) = cntN S x k + if S k = x then 1 else 0 := rfl

set_option maxHeartbeats 1000000 in
theorem countStr33 (s : SD) (x : ByteArray) (w : World) (h : s.can w) (hn : s.n ≤ 65536) : Calls Try.prog 33 #[s.val, .string x] w fun en w' => en = .returned (.int .i64 (cntN s.S x s.n : Nat)) ∧ w = w' := by
  have HA := hid h.ad
  have HC := hid h.cel
  clear h
  obtain ⟨a, n, c, b, o, S⟩ := s
  simp only [SD.val] at *
  go_enter Try.func33, Try.ntmps33
  go_wp2
  go_loopg [5, 6] n (fun g v5 v6 wx => ∃ (i : Nat), v5 = .int .i64 (cntN S x i : Nat) ∧ v6 = .int .i64 i ∧ i ≤ n ∧ g = n - i ∧ wx = w)
  case atStart => exact ⟨0, rfl, rfl, Nat.zero_le _, rfl, rfl⟩
  case round =>
  obtain ⟨i, rfl, rfl, hi, hg, rfl⟩ := hrel
  by_cases hlt : i < n
  · obtain rfl := HA.out (by omega)
    have cc := HC.out i hlt
    have hle := cntN_le S x i
    by_cases hx : S i = x
    · have hxe := str_eq hx
      have hs : cntN S x (i + 1) = cntN S x i + 1 := by rw [cntN_succ, if_pos hx]
      generalize cntN S x i = t at *
      go_wp2
      go_roundg (n - (i + 1))
      case measure => omega
      case rel => exact ⟨i + 1, by rw [hs]; go_num, by go_num, by omega, rfl, rfl⟩
    · have hxe := str_ne hx
      have hs : cntN S x (i + 1) = cntN S x i := by rw [cntN_succ, if_neg hx]; rfl
      generalize cntN S x i = t at *
      go_wp2
      go_roundg (n - (i + 1))
      case measure => omega
      case rel => exact ⟨i + 1, by rw [hs], by go_num, by omega, rfl, rfl⟩
  · obtain rfl : i = n := by omega
    go_wp2
    go_ret
    exact ⟨rfl, rfl⟩

theorem mem_strs {s : SD} {x : ByteArray} : x ∈ strs s ↔ ∃ i, i < s.n ∧ s.S i = x := by simp [strs]

set_option maxHeartbeats 1000000 in
theorem hasStr34 (s : SD) (x : ByteArray) (w : World) (h : s.can w) : Calls Try.prog 34 #[s.val, .string x] w fun en w' => en = .returned (.bool (hasL (strs s) x)) ∧ w = w' := by
  have HA := hid h.ad
  have HC := hid h.cel
  have hn := h.n_le
  clear h
  have HM : Hid (∀ i, i < s.n → s.S i = x → hasL (strs s) x = true) := fun i hi e => (hasL_iff _ _).2 (mem_strs.2 ⟨i, hi, e⟩)
  have HM2 : Hid ((∀ i, i < s.n → s.S i ≠ x) → hasL (strs s) x = false) := fun h => by
    cases hb : hasL (strs s) x with
    | false => rfl
    | true => obtain ⟨i, hi, e⟩ := mem_strs.1 ((hasL_iff _ _).1 hb); exact absurd e (h i hi)
  generalize hasL (strs s) x = res at *
  obtain ⟨a, n, c, b, o, S⟩ := s
  simp only [SD.val] at *
  go_enter Try.func34, Try.ntmps34
  go_wp2
  go_loopg [5] n (fun g v wx => ∃ (i : Nat), v = .int .i64 i ∧ i ≤ n ∧ g = n - i ∧ (∀ j, j < i → S j ≠ x) ∧ wx = w)
  case atStart => exact ⟨0, rfl, Nat.zero_le _, rfl, fun j hj => by omega, rfl⟩
  case round =>
  obtain ⟨i, rfl, hi, hg, hne, rfl⟩ := hrel
  have HNE := hid hne
  clear hne
  by_cases hlt : i < n
  · obtain rfl := HA.out (by omega)
    have cc := HC.out i hlt
    by_cases hx : S i = x
    · have hxe := str_eq hx
      have hr := HM.out i hlt hx
      go_wp2
      go_ret
      exact ⟨by first | rfl | (rw [hr]; rfl), rfl⟩
    · have hxe := str_ne hx
      go_wp2
      go_roundg (n - (i + 1))
      case measure => omega
      case rel =>
        refine ⟨i + 1, by go_num, by omega, rfl, fun j hj => ?_, rfl⟩
        by_cases e : j = i
        · rw [e]; exact hx
        · exact HNE.out j (by omega)
  · obtain rfl : i = n := by omega
    have hr := HM2.out HNE.out
    go_wp2
    go_ret
    exact ⟨by first | rfl | (rw [hr]; rfl), rfl⟩

/-! ### the plain law of the paths -/
theorem len_qVk (p : PD) (v : ByteArray) : ∀ k, (LAcc (qV p) k v).length = cntN p.v.S v k * p.u.n
  | 0 => by simp [LAcc, cntN]
  | k + 1 => by
    simp only [LAcc, List.length_append, len_qVk p v k, cntN, qV, Nat.add_mul]
    by_cases e : p.v.S k = v
    · rw [if_pos e, if_pos e.symm]; simp [strs]
    · rw [if_neg e, if_neg (fun h => e h.symm)]; simp
theorem len_qPv (p : PD) (v : ByteArray) : (qP p v).length = cntN p.v.S v p.v.n * p.u.n := len_qVk p v _
theorem mem_qVk (p : PD) (v u : ByteArray) : ∀ k, u ∈ LAcc (qV p) k v ↔ 0 < cntN p.v.S v k ∧ u ∈ strs p.u
  | 0 => by simp [LAcc, cntN]
  | k + 1 => by
    simp only [LAcc, List.mem_append, mem_qVk p v u k, cntN, qV]
    by_cases e : p.v.S k = v
    · rw [if_pos e, if_pos e.symm]
      constructor
      · rintro (⟨h1, h2⟩ | h2)
        · exact ⟨by omega, h2⟩
        · exact ⟨by omega, h2⟩
      · rintro ⟨_, h2⟩
        exact .inr h2
    · rw [if_neg e, if_neg (fun h => e h.symm)]
      simp
theorem mem_qP (p : PD) (v u : ByteArray) : u ∈ qP p v ↔ 0 < cntN p.v.S v p.v.n ∧ u ∈ strs p.u := mem_qVk p v u _
end Go.Proofs.Qxb6606073a
