import Derived.Test.Qxb6606073aLb
import Derived.Test.Qxb6606073aVb
import Derived.Test.Qxb6606073aZ20
import Derived.Lib.Builder
set_option linter.unusedSimpArgs false
set_option linter.unusedVariables false
namespace Go.Proofs.Qxb6606073a
open Go.RowKit

theorem pE_iff (e : EsD) (a : AK) (x : Option ByteArray) : pE e a x ↔ ∃ i, i < e.n ∧ ∃ j, j < (e.rs i).n ∧ (∃ k, k < ((e.rs i).R j).v.n ∧ ∃ l, l < ((e.rs i).R j).g.n ∧ ∃ h, h < ((e.rs i).R j).r.n ∧
    a = (((e.rs i).R j).v.S k, ((e.rs i).R j).g.S l, ((e.rs i).R j).r.S h, ((e.rs i).R j).q) ∧ AddX ((e.rs i).R j).m ((e.rs i).R j).m.n x) := Iff.rfl

theorem rule_iff (r : RD) (v g rs : ByteArray) (q : Bool) (nm : ByteArray) (named : Bool) :
    RG r v g rs q nm named ↔ ∃ i, i < 2 ∧ ∃ j, j < 2 ∧ ∃ k, k < r.v.n ∧ ∃ l, l < r.g.n ∧ ∃ h, h < r.r.n ∧ (two v i, two g j, rs, q) = (r.v.S k, r.g.S l, r.r.S h, r.q) ∧ (AddX r.m r.m.n none ∨ (named = true ∧ AddX r.m r.m.n (some nm))) := by
  have hadd : (AddX r.m r.m.n none ∨ (named = true ∧ AddX r.m r.m.n (some nm))) ↔ (r.m.n = 0 ∨ (named = true ∧ hasL (strs r.m) nm = true)) := by
    rw [hasL_iff, mem_strs]
    exact Iff.rfl
  unfold RG
  rw [hadd]
  have pick : ∀ (s : SD) (x : ByteArray), (hasL (strs s) x = true ∨ hasL (strs s) star = true) ↔ ∃ i, i < 2 ∧ ∃ k, k < s.n ∧ two x i = s.S k := by
    intro s x
    rw [hasL_iff, hasL_iff, mem_strs, mem_strs]
    constructor
    · rintro (⟨k, hk, e⟩ | ⟨k, hk, e⟩)
      · exact ⟨0, by omega, k, hk, e.symm⟩
      · exact ⟨1, by omega, k, hk, e.symm⟩
    · rintro ⟨i, hi, k, hk, e⟩
      match i, hi with
      | 0, _ => exact .inl ⟨k, hk, e.symm⟩
      | 1, _ => exact .inr ⟨k, hk, e.symm⟩
  rw [pick, pick, hasL_iff, mem_strs]
  constructor
  · rintro ⟨rfl, ⟨h, hh, e3⟩, ⟨i, hi, k, hk, e1⟩, ⟨j, hj, l, hl, e2⟩, hm⟩
    exact ⟨i, hi, j, hj, k, hk, l, hl, h, hh, by rw [e1, e2, e3], hm⟩
  · rintro ⟨i, hi, j, hj, k, hk, l, hl, h, hh, e, hm⟩
    injection e with e1 e
    injection e with e2 e
    injection e with e3 e4
    exact ⟨e4.symm, ⟨h, hh, e3.symm⟩, ⟨i, hi, k, hk, e1⟩, ⟨j, hj, l, hl, e2⟩, hm⟩

theorem plain4 (e : EsD) (v g rs : ByteArray) (q : Bool) (nm : ByteArray) (named : Bool) :
    (∃ i, i < 2 ∧ ∃ j, j < 2 ∧ CG (pE e) named nm (two v i, two g j, rs, q)) ↔ ∃ i, i < e.n ∧ ∃ j, j < (e.rs i).n ∧ RG ((e.rs i).R j) v g rs q nm named := by
  constructor
  · rintro ⟨a, ha, b, hb, hc⟩
    rcases hc with h | ⟨hn, h⟩
    · obtain ⟨i, hi, j, hj, k, hk, l, hl, t, ht, e1, hx⟩ := (pE_iff e _ _).1 h
      exact ⟨i, hi, j, hj, (rule_iff _ _ _ _ _ _ _).2 ⟨a, ha, b, hb, k, hk, l, hl, t, ht, e1, .inl hx⟩⟩
    · obtain ⟨i, hi, j, hj, k, hk, l, hl, t, ht, e1, hx⟩ := (pE_iff e _ _).1 h
      exact ⟨i, hi, j, hj, (rule_iff _ _ _ _ _ _ _).2 ⟨a, ha, b, hb, k, hk, l, hl, t, ht, e1, .inr ⟨hn, hx⟩⟩⟩
  · rintro ⟨i, hi, j, hj, h⟩
    obtain ⟨a, ha, b, hb, k, hk, l, hl, t, ht, e1, hx⟩ := (rule_iff _ _ _ _ _ _ _).1 h
    refine ⟨a, ha, b, hb, ?_⟩
    rcases hx with hx | ⟨hn, hx⟩
    · exact .inl ((pE_iff e _ _).2 ⟨i, hi, j, hj, k, hk, l, hl, t, ht, e1, hx⟩)
    · exact .inr ⟨hn, (pE_iff e _ _).2 ⟨i, hi, j, hj, k, hk, l, hl, t, ht, e1, hx⟩⟩

set_option maxRecDepth 20000 in
set_option maxHeartbeats 4000000 in
theorem law4 (e : EsD) (v g r : ByteArray) (q : Bool) (nm : ByteArray) (named : Bool) (w : World) (he : e.ok w) (hv : v.size ≤ 9223372036854775807) (hg : g.size ≤ 9223372036854775807) (hr : r.size ≤ 9223372036854775807) (hnm : nm.size ≤ 9223372036854775807) :
    Calls Try.prog 4 #[e.val, .string v, .string g, .string r, .bool q, .string nm, .bool named] w fun en w' => en = .returned (.bool true) ∧ Below w.heap.size w w' := by
  have C20 := zz20 e.a e.n e.c v g r nm q named w he.n_le he.at hv hg hr hnm
  have C21 := entriesBytes21 e w he
  have HE := hid he
  clear he
  have i73 : (Try.prog.info? 73).map (fun i => (i.zero, i.size, i.bytes)) = some (some (.agg #[.slice none 0 0, .map none, .map none]), 3, 40) := by kernel_rfl
  obtain ⟨j73, hj73, _, _, _⟩ := info_parts i73
  have hptr : ∀ (w : World) (a : Addr), (binOp .neq 44 (.pointer (some a)) (.pointer (some a))).run Try.prog w = .ok (.bool false) w := fun w a => Lib.run_neq_ptr_same w a Try.underlying44 hj73
  clear i73
  unfold EsD.val at C21 ⊢
  go_enter Try.func4, Try.ntmps4
  go_wp2_with fail
  refine C20.mono ?_
  rintro en w' ⟨⟨b, rfl⟩, rfl⟩
  clear C20
  cases b with
  | false =>
    clear C21
    go_wp2
    go_ret
    exact ⟨rfl, Below.refl _ _⟩
  | true =>
    go_wp2_with fail
    refine C21.mono ?_
    rintro en w1 ⟨rfl, hB1⟩
    clear C21
    have C22 := textBytes22 v g r nm w1 hv hg hr hnm
    have hc1 := cap_bd (entriesT e)
    have hc2 := cap_bd (textT v g r nm)
    have HBD := hid (bd_of e)
    have HRB := hid (rb_of e)
    generalize cap (entriesT e) = z1 at *
    generalize cap (textT v g r nm) = z2 at *
    go_wp2_with fail
    refine C22.mono ?_
    rintro en w' ⟨rfl, rfl⟩
    clear C22
    by_cases hz : 1048576 < z1 + z2
    · go_wp2
      go_ret
      exact ⟨rfl, hB1⟩
    · have hbd := HBD.out (by omega)
      have hrb := HRB.out (by omega)
      clear HBD HRB
      have C23 := entriesCost23 e w1 (HE.out.below hB1) hbd hrb
      unfold EsD.val at C23
      go_wp2_with fail
      refine C23.mono ?_
      rintro en w2 ⟨⟨t, rfl⟩, hB2⟩
      clear C23
      have hB2 := hB1.trans (hB2.mono hB1.size)
      by_cases ht : 67108864 < t
      · go_wp2
        go_ret
        exact ⟨rfl, hB2⟩
      · have C24 := cloneEntries24 e w2 (HE.out.below hB2) hbd
        unfold EsD.val at C24
        go_wp2_with fail
        refine C24.mono ?_
        rintro en w3 ⟨e', rfl, hok, hli, hB3⟩
        have hbd' := bd_like hbd hli
        have hB3 := hB2.trans (hB3.mono hB2.size)
        clear C24 hli HE hbd hrb hB1 hB2
        have C26 := subjects26 e' w3 hok hbd'
        have HO := hid hok
        have HBD := hid hbd'
        unfold EsD.val at *
        go_wp2_with fail
        refine C26.mono ?_
        rintro en w4 ⟨sb, rfl, hS, hsb, hB4⟩
        clear C26
        have C25 := newCov25 (some ⟨sb, 0, none⟩) e'.n e'.n w4
        have C27 := ZZMade27 e' w4 sb (HO.out.below hB4) HBD.out hS
        have HO := hid (HO.out.below hB4)
        have hB4 := hB3.trans (hB4.mono hB3.size)
        clear hok hbd' hB3 hS
        go_wp2_with fail
        refine C25.mono ?_
        rintro en w5 ⟨rfl, rfl⟩
        clear C25
        have hZ := hB4.size
        have HB4 := hid hB4
        generalize w4.alloc (.cells #[.slice (some ⟨sb, 0, none⟩) e'.n e'.n, .map none, .map none] 73) = W at *
        generalize hcb : w4.heap.size = cb at *
        have HCB := hid hcb
        clear hcb
        go_wp2_with fail
        refine C27.mono ?_
        rintro en w6 ⟨rfl, hB6, hM⟩
        clear C27
        have HO := hid (HO.out.below (by rw [HCB.out]; exact hB6))
        have hB6 := HB4.out.trans (hB6.mono hZ)
        have C27 := ZZMade27_again e' cb w6 hM
        have C28 := ZZCovers28 e' cb w6 hM v g r q nm named hv hg hr hnm
        clear hM HB4 hB4
        go_wp2_with fail
        refine C27.mono ?_
        rintro en w' ⟨rfl, rfl⟩
        clear C27
        go_wp2_with fail
        refine C28.mono ?_
        rintro en w7 ⟨b1, rfl, hb1, hB7⟩
        clear C28
        have HO := hid (HO.out.below hB7)
        have hB7 := hB6.trans (hB7.mono hB6.size)
        have C29 := modelCovers29 e' w7 HO.out HBD.out v g r q nm named
        unfold EsD.val at C29
        have HB1 := hid hb1
        clear hb1
        go_wp2_with fail
        refine C29.mono ?_
        rintro en w8 ⟨b2, rfl, hb2, hB8⟩
        clear C29
        have hB8 := hB7.trans (hB8.mono hB7.size)
        have heq : b1 = b2 := by
          rw [Bool.eq_iff_iff, HB1.out, hb2]
          exact plain4 e' v g r q nm named
        subst heq
        clear hb2 HB1
        have hbb : (b1 == b1) = true := by cases b1 <;> rfl
        go_wp2
        go_ret
        exact ⟨by cases b1 <;> rfl, hB8⟩
end Go.Proofs.Qxb6606073a
