import Derived.Test.Qxb6606073aVa
import Derived.Test.Qxb6606073aZ30
set_option linter.unusedSimpArgs false
set_option linter.unusedVariables false
namespace Go.Proofs.Qxb6606073a
open Go.RowKit

theorem bd_like {s s' : EsD} {B : Nat} (h : Bd s) (l : EsLike s s' B) : Bd s' := by
  have hn := l.n
  have hr : ∀ i, i < s'.n → (s'.rs i).n = (s.rs i).n := fun i hi => (l.rs i (by omega)).n
  have hp : ∀ i, i < s'.n → (s'.ps i).n = (s.ps i).n := fun i hi => (l.ps i (by omega)).n
  have hR : ∀ i j, i < s'.n → j < (s'.rs i).n → RLike ((s.rs i).R j) ((s'.rs i).R j) B := fun i j hi hj => (l.rs i (by omega)).R j (by rw [← hr i hi]; exact hj)
  have hP : ∀ i j, i < s'.n → j < (s'.ps i).n → PLike ((s.ps i).P j) ((s'.ps i).P j) B := fun i j hi hj => (l.ps i (by omega)).P j (by rw [← hp i hi]; exact hj)
  refine ⟨by rw [hn]; exact h.n, fun i hi => by rw [hr i hi]; exact h.rn i (by omega), fun i hi => by rw [hp i hi]; exact h.pn i (by omega),
    fun i j hi hj => ?_, fun i j hi hj => ?_, fun i j hi hj => ?_, fun i j hi hj => ?_, fun i j hi hj => ?_, fun i j hi hj => ?_, fun i j hi hj => ?_, ?_⟩
  · rw [(hR i j hi hj).v]; exact h.rv i j (by omega) (by rw [← hr i hi]; exact hj)
  · rw [(hR i j hi hj).g]; exact h.rg i j (by omega) (by rw [← hr i hi]; exact hj)
  · rw [(hR i j hi hj).r]; exact h.rr i j (by omega) (by rw [← hr i hi]; exact hj)
  · rw [(hR i j hi hj).m]; exact h.rm i j (by omega) (by rw [← hr i hi]; exact hj)
  · rw [(hR i j hi hj).y]; exact h.ry i j (by omega) (by rw [← hr i hi]; exact hj)
  · rw [(hP i j hi hj).v]; exact h.pv i j (by omega) (by rw [← hp i hi]; exact hj)
  · rw [(hP i j hi hj).u]; exact h.pu i j (by omega) (by rw [← hp i hi]; exact hj)
  · have e : ssum (fun i => ssum (fun j => ((s'.ps i).P j).v.n) (s'.ps i).n) s'.n = ssum (fun i => ssum (fun j => ((s.ps i).P j).v.n) (s.ps i).n) s'.n :=
      ssum_congr _ (fun i hi => by rw [hp i hi]; exact ssum_congr _ (fun j hj => (hP i j hi (by rw [hp i hi]; exact hj)).v))
    rw [e, hn]
    exact h.vt

theorem len_qE (e : EsD) (hb : Bd e) (v : ByteArray) : (qE e v).length ≤ 4294967296 := by
  have h1 := len_LAcc (fun i => qPs (e.ps i)) (fun i => ssum (fun j => ((e.ps i).P j).v.n) (e.ps i).n) v e.n (fun i' hi' => len_LAcc _ (fun j => ((e.ps i').P j).v.n) v _ (fun j' hj' => len_qP _ (hb.pu i' j' hi' hj') v))
  have h2 := hb.vt
  unfold qE
  omega
theorem len_at (e : EsD) (hb : Bd e) {i j : Nat} (hi : i < e.n) (hj : j ≤ (e.ps i).n) (v : ByteArray) :
    ((Cat (LAcc (fun i => qPs (e.ps i)) i) (LAcc (fun j => qP ((e.ps i).P j)) j)) v).length ≤ 4294967296 := by
  have h1 := len_LAcc (fun i => qPs (e.ps i)) (fun i => ssum (fun j => ((e.ps i).P j).v.n) (e.ps i).n) v i (fun i' hi' => len_LAcc _ (fun j => ((e.ps i').P j).v.n) v _ (fun j' hj' => len_qP _ (hb.pu i' j' (by omega) hj') v))
  have h2 := len_LAcc (fun j => qP ((e.ps i).P j)) (fun j => ((e.ps i).P j).v.n) v j (fun j' hj' => len_qP _ (hb.pu i j' hi (by omega)) v)
  have s1 := ssum_at (fun i => ssum (fun j => ((e.ps i).P j).v.n) (e.ps i).n) hi
  have s2 := ssum_le (fun j => ((e.ps i).P j).v.n) hj
  have s3 := hb.vt
  simp only [Cat, List.length_append] at *
  omega

theorem hasL_app (l l' : List ByteArray) (x : ByteArray) : hasL (l ++ l') x = (hasL l x || hasL l' x) := by simp [hasL]
theorem hasL_qP (p : PD) (v u : ByteArray) : hasL (qP p v) u = (decide (0 < cntN p.v.S v p.v.n) && hasL (strs p.u) u) := by
  rw [Bool.eq_iff_iff, hasL_iff, mem_qP, Bool.and_eq_true, hasL_iff, decide_eq_true_eq]

set_option maxRecDepth 20000 in
set_option maxHeartbeats 4000000 in
theorem law5 (e : EsD) (v u : ByteArray) (w : World) (he : e.ok w) (hv : v.size ≤ 9223372036854775807) (hu : u.size ≤ 9223372036854775807) :
    Calls Try.prog 5 #[e.val, .string v, .string u] w fun en w' => en = .returned (.bool true) ∧ Below w.heap.size w w' := by
  have C30 := zz30 e.a e.n e.c v u w he.n_le he.at hv hu
  have C21 := entriesBytes21 e w he
  have HE := hid he
  clear he
  unfold EsD.val at C21 ⊢
  go_enter Try.func5, Try.ntmps5
  go_wp2_with fail
  refine C30.mono ?_
  rintro en w' ⟨⟨b, rfl⟩, rfl⟩
  clear C30
  cases b with
  | false =>
    clear C21
    go_wp2
    go_ret
    exact ⟨rfl, Below.refl _ _⟩
  | true =>
    go_wp2_with fail
    refine C21.mono ?_
    rintro en w1 ⟨rfl, hB1⟩
    clear C21
    have C22 := textBytes22 v u ⟨#[]⟩ ⟨#[]⟩ w1 hv hu (by decide) (by decide)
    have hc1 := cap_bd (entriesT e)
    have hc2 := cap_bd (textT v u ⟨#[]⟩ ⟨#[]⟩)
    have HBD := hid (bd_of e)
    have HRB := hid (rb_of e)
    generalize cap (entriesT e) = z1 at *
    generalize cap (textT v u ⟨#[]⟩ ⟨#[]⟩) = z2 at *
    go_wp2_with fail
    refine C22.mono ?_
    rintro en w' ⟨rfl, rfl⟩
    clear C22
    by_cases hz : 1048576 < z1 + z2
    · go_wp2
      go_ret
      exact ⟨rfl, hB1⟩
    · have hbd := HBD.out (by omega)
      have hrb := HRB.out (by omega)
      clear HBD HRB
      have C23 := entriesCost23 e w1 (HE.out.below hB1) hbd hrb
      unfold EsD.val at C23
      go_wp2_with fail
      refine C23.mono ?_
      rintro en w2 ⟨⟨t, rfl⟩, hB2⟩
      clear C23
      have hB2 := hB1.trans (hB2.mono hB1.size)
      by_cases ht : 67108864 < t
      · go_wp2
        go_ret
        exact ⟨rfl, hB2⟩
      · have C24 := cloneEntries24 e w2 (HE.out.below hB2) hbd
        unfold EsD.val at C24
        go_wp2_with fail
        refine C24.mono ?_
        rintro en w3 ⟨e', rfl, hok, hli, hB3⟩
        have hbd' := bd_like hbd hli
        have hB3 := hB2.trans (hB3.mono hB2.size)
        clear C24 hli HE hbd hrb hB1 hB2
        have C32 := build32 e' w3 hok hbd'
        have HO := hid hok
        have HBD := hid hbd'
        unfold EsD.val at *
        go_wp2_with fail
        refine C32.mono ?_
        rintro en w4 ⟨cb, rfl, hB4, hM⟩
        clear C32
        have HO := hid (HO.out.below hB4)
        have hB4 := hB3.trans (hB4.mono hB3.size)
        have C31 := ZZPaths31 e' cb v w4 hM hv (by have := len_qE e' hbd' v; omega)
        clear hok hM hbd' hB3
        go_wp2_with fail
        refine C31.mono ?_
        rintro en w' ⟨s, rfl, hcan, hstr, rfl⟩
        clear C31
        have C34 := hasStr34 s u w4 hcan
        rw [hstr] at C34
        have hqn : s.n = (qE e' v).length := by rw [← hstr]; simp [strs]
        unfold SD.val at *
        have HC34 := hid C34
        have HQN := hid hqn
        have HCB := hid hB4
        have HA := hid HO.out.ad
        have hn := HBD.out.n
        clear C34 hcan hstr hqn hB4
        generalize hn' : e'.n = n at *
        have HN := hid hn'
        generalize e'.a = a at *
        generalize s.a = sa at *
        generalize s.n = sn at *
        generalize s.c = sc at *
        clear hn'
        go_wp2
        go_loopg [8, 9, 10] n (fun g v8 v9 v10 wx => ∃ (i : Nat), v8 = .int .i64 ((LAcc (fun i => qPs (e'.ps i)) i v).length : Nat) ∧ v9 = .bool (hasL (LAcc (fun i => qPs (e'.ps i)) i v) u) ∧ v10 = .int .i64 i ∧ i ≤ n ∧ g = n - i ∧ wx = w4)
        case atStart => exact ⟨0, rfl, rfl, rfl, Nat.zero_le _, rfl, rfl⟩
        case round =>
        obtain ⟨i, rfl, rfl, rfl, hi, hg, rfl⟩ := hrel
        by_cases hlt : i < n
        · have hsi : i < e'.n := by rw [HN.out]; exact hlt
          obtain rfl := HA.out (by omega)
          have c1 := HO.out.c1 i hsi
          have HP := hid (HO.out.ps i hsi)
          have hln := HBD.out.pn i hsi
          have HPA := hid (HO.out.ps i hsi).ad
          have HLA := hid (fun j hj => len_at e' HBD.out (j := j) hsi hj v)
          have hl0 := HLA.out 0 (Nat.zero_le _)
          rw [Cat_zero] at hl0
          obtain ⟨L1, hL1⟩ : ∃ L, L = LAcc (fun i => qPs (e'.ps i)) i := ⟨_, rfl⟩
          have HLE : Hid (Cat L1 (LAcc (fun j => qP ((e'.ps i).P j)) (e'.ps i).n) = LAcc (fun i => qPs (e'.ps i)) (i + 1)) := by rw [hL1]; rfl
          rw [← hL1] at HLA hl0 ⊢
          clear hL1
          unfold PsD.val at c1
          generalize hl' : (e'.ps i).n = l at *
          have HLN := hid hl'
          generalize (e'.ps i).a = pa at *
          clear hl'
          go_wp2
          go_loopg [8, 9, 12] l (fun g v8 v9 v12 wx => ∃ (j : Nat), v8 = .int .i64 ((Cat L1 (LAcc (fun j => qP ((e'.ps i).P j)) j) v).length : Nat) ∧ v9 = .bool (hasL (Cat L1 (LAcc (fun j => qP ((e'.ps i).P j)) j) v) u) ∧ v12 = .int .i64 j ∧ j ≤ l ∧ g = l - j ∧ wx = wr)
          case atStart => exact ⟨0, by rw [Cat_zero], by rw [Cat_zero], rfl, Nat.zero_le _, rfl, rfl⟩
          case round =>
          clear c1 hl0
          obtain ⟨j, rfl, rfl, rfl, hj, hgj, rfl⟩ := hrel
          by_cases hjl : j < l
          · have hsj : j < (e'.ps i).n := by rw [HLN.out]; exact hjl
            obtain rfl := HPA.out (by omega)
            have c0 := HP.out.c0 j hsj
            have c1 := HP.out.c1 j hsj
            have hvn := HBD.out.pv i j hsi hsj
            have hun := HBD.out.pu i j hsi hsj
            have C33 := countStr33 ((e'.ps i).P j).v v wr (HP.out.P j hsj).v.can hvn
            have C34 := hasStr34 ((e'.ps i).P j).u u wr (HP.out.P j hsj).u.can
            have hb := HLA.out (j + 1) (by omega)
            have e1 : (Cat L1 (LAcc (fun j => qP ((e'.ps i).P j)) (j + 1)) v).length = (Cat L1 (LAcc (fun j => qP ((e'.ps i).P j)) j) v).length + cntN ((e'.ps i).P j).v.S v ((e'.ps i).P j).v.n * ((e'.ps i).P j).u.n := by
              rw [← Cat_succ, ← len_qPv]
              simp only [Cat, List.length_append]
            have e2 : hasL (Cat L1 (LAcc (fun j => qP ((e'.ps i).P j)) (j + 1)) v) u = (hasL (Cat L1 (LAcc (fun j => qP ((e'.ps i).P j)) j) v) u || (decide (0 < cntN ((e'.ps i).P j).v.S v ((e'.ps i).P j).v.n) && hasL (strs ((e'.ps i).P j).u) u)) := by
              rw [← Cat_succ, ← hasL_qP, ← hasL_app]
              rfl
            have hcl := cntN_le ((e'.ps i).P j).v.S v ((e'.ps i).P j).v.n
            rw [e1] at hb
            unfold SD.val at *
            generalize (Cat L1 (LAcc (fun j => qP ((e'.ps i).P j)) j) v).length = t0 at *
            generalize hasL (Cat L1 (LAcc (fun j => qP ((e'.ps i).P j)) j) v) u = b0 at *
            generalize hasL (strs ((e'.ps i).P j).u) u = b1 at *
            generalize cntN ((e'.ps i).P j).v.S v ((e'.ps i).P j).v.n = cn at *
            generalize ((e'.ps i).P j).v.a = va at *
            generalize ((e'.ps i).P j).v.n = vn at *
            generalize ((e'.ps i).P j).v.c = vc at *
            generalize ((e'.ps i).P j).u.a = ua at *
            generalize ((e'.ps i).P j).u.n = un at *
            generalize ((e'.ps i).P j).u.c = uc at *
            have hmul : ((cn : Int) * (un : Int)) = ((cn * un : Nat) : Int) := by push_cast; rfl
            generalize cn * un = pr at *
            have E1 := hid e1
            have E2 := hid e2
            clear e1 e2
            go_wp2_with fail
            refine C33.mono ?_
            rintro en w' ⟨rfl, rfl⟩
            clear C33
            by_cases hc : 0 < cn
            · have hci : (0 : Int) < (cn : Int) := by omega
              go_wp2_with fail
              refine C34.mono ?_
              rintro en w' ⟨rfl, rfl⟩
              clear C34
              cases b1 with
              | true =>
                go_wp2
                go_roundg (l - (j + 1))
                case measure => omega
                case rel => exact ⟨j + 1, by rw [E1.out]; go_num, by rw [E2.out, decide_eq_true hc]; simp, by go_num, by omega, rfl, rfl⟩
              | false =>
                go_wp2
                go_roundg (l - (j + 1))
                case measure => omega
                case rel => exact ⟨j + 1, by rw [E1.out]; go_num, by rw [E2.out, decide_eq_true hc]; simp, by go_num, by omega, rfl, rfl⟩
            · have hci : ¬ (0 : Int) < (cn : Int) := by omega
              clear C34
              go_wp2
              go_roundg (l - (j + 1))
              case measure => omega
              case rel => exact ⟨j + 1, by rw [E1.out]; go_num, by rw [E2.out, decide_eq_false hc]; simp, by go_num, by omega, rfl, rfl⟩
          · obtain rfl : j = l := by omega
            go_wp2
            rw [HLE.out]
            go_roundg (n - (i + 1))
            case measure => omega
            case rel => exact ⟨i + 1, rfl, rfl, by go_num, by omega, rfl, rfl⟩
        · obtain rfl : i = n := by omega
          have e1 : LAcc (fun i => qPs (e'.ps i)) i = qE e' := by unfold qE; rw [HN.out]
          have C := HC34.out
          have hq := HQN.out
          rw [e1]
          rw [← hq]
          generalize hasL (qE e' v) u = b0 at *
          have hsn : ((sn : Int) == (sn : Int)) = true := by simp
          clear e1 HO HBD hq HQN
          go_wp2_with fail
          refine C.mono ?_
          rintro en w' ⟨rfl, rfl⟩
          clear C HC34
          go_wp2
          go_ret
          exact ⟨by cases b0 <;> rfl, HCB.out⟩
end Go.Proofs.Qxb6606073a
