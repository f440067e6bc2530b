import Derived.Test.Qxb6606073aLa
set_option linter.unusedSimpArgs false
set_option linter.unusedVariables false
namespace Go.Proofs.Qxb6606073a
open Go.RowKit

/-- Does a rule grant it? -/
def RG (r : RD) (v g rs : ByteArray) (q : Bool) (nm : ByteArray) (named : Bool) : Prop :=
  r.q = q ∧ hasL (strs r.r) rs = true ∧ (hasL (strs r.v) v = true ∨ hasL (strs r.v) star = true) ∧ (hasL (strs r.g) g = true ∨ hasL (strs r.g) star = true) ∧ (r.m.n = 0 ∨ (named = true ∧ hasL (strs r.m) nm = true))

set_option maxRecDepth 20000 in
set_option maxHeartbeats 4000000 in
theorem modelCovers29 (e : EsD) (w : World) (he : e.ok w) (hbd : Bd e) (v g rs : ByteArray) (q : Bool) (nm : ByteArray) (named : Bool) :
    Calls Try.prog 29 #[e.val, .string v, .string g, .string rs, .bool q, .string nm, .bool named] w fun en w' =>
      ∃ b : Bool, en = .returned (.bool b) ∧ (b = true ↔ ∃ i, i < e.n ∧ ∃ j, j < (e.rs i).n ∧ RG ((e.rs i).R j) v g rs q nm named) ∧ Below w.heap.size w w' := by
  have hn := hbd.n
  have HA := hid he.ad
  have HO := hid he
  have HBD := hid hbd
  clear he hbd
  unfold EsD.val
  generalize hn' : e.n = n at *
  have HN := hid hn'
  generalize e.a = a at *
  clear hn'
  go_enter Try.func29, Try.ntmps29
  go_wp2
  go_loopg [15] n (fun gk x wx => ∃ (i : Nat), x = .int .i64 i ∧ i ≤ n ∧ gk = n - i ∧ (∀ i', i' < i → ∀ j, j < (e.rs i').n → ¬ RG ((e.rs i').R j) v g rs q nm named) ∧ Below w.heap.size w wx)
  case atStart => exact ⟨0, rfl, Nat.zero_le _, rfl, fun i' hi => by omega, Below.refl _ _⟩
  case round =>
  obtain ⟨i, rfl, hi, hgi, hno, hB⟩ := hrel
  have HNO := hid hno
  clear hno
  by_cases hlt : i < n
  · have hsi : i < e.n := by rw [HN.out]; exact hlt
    obtain rfl := HA.out (by omega)
    have ok' := HO.out.below hB
    have c0 := ok'.c0 i hsi
    have okr := ok'.rs i hsi
    have hrn := HBD.out.rn i hsi
    have HRA := hid okr.ad
    have HRO := hid okr
    unfold RsD.val at c0
    clear ok' okr
    generalize hm' : (e.rs i).n = m at *
    have HM := hid hm'
    generalize (e.rs i).a = ra at *
    clear hm'
    obtain ⟨wo, rfl⟩ : ∃ wo : World, wo = wr := ⟨_, rfl⟩
    go_wp2
    go_loopg [17] m (fun gk x wx => ∃ (j : Nat), x = .int .i64 j ∧ j ≤ m ∧ gk = m - j ∧ (∀ j', j' < j → ¬ RG ((e.rs i).R j') v g rs q nm named) ∧ Below wo.heap.size wo wx)
    case atStart => exact ⟨0, rfl, Nat.zero_le _, rfl, fun j' hj => by omega, Below.refl _ _⟩
    case round =>
    clear c0
    obtain ⟨j, rfl, hj, hgj, hno, hB2⟩ := hrel
    have HNJ := hid hno
    clear hno
    have hB3 := hid (hB.trans (hB2.mono hB.size))
    by_cases hjm : j < m
    · have hsj : j < (e.rs i).n := by rw [HM.out]; exact hjm
      obtain rfl := HRA.out (by omega)
      have ok' := HRO.out.below hB2
      have c0 := ok'.c0 j hsj
      have c1 := ok'.c1 j hsj
      have c2 := ok'.c2 j hsj
      have c3 := ok'.c3 j hsj
      have c4 := ok'.c4 j hsj
      have c5 := ok'.c5 j hsj
      have okR := ok'.R j hsj
      have hmn := HBD.out.rm i j hsi hsj
      have HNEXT : Hid (¬ RG ((e.rs i).R j) v g rs q nm named → ∀ j', j' < j + 1 → ¬ RG ((e.rs i).R j') v g rs q nm named) := by
        intro h j' hj'
        by_cases ej : j' = j
        · rw [ej]; exact h
        · exact HNJ.out j' (by omega)
      have HYES : Hid (RG ((e.rs i).R j) v g rs q nm named → ∃ i, i < n ∧ ∃ j, j < (e.rs i).n ∧ RG ((e.rs i).R j) v g rs q nm named) := fun h => ⟨i, hlt, j, hsj, h⟩
      clear ok' HNJ
      generalize (e.rs i).R j = r at *
      obtain ⟨W2, hW2⟩ : ∃ W, W = wr.alloc (.cells #[r.v.val, r.g.val, r.r.val, r.m.val, r.y.val, .bool r.q] 25) := ⟨_, rfl⟩
      have hb2 : Below wr.heap.size wr W2 := by rw [hW2]; exact (Below.refl _ _).alloc (Nat.le_refl _) _
      have okW := okR.below hb2
      have C1 := hasStr34 r.r rs W2 okW.r.can
      have C2 := hasStr34 r.v v W2 okW.v.can
      have C3 := hasStr34 r.v star W2 okW.v.can
      have C4 := hasStr34 r.g g W2 okW.g.can
      have C5 := hasStr34 r.g star W2 okW.g.can
      have C6 := hasStr34 r.m nm W2 okW.m.can
      have hB5 := hid (hB2.trans (hb2.mono hB2.size))
      have hB6 := hid (hB3.out.trans (hb2.mono hB3.out.size))
      have HRG : Hid (RG r v g rs q nm named ↔ (r.q = q ∧ hasL (strs r.r) rs = true ∧ (hasL (strs r.v) v = true ∨ hasL (strs r.v) star = true) ∧ (hasL (strs r.g) g = true ∨ hasL (strs r.g) star = true) ∧ (r.m.n = 0 ∨ (named = true ∧ hasL (strs r.m) nm = true)))) := Iff.rfl
      unfold SD.val at *
      generalize hasL (strs r.r) rs = b1 at *
      generalize hasL (strs r.v) v = b2 at *
      generalize hasL (strs r.v) star = b3 at *
      generalize hasL (strs r.g) g = b4 at *
      generalize hasL (strs r.g) star = b5 at *
      generalize hasL (strs r.m) nm = b6 at *
      generalize RG r v g rs q nm named = PR at *
      generalize r.v.a = va at *
      generalize r.v.n = vn at *
      generalize r.v.c = vc at *
      generalize r.g.a = ga at *
      generalize r.g.n = gn at *
      generalize r.g.c = gc at *
      generalize r.r.a = rra at *
      generalize r.r.n = rrn at *
      generalize r.r.c = rrc at *
      generalize r.m.a = ma at *
      generalize r.m.n = mn at *
      generalize r.m.c = mc at *
      generalize r.y.a = ya at *
      generalize r.y.n = yn at *
      generalize r.y.c = yc at *
      generalize r.q = rq at *
      unfold star at C3 C5
      subst hW2
      clear okR okW hb2
      by_cases hq : rq = q
      · subst hq
        go_wp2_with fail
        refine C1.mono ?_
        rintro en w' ⟨rfl, rfl⟩
        clear C1
        cases b1 with
        | true =>
          go_wp2_with fail
          refine C2.mono ?_
          rintro en w' ⟨rfl, rfl⟩
          clear C2
          cases b2 with
          | true =>
            go_wp2_with fail
            refine C4.mono ?_
            rintro en w' ⟨rfl, rfl⟩
            clear C4
            cases b4 with
            | true =>
              by_cases hm0 : mn = 0
              · subst hm0
                go_wp2
                go_ret
                exact ⟨true, rfl, ⟨fun _ => HYES.out (HRG.out.2 (by simp)), fun _ => rfl⟩, hB6.out⟩
              · have hmi : ((mn : Int) == 0) = false := by simpa using hm0
                cases named with
                | false =>
                  go_wp2
                  go_roundg (m - (j + 1))
                  case measure => omega
                  case rel =>
                    refine ⟨j + 1, by go_num, by omega, rfl, HNEXT.out ?_, hB5.out⟩
                    rw [HRG.out]
                    first | (simp; done) | (simp [hm0]; done) | (simp [hq]; done)
                | true =>
                  go_wp2_with fail
                  refine C6.mono ?_
                  rintro en w' ⟨rfl, rfl⟩
                  clear C6
                  cases b6 with
                  | true =>
                    go_wp2
                    go_ret
                    exact ⟨true, rfl, ⟨fun _ => HYES.out (HRG.out.2 (by simp)), fun _ => rfl⟩, hB6.out⟩
                  | false =>
                    go_wp2
                    go_roundg (m - (j + 1))
                    case measure => omega
                    case rel =>
                      refine ⟨j + 1, by go_num, by omega, rfl, HNEXT.out ?_, hB5.out⟩
                      rw [HRG.out]
                      first | (simp; done) | (simp [hm0]; done) | (simp [hq]; done)
            | false =>
              go_wp2_with fail
              refine C5.mono ?_
              rintro en w' ⟨rfl, rfl⟩
              clear C5
              cases b5 with
              | true =>
                by_cases hm0 : mn = 0
                · subst hm0
                  go_wp2
                  go_ret
                  exact ⟨true, rfl, ⟨fun _ => HYES.out (HRG.out.2 (by simp)), fun _ => rfl⟩, hB6.out⟩
                · have hmi : ((mn : Int) == 0) = false := by simpa using hm0
                  cases named with
                  | false =>
                    go_wp2
                    go_roundg (m - (j + 1))
                    case measure => omega
                    case rel =>
                      refine ⟨j + 1, by go_num, by omega, rfl, HNEXT.out ?_, hB5.out⟩
                      rw [HRG.out]
                      first | (simp; done) | (simp [hm0]; done) | (simp [hq]; done)
                  | true =>
                    go_wp2_with fail
                    refine C6.mono ?_
                    rintro en w' ⟨rfl, rfl⟩
                    clear C6
                    cases b6 with
                    | true =>
                      go_wp2
                      go_ret
                      exact ⟨true, rfl, ⟨fun _ => HYES.out (HRG.out.2 (by simp)), fun _ => rfl⟩, hB6.out⟩
                    | false =>
                      go_wp2
                      go_roundg (m - (j + 1))
                      case measure => omega
                      case rel =>
                        refine ⟨j + 1, by go_num, by omega, rfl, HNEXT.out ?_, hB5.out⟩
                        rw [HRG.out]
                        first | (simp; done) | (simp [hm0]; done) | (simp [hq]; done)
              | false =>
                go_wp2
                go_roundg (m - (j + 1))
                case measure => omega
                case rel =>
                  refine ⟨j + 1, by go_num, by omega, rfl, HNEXT.out ?_, hB5.out⟩
                  rw [HRG.out]
                  first | (simp; done) | (simp [hm0]; done) | (simp [hq]; done)
          | false =>
            go_wp2_with fail
            refine C3.mono ?_
            rintro en w' ⟨rfl, rfl⟩
            clear C3
            cases b3 with
            | true =>
              go_wp2_with fail
              refine C4.mono ?_
              rintro en w' ⟨rfl, rfl⟩
              clear C4
              cases b4 with
              | true =>
                by_cases hm0 : mn = 0
                · subst hm0
                  go_wp2
                  go_ret
                  exact ⟨true, rfl, ⟨fun _ => HYES.out (HRG.out.2 (by simp)), fun _ => rfl⟩, hB6.out⟩
                · have hmi : ((mn : Int) == 0) = false := by simpa using hm0
                  cases named with
                  | false =>
                    go_wp2
                    go_roundg (m - (j + 1))
                    case measure => omega
                    case rel =>
                      refine ⟨j + 1, by go_num, by omega, rfl, HNEXT.out ?_, hB5.out⟩
                      rw [HRG.out]
                      first | (simp; done) | (simp [hm0]; done) | (simp [hq]; done)
                  | true =>
                    go_wp2_with fail
                    refine C6.mono ?_
                    rintro en w' ⟨rfl, rfl⟩
                    clear C6
                    cases b6 with
                    | true =>
                      go_wp2
                      go_ret
                      exact ⟨true, rfl, ⟨fun _ => HYES.out (HRG.out.2 (by simp)), fun _ => rfl⟩, hB6.out⟩
                    | false =>
                      go_wp2
                      go_roundg (m - (j + 1))
                      case measure => omega
                      case rel =>
                        refine ⟨j + 1, by go_num, by omega, rfl, HNEXT.out ?_, hB5.out⟩
                        rw [HRG.out]
                        first | (simp; done) | (simp [hm0]; done) | (simp [hq]; done)
              | false =>
                go_wp2_with fail
                refine C5.mono ?_
                rintro en w' ⟨rfl, rfl⟩
                clear C5
                cases b5 with
                | true =>
                  by_cases hm0 : mn = 0
                  · subst hm0
                    go_wp2
                    go_ret
                    exact ⟨true, rfl, ⟨fun _ => HYES.out (HRG.out.2 (by simp)), fun _ => rfl⟩, hB6.out⟩
                  · have hmi : ((mn : Int) == 0) = false := by simpa using hm0
                    cases named with
                    | false =>
                      go_wp2
                      go_roundg (m - (j + 1))
                      case measure => omega
                      case rel =>
                        refine ⟨j + 1, by go_num, by omega, rfl, HNEXT.out ?_, hB5.out⟩
                        rw [HRG.out]
                        first | (simp; done) | (simp [hm0]; done) | (simp [hq]; done)
                    | true =>
                      go_wp2_with fail
                      refine C6.mono ?_
                      rintro en w' ⟨rfl, rfl⟩
                      clear C6
                      cases b6 with
                      | true =>
                        go_wp2
                        go_ret
                        exact ⟨true, rfl, ⟨fun _ => HYES.out (HRG.out.2 (by simp)), fun _ => rfl⟩, hB6.out⟩
                      | false =>
                        go_wp2
                        go_roundg (m - (j + 1))
                        case measure => omega
                        case rel =>
                          refine ⟨j + 1, by go_num, by omega, rfl, HNEXT.out ?_, hB5.out⟩
                          rw [HRG.out]
                          first | (simp; done) | (simp [hm0]; done) | (simp [hq]; done)
                | false =>
                  go_wp2
                  go_roundg (m - (j + 1))
                  case measure => omega
                  case rel =>
                    refine ⟨j + 1, by go_num, by omega, rfl, HNEXT.out ?_, hB5.out⟩
                    rw [HRG.out]
                    first | (simp; done) | (simp [hm0]; done) | (simp [hq]; done)
            | false =>
              go_wp2
              go_roundg (m - (j + 1))
              case measure => omega
              case rel =>
                refine ⟨j + 1, by go_num, by omega, rfl, HNEXT.out ?_, hB5.out⟩
                rw [HRG.out]
                first | (simp; done) | (simp [hm0]; done) | (simp [hq]; done)
        | false =>
          go_wp2
          go_roundg (m - (j + 1))
          case measure => omega
          case rel =>
            refine ⟨j + 1, by go_num, by omega, rfl, HNEXT.out ?_, hB5.out⟩
            rw [HRG.out]
            first | (simp; done) | (simp [hm0]; done) | (simp [hq]; done)
      · have hq1 : (rq != q) = true := by simp [hq]
        have hq2 : (rq == q) = false := by simp [hq]
        go_wp2
        go_roundg (m - (j + 1))
        case measure => omega
        case rel =>
          refine ⟨j + 1, by go_num, by omega, rfl, HNEXT.out ?_, hB5.out⟩
          rw [HRG.out]
          first | (simp; done) | (simp [hm0]; done) | (simp [hq]; done)
    · obtain rfl : j = m := by omega
      have hB3' := hB3.out
      go_wp2
      go_roundg (n - (i + 1))
      case measure => omega
      case rel =>
        refine ⟨i + 1, by go_num, by omega, rfl, fun i' hi' j' hj' => ?_, hB3'⟩
        by_cases ei : i' = i
        · subst ei; exact HNJ.out j' (by rw [← HM.out]; exact hj')
        · exact HNO.out i' (by omega) j' hj'
  · obtain rfl : i = n := by omega
    go_wp2
    go_ret
    exact ⟨false, rfl, ⟨fun h => (by cases h), fun ⟨i', h1, j', h2, h3⟩ => absurd h3 (HNO.out i' h1 j' h2)⟩, hB⟩
end Go.Proofs.Qxb6606073a
