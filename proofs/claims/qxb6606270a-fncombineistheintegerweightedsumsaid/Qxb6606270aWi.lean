import Derived.Test.Qxb6606270aWh
set_option linter.unusedSimpArgs false
set_option linter.unusedVariables false
namespace Go.Proofs.Qxb6606270a
open Go.RowKit

/-- A row of 16-bit integers in memory. -/
def Ir (w : World) (b o n : Nat) (X : Nat → Int) : Prop := ∀ j, j < n → w.cell? ⟨b, o + j, none⟩ = some (.int .i16 (X j)) ∧ -32768 ≤ X j ∧ X j ≤ 32767

/-- A matrix of 16-bit integers in memory. -/
structure IMat (w : World) (a : Option Addr) (n : Nat) (L : Nat → Nat) (X : Nat → Nat → Int) where
  b : Nat
  o : Nat
  A : Nat → Option Addr
  C : Nat → Nat
  rb : Nat → Nat
  ro : Nat → Nat
  n_le : n ≤ 9223372036854775807
  ad : 0 < n → a = some ⟨b, o, none⟩
  b_lt : 0 < n → b < w.heap.size
  tops : Tops w b o n A L C
  rad : ∀ i, i < n → 0 < L i → A i = some ⟨rb i, ro i, none⟩
  rb_lt : ∀ i, i < n → 0 < L i → rb i < w.heap.size
  row : ∀ i, i < n → Ir w (rb i) (ro i) (L i) (X i)

/-- A row of such matrices. -/
structure ICube (w : World) (a : Option Addr) (K : Nat) (N : Nat → Nat) (L : Nat → Nat → Nat) (X : Nat → Nat → Nat → Int) where
  b : Nat
  o : Nat
  A : Nat → Option Addr
  C : Nat → Nat
  n_le : K ≤ 9223372036854775807
  ad : 0 < K → a = some ⟨b, o, none⟩
  b_lt : 0 < K → b < w.heap.size
  tops : Tops w b o K A N C
  mat : ∀ k, k < K → Nonempty (IMat w (A k) (N k) (L k) (X k))

def IMat.below {w w' : World} {a : Option Addr} {n : Nat} {L : Nat → Nat} {X : Nat → Nat → Int} (m : IMat w a n L X) (hb : Below w.heap.size w w') : IMat w' a n L X where
  b := m.b
  o := m.o
  A := m.A
  C := m.C
  rb := m.rb
  ro := m.ro
  n_le := m.n_le
  ad := m.ad
  b_lt := fun h => Nat.lt_of_lt_of_le (m.b_lt h) hb.size
  tops := fun i hi => ⟨(hb.cell (p := ⟨m.b, m.o + i, none⟩) (m.b_lt (by omega))).trans (m.tops i hi).1, (m.tops i hi).2⟩
  rad := m.rad
  rb_lt := fun i hi h => Nat.lt_of_lt_of_le (m.rb_lt i hi h) hb.size
  row := fun i hi j hj => ⟨(hb.cell (p := ⟨m.rb i, m.ro i + j, none⟩) (m.rb_lt i hi (by omega))).trans (m.row i hi j hj).1, (m.row i hi j hj).2⟩

def ICube.below {w w' : World} {a : Option Addr} {K : Nat} {N : Nat → Nat} {L : Nat → Nat → Nat} {X : Nat → Nat → Nat → Int} (m : ICube w a K N L X) (hb : Below w.heap.size w w') : ICube w' a K N L X where
  b := m.b
  o := m.o
  A := m.A
  C := m.C
  n_le := m.n_le
  ad := m.ad
  b_lt := fun h => Nat.lt_of_lt_of_le (m.b_lt h) hb.size
  tops := fun i hi => ⟨(hb.cell (p := ⟨m.b, m.o + i, none⟩) (m.b_lt (by omega))).trans (m.tops i hi).1, (m.tops i hi).2⟩
  mat := fun k hk => by obtain ⟨x⟩ := m.mat k hk; exact ⟨x.below hb⟩

def sz2 (n : Nat) : Int := if n ≤ 1048576 then 2 * (n : Int) else 1048577
theorem sz2_le {n : Nat} (h : n ≤ 1048576) : sz2 n = 2 * (n : Int) := by unfold sz2; rw [if_pos h]
theorem sz2_gt {n : Nat} (h : ¬ n ≤ 1048576) : sz2 n = 1048577 := by unfold sz2; rw [if_neg h]
theorem sz2_bd (n : Nat) : 0 ≤ sz2 n ∧ sz2 n ≤ 2097152 ∧ (sz2 n ≤ 1048576 → n ≤ 524288) := by unfold sz2; split <;> omega

set_option maxHeartbeats 400000 in
theorem size8 (a : Option Addr) (n c : Nat) (w : World) (hn : n ≤ 9223372036854775807) : Calls Try.prog 8 #[.slice a n c] w fun e w' => e = .returned (.int .i64 (sz2 n)) ∧ w = w' := by
  by_cases h : n ≤ 1048576
  · have H : Hid (sz2 n = 2 * (n : Int)) := sz2_le h
    go_enter Try.func8, Try.ntmps8
    go_wp2
    go_ret
    exact ⟨ret_int H.out.symm, rfl⟩
  · have H : Hid (sz2 n = 1048577) := sz2_gt h
    go_enter Try.func8, Try.ntmps8
    go_wp2
    go_ret
    exact ⟨ret_int H.out.symm, rfl⟩

def SzI (n : Nat) (L : Nat → Nat) (s : Int) : Prop := 0 ≤ s ∧ s ≤ 1048577 ∧ (s ≤ 1048576 → n ≤ 131072 ∧ ∀ i, i < n → L i ≤ 524288)

set_option maxHeartbeats 1000000 in
theorem size23 (a : Option Addr) (b o n c : Nat) (A : Nat → Option Addr) (L C : Nat → Nat) (w : World) (hn : n ≤ 9223372036854775807) (ha : 0 < n → a = some ⟨b, o, none⟩) (hT : Tops w b o n A L C) :
    Calls Try.prog 23 #[.slice a n c] w fun e w' => ∃ s, e = .returned (.int .i64 s) ∧ SzI n L s ∧ w = w' := by
  by_cases h : n ≤ 131072
  · go_enter Try.func23, Try.ntmps23
    go_wp2
    go_loopg [3, 4] n (fun g v3 v4 wx => (∃ (s : Int) (i : Nat), v3 = .int .i64 s ∧ v4 = .int .i64 i ∧ 0 ≤ s ∧ s ≤ 1048576 ∧ i ≤ n ∧ g = n - i ∧ Hid (∀ j, j < i → L j ≤ 524288)) ∧ wx = w)
    case atStart => exact ⟨⟨_, 0, rfl, rfl, by omega, by omega, Nat.zero_le _, rfl, fun j hj => by omega⟩, rfl⟩
    case round =>
    obtain ⟨⟨s, i, rfl, rfl, hs0, hs1, hi, hg, hH⟩, rfl⟩ := hrel
    by_cases hlt : i < n
    · obtain rfl := ha (by omega)
      obtain ⟨hc, hL⟩ := hT i hlt
      have C19 := size8 (A i) (L i) (C i) wr hL
      have hb := sz2_bd (L i)
      generalize hz : sz2 (L i) = z at *
      have HZ : Hid (sz2 (L i) = z) := hz
      clear hz
      obtain ⟨hb0, hb1, hb2⟩ := hb
      have HB : Hid (z ≤ 1048576 → L i ≤ 524288) := hb2
      clear hb2 hT ha
      by_cases hbig : s + z ≤ 1048576
      · go_wp2_with (go_at_call 8; refine C19.mono ?_; rintro e w' ⟨rfl, rfl⟩)
        go_roundg (n - (i + 1))
        case measure => omega
        case rel => exact ⟨⟨_, i + 1, rfl, by go_num, by omega, by omega, by omega, rfl, fun j hj => by
            by_cases e : j = i
            · rw [e]; exact HB.out (by omega)
            · exact hH.out j (by omega)⟩, rfl⟩
      · go_wp2_with (go_at_call 8; refine C19.mono ?_; rintro e w' ⟨rfl, rfl⟩)
        go_ret
        exact ⟨_, rfl, ⟨by omega, by omega, fun h => by omega⟩, rfl⟩
    · go_wp2
      go_ret
      exact ⟨_, rfl, ⟨hs0, by omega, fun _ => ⟨h, fun j hj => hH.out j (by omega)⟩⟩, rfl⟩
  · by_cases h2 : n ≤ 1048576
    · go_enter Try.func23, Try.ntmps23
      go_wp2
      go_ret
      exact ⟨_, rfl, ⟨by omega, by omega, fun h => by omega⟩, rfl⟩
    · go_enter Try.func23, Try.ntmps23
      go_wp2
      go_ret
      exact ⟨_, rfl, ⟨by omega, by omega, fun h => by omega⟩, rfl⟩

def SzC (K : Nat) (N : Nat → Nat) (L : Nat → Nat → Nat) (s : Int) : Prop := 0 ≤ s ∧ s ≤ 1048577 ∧ (s ≤ 1048576 → K ≤ 131072 ∧ ∀ k, k < K → N k ≤ 131072 ∧ ∀ i, i < N k → L k i ≤ 524288)

set_option maxHeartbeats 1000000 in
theorem size7 (a : Option Addr) (K c : Nat) (N : Nat → Nat) (L : Nat → Nat → Nat) (X : Nat → Nat → Nat → Int) (w : World) (m : ICube w a K N L X) :
    Calls Try.prog 7 #[.slice a K c] w fun e w' => ∃ s, e = .returned (.int .i64 s) ∧ SzC K N L s ∧ w = w' := by
  obtain ⟨b, o, A, C, hn, ha, bl, hT, hm⟩ := m
  clear bl
  have HM : Hid (∀ k, k < K → Nonempty (IMat w (A k) (N k) (L k) (X k))) := hm
  clear hm
  by_cases h : K ≤ 131072
  · go_enter Try.func7, Try.ntmps7
    go_wp2
    go_loopg [3, 4] K (fun g v3 v4 wx => (∃ (s : Int) (i : Nat), v3 = .int .i64 s ∧ v4 = .int .i64 i ∧ 0 ≤ s ∧ s ≤ 1048576 ∧ i ≤ K ∧ g = K - i ∧ Hid (∀ k, k < i → N k ≤ 131072 ∧ ∀ i, i < N k → L k i ≤ 524288)) ∧ wx = w)
    case atStart => exact ⟨⟨_, 0, rfl, rfl, by omega, by omega, Nat.zero_le _, rfl, fun j hj => by omega⟩, rfl⟩
    case round =>
    obtain ⟨⟨s, i, rfl, rfl, hs0, hs1, hi, hg, hH⟩, rfl⟩ := hrel
    by_cases hlt : i < K
    · obtain rfl := ha (by omega)
      obtain ⟨hc, hL⟩ := hT i hlt
      obtain ⟨m⟩ := HM.out i hlt
      have C23 := size23 (A i) m.b m.o (N i) (C i) m.A (L i) m.C wr m.n_le m.ad m.tops
      clear hT ha m
      go_wp2_with fail
      refine C23.mono ?_
      rintro e w' ⟨z, rfl, ⟨hb0, hb1, hb2⟩, rfl⟩
      have HB : Hid (z ≤ 1048576 → N i ≤ 131072 ∧ ∀ j, j < N i → L i j ≤ 524288) := hb2
      clear hb2 C23
      by_cases hbig : s + z ≤ 1048576
      · go_wp2
        go_roundg (K - (i + 1))
        case measure => omega
        case rel => exact ⟨⟨_, i + 1, rfl, by go_num, by omega, by omega, by omega, rfl, fun j hj => by
            by_cases e : j = i
            · rw [e]; exact HB.out (by omega)
            · exact hH.out j (by omega)⟩, rfl⟩
      · go_wp2
        go_ret
        exact ⟨_, rfl, ⟨by omega, by omega, fun h => by omega⟩, rfl⟩
    · go_wp2
      go_ret
      exact ⟨_, rfl, ⟨hs0, by omega, fun _ => ⟨h, fun j hj => hH.out j (by omega)⟩⟩, rfl⟩
  · by_cases h2 : K ≤ 1048576
    · go_enter Try.func7, Try.ntmps7
      go_wp2
      go_ret
      exact ⟨_, rfl, ⟨by omega, by omega, fun h => by omega⟩, rfl⟩
    · go_enter Try.func7, Try.ntmps7
      go_wp2
      go_ret
      exact ⟨_, rfl, ⟨by omega, by omega, fun h => by omega⟩, rfl⟩

set_option maxHeartbeats 400000 in
theorem shape24 (a : Option Addr) (b o n c : Nat) (A : Nat → Option Addr) (L C : Nat → Nat) (r q : Int) (w : World) (hn : n ≤ 9223372036854775807) (ha : 0 < n → a = some ⟨b, o, none⟩) (hT : Tops w b o n A L C) :
    Calls Try.prog 24 #[.slice a n c, .int .i64 r, .int .i64 q] w fun e w' => RetI e (Hid ((n : Int) = r ∧ ∀ i, i < n → (L i : Int) = q)) ∧ w = w' := by
  by_cases h : (n : Int) = r
  · subst h
    go_enter Try.func24, Try.ntmps24
    go_wp2
    go_loopg [7] n (fun g v7 wx => (∃ (i : Nat), v7 = .int .i64 i ∧ i ≤ n ∧ g = n - i ∧ Hid (∀ j, j < i → (L j : Int) = q)) ∧ wx = w)
    case atStart => exact ⟨⟨0, rfl, Nat.zero_le _, rfl, fun j hj => by omega⟩, rfl⟩
    case round =>
    obtain ⟨⟨i, rfl, hi, hg, hH⟩, rfl⟩ := hrel
    by_cases hlt : i < n
    · obtain rfl := ha (by omega)
      obtain ⟨hc, hL⟩ := hT i hlt
      clear hT ha
      by_cases hq : (L i : Int) = q
      · have hq' : ((L i : Int) != q) = false := by simp [hq]
        have HQ : Hid ((L i : Int) = q) := hq
        clear hq
        go_wp2
        go_roundg (n - (i + 1))
        case measure => omega
        case rel => exact ⟨⟨i + 1, by go_num, by omega, rfl, fun j hj => by
            by_cases e : j = i
            · rw [e]; exact HQ.out
            · exact hH.out j (by omega)⟩, rfl⟩
      · have hq' : ((L i : Int) != q) = true := by simp [hq]
        clear hq
        go_wp2
        go_ret
        exact ⟨⟨false, rfl, fun h => by simp at h⟩, rfl⟩
    · go_wp2
      go_ret
      exact ⟨⟨true, rfl, fun _ => hid ⟨by first | rfl | trivial, fun j hj => hH.out j (by omega)⟩⟩, rfl⟩
  · have h' : ((n : Int) != r) = true := by simp [h]
    clear h
    go_enter Try.func24, Try.ntmps24
    go_wp2
    go_ret
    exact ⟨⟨false, rfl, fun h => by simp at h⟩, rfl⟩

/-- What it means that the networks are of one shape. -/
def NetsP (K1 K2 nw : Nat) (N1 N2 : Nat → Nat) (L1 L2 : Nat → Nat → Nat) : Prop :=
  0 < K1 ∧ K2 = K1 ∧ K1 ≤ nw ∧ 0 < N1 0 ∧ 0 < N2 0 ∧ ∀ k, k < K1 → (N1 k = N1 0 ∧ ∀ i, i < N1 k → L1 k i = L1 0 0) ∧ (N2 k = N2 0 ∧ ∀ i, i < N2 k → L2 k i = L2 0 0)

set_option maxRecDepth 20000 in
set_option maxHeartbeats 1000000 in
theorem nets9 (a1 : Option Addr) (K1 c1 : Nat) (N1 : Nat → Nat) (L1 : Nat → Nat → Nat) (X1 : Nat → Nat → Nat → Int) (a2 : Option Addr) (K2 c2 : Nat) (N2 : Nat → Nat) (L2 : Nat → Nat → Nat) (X2 : Nat → Nat → Nat → Int)
    (aw : Option Addr) (nw cw : Nat) (w : World) (m1 : ICube w a1 K1 N1 L1 X1) (m2 : ICube w a2 K2 N2 L2 X2) (hnw : nw ≤ 9223372036854775807) :
    Calls Try.prog 9 #[.slice a1 K1 c1, .slice a2 K2 c2, .slice aw nw cw] w fun e w' => RetI e (Hid (NetsP K1 K2 nw N1 N2 L1 L2)) ∧ Dr w w' := by
  obtain ⟨b1, o1, A1, C1, hn1, ha1, bl1, hT1, hm1⟩ := m1
  obtain ⟨b2, o2, A2, C2, hn2, ha2, bl2, hT2, hm2⟩ := m2
  clear bl1 bl2
  have HM1 : Hid (∀ k, k < K1 → Nonempty (IMat w (A1 k) (N1 k) (L1 k) (X1 k))) := hm1
  have HM2 : Hid (∀ k, k < K2 → Nonempty (IMat w (A2 k) (N2 k) (L2 k) (X2 k))) := hm2
  have HT1 : Hid (Tops w b1 o1 K1 A1 N1 C1) := hT1
  have HT2 : Hid (Tops w b2 o2 K2 A2 N2 C2) := hT2
  clear hm1 hm2 hT1 hT2
  by_cases h0 : 0 < K1
  · by_cases h1 : K2 = K1
    · subst h1
      have h1' : ((K2 : Int) != (K2 : Int)) = false := by simp
      by_cases h2 : K2 ≤ nw
      · obtain rfl := ha1 h0
        obtain rfl := ha2 h0
        clear ha1 ha2
        obtain ⟨x1, y1⟩ := HT1.out 0 h0
        obtain ⟨x2, y2⟩ := HT2.out 0 h0
        rw [Nat.add_zero] at x1 x2
        by_cases h3 : 0 < N1 0
        · by_cases h4 : 0 < N2 0
          · obtain ⟨p1⟩ := HM1.out 0 h0
            obtain ⟨p2⟩ := HM2.out 0 h0
            obtain ⟨t1, u1⟩ := p1.tops 0 h3
            obtain ⟨t2, u2⟩ := p2.tops 0 h4
            rw [Nat.add_zero] at t1 t2
            have e1 := p1.ad h3
            have e2 := p2.ad h4
            rw [e1] at x1
            rw [e2] at x2
            generalize p1.b = pb1 at *
            generalize p1.o = po1 at *
            generalize p1.A 0 = pA1 at *
            generalize p1.C 0 = pC1 at *
            generalize p2.b = pb2 at *
            generalize p2.o = po2 at *
            generalize p2.A 0 = pA2 at *
            generalize p2.C 0 = pC2 at *
            clear e1 e2 p1 p2
            have h0i : (1 : Int) ≤ (K2 : Int) := by omega
            have h3i : (1 : Int) ≤ (N1 0 : Int) := by omega
            have h4i : (1 : Int) ≤ (N2 0 : Int) := by omega
            go_enter Try.func9, Try.ntmps9
            go_wp2
            go_quiet (fail)
            have hD : Dr w (w.drewN nq) := ⟨nq, rfl⟩
            obtain ⟨W, hW⟩ : ∃ W, W = w.drewN nq := ⟨_, rfl⟩
            rw [← hW] at hD ⊢
            clear hW
            have X2' := (hD.cell _).trans x2
            have T2' := (hD.cell _).trans t2
            clear x1 t1 x2 t2
            go_wp2
            go_quiet (fail)
            have hD2 := hD.more nq
            obtain ⟨W2, hW2⟩ : ∃ W2, W2 = W.drewN nq := ⟨_, rfl⟩
            rw [← hW2] at hD2 ⊢
            clear hW2 hD X2' T2'
            go_wp2
            go_loopg [12] K2 (fun g v12 wx => (∃ (k : Nat), v12 = .int .i64 k ∧ k ≤ K2 ∧ g = K2 - k ∧ Hid (∀ j, j < k → (N1 j = N1 0 ∧ ∀ i, i < N1 j → L1 j i = L1 0 0) ∧ (N2 j = N2 0 ∧ ∀ i, i < N2 j → L2 j i = L2 0 0)) ∧ Dr w wx))
            case atStart => exact ⟨0, rfl, Nat.zero_le _, rfl, hid fun j hj => by omega, hD2⟩
            case round =>
            clear hD2
            obtain ⟨k, rfl, hk, hg, hH, hD⟩ := hrel
            by_cases hlt : k < K2
            · have hdb := Dr_below hD w.heap.size
              obtain ⟨q1⟩ := HM1.out k hlt
              obtain ⟨q2⟩ := HM2.out k hlt
              have S1 := shape24 (A1 k) (q1.below hdb).b (q1.below hdb).o (N1 k) (C1 k) (q1.below hdb).A (L1 k) (q1.below hdb).C (N1 0) (L1 0 0) wr q1.n_le q1.ad (q1.below hdb).tops
              have S2 := shape24 (A2 k) (q2.below hdb).b (q2.below hdb).o (N2 k) (C2 k) (q2.below hdb).A (L2 k) (q2.below hdb).C (N2 0) (L2 0 0) wr q2.n_le q2.ad (q2.below hdb).tops
              clear q1 q2
              obtain ⟨x1, _⟩ := HT1.out k hlt
              obtain ⟨x2, _⟩ := HT2.out k hlt
              have z1 := (hD.cell _).trans x1
              have z2 := (hD.cell _).trans x2
              clear x1 x2
              go_wp2_with fail
              refine S1.mono ?_
              rintro e w' ⟨⟨t1, rfl, ht1⟩, rfl⟩
              clear S1
              cases t1 with
              | false =>
                clear S2
                go_wp2
                go_ret
                exact ⟨⟨false, rfl, fun h => by simp at h⟩, hD⟩
              | true =>
              go_wp2_with fail
              refine S2.mono ?_
              rintro e w' ⟨⟨t2, rfl, ht2⟩, rfl⟩
              clear S2
              cases t2 with
              | false =>
                go_wp2
                go_ret
                exact ⟨⟨false, rfl, fun h => by simp at h⟩, hD⟩
              | true =>
              have g1 := ht1 (by simp)
              have g2 := ht2 (by simp)
              clear ht1 ht2
              go_wp2
              go_roundg (K2 - (k + 1))
              case measure => omega
              case rel => exact ⟨k + 1, by go_num, by omega, rfl, hid fun j hj => by
                by_cases e : j = k
                · subst e
                  exact ⟨⟨by have := g1.out.1; omega, fun i hi => by have := g1.out.2 i hi; omega⟩, ⟨by have := g2.out.1; omega, fun i hi => by have := g2.out.2 i hi; omega⟩⟩
                · exact hH.out j (by omega), hD⟩
            · go_wp2
              go_ret
              exact ⟨⟨true, rfl, fun _ => hid ⟨h0, rfl, h2, h3, h4, fun k hk => hH.out k (by omega)⟩⟩, hD⟩
          · have h3i : (1 : Int) ≤ (N1 0 : Int) := by omega
            go_enter Try.func9, Try.ntmps9
            go_wp2
            go_ret
            exact ⟨⟨false, rfl, fun h => by simp at h⟩, Dr.refl _⟩
        · go_enter Try.func9, Try.ntmps9
          go_wp2
          go_ret
          exact ⟨⟨false, rfl, fun h => by simp at h⟩, Dr.refl _⟩
      · go_enter Try.func9, Try.ntmps9
        go_wp2
        go_ret
        exact ⟨⟨false, rfl, fun h => by simp at h⟩, Dr.refl _⟩
    · have h1' : ((K2 : Int) != (K1 : Int)) = true := by simp; omega
      go_enter Try.func9, Try.ntmps9
      go_wp2
      go_ret
      exact ⟨⟨false, rfl, fun h => by simp at h⟩, Dr.refl _⟩
  · go_enter Try.func9, Try.ntmps9
    go_wp2
    go_ret
    exact ⟨⟨false, rfl, fun h => by simp at h⟩, Dr.refl _⟩
end Go.Proofs.Qxb6606270a
