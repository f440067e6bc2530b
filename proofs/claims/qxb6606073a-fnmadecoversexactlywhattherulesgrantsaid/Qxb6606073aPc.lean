import Derived.Test.Qxb6606073aPb
import Derived.Deep.RegionLaw
set_option linter.unusedSimpArgs false
set_option linter.unusedVariables false
namespace Go.Proofs.Qxb6606073a
open Go.RowKit

/-- append, where its run is known, as one step of a region that draws. -/
theorem step_append_run {P : Program} {ops : Array Oper} {o : Oper} {a : Act} {w : World} {K : Act → World → Prop} {Q : Exit → Act → World → Prop} {E : Prop}
    (hg : o.guard = none) (s x : Operand) (t : TypeId) (hop : o.op = Op.call { callee := Callee.builtin Builtin.append, args := #[s, x], argTypes := #[t, t] })
    (v y r : Value) (w' : World) (hs : a.eval s = v) (hx : a.eval x = y) (hrun : (Builtin.append_ #[t, t] o.type #[v, y]).run P w = .ok r w')
    (hK : K (a.put o.dst r) w') : if Region.wanted o (yielded ops a.tmps) = true then Oper.wp P o a w K Q else E := by
  have hw : Region.wanted o (yielded ops a.tmps) = true := by simp [Region.wanted, hg]
  rw [if_pos hw]
  unfold Oper.wp
  simp only [execOp, hop, resolve, invoke, builtin, Sem.run_bind, Sem.run_pure, Result.andThen_ok, List.map_toArray, List.map_cons, List.map_nil, hs, hx, hrun]
  exact hK

/-- What made leaves. -/
def Made (e : EsD) (cb : Nat) (w : World) : Prop := ∃ ab pb, w.cell? ⟨cb, 1, none⟩ = some (.map (some ab)) ∧ w.cell? ⟨cb, 2, none⟩ = some (.map (some pb)) ∧ cb < w.heap.size ∧ ∃ w0, InS (cb + 1) ab pb w0 (pE e) (qE e) w

/-- The world behind the two makes. -/
def startW (wS : World) (s : Value) : World := ((wS.alloc (.cells #[s, .map (some (wS.heap.size + 1)), .map (some (wS.heap.size + 1 + 1))] 73)).alloc (.map #[] 0)).alloc (.map #[] 0)
theorem startW_size (wS : World) (s : Value) : (startW wS s).heap.size = wS.heap.size + 3 := by unfold startW; simp
theorem startW_below (wS : World) (s : Value) : Below wS.heap.size wS (startW wS s) := by
  unfold startW
  exact (((Below.refl _ _).alloc (Nat.le_refl _) _).alloc (by simp) _).alloc (by simp; omega) _
theorem startW_cell (wS : World) (s : Value) (i : Nat) : (startW wS s).cell? ⟨wS.heap.size, i, none⟩ = (#[s, .map (some (wS.heap.size + 1)), .map (some (wS.heap.size + 1 + 1))] : Array Value)[i]? := by
  unfold startW
  refine (World.cell?_of_block (a := ⟨wS.heap.size, i, none⟩) (heap_alloc_old _ _ (by simp; omega))).trans ?_
  refine (World.cell?_of_block (a := ⟨wS.heap.size, i, none⟩) (heap_alloc_old _ _ (by simp))).trans ?_
  exact box_cell _ _ _ _
theorem InS_start (wS : World) (s : Value) (p : Nat → Gr) (q : Nat → Li) : InS (wS.heap.size + 1) (wS.heap.size + 1) (wS.heap.size + 1 + 1) (startW wS s) (Acc p 0) (LAcc q 0) (startW wS s) := by
  obtain ⟨w1, hw1⟩ : ∃ w1, w1 = wS.alloc (.cells #[s, .map (some (wS.heap.size + 1)), .map (some (wS.heap.size + 1 + 1))] 73) := ⟨_, rfl⟩
  have hs1 : w1.heap.size = wS.heap.size + 1 := by rw [hw1]; simp
  have hst : startW wS s = (w1.alloc (.map #[] 0)).alloc (.map #[] 0) := by rw [hw1]; rfl
  have hs2 : (w1.alloc (.map #[] 0)).heap.size = wS.heap.size + 1 + 1 := by simp [hs1]
  have m1 := MapK.made w1 Try.prog 88 kfA
  have m2 := MapK.made (w1.alloc (.map #[] 0)) Try.prog 9 kfS
  rw [hs2, ← hst] at m2
  have m1 := m1.kept (w' := startW wS s) (by rw [hst]; exact heap_alloc_old _ _ (by simp))
  rw [hs1] at m1
  refine ⟨⟨fun k => if k = wS.heap.size + 1 then some (.inl false) else if k = wS.heap.size + 1 + 1 then some (.inl true) else none, fun _ => none, fun _ => none, ⟨Nat.le_refl _, if_pos rfl, m1, ?_, ?_, ?_⟩, ⟨by omega, ?_, m2, ?_, ?_⟩⟩, Below.refl _ _, by rw [startW_size]; omega⟩
  · intro a
    exact ⟨fun ⟨i, hi, _⟩ => by omega, fun ⟨nm, h⟩ => by cases h⟩
  · intro a q nb h
    cases h
  · intro a s _ ⟨i, hi, _⟩
    omega
  · simp
  · intro v u h
    cases h
  · intro v _
    rfl

set_option maxRecDepth 20000 in
set_option maxHeartbeats 4000000 in
theorem made48 (e : EsD) (wS : World) (sb : Nat) (he : e.ok wS) (hbd : Bd e) (hS : SubsG e wS sb e.n) :
    Calls Try.prog 48 #[.pointer (some ⟨wS.heap.size, 0, none⟩)] (wS.alloc (.cells #[.slice (some ⟨sb, 0, none⟩) e.n e.n, .map none, .map none] 73))
      fun en w' => en = .returned (.pointer (some ⟨wS.heap.size, 0, none⟩)) ∧ Below wS.heap.size wS w' ∧ Made e wS.heap.size w' := by
  have hnil : ∀ (w : World) (r : Option Nat), (binOp .neq 70 (.map r) (.map none)).run Try.prog w = .ok (.bool (!r.isNone)) w := fun w r => run_neq_map_nil w 70 88 92 r Try.underlying70
  have hmk : ∀ (t : TypeId) (w : World), (Instr.makeMap t none).run Try.prog w = .ok (.map (some w.heap.size)) (w.alloc (.map #[] 0)) := fun t w => rfl
  have hn := hbd.n
  have HE := hid he
  have HB := hid hbd
  have HS := hid hS
  clear he hbd hS
  generalize hn' : e.n = n at *
  have HN := hid hn'
  clear hn'
  go_enter Try.func48, Try.ntmps48
  go_wp2
  have g0 : InS (wS.heap.size + 1) (wS.heap.size + 1) (wS.heap.size + 1 + 1) _ _ _ _ := InS_start wS (.slice (some ⟨sb, 0, none⟩) n n) (fun i => pRs (e.rs i)) (fun i => qPs (e.ps i))
  have hbw := startW_below wS (.slice (some ⟨sb, 0, none⟩) n n)
  have x1 := startW_cell wS (.slice (some ⟨sb, 0, none⟩) n n) 1
  have x2 := startW_cell wS (.slice (some ⟨sb, 0, none⟩) n n) 2
  have hsz := startW_size wS (.slice (some ⟨sb, 0, none⟩) n n)
  simp only [List.getElem?_toArray, List.getElem?_cons_zero, List.getElem?_cons_succ] at x1 x2
  rw [show ((wS.alloc (.cells #[.slice (some ⟨sb, 0, none⟩) n n, .map (some (wS.heap.size + 1)), .map (some (wS.heap.size + 1 + 1))] 73)).alloc (.map #[] 0)).alloc (.map #[] 0) = startW wS (.slice (some ⟨sb, 0, none⟩) n n) from rfl]
  have HX : Hid (∀ wx, Below (wS.heap.size + 1) (startW wS (.slice (some ⟨sb, 0, none⟩) n n)) wx → e.ok wx ∧ SubsG e wx sb n ∧ Below wS.heap.size wS wx ∧ wx.cell? ⟨wS.heap.size, 1, none⟩ = some (.map (some (wS.heap.size + 1))) ∧ wx.cell? ⟨wS.heap.size, 2, none⟩ = some (.map (some (wS.heap.size + 1 + 1))) ∧ wS.heap.size + 1 ≤ wx.heap.size) := by
    intro wx hx
    have hx1 := hbw.trans (hx.mono (Nat.le_succ _))
    exact ⟨HE.out.below hx1, SubsG_below HS.out hx1, hx1, (hx.cell (p := ⟨wS.heap.size, 1, none⟩) (Nat.lt_succ_self _)).trans x1, (hx.cell (p := ⟨wS.heap.size, 2, none⟩) (Nat.lt_succ_self _)).trans x2, by have := hx.size; omega⟩
  have HL : Hid (∀ i j, i < e.n → j < (e.rs i).n → 0 < ((e.rs i).R j).m.n → ((e.rs i).R j).m.b < wS.heap.size + 1) := by
    intro i j hi hj h0
    have := (((HE.out.rs i hi).R j hj).m).lt h0
    omega
  have HSX : Hid (∀ i, i < n → ∃ gb rb nb, ∀ wx, Below (wS.heap.size + 1) (startW wS (.slice (some ⟨sb, 0, none⟩) n n)) wx → wx.cell? ⟨sb, i, none⟩ = some (.pointer (some ⟨gb, 0, none⟩)) ∧ SubAt e i wx (sb + 1) gb rb nb) := by
    intro i hi
    obtain ⟨gb, rb, nb, h1, h2⟩ := HS.out.at_ i hi
    refine ⟨gb, rb, nb, fun wx hx => ?_⟩
    have hx1 := hbw.trans (hx.mono (Nat.le_succ _))
    exact ⟨(hx1.cell (p := ⟨sb, i, none⟩) HS.out.lt).trans h1, h2.kept (Above.of_below hx1)⟩
  clear HE HS hsz x1 x2 hbw hnil hmk
  generalize startW wS (.slice (some ⟨sb, 0, none⟩) n n) = w0 at *
  generalize hcb : wS.heap.size = cb at *
  have HCB := hid hcb
  clear hcb
  generalize cb + 1 + 1 = pb at *
  have hcB : cb < cb + 1 := Nat.lt_succ_self _
  generalize hBB : cb + 1 = B at *
  have HBB := hid hBB
  clear hBB
  go_loopg [36] n (fun g v wx => ∃ (i : Nat), v = .int .i64 i ∧ i ≤ n ∧ g = n - i ∧ InS B B pb w0 (Acc (fun i => pRs (e.rs i)) i) (LAcc (fun i => qPs (e.ps i)) i) wx)
  case atStart => exact ⟨0, rfl, Nat.zero_le _, rfl, g0⟩
  case round =>
  clear g0
  obtain ⟨i, rfl, hi, hg, F⟩ := hrel
  by_cases hlt : i < n
  · have hsi : i < e.n := by rw [HN.out]; exact hlt
    obtain ⟨gb, rb, nb, hSX⟩ := HSX.out i hlt
    have HI := hid hSX
    have hgc := (HI.out wr F.bel).1
    have f5 := (HI.out wr F.bel).2.f5
    have hrn := HB.out.rn i hsi
    obtain ⟨G1, hG1⟩ : ∃ G, G = Acc (fun i => pRs (e.rs i)) i := ⟨_, rfl⟩
    obtain ⟨L1, hL1⟩ : ∃ L, L = LAcc (fun i => qPs (e.ps i)) i := ⟨_, rfl⟩
    rw [← hG1, ← hL1] at F
    have HGE : Hid (Or2 G1 (Acc (fun j => pR ((e.rs i).R j)) (e.rs i).n) = Acc (fun i => pRs (e.rs i)) (i + 1)) := by rw [hG1]; exact Acc_succ (fun i => pRs (e.rs i)) i
    have HLE : Hid (Cat L1 (LAcc (fun j => qP ((e.ps i).P j)) (e.ps i).n) = LAcc (fun i => qPs (e.ps i)) (i + 1)) := by rw [hL1]; rfl
    have HLEN : Hid (∀ j k v, j < (e.ps i).n → k < ((e.ps i).P j).v.n → ((Cat (Cat L1 (LAcc (fun j => qP ((e.ps i).P j)) j)) (LAcc (qV ((e.ps i).P j)) k)) v).length + ((e.ps i).P j).u.n ≤ 4398046511104) := by
      intro j k v hj hk
      rw [hL1]
      exact len_st e HB.out hsi hj hk v
    clear hG1 hL1 hSX
    generalize hm' : (e.rs i).n = m at *
    have HM := hid hm'
    clear hm'
    go_wp2
    go_loopg [45] m (fun g v wx => ∃ (j : Nat), v = .int .i64 j ∧ j ≤ m ∧ g = m - j ∧ InS B B pb w0 (Or2 G1 (Acc (fun j => pR ((e.rs i).R j)) j)) L1 wx)
    case atStart => exact ⟨0, rfl, Nat.zero_le _, rfl, by rw [Or2_zero]; exact F⟩
    case round =>
    clear F f5 hgc
    obtain ⟨j, rfl, hj, hgj, F⟩ := hrel
    by_cases hjm : j < m
    · have hsj : j < (e.rs i).n := by rw [HM.out]; exact hjm
      have hRC := (HI.out wr F.bel).2.R
      have q0 := hRC.c0 j hsj
      have q1 := hRC.c1 j hsj
      have q2 := hRC.c2 j hsj
      have q3 := hRC.c3 j hsj
      have q4 := hRC.c4 j hsj
      have q5 := hRC.c5 j hsj
      clear hRC
      have HR : Hid (∀ wx, Below B w0 wx → ((e.rs i).R j).ok wx) := fun wx hx => ((HX.out wx hx).1.rs i hsi).R j hsj
      have HRm := hid (HL.out i j hsi hsj)
      have hvn := HB.out.rv i j hsi hsj
      have hgn := HB.out.rg i j hsi hsj
      have hrr := HB.out.rr i j hsi hsj
      have hmn := HB.out.rm i j hsi hsj
      obtain ⟨G2, hG2⟩ : ∃ G, G = Or2 G1 (Acc (fun j => pR ((e.rs i).R j)) j) := ⟨_, rfl⟩
      have HG2 : Hid (Or2 G2 (pR ((e.rs i).R j)) = Or2 G1 (Acc (fun j => pR ((e.rs i).R j)) (j + 1))) := by rw [hG2]; exact Or2_succ G1 (fun j => pR ((e.rs i).R j)) j
      rw [← hG2] at F
      clear hG2
      generalize (e.rs i).R j = r at *
      obtain ⟨va, nv, vc, vb, vo, vS, ga, ng, gc, gb', go, gS, ra, nr, rc, rb', ro, rS, ma, nm, mc, mb, mo, mS, ya, ny, yc, yb, yo, yS, rq, hre⟩ : ∃ va nv vc vb vo vS ga ng gc gb' go gS ra nr rc rb' ro rS ma nm mc mb mo mS ya ny yc yb yo yS rq, r = ⟨⟨va, nv, vc, vb, vo, vS⟩, ⟨ga, ng, gc, gb', go, gS⟩, ⟨ra, nr, rc, rb', ro, rS⟩, ⟨ma, nm, mc, mb, mo, mS⟩, ⟨ya, ny, yc, yb, yo, yS⟩, rq⟩ := ⟨_, _, _, _, _, _, _, _, _, _, _, _, _, _, _, _, _, _, _, _, _, _, _, _, _, _, _, _, _, _, _, rfl⟩
      have F3 : InR B B pb w0 G2 L1 r wr.heap.size (wr.alloc (.cells #[.slice va nv vc, .slice ga ng gc, .slice ra nr rc, .slice ma nm mc, .slice ya ny yc, .bool rq] 34)) := by
        have := F.rbox r
        rw [hre] at this ⊢
        exact this
      have HVS : Hid (∀ wx, Below B w0 wx → (∀ k, k < nv → wx.cell? ⟨vb, vo + k, none⟩ = some (.string (vS k)))) := by
        intro wx hx; have := HR.out wx hx; rw [hre] at this; exact this.v.cel
      have HGS : Hid (∀ wx, Below B w0 wx → (∀ k, k < ng → wx.cell? ⟨gb', go + k, none⟩ = some (.string (gS k)))) := by
        intro wx hx; have := HR.out wx hx; rw [hre] at this; exact this.g.cel
      have HRS : Hid (∀ wx, Below B w0 wx → (∀ k, k < nr → wx.cell? ⟨rb', ro + k, none⟩ = some (.string (rS k)))) := by
        intro wx hx; have := HR.out wx hx; rw [hre] at this; exact this.r.cel
      have HMO : Hid (∀ wx, Below B w0 wx → (⟨ma, nm, mc, mb, mo, mS⟩ : SD).ok wx) := by
        intro wx hx; have := HR.out wx hx; rw [hre] at this; exact this.m
      have HKO : Hid (∀ k l h, k < nv → l < ng → h < nr → KeyOk Try.prog 88 (kfA (vS k, gS l, rS h, rq))) := by
        intro k l h hk hl hh; have := HR.out wr F.bel; rw [hre] at this; exact okA _ (this.v.sz k hk) (this.g.sz l hl) (this.r.sz h hh)
      have HVA : Hid (0 < nv → va = some ⟨vb, vo, none⟩) := by have := HR.out wr F.bel; rw [hre] at this; exact this.v.ad
      have HGA : Hid (0 < ng → ga = some ⟨gb', go, none⟩) := by have := HR.out wr F.bel; rw [hre] at this; exact this.g.ad
      have HRA : Hid (0 < nr → ra = some ⟨rb', ro, none⟩) := by have := HR.out wr F.bel; rw [hre] at this; exact this.r.ad
      have HBX : Hid (∀ wx x, RBox r wx x → wx.cell? ⟨x, 0, none⟩ = some (.slice va nv vc) ∧ wx.cell? ⟨x, 1, none⟩ = some (.slice ga ng gc) ∧ wx.cell? ⟨x, 2, none⟩ = some (.slice ra nr rc) ∧ wx.cell? ⟨x, 3, none⟩ = some (.slice ma nm mc) ∧ wx.cell? ⟨x, 5, none⟩ = some (.bool rq)) := by
        intro wx x h; rw [hre] at h; exact ⟨h.c0, h.c1, h.c2, h.c3, h.c5⟩
      have HAD : Hid (∀ G k l h, addG G (vS k, gS l, rS h, rq) ⟨ma, nm, mc, mb, mo, mS⟩ nm = Or2 G (pM r k l h)) := by rw [hre]; intro G k l h; rfl
      have HPG : Hid (∀ k l, Acc (pM r k l) nr = pG r k l) := by rw [hre]; intro k l; rfl
      have HPV : Hid (∀ k, Acc (pG r k) ng = pV r k) := by rw [hre]; intro k; rfl
      have HPR : Hid (Acc (pV r) nv = pR r) := by rw [hre]; rfl
      rw [hre] at q0 q1 q2 q3 q4 q5 hvn hgn hrr hmn HRm
      simp only [SD.val] at q0 q1 q2 q3 q4 q5 hvn hgn hrr hmn HRm
      clear F HR hre
      go_wp2
      generalize wr.alloc (.cells #[.slice va nv vc, .slice ga ng gc, .slice ra nr rc, .slice ma nm mc, .slice ya ny yc, .bool rq] 34) = W3 at F3 ⊢
      generalize wr.heap.size = x at F3 ⊢
      clear q0 q1 q2 q3 q4 q5
      go_loopg [52] nv (fun g v wx => ∃ (k : Nat), v = .int .i64 k ∧ k ≤ nv ∧ g = nv - k ∧ InR B B pb w0 (Or2 G2 (Acc (pV r) k)) L1 r x wx)
      case atStart => exact ⟨0, rfl, Nat.zero_le _, rfl, by rw [Or2_zero]; exact F3⟩
      case round =>
      clear F3
      obtain ⟨k, rfl, hk, hgk, F⟩ := hrel
      by_cases hkv : k < nv
      · obtain rfl := HVA.out (by omega)
        have c0 := HVS.out wr F.bel k hkv
        obtain ⟨_, c1, _, _, _⟩ := HBX.out wr x F.box
        obtain ⟨G3, hG3⟩ : ∃ G, G = Or2 G2 (Acc (pV r) k) := ⟨_, rfl⟩
        have HG3 : Hid (Or2 G3 (pV r k) = Or2 G2 (Acc (pV r) (k + 1))) := by rw [hG3]; exact Or2_succ G2 (pV r) k
        rw [← hG3] at F
        clear hG3
        go_wp2
        go_loopg [59] ng (fun g v wx => ∃ (l : Nat), v = .int .i64 l ∧ l ≤ ng ∧ g = ng - l ∧ InR B B pb w0 (Or2 G3 (Acc (pG r k) l)) L1 r x wx)
        case atStart => exact ⟨0, rfl, Nat.zero_le _, rfl, by rw [Or2_zero]; exact F⟩
        case round =>
        clear F c0 c1
        obtain ⟨l, rfl, hl, hgl, F⟩ := hrel
        by_cases hlg : l < ng
        · obtain rfl := HGA.out (by omega)
          have c0 := HGS.out wr F.bel l hlg
          obtain ⟨_, _, c1, _, _⟩ := HBX.out wr x F.box
          obtain ⟨G4, hG4⟩ : ∃ G, G = Or2 G3 (Acc (pG r k) l) := ⟨_, rfl⟩
          have HG4 : Hid (Or2 G4 (pG r k l) = Or2 G3 (Acc (pG r k) (l + 1))) := by rw [hG4]; exact Or2_succ G3 (pG r k) l
          rw [← hG4] at F
          clear hG4
          go_wp2
          go_loopg [66] nr (fun g v wx => ∃ (h : Nat), v = .int .i64 h ∧ h ≤ nr ∧ g = nr - h ∧ InR B B pb w0 (Or2 G4 (Acc (pM r k l) h)) L1 r x wx)
          case atStart => exact ⟨0, rfl, Nat.zero_le _, rfl, by rw [Or2_zero]; exact F⟩
          case round =>
          clear F c0 c1
          obtain ⟨h, rfl, hh, hgh, F⟩ := hrel
          by_cases hhr : h < nr
          · obtain rfl := HRA.out (by omega)
            have c0 := HRS.out wr F.bel h hhr
            obtain ⟨_, _, _, c3, c5⟩ := HBX.out wr x F.box
            obtain ⟨T, H, V, k1, k2, k3⟩ := F.ex
            obtain ⟨_, _, _, x1, _, hle⟩ := HX.out wr F.bel
            have C := hold52 B cb B (vS k, gS l, rS h, rq) ⟨ma, nm, mc, mb, mo, mS⟩ wr T _ H hcB hle x1 k1 (HMO.out wr F.bel) HRm.out hmn (HKO.out k l h hkv hlg hhr)
            have HF := hid F
            have K2 := hid k2
            have K3 := hid k3
            clear F k1 k2 k3
            unfold kfA SD.val at C
            go_wp2_with fail
            refine C.mono ?_
            rintro en w2 hE
            have F2 := InR.hold (H := H) K2.out K3.out HF.out.bel HF.out.le HF.out.box hE
            rw [HAD.out, Or2_succ] at F2
            obtain rfl := hE.1
            clear C hE K2 K3 HF c0 c3 c5 x1
            go_wp2
            go_roundg (nr - (h + 1))
            case measure => omega
            case rel => exact ⟨h + 1, by go_num, by omega, rfl, F2⟩
          · obtain rfl : h = nr := by omega
            rw [HPG.out, HG4.out] at F
            go_wp2
            go_roundg (ng - (l + 1))
            case measure => omega
            case rel => exact ⟨l + 1, by go_num, by omega, rfl, F⟩
        · obtain rfl : l = ng := by omega
          rw [HPV.out, HG3.out] at F
          go_wp2
          go_roundg (nv - (k + 1))
          case measure => omega
          case rel => exact ⟨k + 1, by go_num, by omega, rfl, F⟩
      · obtain rfl : k = nv := by omega
        rw [HPR.out, HG2.out] at F
        go_wp2
        go_roundg (m - (j + 1))
        case measure => omega
        case rel => exact ⟨j + 1, by go_num, by omega, rfl, F.out⟩
    · obtain rfl : j = m := by omega
      rw [HGE.out] at F
      clear HGE HL
      have f6 := (HI.out wr F.bel).2.f6
      have hpn := HB.out.pn i hsi
      obtain ⟨G5, hG5⟩ : ∃ G, G = Acc (fun i => pRs (e.rs i)) (i + 1) := ⟨_, rfl⟩
      rw [← hG5] at F
      have HG5 := hid hG5
      clear hG5
      generalize hl' : (e.ps i).n = l at *
      have HLN := hid hl'
      clear hl'
      go_wp2
      go_loopg [90] l (fun g v wx => ∃ (j : Nat), v = .int .i64 j ∧ j ≤ l ∧ g = l - j ∧ InS B B pb w0 G5 (Cat L1 (LAcc (fun j => qP ((e.ps i).P j)) j)) wx)
      case atStart => exact ⟨0, rfl, Nat.zero_le _, rfl, by rw [Cat_zero]; exact F⟩
      case round =>
      clear F f6
      obtain ⟨y, rfl, hy, hgy, F⟩ := hrel
      by_cases hyl : y < l
      · have hsy : y < (e.ps i).n := by rw [HLN.out]; exact hyl
        have hNC := (HI.out wr F.bel).2.N
        have q0 := hNC.c0 y hsy
        have q1 := hNC.c1 y hsy
        have q2 := hNC.c2 y hsy
        have HP : Hid (∀ wx, Below B w0 wx → ((e.ps i).P y).ok wx) := fun wx hx => ((HX.out wx hx).1.ps i hsi).P y hsy
        have hvn := HB.out.pv i y hsi hsy
        have HLEN2 := hid (fun k v hk => HLEN.out y k v hyl hk)
        obtain ⟨L6, hL6⟩ : ∃ L, L = Cat L1 (LAcc (fun j => qP ((e.ps i).P j)) y) := ⟨_, rfl⟩
        have HL6 : Hid (Cat L6 (qP ((e.ps i).P y)) = Cat L1 (LAcc (fun j => qP ((e.ps i).P j)) (y + 1))) := by rw [hL6]; exact Cat_succ L1 (fun j => qP ((e.ps i).P j)) y
        rw [← hL6] at F HLEN2
        clear hL6 hNC
        generalize (e.ps i).P y = p at *
        obtain ⟨va, nv, vc, vb, vo, vS, ua, nu, uc, ub, uo, uS, hpe⟩ : ∃ va nv vc vb vo vS ua nu uc ub uo uS, p = ⟨⟨va, nv, vc, vb, vo, vS⟩, ⟨ua, nu, uc, ub, uo, uS⟩⟩ := ⟨_, _, _, _, _, _, _, _, _, _, _, _, rfl⟩
        have F3 : InP B B pb w0 G5 L6 p wr.heap.size (wr.alloc (.cells #[.slice va nv vc, .slice ua nu uc, .slice none 0 0] 76)) := by
          have := F.pbox p (.slice none 0 0)
          rw [hpe] at this ⊢
          exact this
        have HVS : Hid (∀ wx, Below B w0 wx → (∀ k, k < nv → wx.cell? ⟨vb, vo + k, none⟩ = some (.string (vS k)))) := by
          intro wx hx; have := HP.out wx hx; rw [hpe] at this; exact this.v.cel
        have HVZ : Hid (∀ k, k < nv → (vS k).size ≤ 9223372036854775807) := by
          have := HP.out wr F.bel; rw [hpe] at this; exact this.v.sz
        have HVA : Hid (0 < nv → va = some ⟨vb, vo, none⟩) := by have := HP.out wr F.bel; rw [hpe] at this; exact this.v.ad
        have HBX : Hid (∀ wx x, PBox p wx x → wx.cell? ⟨x, 0, none⟩ = some (.slice va nv vc) ∧ wx.cell? ⟨x, 1, none⟩ = some (.slice ua nu uc)) := by
          intro wx x h; rw [hpe] at h; exact ⟨h.c0, h.c1⟩
        have HAL : Hid (∀ L k, addL L (vS k) p.u = Cat L (qV p k)) := by rw [hpe]; intro L k; rfl
        have HQP : Hid (LAcc (qV p) nv = qP p) := by rw [hpe]; rfl
        have HUV : Hid (p.u.val = .slice ua nu uc) := by rw [hpe]; rfl
        have HNV : Hid (p.v.n = nv) := by rw [hpe]; rfl
        rw [hpe] at q0 q1 hvn
        simp only [SD.val] at q0 q1 q2 hvn
        clear F hpe
        go_wp2
        generalize wr.alloc (.cells #[.slice va nv vc, .slice ua nu uc, .slice none 0 0] 76) = W3 at F3 ⊢
        generalize wr.heap.size = x at F3 ⊢
        clear q0 q1 q2
        go_loopg [97] nv (fun g v wx => ∃ (k : Nat), v = .int .i64 k ∧ k ≤ nv ∧ g = nv - k ∧ InP B B pb w0 G5 (Cat L6 (LAcc (qV p) k)) p x wx)
        case atStart => exact ⟨0, rfl, Nat.zero_le _, rfl, by rw [Cat_zero]; exact F3⟩
        case round =>
        clear F3
        obtain ⟨k, rfl, hk, hgk, F⟩ := hrel
        by_cases hkv : k < nv
        · obtain rfl := HVA.out (by omega)
          have c0 := HVS.out wr F.bel k hkv
          have c1 := (HBX.out wr x F.box).2
          have x2 := (HX.out wr F.bel).2.2.2.2.1
          obtain ⟨a', n', c', x', w1, w2, r1, r2, r3, hb1, F2⟩ := F.step (v := vS k) (HVZ.out k hkv) (HP.out wr F.bel).u (HLEN2.out k (vS k) (by rw [HNV.out]; exact hkv)) 23
          have y2 := (hb1.cell (p := ⟨cb, 2, none⟩) hcB).trans x2
          rw [HAL.out, Cat_succ] at F2
          rw [HUV.out] at r2
          clear F hb1
          go_wp2
          go_region_law (refine step_append_run rfl (.tmp 111) (.tmp 113) 23 rfl (.slice a' n' c') (.slice ua nu uc) x' w1 (by simp [Act.eval, Act.put]) (by simp [Act.eval, Act.put]) r2 ?_)
          all_goals go_wp2
          all_goals go_roundg (nv - (k + 1))
          all_goals first | omega | exact ⟨k + 1, by go_num, by omega, rfl, F2⟩
        · obtain rfl : k = nv := by omega
          rw [HQP.out, HL6.out] at F
          go_wp2
          go_roundg (l - (y + 1))
          case measure => omega
          case rel => exact ⟨y + 1, by go_num, by omega, rfl, F.out⟩
      · obtain rfl : y = l := by omega
        rw [HLE.out, HG5.out] at F
        go_wp2
        go_roundg (n - (i + 1))
        case measure => omega
        case rel => exact ⟨i + 1, by go_num, by omega, rfl, F⟩
  · obtain rfl : i = n := by omega
    obtain ⟨_, _, hbS, x1, x2, hle⟩ := HX.out wr F.bel
    have HN' := HN.out
    have HCB' := HCB.out
    have HBB' := HBB.out
    clear HN HCB HBB HX HL HSX HB
    go_wp2
    go_ret
    rw [HCB']
    refine ⟨rfl, hbS, B, pb, x1, x2, by omega, w0, ?_⟩
    rw [HBB']
    unfold pE qE
    rw [HN']
    exact F
end Go.Proofs.Qxb6606073a
