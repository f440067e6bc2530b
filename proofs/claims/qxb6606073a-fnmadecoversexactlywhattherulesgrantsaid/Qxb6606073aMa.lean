/-
  A map's block as a plain function of its keys: the look-up and the store. No program in this text.
-/
import Derived.Maps.Keyed
import Derived.Maps.Own
import Derived.Maps.AppendAt
import Derived.Below
set_option linter.unusedSimpArgs false
set_option linter.unusedVariables false
set_option linter.unusedSectionVars false
namespace Go.Proofs.Qxb6606073a
open Go Go.ChangeMaps Go.MapKept
open Go.Maps (Keyed)

section
variable {α : Type} [DecidableEq α] {P : Program} {k : TypeId} {kf : α → Value}

/-- A value that may be a key. -/
def KeyOk (P : Program) (k : TypeId) (v : Value) : Prop := ∃ l, keyOf P k v = some l

/-- Block b is a map that holds M. -/
def MapK (P : Program) (k : TypeId) (kf : α → Value) (w : World) (b : Nat) (M : α → Option Value) : Prop :=
  ∃ es clock, w.heap[b]? = some (.map es clock) ∧ (∀ e ∈ es.toList, ∃ a, e.key = kf a ∧ KeyOk P k (kf a) ∧ M a = some e.val) ∧ (∀ a v, M a = some v → ∃ e ∈ es.toList, e.key = kf a) ∧
    ∀ (i j : Nat) (x y : MapEntry), es.toList[i]? = some x → es.toList[j]? = some y → x.key = y.key → i = j

def putM (M : α → Option Value) (a : α) (v : Value) : α → Option Value := fun a' => if a' = a then some v else M a'

theorem MapK.lt {w : World} {b : Nat} {M : α → Option Value} (h : MapK P k kf w b M) : b < w.heap.size := by
  obtain ⟨es, clock, hb, _⟩ := h
  exact (Array.getElem?_eq_some_iff.1 hb).1

theorem MapK.kept {w w' : World} {b : Nat} {M : α → Option Value} (h : MapK P k kf w b M) (hb : w'.heap[b]? = w.heap[b]?) : MapK P k kf w' b M := by
  obtain ⟨es, clock, h1, h2⟩ := h
  exact ⟨es, clock, hb.trans h1, h2⟩

theorem MapK.made (w : World) (P : Program) (k : TypeId) (kf : α → Value) : MapK P k kf (w.alloc (.map #[] 0)) w.heap.size (fun _ => none) :=
  ⟨#[], 0, (MapKept.heap_alloc w _).1, by simp, by simp, by simp⟩

theorem MapK.look {w : World} {b : Nat} {M : α → Option Value} (h : MapK P k kf w b M) (K : Keyed P k) (inj : ∀ a a', kf a = kf a' → a = a') {t e : TypeId} (ht : P.underlying t = some (.map k e))
    {z : Value} (hz : (zeroValue e).run P w = .ok z w) {a : α} (hk : KeyOk P k (kf a)) : (Instr.lookup t (.map (some b)) (kf a) false).run P w = .ok ((M a).getD z) w := by
  obtain ⟨es, clock, hb, h2, h3, h4⟩ := h
  obtain ⟨l, hl⟩ := hk
  rcases K.find w hl es.toList (fun e he => by obtain ⟨a', e1, ⟨l', hl'⟩, _⟩ := h2 e he; exact ⟨l', by rw [e1]; exact hl'⟩) with ⟨f1, f2⟩ | ⟨j, e0, f1, f2, f3⟩
  · have hn : M a = none := by
      cases hM : M a with
      | none => rfl
      | some v => obtain ⟨e, he, ek⟩ := h3 a v hM; exact absurd ek (f2 e he)
    simp [Instr.lookup, run_underlying ht, MapKept.run_getObj_map hb, K.check w _ hl, f1, hz, Result.andThen, hn]
  · obtain ⟨a', e1, _, hM⟩ := h2 e0 (List.mem_of_getElem? f2)
    have : a = a' := inj _ _ (f3.symm.trans e1)
    subst this
    simp [Instr.lookup, run_underlying ht, MapKept.run_getObj_map hb, K.check w _ hl, f1, Result.andThen, hM]

theorem MapK.put {w : World} {b : Nat} {M : α → Option Value} (h : MapK P k kf w b M) (K : Keyed P k) (inj : ∀ a a', kf a = kf a' → a = a') {t e : TypeId} (ht : P.underlying t = some (.map k e))
    {a : α} (hk : KeyOk P k (kf a)) (v : Value) : ∃ w', (Instr.mapUpdate t (.map (some b)) (kf a) v).run P w = .ok () w' ∧ MapK P k kf w' b (putM M a v) ∧ w.grownBy w' (some b) := by
  obtain ⟨es, clock, hb, h2, h3, h4⟩ := h
  have hk0 := hk
  obtain ⟨l, hl⟩ := hk
  have keys : ∀ e ∈ es.toList, ∃ l, keyOf P k e.key = some l := fun e he => by obtain ⟨a', e1, ⟨l', hl'⟩, _⟩ := h2 e he; exact ⟨l', by rw [e1]; exact hl'⟩
  rcases K.find w hl es.toList keys with ⟨f1, f2⟩ | ⟨j, e0, f1, f2, f3⟩
  · refine ⟨setBlock w b (.map (es.push ⟨kf a, v, clock⟩) (clock + 1)), ?_, ⟨es.push ⟨kf a, v, clock⟩, clock + 1, heap_setBlock_same hb _, ?_, ?_, ?_⟩, ⟨rfl, rfl, rfl, by simp [setBlock], fun i _ hi => heap_setBlock_other hb _ (fun e => hi (by rw [e]))⟩⟩
    · simp [Instr.mapUpdate, run_underlying ht, MapKept.run_getObj_map hb, K.check w false hl, f1, MapKept.run_setObj_map _ hb, Result.andThen, setBlock]
    · intro e he
      simp only [Array.toList_push, List.mem_append, List.mem_singleton] at he
      rcases he with he | rfl
      · obtain ⟨a', e1, e2, e3⟩ := h2 e he
        refine ⟨a', e1, e2, ?_⟩
        unfold putM
        rw [if_neg (fun h => f2 e he (by rw [e1, h]))]
        exact e3
      · exact ⟨a, rfl, hk0, by unfold putM; rw [if_pos rfl]⟩
    · intro a' u hu
      unfold putM at hu
      by_cases h : a' = a
      · subst h
        exact ⟨⟨kf a', v, clock⟩, by simp, rfl⟩
      · rw [if_neg h] at hu
        obtain ⟨e, he, ek⟩ := h3 a' u hu
        exact ⟨e, by simp [he], ek⟩
    · intro i i' x y hx hy hxy
      simp only [Array.toList_push] at hx hy
      have g : ∀ (n : Nat) (z : MapEntry), (es.toList ++ [⟨kf a, v, clock⟩])[n]? = some z → (n < es.toList.length ∧ es.toList[n]? = some z) ∨ (n = es.toList.length ∧ z.key = kf a) := by
        intro n z hz
        by_cases hn : n < es.toList.length
        · rw [List.getElem?_append_left hn] at hz; exact .inl ⟨hn, hz⟩
        · rw [List.getElem?_append_right (by omega)] at hz
          have : n - es.toList.length = 0 := by
            by_cases h0 : n - es.toList.length = 0
            · exact h0
            · rw [List.getElem?_eq_none (by rw [List.length_singleton]; omega)] at hz; cases hz
          rw [this] at hz
          simp at hz
          exact .inr ⟨Nat.le_antisymm (Nat.le_of_sub_eq_zero this) (Nat.le_of_not_lt hn), by rw [← hz]⟩
      rcases g i x hx with ⟨hi, hx'⟩ | ⟨hi, hx'⟩ <;> rcases g i' y hy with ⟨hi', hy'⟩ | ⟨hi', hy'⟩
      · exact h4 i i' x y hx' hy' hxy
      · exact absurd (hxy.trans hy') (f2 x (List.mem_of_getElem? hx'))
      · exact absurd (hxy.symm.trans hx') (f2 y (List.mem_of_getElem? hy'))
      · omega
  · have hj : es[j]? = some e0 := by simpa using f2
    have hlist : (es.modify j (fun e' => { e' with key := kf a, val := v })).toList = es.toList.set j { e0 with key := kf a, val := v } := by rw [Array.toList_modify, modify_eq_set _ _ _ _ f2]
    have who : ∀ (n : Nat) (z : MapEntry), (es.toList.set j { e0 with key := kf a, val := v })[n]? = some z → (n = j ∧ z.key = kf a ∧ z.val = v) ∨ (n ≠ j ∧ es.toList[n]? = some z) := by
      intro n z hz
      by_cases hn : n = j
      · subst hn
        have hlt : n < es.toList.length := (List.getElem?_eq_some_iff.1 f2).1
        rw [List.getElem?_set_self hlt] at hz
        simp at hz
        exact .inl ⟨rfl, by rw [← hz], by rw [← hz]⟩
      · rw [List.getElem?_set_ne (fun e => hn e.symm)] at hz
        exact .inr ⟨hn, hz⟩
    refine ⟨setBlock w b (.map (es.modify j (fun e' => { e' with key := kf a, val := v })) clock), ?_, ⟨es.modify j (fun e' => { e' with key := kf a, val := v }), clock, heap_setBlock_same hb _, ?_, ?_, ?_⟩, ⟨rfl, rfl, rfl, by simp [setBlock], fun i _ hi => heap_setBlock_other hb _ (fun e => hi (by rw [e]))⟩⟩
    · simp [Instr.mapUpdate, run_underlying ht, MapKept.run_getObj_map hb, K.check w false hl, f1, hj, f3, K.stays w hl, MapKept.run_setObj_map _ hb, Result.andThen, setBlock]
    · intro e he
      rw [hlist] at he
      obtain ⟨n, hn⟩ := List.mem_iff_getElem?.1 he
      rcases who n e hn with ⟨_, k1, k2⟩ | ⟨hne, hz⟩
      · exact ⟨a, k1, hk0, by unfold putM; rw [if_pos rfl, k2]⟩
      · obtain ⟨a', e1, e2, e3⟩ := h2 e (List.mem_of_getElem? hz)
        refine ⟨a', e1, e2, ?_⟩
        unfold putM
        rw [if_neg (fun h => hne (h4 n j e e0 hz f2 (by rw [e1, f3, h])))]
        exact e3
    · intro a' u hu
      rw [hlist]
      have hlt : j < es.toList.length := (List.getElem?_eq_some_iff.1 f2).1
      unfold putM at hu
      by_cases h : a' = a
      · subst h
        exact ⟨{ e0 with key := kf a', val := v }, List.mem_of_getElem? (i := j) (by rw [List.getElem?_set_self hlt]), rfl⟩
      · rw [if_neg h] at hu
        obtain ⟨e, he, ek⟩ := h3 a' u hu
        obtain ⟨n, hn⟩ := List.mem_iff_getElem?.1 he
        have hne : n ≠ j := by
          intro e1
          subst e1
          rw [f2] at hn
          cases hn
          exact h (inj _ _ (ek.symm.trans f3))
        exact ⟨e, List.mem_of_getElem? (i := n) (by rw [List.getElem?_set_ne (fun e => hne e.symm)]; exact hn), ek⟩
    · intro i i' x y hx hy hxy
      rw [hlist] at hx hy
      rcases who i x hx with ⟨k1, k2, _⟩ | ⟨hne, hz⟩ <;> rcases who i' y hy with ⟨m1, m2, _⟩ | ⟨hne', hz'⟩
      · omega
      · exact absurd (h4 i' j y e0 hz' f2 (by rw [← hxy, k2, f3])) hne'
      · exact absurd (h4 i j x e0 hz f2 (by rw [hxy, m2, f3])) hne
      · exact h4 i i' x y hz hz' hxy
end
end Go.Proofs.Qxb6606073a
