/-
  Plain facts on runes: '[]rune(s)' as a list; what is encoded decodes to itself. No program in this text.
-/
import Derived.Laws.Cover4
import Derived.Laws.IdiomStrings
import Derived.Lib.MapLaws
namespace Go.Proofs.Qxb6606061a

/-- The code points of s from place i on, at most so many. -/
def runesGo (s : ByteArray) : Nat → Nat → List Int
  | 0, _ => []
  | b + 1, i => if i < s.size then ((Utf8.decode s i).1 : Int) :: runesGo s b (i + (Utf8.decode s i).2) else []
/-- '[]rune(s)'. -/
def runes (s : ByteArray) : List Int := runesGo s s.size 0

theorem runesFrom_go (s : ByteArray) : ∀ (b i : Nat) (acc : Array Value), Conv.runesFrom s b i acc = acc ++ ((runesGo s b i).map (Value.int .i32)).toArray
  | 0, i, acc => by simp [Conv.runesFrom, runesGo]
  | b + 1, i, acc => by
    unfold Conv.runesFrom runesGo
    split
    · have := runesFrom_go s b (i + (Utf8.decode s i).2) (acc.push (.int .i32 (Int.ofNat (Utf8.decode s i).1)))
      simp only [this, List.map_cons]
      apply Array.ext'
      simp
    · simp

theorem runesFrom_runes (s : ByteArray) : Conv.runesFrom s s.size 0 #[] = ((runes s).map (Value.int .i32)).toArray := by
  rw [runesFrom_go]; simp [runes]

theorem runesGo_length (s : ByteArray) : ∀ b i, (runesGo s b i).length ≤ b
  | 0, i => by simp [runesGo]
  | b + 1, i => by
    unfold runesGo
    split
    · have := runesGo_length s b (i + (Utf8.decode s i).2)
      simp; omega
    · simp

theorem runes_length (s : ByteArray) : (runes s).length ≤ s.size := runesGo_length s _ _

/-- A code point. -/
def okRune (r : Int) : Prop := (0 ≤ r ∧ r < 55296) ∨ (57344 ≤ r ∧ r ≤ 1114111)

theorem decode_ok (s : ByteArray) (i : Nat) : okRune ((Utf8.decode s i).1 : Int) := by
  rw [Lib.decode_at]
  have h0 := (s.get! i).toNat_lt
  unfold okRune
  rcases Lib.decodeN_shape (s.size - i) (s.get! i).toNat (s.get! (i + 1)).toNat (s.get! (i + 2)).toNat (s.get! (i + 3)).toNat with ⟨c, e⟩ | ⟨c1, c2, c3, cv, e⟩ | ⟨c1, c2, c3, c4, cv, cs, e⟩ | ⟨c1, c2, c3, c4, c5, cv, cw, e⟩ | e
  all_goals (rw [e]; simp only; omega)

theorem runesGo_ok (s : ByteArray) : ∀ b i, ∀ r ∈ runesGo s b i, okRune r
  | 0, i => by simp [runesGo]
  | b + 1, i => by
    unfold runesGo
    split
    · intro r hr
      rcases List.mem_cons.1 hr with h | h
      · rw [h]; exact decode_ok s i
      · exact runesGo_ok s b _ r h
    · simp

theorem runes_ok (s : ByteArray) : ∀ r ∈ runes s, okRune r := runesGo_ok s _ _

/-- The bytes of one code point. -/
theorem valid_ok {r : Int} (h : okRune r) : Utf8.valid r = true := by
  unfold okRune at h
  unfold Utf8.valid
  simp
  omega

theorem enc_size_pos (r : Int) : 1 ≤ (Utf8.encode r).size := by
  unfold Utf8.encode
  simp only
  repeat' split
  all_goals simp [ByteArray.size]

theorem get!_append_left (a b : ByteArray) (i : Nat) (h : i < a.size) : (a ++ b).get! i = a.get! i := by
  have e1 : (a ++ b).get! i = (a ++ b).data[i]! := rfl
  have e2 : a.get! i = a.data[i]! := rfl
  rw [e1, e2, ByteArray.data_append]
  have h' : i < a.data.size := h
  rw [getElem!_def, getElem!_def, Array.getElem?_append_left h']

theorem get!_append_right (a b : ByteArray) (i : Nat) : (a ++ b).get! (a.size + i) = b.get! i := by
  have e1 : (a ++ b).get! (a.size + i) = (a ++ b).data[a.size + i]! := rfl
  have e2 : b.get! i = b.data[i]! := rfl
  rw [e1, e2, ByteArray.data_append]
  rw [getElem!_def, getElem!_def]
  have e3 : a.size = a.data.size := rfl
  rw [e3, Array.getElem?_append_right (by omega)]
  simp

theorem byte_toNat (n : Nat) (h : n < 256) : (UInt8.ofNat n).toNat = n := by
  simp [UInt8.toNat_ofNat']; omega

/-- What is encoded decodes to itself. -/
theorem decode_enc (a b : ByteArray) (r : Int) (h : okRune r) : Utf8.decode (a ++ (Utf8.encode r ++ b)) a.size = (r.toNat, (Utf8.encode r).size) := by
  rw [Lib.decode_at]
  have g (k : Nat) : (a ++ (Utf8.encode r ++ b)).get! (a.size + k) = (Utf8.encode r ++ b).get! k := get!_append_right _ _ _
  have g0 : (a ++ (Utf8.encode r ++ b)).get! a.size = (Utf8.encode r ++ b).get! 0 := g 0
  rw [g0, g 1, g 2, g 3]
  have hsz : (a ++ (Utf8.encode r ++ b)).size - a.size = (Utf8.encode r).size + b.size := by
    rw [ByteArray.size_append, ByteArray.size_append]; omega
  rw [hsz]
  have hv := valid_ok h
  unfold okRune at h
  generalize hE : Utf8.encode r = E
  unfold Utf8.encode at hE
  simp only [hv, if_true] at hE
  by_cases c1 : r.toNat < 128
  · rw [if_pos c1] at hE
    have hs : E.size = 1 := by rw [← hE]; rfl
    rw [get!_append_left E b 0 (by omega)]
    have b0 : (E.get! 0).toNat = r.toNat := by rw [← hE]; exact byte_toNat _ (by omega)
    unfold Lib.decodeN
    rw [b0, if_pos c1, hs]
  · rw [if_neg c1] at hE
    by_cases c2 : r.toNat < 2048
    · rw [if_pos c2] at hE
      have hs : E.size = 2 := by rw [← hE]; rfl
      rw [get!_append_left E b 0 (by omega), get!_append_left E b 1 (by omega)]
      have b0 : (E.get! 0).toNat = 192 + r.toNat / 64 := by rw [← hE]; exact byte_toNat _ (by omega)
      have b1 : (E.get! 1).toNat = 128 + r.toNat % 64 := by rw [← hE]; exact byte_toNat _ (by omega)
      unfold Lib.decodeN
      rw [b0, b1, if_neg (by omega), if_pos (by omega), if_pos (by omega), hs]
      congr 1; omega
    · rw [if_neg c2] at hE
      by_cases c3 : r.toNat < 65536
      · rw [if_pos c3] at hE
        have hs : E.size = 3 := by rw [← hE]; rfl
        rw [get!_append_left E b 0 (by omega), get!_append_left E b 1 (by omega), get!_append_left E b 2 (by omega)]
        have b0 : (E.get! 0).toNat = 224 + r.toNat / 4096 := by rw [← hE]; exact byte_toNat _ (by omega)
        have b1 : (E.get! 1).toNat = 128 + r.toNat / 64 % 64 := by rw [← hE]; exact byte_toNat _ (by omega)
        have b2 : (E.get! 2).toNat = 128 + r.toNat % 64 := by rw [← hE]; exact byte_toNat _ (by omega)
        have e : (224 + r.toNat / 4096) % 16 * 4096 + (128 + r.toNat / 64 % 64) % 64 * 64 + (128 + r.toNat % 64) % 64 = r.toNat := by omega
        unfold Lib.decodeN
        rw [b0, b1, b2, if_neg (by omega), if_neg (by omega), if_pos (by omega), e, if_pos (by omega), hs]
      · rw [if_neg c3] at hE
        have hs : E.size = 4 := by rw [← hE]; rfl
        rw [get!_append_left E b 0 (by omega), get!_append_left E b 1 (by omega), get!_append_left E b 2 (by omega), get!_append_left E b 3 (by omega)]
        have b0 : (E.get! 0).toNat = 240 + r.toNat / 262144 := by rw [← hE]; exact byte_toNat _ (by omega)
        have b1 : (E.get! 1).toNat = 128 + r.toNat / 4096 % 64 := by rw [← hE]; exact byte_toNat _ (by omega)
        have b2 : (E.get! 2).toNat = 128 + r.toNat / 64 % 64 := by rw [← hE]; exact byte_toNat _ (by omega)
        have b3 : (E.get! 3).toNat = 128 + r.toNat % 64 := by rw [← hE]; exact byte_toNat _ (by omega)
        have e : (240 + r.toNat / 262144) % 8 * 262144 + (128 + r.toNat / 4096 % 64) % 64 * 4096 + (128 + r.toNat / 64 % 64) % 64 * 64 + (128 + r.toNat % 64) % 64 = r.toNat := by omega
        unfold Lib.decodeN
        rw [b0, b1, b2, b3, if_neg (by omega), if_neg (by omega), if_neg (by omega), if_pos (by omega), e, if_pos (by omega), hs]

/-- The bytes of a row of code points. -/
def encAll (q : List Int) : ByteArray := q.foldr (fun r t => Utf8.encode r ++ t) ByteArray.empty

theorem ba_append_assoc (a b c : ByteArray) : a ++ b ++ c = a ++ (b ++ c) := by
  apply ByteArray.ext
  simp [ByteArray.data_append]

theorem ba_append_empty (a : ByteArray) : a ++ ByteArray.empty = a := by
  apply ByteArray.ext
  simp

theorem ba_empty_append (a : ByteArray) : ByteArray.empty ++ a = a := by
  apply ByteArray.ext
  simp

theorem foldl_enc (q : List Int) : ∀ a : ByteArray, q.foldl (fun r n => r ++ Utf8.encode n) a = a ++ encAll q := by
  induction q with
  | nil => intro a; simp [encAll]
  | cons r q ih =>
    intro a
    rw [List.foldl_cons, ih, ba_append_assoc]
    rfl

theorem runesBytes_eq (q : List Int) : runesBytes q = encAll q := by
  unfold runesBytes
  rw [foldl_enc, ba_empty_append]

theorem encAll_size (q : List Int) : q.length ≤ (encAll q).size := by
  induction q with
  | nil => simp
  | cons r q ih =>
    have : encAll (r :: q) = Utf8.encode r ++ encAll q := rfl
    rw [this, ByteArray.size_append]
    have := enc_size_pos r
    simp; omega

theorem runesGo_enc (q : List Int) : (∀ r ∈ q, okRune r) → ∀ (a : ByteArray) (n : Nat), q.length ≤ n → runesGo (a ++ encAll q) n a.size = q := by
  induction q with
  | nil =>
    intro _ a n _
    have : a ++ encAll [] = a := ba_append_empty a
    rw [this]
    cases n with
    | zero => rfl
    | succ n => simp [runesGo]
  | cons r q ih =>
    intro hq a n hn
    have e0 : encAll (r :: q) = Utf8.encode r ++ encAll q := rfl
    cases n with
    | zero => simp at hn
    | succ n =>
      have hr := hq r (by simp)
      unfold runesGo
      rw [e0, decode_enc a (encAll q) r hr]
      have hp := enc_size_pos r
      rw [if_pos (by rw [ByteArray.size_append, ByteArray.size_append]; omega)]
      simp only
      have e1 : a ++ (Utf8.encode r ++ encAll q) = (a ++ Utf8.encode r) ++ encAll q := (ba_append_assoc _ _ _).symm
      have e2 : a.size + (Utf8.encode r).size = (a ++ Utf8.encode r).size := by rw [ByteArray.size_append]
      rw [e1, e2, ih (fun x hx => hq x (by simp [hx])) _ n (by simpa using hn)]
      have : ((r.toNat : Nat) : Int) = r := by unfold okRune at hr; omega
      rw [this]

/-- '[]rune(string(q))' is q, where q holds code points. -/
theorem runes_enc (q : List Int) (h : ∀ r ∈ q, okRune r) : runes (runesBytes q) = q := by
  unfold runes
  rw [runesBytes_eq]
  have := runesGo_enc q h ByteArray.empty (encAll q).size (encAll_size q)
  rw [ba_empty_append] at this
  exact this

end Go.Proofs.Qxb6606061a
