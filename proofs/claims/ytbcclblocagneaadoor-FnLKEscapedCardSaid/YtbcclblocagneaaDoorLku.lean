/- Texts of a few characters as bytes: where each stands, how it is read. Plain lists, no program in sight. -/
import Derived.Laws.Cover4
set_option linter.unusedVariables false
set_option linter.unusedSimpArgs false
set_option maxRecDepth 100000
namespace Go.Proofs.YtbcclblocagneaaDoor.Lk
open Go

/-- The characters that matter. -/
def AB : List Int := [97, 65, 98, 37, 95, 92, 66, 233, 29483, 120]
def enc (r : Int) : List UInt8 := (Utf8.encode r).data.toList
def encL (T : List Int) : List UInt8 := T.flatMap enc
def str (T : List Int) : ByteArray := ⟨(encL T).toArray⟩
theorem encL_cons (r : Int) (T : List Int) : encL (r :: T) = enc r ++ encL T := rfl
theorem encL_append (A B : List Int) : encL (A ++ B) = encL A ++ encL B := List.flatMap_append
theorem ba_ext {a b : ByteArray} (h : a.data.toList = b.data.toList) : a = b := by
  cases a; cases b
  congr 1
  exact Array.toList_inj.1 h
theorem str_list (T : List Int) : (str T).data.toList = encL T := rfl
theorem str_size (T : List Int) : (str T).size = (encL T).length := by show (encL T).toArray.size = _; simp
theorem ba_append (a b : ByteArray) : (a ++ b).data.toList = a.data.toList ++ b.data.toList := by
  rw [ByteArray.data_append, Array.toList_append]
theorem str_append (A B : List Int) : str A ++ str B = str (A ++ B) := ba_ext (by rw [ba_append, str_list, str_list, str_list, encL_append])
theorem runes_str (T : List Int) : runesBytes T = str T := by
  have h : ∀ (T : List Int) (s : ByteArray), (T.foldl (fun r n => r ++ Utf8.encode n) s).data.toList = s.data.toList ++ encL T := by
    intro T
    induction T with
    | nil => intro s; simp [encL]
    | cons r T ih => intro s; rw [List.foldl_cons, ih, ba_append, encL_cons, List.append_assoc]; rfl
  exact ba_ext (by unfold runesBytes; rw [h]; rfl)
/-- Where the character number i begins. -/
def off (T : List Int) (i : Nat) : Nat := (encL (T.take i)).length
theorem off_zero (T : List Int) : off T 0 = 0 := rfl
theorem off_all (T : List Int) : off T T.length = (str T).size := by unfold off; rw [List.take_length, str_size]
theorem off_succ (T : List Int) (i : Nat) (h : i < T.length) : off T (i + 1) = off T i + (enc T[i]).length := by
  unfold off
  rw [List.take_succ_eq_append_getElem h, encL_append, List.length_append]
  congr 1
  simp [encL]
theorem enc_pos (r : Int) : 0 < (enc r).length := by
  unfold enc Utf8.encode
  simp only
  (repeat' split) <;> simp
theorem off_le (T : List Int) (i : Nat) (h : i ≤ T.length) : off T i ≤ (str T).size := by
  unfold off
  rw [str_size]
  conv => rhs; rw [← List.take_append_drop i T, encL_append, List.length_append]
  omega
theorem off_lt (T : List Int) (i : Nat) (h : i < T.length) : off T i < (str T).size := by
  have h1 := off_le T (i + 1) h
  have h2 := off_succ T i h
  have h3 := enc_pos T[i]
  omega
theorem str_drop (T : List Int) (i : Nat) (h : i ≤ T.length) : (str T).extract (off T i) (str T).size = str (T.drop i) := by
  apply ba_ext
  rw [ByteArray.data_extract, Array.toList_extract, str_list, str_list, str_size]
  unfold off
  conv => lhs; rw [← List.take_append_drop i T, encL_append]
  simp
end Go.Proofs.YtbcclblocagneaaDoor.Lk
namespace Go.Proofs.YtbcclblocagneaaDoor.Lk
open Go
theorem enc_ab : enc 97 = [97] ∧ enc 65 = [65] ∧ enc 98 = [98] ∧ enc 37 = [37] ∧ enc 95 = [95] ∧ enc 92 = [92] ∧ enc 66 = [66] ∧ enc 233 = [195, 169] ∧ enc 29483 = [231, 140, 171] ∧ enc 120 = [120] := by
  refine ⟨?_, ?_, ?_, ?_, ?_, ?_, ?_, ?_, ?_, ?_⟩ <;> decide
theorem get_at (l : List UInt8) (i : Nat) (b : UInt8) (h : l[i]? = some b) : (⟨l.toArray⟩ : ByteArray).get! i = b := by
  show l.toArray[i]! = b
  rw [Array.getElem!_eq_getD]
  simp [Array.getD_eq_getD_getElem?, h]
theorem decode_one (b : UInt8) (l : List UInt8) (h : b.toNat < 128) : Utf8.decode ⟨(b :: l).toArray⟩ 0 = (b.toNat, 1) := by
  unfold Utf8.decode
  have g0 := get_at (b :: l) 0 b rfl
  simp only [Nat.zero_add, g0]
  rw [if_pos h]
theorem decode_two (l : List UInt8) : Utf8.decode ⟨(195 :: 169 :: l).toArray⟩ 0 = (233, 2) := by
  unfold Utf8.decode
  have g0 := get_at (195 :: 169 :: l) 0 195 rfl
  have g1 := get_at (195 :: 169 :: l) 1 169 rfl
  have hs : (⟨(195 :: 169 :: l).toArray⟩ : ByteArray).size = l.length + 1 + 1 := by show (195 :: 169 :: l).toArray.size = _; simp
  simp only [Nat.zero_add, g0, g1, hs]
  have h1 : (1 : Nat) < l.length + 1 + 1 := by omega
  simp [h1]
theorem decode_three (l : List UInt8) : Utf8.decode ⟨(231 :: 140 :: 171 :: l).toArray⟩ 0 = (29483, 3) := by
  unfold Utf8.decode
  have g0 := get_at (231 :: 140 :: 171 :: l) 0 231 rfl
  have g1 := get_at (231 :: 140 :: 171 :: l) 1 140 rfl
  have g2 := get_at (231 :: 140 :: 171 :: l) 2 171 rfl
  have hs : (⟨(231 :: 140 :: 171 :: l).toArray⟩ : ByteArray).size = l.length + 1 + 1 + 1 := by show (231 :: 140 :: 171 :: l).toArray.size = _; simp
  simp only [Nat.zero_add, g0, g1, g2, hs]
  have h1 : (1 : Nat) < l.length + 1 + 1 + 1 := by omega
  have h2 : (2 : Nat) < l.length + 1 + 1 + 1 := by omega
  simp [h1, h2, Utf8.valid]
/-- The character at the beginning of a text is read. -/
theorem decode_str (r : Int) (T : List Int) (hr : r ∈ AB) : Utf8.decode (str (r :: T)) 0 = (r.toNat, (enc r).length) := by
  obtain ⟨e1, e2, e3, e4, e5, e6, e7, e8, e9, e10⟩ := enc_ab
  unfold str
  rw [encL_cons]
  unfold AB at hr
  simp only [List.mem_cons, List.not_mem_nil, or_false] at hr
  rcases hr with rfl | rfl | rfl | rfl | rfl | rfl | rfl | rfl | rfl | rfl
  · rw [e1]; exact decode_one 97 _ (by decide)
  · rw [e2]; exact decode_one 65 _ (by decide)
  · rw [e3]; exact decode_one 98 _ (by decide)
  · rw [e4]; exact decode_one 37 _ (by decide)
  · rw [e5]; exact decode_one 95 _ (by decide)
  · rw [e6]; exact decode_one 92 _ (by decide)
  · rw [e7]; exact decode_one 66 _ (by decide)
  · rw [e8]; exact decode_two _
  · rw [e9]; exact decode_three _
  · rw [e10]; exact decode_one 120 _ (by decide)
theorem str_pos (r : Int) (T : List Int) : (str (r :: T)).size ≠ 0 := by
  rw [str_size, encL_cons, List.length_append]
  have := enc_pos r
  omega
theorem str_nil : (str []).size = 0 := rfl
theorem ab_pos {r : Int} (h : r ∈ AB) : 0 < r ∧ r < 65533 := by
  unfold AB at h
  simp only [List.mem_cons, List.not_mem_nil, or_false] at h
  omega
theorem str_len4 (T : List Int) : (str T).size ≤ 4 * T.length := by
  rw [← runes_str]; exact runesBytes_size_le T

/-- A part of a pattern as it is written: a character as it is, one behind the sign of escape, or any characters. -/
inductive Tok where
  | pl (r : Int)
  | es (r : Int)
  | pc
def Tok.runes : Tok → List Int
  | .pl r => [r]
  | .es r => [92, r]
  | .pc => [37]
def Tok.ok : Tok → Prop
  | .pl r => r ∈ AB ∧ r ≠ 37 ∧ r ≠ 95 ∧ r ≠ 92
  | .es r => r ∈ AB
  | .pc => True
def toksR (ts : List Tok) : List Int := ts.flatMap Tok.runes
theorem toksR_cons (t : Tok) (ts : List Tok) : toksR (t :: ts) = t.runes ++ toksR ts := rfl
theorem toksR_append (a b : List Tok) : toksR (a ++ b) = toksR a ++ toksR b := List.flatMap_append
/-- A text all of whose marks are escaped. -/
def escT (s : List Int) : List Tok := s.map fun r => if r = 37 ∨ r = 95 ∨ r = 92 then .es r else .pl r
theorem escT_ok (s : List Int) (h : ∀ r ∈ s, r ∈ AB) : ∀ t ∈ escT s, t.ok := by
  intro t ht
  obtain ⟨r, hr, rfl⟩ := List.mem_map.1 ht
  by_cases h1 : r = 37 ∨ r = 95 ∨ r = 92
  · rw [if_pos h1]; exact h r hr
  · rw [if_neg h1]; exact ⟨h r hr, fun e => h1 (.inl e), fun e => h1 (.inr (.inl e)), fun e => h1 (.inr (.inr e))⟩
end Go.Proofs.YtbcclblocagneaaDoor.Lk
