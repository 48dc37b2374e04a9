/- Plain words for numbers written as bytes: the bytes of a number, the number of some bytes with its sign. Conditions: those written at each lemma. -/
import Derived.Lib.Endian
import Derived.Lib.EndianMore
import Derived.Lib.UnsafeStr
set_option linter.unusedVariables false
namespace Go.Proofs.YtbcclblocagneaaDoor.Vl
open Go.Lib (byteCells toUInt8_mod)

def sz (k : Nat) : Nat := [0, 1, 1, 2, 2, 3, 3, 4, 4, 8, 8, 4, 8, 6, 6].getD k 0
def sgn (k : Nat) : Bool := k % 2 == 1 && decide (k < 11)
/-- The number of some bytes. -/
def num (k : Nat) (l : List UInt8) : Nat :=
  if sgn k = true ∧ l.length < 8 ∧ Lib.leNat l / 2 ^ (8 * l.length - 1) = 1 then Lib.leNat l + 18446744073709551616 - 2 ^ (8 * l.length) else Lib.leNat l
def cut (k bits : Nat) : Nat := num k (Lib.leBytes (sz k) bits)

theorem leNat_bytes : ∀ (n v : Nat), Lib.leNat (Lib.leBytes n v) = v % 256 ^ n
  | 0, v => by simp [Lib.leBytes, Lib.leNat, Nat.mod_one]
  | n + 1, v => by
    simp only [Lib.leBytes, Lib.leNat, leNat_bytes n, toUInt8_mod]
    rw [Nat.pow_succ, Nat.mul_comm (256 ^ n) 256, Nat.mod_mul]
theorem leBytes_mod : ∀ (n v u : Nat), v % 256 ^ n = u % 256 ^ n → Lib.leBytes n v = Lib.leBytes n u
  | 0, _, _, _ => rfl
  | n + 1, v, u, h => by
    rw [Nat.pow_succ, Nat.mul_comm (256 ^ n) 256, Nat.mod_mul, Nat.mod_mul] at h
    have h1 : v % 256 = u % 256 := by omega
    have h2 : v / 256 % 256 ^ n = u / 256 % 256 ^ n := by omega
    simp only [Lib.leBytes, h1, leBytes_mod n _ _ h2]
theorem leBytes_snoc : ∀ (n v : Nat), Lib.leBytes (n + 1) v = Lib.leBytes n v ++ [(v / 256 ^ n % 256).toUInt8]
  | 0, v => by simp [Lib.leBytes]
  | n + 1, v => by
    rw [Lib.leBytes, leBytes_snoc n, Lib.leBytes, List.cons_append, Nat.div_div_eq_div_mul, Nat.pow_succ, Nat.mul_comm 256]
theorem cells_snoc (n v : Nat) : byteCells (Lib.leBytes (n + 1) v) = byteCells (Lib.leBytes n v) ++ [.int .u8 ((v / 256 ^ n % 256 : Nat) : Int)] := by
  rw [leBytes_snoc, byteCells, List.map_append]
  simp only [List.map_cons, List.map_nil, toUInt8_mod]
  rfl
theorem leNat_lt : ∀ (l : List UInt8), Lib.leNat l < 256 ^ l.length
  | [] => by simp [Lib.leNat]
  | b :: r => by
    have h := leNat_lt r
    have hb := UInt8.toNat_lt b
    rw [List.length_cons, Nat.pow_succ, Lib.leNat]
    omega
theorem sz_le (k : Nat) : sz k ≤ 8 := by
  unfold sz
  match k with
  | 0 | 1 | 2 | 3 | 4 | 5 | 6 | 7 | 8 | 9 | 10 | 11 | 12 | 13 | 14 => decide
  | k + 15 => simp
theorem lt64 (l : List UInt8) (h : l.length ≤ 8) : Lib.leNat l < 18446744073709551616 := by
  have h1 := leNat_lt l
  have h2 := Nat.pow_le_pow_right (show 0 < 256 by omega) h
  have h3 : (256 : Nat) ^ 8 = 18446744073709551616 := by decide
  omega
/-- Of the numbers of the asked kinds: one way for each size. -/
theorem num_n (k n : Nat) (l : List UInt8) (hl : l.length = n) (h0 : 0 < n) (h : n < 8) : num k l = if sgn k = true ∧ 256 ^ n ≤ 2 * Lib.leNat l then Lib.leNat l + 18446744073709551616 - 256 ^ n else Lib.leNat l := by
  have e : (2 : Nat) ^ (8 * n) = 256 ^ n := by rw [Nat.pow_mul]
  have e2 : (2 : Nat) ^ (8 * n) = 2 * 2 ^ (8 * n - 1) := by rw [← Nat.pow_succ']; congr 1; omega
  have h1 := leNat_lt l
  rw [hl] at h1
  have hp : 0 < (2 : Nat) ^ (8 * n - 1) := Nat.pow_pos (by omega)
  unfold num
  rw [hl, e]
  have hd : (Lib.leNat l / 2 ^ (8 * n - 1) = 1) = (256 ^ n ≤ 2 * Lib.leNat l) := by
    rw [← e, e2]
    rw [← e, e2] at h1
    generalize 2 ^ (8 * n - 1) = p at *
    apply propext
    constructor
    · intro h5
      have h6 := Nat.div_mul_le_self (Lib.leNat l) p
      rw [h5] at h6
      omega
    · intro h5
      have h6 : Lib.leNat l / p < 2 := (Nat.div_lt_iff_lt_mul hp).2 (by omega)
      have h7 : 1 ≤ Lib.leNat l / p := (Nat.le_div_iff_mul_le hp).2 (by omega)
      omega
  simp only [hd, h, true_and]
theorem num_8 (k : Nat) (l : List UInt8) (hl : l.length = 8) : num k l = Lib.leNat l := by
  unfold num
  rw [if_neg]
  omega
theorem num_lt (k : Nat) (l : List UInt8) (hl : l.length ≤ 8) (h0 : 0 < l.length) : num k l < 18446744073709551616 := by
  have h1 := lt64 l hl
  rcases Nat.lt_or_ge l.length 8 with h | h
  · rw [num_n k _ l rfl h0 h]
    have h2 := leNat_lt l
    split <;> omega
  · rw [num_8 k l (by omega)]
    exact h1
theorem num_mod (k n : Nat) (l : List UInt8) (hl : l.length = n) (h0 : 0 < n) (h : n ≤ 8) : num k l % 256 ^ n = Lib.leNat l := by
  have h1 := leNat_lt l
  rw [hl] at h1
  rcases Nat.lt_or_ge n 8 with h8 | h8
  · rw [num_n k n l hl h0 h8]
    split
    · have e : (18446744073709551616 : Nat) = 256 ^ n * 256 ^ (8 - n) := by rw [← Nat.pow_add, show n + (8 - n) = 8 by omega]
      have e2 : (256 : Nat) ^ (8 - n) = (256 ^ (8 - n) - 1) + 1 := by have := Nat.pow_pos (n := 8 - n) (show 0 < 256 by omega); omega
      have e3 : Lib.leNat l + 18446744073709551616 - 256 ^ n = Lib.leNat l + 256 ^ n * (256 ^ (8 - n) - 1) := by
        have e4 : (18446744073709551616 : Nat) = 256 ^ n * (256 ^ (8 - n) - 1) + 256 ^ n := by rw [e, e2, Nat.mul_add, Nat.mul_one]; simp
        omega
      rw [e3, Nat.add_mul_mod_self_left]
      exact Nat.mod_eq_of_lt h1
    · exact Nat.mod_eq_of_lt h1
  · rw [num_8 k l (by omega)]
    exact Nat.mod_eq_of_lt h1
theorem cut_lt (k bits : Nat) (h0 : 0 < sz k) : cut k bits < 18446744073709551616 := num_lt k _ (by rw [Lib.leBytes_length]; exact sz_le k) (by rw [Lib.leBytes_length]; exact h0)
theorem cut_bytes (k bits : Nat) (h0 : 0 < sz k) : Lib.leBytes (sz k) (cut k bits) = Lib.leBytes (sz k) bits := by
  apply leBytes_mod
  unfold cut
  rw [num_mod k (sz k) _ (Lib.leBytes_length _ _) h0 (sz_le k), leNat_bytes]

end Go.Proofs.YtbcclblocagneaaDoor.Vl
