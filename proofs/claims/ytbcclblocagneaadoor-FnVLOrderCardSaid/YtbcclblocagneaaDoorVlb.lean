/- The walks of the reference's bytes of a number, and the number of bytes. Conditions: those written at each lemma. -/
import Derived.Test.YtbcclblocagneaaDoorProg
import Derived.Test.YtbcclblocagneaaDoorBase
import Derived.Test.YtbcclblocagneaaDoorVla
set_option linter.unusedVariables false
set_option linter.unusedSimpArgs false
set_option maxRecDepth 100000
set_option maxHeartbeats 1000000
namespace Go.Proofs.YtbcclblocagneaaDoor.Vl
open Go.RowKit Go.Proofs.YtbcclblocagneaaDoor.B
open Go.Lib (byteCells toUInt8_mod)

theorem pow_cast (a n : Nat) : ((a : Int)) ^ n = ((a ^ n : Nat) : Int) := by rw [Int.natCast_pow]
theorem shr_byte (bits i : Nat) : IntKind.u8.wrap ((bits : Int) / 2 ^ (8 * (i : Int)).toNat) = ((bits / 256 ^ i % 256 : Nat) : Int) := by
  rw [show (8 * (i : Int)).toNat = 8 * i by omega, show ((2 : Int) ^ (8 * i)) = ((256 ^ i : Nat) : Int) by rw [show (2 : Int) = ((2 : Nat) : Int) from rfl, pow_cast, Nat.pow_mul]]
  generalize 256 ^ i = q
  rw [← Int.natCast_ediv]
  simp [IntKind.wrap, IntKind.bits, IntKind.signed]

theorem bytes_any (k bits : Nat) (hk : k < 15) (hb : bits < 18446744073709551616) (w : World) :
    Calls Tryd.prog 9 #[.int .i64 k, .int .u64 bits] w fun e w' => ∃ v, e = .returned v ∧ w'.ownsRow w.heap.size 5 1 v (sz k) (byteCells (Lib.leBytes (sz k) bits)) ∧ Below w.heap.size w w' := by
  have hz := sz_le k
  have SZ := Lib.hid (fun W => size_any k hk W)
  generalize hn : sz k = n at *
  clear hn
  go_enter Tryd.func9, Tryd.ntmps9
  go_wp2
  go_loopw [5, 6] (fun v5 v6 wr => ∃ i : Nat, v6 = .int .i64 i ∧ i ≤ n ∧ Hid (wr.ownsRow w.heap.size 5 1 v5 i (byteCells (Lib.leBytes i bits))) ∧ Below w.heap.size w wr) (fun _ v6 _ => (n - (intOf v6)).toNat)
  case atStart => exact ⟨0, rfl, by omega, Lib.hid (World.ownsRow_nil _ _ _ _), Below.refl _ _⟩
  case round =>
    obtain ⟨i, rfl, hi, HO, hbel⟩ := hrel
    have hbs := hbel.size
    by_cases hlt : i < n
    · have HC := Lib.hid (cells_snoc i bits)
      have HS := Lib.hid (shr_byte bits i)
      go_wp2_with (first
        | (go_at_call 32; (with_reducible refine (SZ.out _).mono ?_); rintro e w1 ⟨rfl, hb1⟩; have HO1 := Lib.hid (own_below HO.out hb1); have hbel1 := hbel.trans (hb1.mono hbs); have hbs1 := hbel1.size; clear hb1)
        | (at_builtin; refine app1 (w0 := w) w.heap.size rfl (.tmp 13) (.tmp 20) 24 5 (.int .u8 0) 1 1 rfl Tryd.underlying24 info5 rfl (by omega) (by omega) u5 _ _ _ rfl rfl rfl (one1 rfl) HO1.out hbel1 hbs1 (by omega) ?_; intro v1 w2 hown1 hb2 _ _; have HO2 := Lib.hid hown1; clear hown1))
      go_roundw
      case rel => exact ⟨i + 1, by go_num, by omega, Lib.hid (by rw [HC.out, ← HS.out]; exact HO2.out), hb2⟩
      case measure => simp [intOf]; omega
    · obtain rfl : i = n := by omega
      go_wp2_with (first
        | (go_at_call 32; (with_reducible refine (SZ.out _).mono ?_); rintro e w1 ⟨rfl, hb1⟩; have HO1 := Lib.hid (own_below HO.out hb1); have hbel1 := hbel.trans (hb1.mono hbs); have hbs1 := hbel1.size; clear hb1))
      go_ret
      exact ⟨_, rfl, HO1.out, hbel1⟩

theorem signed_any (k : Nat) (hk : k < 15) (w : World) : Calls Tryd.prog 50 #[.int .i64 k] w fun e w' => e = .returned (.bool (sgn k)) ∧ w = w' := by
  obtain ⟨b, hb⟩ : ∃ b, b = sgn k := ⟨_, rfl⟩
  rw [← hb]
  have HB := Lib.hid hb
  clear hb
  by_cases h : k % 2 = 1
  · by_cases h2 : k < 11
    · obtain rfl : b = true := by rw [HB.out]; simp [sgn, h, h2]
      have hd : decide ((k : Int) < 11) = true := by simp; omega
      go_enter Tryd.func50, Tryd.ntmps50
      go_wp2
      go_ret
      exact ⟨rfl, rfl⟩
    · obtain rfl : b = false := by rw [HB.out]; simp [sgn, h, h2]
      have hd : decide ((k : Int) < 11) = false := by simp; omega
      go_enter Tryd.func50, Tryd.ntmps50
      go_wp2
      go_ret
      exact ⟨rfl, rfl⟩
  · obtain rfl : b = false := by rw [HB.out]; simp [sgn, h]
    go_enter Tryd.func50, Tryd.ntmps50
    go_wp2
    go_ret
    exact ⟨rfl, rfl⟩

theorem ret_int {k : IntKind} {a b : Int} (h : a = b) : Ending.returned (.int k a) = .returned (.int k b) := by rw [h]
theorem drop_num (l : List UInt8) (i : Nat) (h : i < l.length) : Lib.leNat (l.drop i) = l[i].toNat + 256 * Lib.leNat (l.drop (i + 1)) := by
  rw [List.drop_eq_getElem_cons h, Lib.leNat]

theorem number_any (k n : Nat) (l : List UInt8) (v : Value) (hk : k < 15) (hl : l.length = n) (h0 : 0 < n) (h8 : n ≤ 8) (w : World) (hr : Rd w 1 v n (byteCells l)) :
    Calls Tryd.prog 31 #[.int .i64 k, v] w fun e w' => e = .returned (.int .u64 (num k l)) ∧ w = w' := by
  obtain ⟨b, o, c, rfl, hnc, hcm, hbl, hc⟩ := hr.open h0
  have HC := Lib.hid hc
  have HL := Lib.hid hl
  have SG := Lib.hid (fun W => signed_any k hk W)
  clear hc hl hr
  go_enter Tryd.func31, Tryd.ntmps31
  go_wp2
  go_loop [5, 6] (fun v5 v6 => ∃ i : Nat, v6 = .int .i64 ((i : Int) - 1) ∧ i ≤ n ∧ v5 = .int .u64 (Lib.leNat (l.drop i) : Nat)) (fun _ v6 => (intOf v6 + 1).toNat)
  case atStart => exact ⟨n, by go_num, Nat.le_refl _, by rw [List.drop_of_length_le (by have := HL.out; omega)]; rfl⟩
  case round =>
    obtain ⟨i, rfl, hi, rfl⟩ := hrel
    by_cases hlt : 0 < i
    · obtain ⟨j, rfl⟩ : ∃ j, i = j + 1 := ⟨i - 1, by omega⟩
      have hjl : j < l.length := by have := HL.out; omega
      have HD := Lib.hid (drop_num l j hjl)
      have hcell : w.cell? ⟨b, o + j, none⟩ = some (.int .u8 (l[j].toNat : Nat)) := HC.out j _ (by simp only [byteCells, List.getElem?_map, List.getElem?_eq_getElem hjl]; rfl)
      have hlt8 : Lib.leNat (l.drop (j + 1)) < 72057594037927936 := by
        have h1 := leNat_lt (l.drop (j + 1))
        rw [List.length_drop, HL.out] at h1
        have h2 := Nat.pow_le_pow_right (show 0 < 256 by omega) (show n - (j + 1) ≤ 7 by omega)
        have h3 : (256 : Nat) ^ 7 = 72057594037927936 := by decide
        omega
      have hb8 := UInt8.toNat_lt l[j]
      generalize Lib.leNat (l.drop (j + 1)) = x at *
      generalize l[j].toNat = y at *
      go_wp2
      go_round
      case rel => exact ⟨j, by go_num, by omega, by rw [HD.out]; go_num⟩
      case measure => simp [intOf]
    · obtain rfl : i = 0 := by omega
      rw [List.drop_zero]
      have hxl := leNat_lt l
      rw [HL.out] at hxl
      rcases Bool.eq_false_or_eq_true (sgn k) with hs | hs
      · have SG1 := Lib.hid (fun W => by have h := SG.out W; rw [hs] at h; exact h)
        clear SG hlt
        have hn : n = 8 ∨ n < 8 := by omega
        rcases hn with rfl | hn
        · have HN := Lib.hid (num_8 k l HL.out)
          clear hs
          have hx2 : Lib.leNat l < 18446744073709551616 := hxl
          clear hxl
          go_wp2_with (go_at_call 50; (with_reducible refine (SG1.out _).mono ?_); rintro e w1 ⟨rfl, rfl⟩)
          go_ret
          rw [HN.out]
          exact ⟨rfl, rfl⟩
        · have HN := Lib.hid (num_n k n l HL.out h0 hn)
          have HS := Lib.hid hs
          clear hs
          have h : n = 1 ∨ n = 2 ∨ n = 3 ∨ n = 4 ∨ n = 5 ∨ n = 6 ∨ n = 7 := by omega
          rcases h with rfl | rfl | rfl | rfl | rfl | rfl | rfl
          all_goals
            have hxm := hxl
            simp only [Nat.reducePow] at hxm
            clear hxl
            go_wp2_with (go_at_call 50; (with_reducible refine (SG1.out _).mono ?_); rintro e w1 ⟨rfl, rfl⟩)
            all_goals
              go_ret
              refine ⟨ret_int ?_, rfl⟩
              rw [HN.out]
              simp only [HS.out, Nat.reducePow, true_and]
              simp only [beq_iff_eq, beq_eq_false_iff_ne] at *
              first | rw [if_pos (by omega)] | rw [if_neg (by omega)]
              try simp only [IntKind.wrap, IntKind.bits, IntKind.signed]
              try simp
              try omega
      · have SG1 := Lib.hid (fun W => by have h := SG.out W; rw [hs] at h; exact h)
        have HN : Hid (num k l = Lib.leNat l) := Lib.hid (by unfold num; rw [if_neg (by rw [hs]; simp)])
        clear SG hlt hs
        clear hxl
        go_wp2_with (go_at_call 50; (with_reducible refine (SG1.out _).mono ?_); rintro e w1 ⟨rfl, rfl⟩)
        go_ret
        rw [HN.out]
        exact ⟨rfl, rfl⟩


/-- A slice of bytes that reads as l. -/
theorem rd_bytes {w : World} {base n : Nat} {v : Value} {l : List UInt8} (h : w.ownsRow base 5 1 v n (byteCells l)) : Rd w 1 v n (byteCells l) := Rd.of_own h

theorem cut_any (k bits : Nat) (hk : k < 15) (h0 : 0 < sz k) (hb : bits < 18446744073709551616) (w : World) :
    Calls Tryd.prog 8 #[.int .i64 k, .int .u64 bits] w fun e w' => e = .returned (.int .u64 (cut k bits)) ∧ Below w.heap.size w w' := by
  have H0 := Lib.hid h0
  have HB := Lib.hid (fun W => bytes_any k bits hk hb W)
  have HN := Lib.hid (fun v W (hr : Rd W 1 v (sz k) (byteCells (Lib.leBytes (sz k) bits))) => number_any k (sz k) _ v hk (Lib.leBytes_length _ _) h0 (sz_le k) W hr)
  clear h0
  go_enter Tryd.func8, Tryd.ntmps8
  go_wp2_with (first
    | (go_at_call 9; (with_reducible refine (HB.out _).mono ?_); rintro e w1 ⟨v, rfl, hown, hb1⟩; have HR := Lib.hid (rd_bytes hown); clear hown)
    | (go_at_call 31; (with_reducible refine (HN.out _ _ HR.out).mono ?_); rintro e w2 ⟨rfl, rfl⟩))
  go_ret
  exact ⟨rfl, hb1⟩

end Go.Proofs.YtbcclblocagneaaDoor.Vl
