/- The walks of FnTXHex: bytes in hexadecimal, digits of a number, and the law that compares them. Conditions: none beyond the types' own. -/
import Derived.Test.YtghigcmjldjljaaProg
import Derived.Test.YtghigcmjldjljaaBase
import Derived.Laws.BitsLemmas
import Derived.LoopN
set_option linter.unusedVariables false
namespace Go.Proofs.Ytghigcmjldjljaa.Hex
open Go.RowKit Go.Proofs.Ytghigcmjldjljaa.B

/-- A digit's sign. -/
def hx (d : Nat) : UInt8 := if d < 10 then UInt8.ofNat (48 + d) else UInt8.ofNat (55 + d)
def D : Nat → Nat → List UInt8 → List UInt8
  | 0, _, s => s
  | k + 1, n, s => if n = 0 ∧ s ≠ [] then s else D k (n / 16) (hx (n % 16) :: s)
theorem D_done (k : Nat) (s : List UInt8) (h : s ≠ []) : D k 0 s = s := by cases k <;> simp [D, h]

theorem info5 : (Try.prog.info? 5).map (fun i => (i.zero, i.size, i.bytes)) = some (some (.int .u8 0), 1, 1) := by kernel_rfl

theorem hexChar_any (d : Nat) (hd : d < 16) (w : World) :
    Calls Try.prog 38 #[.int .u8 d] w fun e w' => e = .returned (.int .u8 (hx d).toNat) ∧ w = w' := by
  by_cases h : d < 10
  · have e : ((hx d).toNat : Int) = d + 48 := by unfold hx; rw [if_pos h]; simp; omega
    rw [e]
    clear e
    go_enter Try.func38, Try.ntmps38
    go_wp2
    go_ret
    exact ⟨rfl, rfl⟩
  · have e : ((hx d).toNat : Int) = d - 10 + 65 := by unfold hx; rw [if_neg h]; simp; omega
    rw [e]
    clear e
    go_enter Try.func38, Try.ntmps38
    go_wp2
    go_ret
    exact ⟨rfl, rfl⟩

def sgn : ByteArray := ⟨#[48, 49, 50, 51, 52, 53, 54, 55, 56, 57, 65, 66, 67, 68, 69, 70, 71, 72, 73, 74, 75, 76, 77, 78, 79, 80, 81, 82, 83, 84, 85, 86, 87, 88, 89, 90]⟩
theorem slice_hex (d : Nat) (hd : d < 16) : sgn.extract d (d + 1) = ⟨#[hx d]⟩ := by
  have h : ∀ d : Fin 16, sgn.extract d (d + 1) = ⟨#[hx d]⟩ := by decide
  exact h ⟨d, hd⟩

theorem slice_dig (x : Nat) (W : World) : (Instr.slice 9 (.string ⟨#[48, 49, 50, 51, 52, 53, 54, 55, 56, 57, 65, 66, 67, 68, 69, 70, 71, 72, 73, 74, 75, 76, 77, 78, 79, 80, 81, 82, 83, 84, 85, 86, 87, 88, 89, 90]⟩) (some (.int .u64 ((x : Int) % 16))) (some (.int .u64 ((x : Int) % 16 + 1))) none).run Try.prog W = .ok (.string ⟨#[hx (x % 16)]⟩) W := by
  have hm := Nat.mod_lt x (show 0 < 16 by omega)
  rw [run_slice_string (P := Try.prog) (w := W) 9 ⟨#[48, 49, 50, 51, 52, 53, 54, 55, 56, 57, 65, 66, 67, 68, 69, 70, 71, 72, 73, 74, 75, 76, 77, 78, 79, 80, 81, 82, 83, 84, 85, 86, 87, 88, 89, 90]⟩ .u64 .u64 ((x : Int) % 16) ((x : Int) % 16 + 1) Try.underlying9 (by omega) (by omega) (by show _ ≤ (36 : Int); omega)]
  rw [show ((x : Int) % 16).toNat = x % 16 by omega, show ((x : Int) % 16 + 1).toNat = x % 16 + 1 by omega]
  rw [← slice_hex (x % 16) hm]
  rfl

theorem digits_any (n : Nat) (hn : n < 18446744073709551616) (w : World) :
    Calls Try.prog 20 #[.int .u64 n, .int .i64 16] w fun e w' => e = .returned (.string ⟨(D 17 n []).toArray⟩) ∧ Dr w w' := by
  have HN := Lib.hid hn
  go_enter Try.func20, Try.ntmps20
  go_wp2
  go_loopg [0, 5] 17 (fun kq v0 v5 w' => ∃ (x : Nat) (s : List UInt8), v0 = .int .u64 x ∧ v5 = .string ⟨s.toArray⟩ ∧ x ≤ 18446744073709551615 ∧ Hid (x < 16 ^ kq ∧ (kq = 0 → s ≠ [])) ∧ s.length + kq ≤ 17 ∧ Hid (D 17 n [] = D kq x s) ∧ Dr w w')
  case atStart => exact ⟨n, [], rfl, rfl, by have := HN.out; omega, Lib.hid ⟨by have := HN.out; omega, by omega⟩, by simp, Lib.hid rfl, Dr.refl _⟩
  case round =>
    obtain ⟨x, s, rfl, rfl, hx1, HX, hsl0, HD, hdr⟩ := hrel
    by_cases hx0 : x = 0 ∧ s ≠ []
    · obtain ⟨rfl, hs⟩ := hx0
      have HE : Hid (D 17 n [] = s) := Lib.hid (by rw [HD.out, D_done _ _ hs])
      clear HX HD
      cases s with
      | nil => exact absurd rfl hs
      | cons c t =>
      clear hs
      go_wp2
      go_ret
      rw [HE.out]
      exact ⟨rfl, hdr⟩
    · cases gk with
      | zero => exact absurd ⟨by have := HX.out.1; omega, HX.out.2 rfl⟩ hx0
      | succ gk =>
      have hm := Nat.mod_lt x (show 0 < 16 by omega)
      have hsl := slice_dig x
      have hadd : ∀ W, (Op.stringOp .add ⟨#[hx (x % 16)]⟩ ⟨s.toArray⟩).run Try.prog W = .ok (.string ⟨(hx (x % 16) :: s).toArray⟩) W := fun W => run_string_add_lists W [hx (x % 16)] s (by simp) (by omega)
      have HD' : Hid (D 17 n [] = D gk (x / 16) (hx (x % 16) :: s)) := Lib.hid (by rw [HD.out, D, if_neg hx0])
      have HX' : Hid (x / 16 < 16 ^ gk ∧ (gk = 0 → (hx (x % 16) :: s) ≠ [])) := Lib.hid ⟨by have h2 := HX.out.1; rw [Nat.pow_succ] at h2; exact Nat.div_lt_of_lt_mul (by omega), by simp⟩
      clear HX HD
      by_cases hxz : x = 0
      · subst hxz
        cases s with
        | cons c t => exact absurd ⟨rfl, by simp⟩ hx0
        | nil =>
        clear hx0
        have b1 : (0 : Int) ≤ ((0 : Nat) : Int) % 16 := by omega
        have b2 : ((0 : Nat) : Int) % 16 ≤ 15 := by omega
        go_wp2
        go_region
        go_wp2
        go_roundg gk
        case measure => omega
        case rel => exact ⟨0 / 16, [hx (0 % 16)], rfl, rfl, by omega, HX', by simp at hsl0 ⊢; omega, HD', hdr.drew⟩
      · clear hx0
        have b1 : (0 : Int) ≤ (x : Int) % 16 := by omega
        have b2 : (x : Int) % 16 ≤ 15 := by omega
        go_wp2
        go_region
        go_wp2
        go_roundg gk
        case measure => omega
        case rel => exact ⟨x / 16, hx (x % 16) :: s, rfl, rfl, by omega, HX', by simp; omega, HD', hdr.drew⟩

/-- Bytes in hexadecimal. -/
def hexs (l : List UInt8) : List UInt8 := l.flatMap fun c => [hx (c.toNat / 16), hx (c.toNat % 16)]
theorem hexs_len (l : List UInt8) : (hexs l).length = 2 * l.length := by
  induction l with
  | nil => rfl
  | cons c t ih => simp only [hexs, List.flatMap_cons, List.length_append, List.length_cons, List.length_nil] at ih ⊢; omega
theorem take_snoc (s : ByteArray) (k : Nat) (h : k < s.size) : s.data.toList.take (k + 1) = s.data.toList.take k ++ [s[k]] := by
  rw [List.take_succ_eq_append_getElem (by simpa using h)]; rfl
theorem hexs_snoc (s : ByteArray) (k : Nat) (h : k < s.size) : hexs (s.data.toList.take (k + 1)) = hexs (s.data.toList.take k) ++ [hx (s[k].toNat / 16), hx (s[k].toNat % 16)] := by
  rw [take_snoc s k h]
  simp [hexs]
abbrev byc (l : List UInt8) : List Value := l.map fun b => Value.int .u8 (b.toNat : Int)

theorem hexForString_any (s : ByteArray) (w : World) (hs : s.size ≤ 2147483647) :
    Calls Try.prog 34 #[.string s] w fun e w' => e = .returned (.string ⟨(hexs s.data.toList).toArray⟩) ∧ Below w.heap.size w w' := by
  obtain ⟨i0, hi0, hz0, hz1, hz2⟩ := info_parts info5
  have hmk := fun W => run_make (P := Try.prog) W 23 5 i0 (.int .u8 0) Try.underlying23 hi0 hz0 .i64 .i64 0 (2 * (s.size : Int)) (by omega) (by omega) (by rw [hz2]; omega) (by omega)
  rw [hz1] at hmk
  clear hz0 hz1 hz2 hi0
  go_enter Try.func34, Try.ntmps34
  go_wp2
  go_loopg [3, 4] s.size (fun kq v3 v4 w' => ∃ k : Nat, v4 = .int .i64 k ∧ kq + k = s.size ∧ Hid (w'.ownsRow w.heap.size 5 1 v3 (2 * k) (byc (hexs (s.data.toList.take k)))) ∧ Below w.heap.size w w')
  case atStart => 
    refine ⟨0, rfl, rfl, Lib.hid ?_, (Below.refl _ _).alloc (Nat.le_refl _) _⟩
    exact World.ownsRow_made w _ _ (Nat.le_refl _) (by simp [maxLen]; omega) (by simp [size_madeCells])
  case round =>
    obtain ⟨k, rfl, hk, HO, hbel⟩ := hrel
    have hbs := hbel.size
    by_cases hlt : k < s.size
    · obtain ⟨gk, rfl⟩ : ∃ g, gk = g + 1 := ⟨gk - 1, by omega⟩
      have HS := Lib.hid (hexs_snoc s k hlt)
      generalize hc : s[k] = c at HS
      have hcl : ∀ h : k < s.size, ((s[k]'h).toNat : Int) = (c.toNat : Int) := fun h => by rw [← hc]
      have hc2 : c.toNat < 256 := UInt8.toNat_lt c
      clear hc
      have hq : ∀ W, Calls Try.prog 38 #[.int .u8 ((c.toNat : Int) / 16)] W fun e w' => e = .returned (.int .u8 (hx (c.toNat / 16)).toNat) ∧ W = w' := fun W => by
        have h := hexChar_any (c.toNat / 16) (by omega) W
        rwa [show ((c.toNat / 16 : Nat) : Int) = (c.toNat : Int) / 16 by omega] at h
      have hr : ∀ W, Calls Try.prog 38 #[.int .u8 ((c.toNat : Int) % 16)] W fun e w' => e = .returned (.int .u8 (hx (c.toNat % 16)).toNat) ∧ W = w' := fun W => by
        have h := hexChar_any (c.toNat % 16) (by omega) W
        rwa [show ((c.toNat % 16 : Nat) : Int) = (c.toNat : Int) % 16 by omega] at h
      go_wp2_with (first
        | (go_at_call 38; (with_reducible refine (hq _).mono ?_); rintro e w' ⟨rfl, rfl⟩)
        | (go_at_call 38; (with_reducible refine (hr _).mono ?_); rintro e w' ⟨rfl, rfl⟩)
        | (at_builtin; refine app1 (w0 := w) w.heap.size rfl (.tmp 25) (.tmp 28) 23 5 (.int .u8 0) 1 1 rfl Try.underlying23 info5 rfl (by omega) (by omega) u3 _ _ _ rfl rfl rfl (one1 rfl) HO.out hbel hbs (by omega) ?_; intro v1 w1 hown1 hb1 _ _; have hbs1 := hb1.size; have HO1 := Lib.hid hown1; clear hown1)
        | (at_builtin; refine app1 (w0 := w) w.heap.size rfl (.tmp 30) (.tmp 33) 23 5 (.int .u8 0) 1 1 rfl Try.underlying23 info5 rfl (by omega) (by omega) v1 _ _ _ rfl rfl rfl (one1 rfl) HO1.out hb1 hbs1 (by omega) ?_; intro v2 w2 hown2 hb2 _ _; have HO2 := Lib.hid hown2; clear hown2))
      go_roundg gk
      case measure => omega
      case rel => exact ⟨k + 1, by go_num, by omega, Lib.hid (by rw [HS.out, show 2 * (k + 1) = 2 * k + 1 + 1 by omega]; have h := HO2.out; simpa [byc] using h), hb2⟩
    · have hks : k = s.size := by omega
      have hcv := str_of_rd (P := Try.prog) (n := 2 * k) (xs := (hexs s.data.toList).map fun b => (b.toNat : Int)) Try.underlying23 Try.underlying5 Try.underlying9 (by
        have h := Rd.of_own HO.out
        rw [hks, List.take_of_length_le (by rw [Array.length_toList]; exact Nat.le_refl _)] at h
        rw [hks, List.map_map]
        exact h)
      rw [strOfNums_map] at hcv
      go_wp2
      go_ret
      exact ⟨rfl, hbel⟩

theorem HexForString_any (s : ByteArray) (w : World) (hs : s.size ≤ 2147483647) :
    Calls Try.prog 27 #[.string s] w fun e w' => e = .returned (.string ⟨(hexs s.data.toList).toArray⟩) ∧ Below w.heap.size w w' := by
  go_enter Try.func27, Try.ntmps27
  go_wp2_with (first | (go_at_call 34; refine (hexForString_any s _ hs).mono ?_; rintro e w1 ⟨rfl, hb⟩))
  go_ret
  exact ⟨rfl, hb⟩
theorem txHex_any (s : ByteArray) (w : World) (hs : s.size ≤ 2147483647) :
    Calls Try.prog 17 #[.string s] w fun e w' => e = .returned (.string ⟨(hexs s.data.toList).toArray⟩) ∧ Below w.heap.size w w' := by
  go_enter Try.func17, Try.ntmps17
  go_wp2_with (first | (go_at_call 27; refine (HexForString_any s _ hs).mono ?_; rintro e w1 ⟨rfl, hb⟩))
  go_ret
  exact ⟨rfl, hb⟩

theorem D_one (d : Nat) (hd : d < 16) : D 17 d [] = [hx d] := by
  rw [D, if_neg (by simp)]
  rw [show d / 16 = 0 by omega, D_done _ _ (by simp), show d % 16 = d by omega]
theorem digit_any (d : Nat) (hd : d < 16) (w : World) :
    Calls Try.prog 20 #[.int .u64 (d : Int), .int .i64 16] w fun e w' => e = .returned (.string ⟨#[hx d]⟩) ∧ Dr w w' := by
  have h := digits_any d (by omega) w
  rwa [D_one d hd] at h
theorem shr4 (c : Nat) (hc : c < 256) : bits .and .u8 (c : Int) 15 = (c : Int) % 16 := u8_and15 (x := (c : Int)) (by omega) (by omega)

theorem specHex_any (s : ByteArray) (w : World) (hs : s.size ≤ 2147483647) :
    Calls Try.prog 18 #[.string s] w fun e w' => e = .returned (.string ⟨(hexs s.data.toList).toArray⟩) ∧ Dr w w' := by
  go_enter Try.func18, Try.ntmps18
  go_wp2
  go_loopg [3, 4] s.size (fun kq v3 v4 w' => ∃ k : Nat, v4 = .int .i64 k ∧ kq + k = s.size ∧ v3 = .string ⟨(hexs (s.data.toList.take k)).toArray⟩ ∧ Dr w w')
  case atStart => exact ⟨0, rfl, rfl, rfl, Dr.refl _⟩
  case round =>
    obtain ⟨k, rfl, hk, rfl, hdr⟩ := hrel
    by_cases hlt : k < s.size
    · obtain ⟨gk, rfl⟩ : ∃ g, gk = g + 1 := ⟨gk - 1, by omega⟩
      have HS := Lib.hid (hexs_snoc s k hlt)
      have hl := hexs_len (s.data.toList.take k)
      have hl2 : (s.data.toList.take k).length ≤ k := List.length_take_le _ _
      have hlen : (hexs (s.data.toList.take k)).length ≤ 4294967296 := by omega
      clear hl hl2
      generalize hexs (s.data.toList.take k) = acc at HS hlen
      generalize hc : s[k] = c at HS
      have hcl : ∀ h : k < s.size, ((s[k]'h).toNat : Int) = (c.toNat : Int) := fun h => by rw [← hc]
      have hc2 : c.toNat < 256 := UInt8.toNat_lt c
      clear hc
      have ha := shr4 c.toNat hc2
      have hadd1 : ∀ W, (Op.stringOp .add ⟨#[hx (c.toNat / 16)]⟩ ⟨#[hx (c.toNat % 16)]⟩).run Try.prog W = .ok (.string ⟨#[hx (c.toNat / 16), hx (c.toNat % 16)]⟩) W := fun W => run_string_add_lists W [hx (c.toNat / 16)] [hx (c.toNat % 16)] (by simp) (by simp)
      have hadd2 : ∀ W, (Op.stringOp .add ⟨acc.toArray⟩ ⟨#[hx (c.toNat / 16), hx (c.toNat % 16)]⟩).run Try.prog W = .ok (.string ⟨(acc ++ [hx (c.toNat / 16), hx (c.toNat % 16)]).toArray⟩) W := fun W => by
        rw [run_string_add_sum W _ _ (by simp [ByteArray.size]; omega)]
        rw [show (⟨#[hx (c.toNat / 16), hx (c.toNat % 16)]⟩ : ByteArray) = ⟨[hx (c.toNat / 16), hx (c.toNat % 16)].toArray⟩ from rfl, ByteArray.mk_append_mk]
      have hq : ∀ W, Calls Try.prog 20 #[.int .u64 ((c.toNat : Int) / 16), .int .i64 16] W fun e w' => e = .returned (.string ⟨#[hx (c.toNat / 16)]⟩) ∧ Dr W w' := fun W => by
        have h := digit_any (c.toNat / 16) (by omega) W
        rwa [show ((c.toNat / 16 : Nat) : Int) = (c.toNat : Int) / 16 by omega] at h
      have hr : ∀ W, Calls Try.prog 20 #[.int .u64 ((c.toNat : Int) % 16), .int .i64 16] W fun e w' => e = .returned (.string ⟨#[hx (c.toNat % 16)]⟩) ∧ Dr W w' := fun W => by
        have h := digit_any (c.toNat % 16) (by omega) W
        rwa [show ((c.toNat % 16 : Nat) : Int) = (c.toNat : Int) % 16 by omega] at h
      have hw1 : IntKind.u64.wrap ((c.toNat : Int) / 16) = (c.toNat : Int) / 16 := IntWalk.u64_in _ (by omega)
      have hw2 : IntKind.u64.wrap ((c.toNat : Int) % 16) = (c.toNat : Int) % 16 := IntWalk.u64_in _ (by omega)
      go_wp2_with fail
      go_quiet ((go_at_call 20; first | (with_reducible refine Dr.quiet (hq _)) | (with_reducible refine Dr.quiet (hr _))))
      go_wp2
      go_roundg gk
      case measure => omega
      case rel => exact ⟨k + 1, by go_num, by omega, by rw [HS.out], hdr.drewN _⟩
    · have hks : k = s.size := by omega
      have HT : Hid (s.data.toList.take k = s.data.toList) := Lib.hid (List.take_of_length_le (by rw [hks, Array.length_toList]; exact Nat.le_refl _))
      go_wp2
      go_ret
      rw [HT.out]
      exact ⟨rfl, hdr⟩


/-- The eight bytes of a number, the highest one first. -/
def be (m : Nat) : List Int := [(m : Int) / 72057594037927936 % 256, (m : Int) / 281474976710656 % 256, (m : Int) / 1099511627776 % 256, (m : Int) / 4294967296 % 256, (m : Int) / 16777216 % 256, (m : Int) / 65536 % 256, (m : Int) / 256 % 256, (m : Int) % 256]
theorem str8 (W : World) (b : Nat) (x0 x1 x2 x3 x4 x5 x6 x7 : Int) (h0 : W.cell? ⟨b, 0, none⟩ = some (.int .u8 x0)) (h1 : W.cell? ⟨b, 1, none⟩ = some (.int .u8 x1)) (h2 : W.cell? ⟨b, 2, none⟩ = some (.int .u8 x2)) (h3 : W.cell? ⟨b, 3, none⟩ = some (.int .u8 x3))
    (h4 : W.cell? ⟨b, 4, none⟩ = some (.int .u8 x4)) (h5 : W.cell? ⟨b, 5, none⟩ = some (.int .u8 x5)) (h6 : W.cell? ⟨b, 6, none⟩ = some (.int .u8 x6)) (h7 : W.cell? ⟨b, 7, none⟩ = some (.int .u8 x7)) :
    (convert 23 9 (.slice (some ⟨b, 0, none⟩) 8 8)).run Try.prog W = .ok (.string (strOfNums [x0, x1, x2, x3, x4, x5, x6, x7])) W := by
  refine run_convert_bytes_arg W 23 5 Try.underlying23 Try.underlying5 b 0 8 8 [x0, x1, x2, x3, x4, x5, x6, x7] rfl (fun i hi => ?_) 9 Try.underlying9
  rw [Nat.zero_add]
  match i, hi with
  | 0, _ => exact h0
  | 1, _ => exact h1
  | 2, _ => exact h2
  | 3, _ => exact h3
  | 4, _ => exact h4
  | 5, _ => exact h5
  | 6, _ => exact h6
  | 7, _ => exact h7

theorem hexNeg_any (m : Nat) (w : World) (h1 : 9223372036854775808 ≤ m) (h2 : m < 18446744073709551616) :
    Calls Try.prog 35 #[.int .i64 ((m : Int) - 18446744073709551616)] w fun e w' => e = .returned (.string ⟨(hexs (strOfNums (be m)).data.toList).toArray⟩) ∧ Below w.heap.size w w' := by
  have HM := Lib.hid (And.intro h1 h2)
  have hcv : IntKind.u64.wrap ((m : Int) - 18446744073709551616) = (m : Int) := by
    rw [IntKind.wrap]
    simp [IntKind.bits, IntKind.signed]
    omega
  obtain ⟨n, hn⟩ : ∃ n : Int, n = (m : Int) - 18446744073709551616 := ⟨_, rfl⟩
  rw [← hn] at hcv ⊢
  have hc8 := fun W => str8 W w.heap.size
  clear hn h1 h2
  go_enter Try.func35, Try.ntmps35
  go_wp2
  refine wp_loop_rounds 9 ?_
  iterate 9 (rw [rounds_succ]; go_wp2)
  refine wp_loop_rounds 5 ?_
  iterate 4 (rw [rounds_succ]; go_wp2; go_region; go_wp2)
  rw [rounds_succ]
  go_wp2_with (first | (go_at_call 34; refine (hexForString_any (strOfNums (be m)) _ (by rw [strOfNums_size]; simp [be])).mono ?_; rintro e w1 ⟨rfl, hb⟩))
  go_ret
  refine ⟨rfl, ?_⟩
  refine Below.trans ?_ (hb.mono (by simp))
  repeat (first | with_reducible exact Below.refl _ _ | with_reducible apply Below.drew | with_reducible refine Below.alloc ?_ (by simp) _ | with_reducible refine Below.setCell ?_ (by simp) _)

theorem HexNeg_any (m : Nat) (w : World) (h1 : 9223372036854775808 ≤ m) (h2 : m < 18446744073709551616) :
    Calls Try.prog 28 #[.int .i64 ((m : Int) - 18446744073709551616)] w fun e w' => e = .returned (.string ⟨(hexs (strOfNums (be m)).data.toList).toArray⟩) ∧ Below w.heap.size w w' := by
  have H := fun W => hexNeg_any m W h1 h2
  generalize (m : Int) - 18446744073709551616 = n at H ⊢
  clear h1 h2
  go_enter Try.func28, Try.ntmps28
  go_wp2_with (first | (go_at_call 35; refine (H _).mono ?_; rintro e w1 ⟨rfl, hb⟩))
  go_ret
  exact ⟨rfl, hb⟩
theorem txHexNum_any (m : Nat) (w : World) (h1 : 9223372036854775808 ≤ m) (h2 : m < 18446744073709551616) :
    Calls Try.prog 19 #[.int .i64 ((m : Int) - 18446744073709551616)] w fun e w' => e = .returned (.string ⟨(hexs (strOfNums (be m)).data.toList).toArray⟩) ∧ Below w.heap.size w w' := by
  have H := fun W => HexNeg_any m W h1 h2
  generalize (m : Int) - 18446744073709551616 = n at H ⊢
  clear h1 h2
  go_enter Try.func19, Try.ntmps19
  go_wp2_with (first | (go_at_call 28; refine (H _).mono ?_; rintro e w1 ⟨rfl, hb⟩))
  go_ret
  exact ⟨rfl, hb⟩

theorem D_next (k n : Nat) (s : List UInt8) (h : n ≠ 0 ∨ s = []) : D (k + 1) n s = D k (n / 16) (hx (n % 16) :: s) := by
  rw [D, if_neg (by rintro ⟨h1, h2⟩; rcases h with h | h <;> contradiction)]
theorem cons_eq {α : Type} {a b : α} {l m : List α} (h : a = b) (k : l = m) : a :: l = b :: m := by rw [h, k]
theorem hexs_be (m : Nat) (h1 : 9223372036854775808 ≤ m) (h2 : m < 18446744073709551616) : hexs (strOfNums (be m)).data.toList = D 17 m [] := by
  have e : ∀ q : Nat, (UInt8.ofNat ((q : Int) % 256).toNat).toNat = q % 256 := fun q => by
    rw [show ((q : Int) % 256).toNat = q % 256 by omega]
    simp
  rw [strOfNums_data, be]
  simp only [show ∀ d : Nat, (m : Int) / (d : Int) = ((m / d : Nat) : Int) from fun d => by simp, hexs, List.map_cons, List.map_nil, List.flatMap_cons, List.flatMap_nil, List.append_nil, List.cons_append, List.nil_append]
  rw [show (m : Int) / 72057594037927936 = ((m / 72057594037927936 : Nat) : Int) by omega, show (m : Int) / 281474976710656 = ((m / 281474976710656 : Nat) : Int) by omega, show (m : Int) / 1099511627776 = ((m / 1099511627776 : Nat) : Int) by omega, show (m : Int) / 4294967296 = ((m / 4294967296 : Nat) : Int) by omega, show (m : Int) / 16777216 = ((m / 16777216 : Nat) : Int) by omega, show (m : Int) / 65536 = ((m / 65536 : Nat) : Int) by omega, show (m : Int) / 256 = ((m / 256 : Nat) : Int) by omega]
  simp only [e]
  rw [D_next _ _ _ (.inr rfl)]
  rw [D_next _ _ _ (.inl (by omega)), D_next _ _ _ (.inl (by omega)), D_next _ _ _ (.inl (by omega)), D_next _ _ _ (.inl (by omega)), D_next _ _ _ (.inl (by omega)), D_next _ _ _ (.inl (by omega)), D_next _ _ _ (.inl (by omega)), D_next _ _ _ (.inl (by omega)), D_next _ _ _ (.inl (by omega)), D_next _ _ _ (.inl (by omega)), D_next _ _ _ (.inl (by omega)), D_next _ _ _ (.inl (by omega)), D_next _ _ _ (.inl (by omega)), D_next _ _ _ (.inl (by omega)), D_next _ _ _ (.inl (by omega))]
  rw [show m / 16 / 16 / 16 / 16 / 16 / 16 / 16 / 16 / 16 / 16 / 16 / 16 / 16 / 16 / 16 / 16 = 0 by omega, D_done _ _ (by simp)]
  iterate 16 (refine cons_eq (congrArg hx (by omega)) ?_)
  rfl

theorem u64_wraps (n : Int) (h0 : 0 ≤ n) (h1 : n < 2 ^ 64) : IntKind.u64.wrap n = n := IntWalk.u64_in n (by omega)
theorem or_top (n : Nat) (hn : n < 18446744073709551616) : ∃ m : Nat, bits .or .u64 (n : Int) 9223372036854775808 = (m : Int) ∧ 9223372036854775808 ≤ m ∧ m < 18446744073709551616 := by
  refine ⟨n ||| 9223372036854775808, ?_, Nat.right_le_or, Nat.or_lt_two_pow (n := 64) (by omega) (by omega)⟩
  exact (bits_nat .u64 64 (by decide) u64_wraps n 9223372036854775808 (by omega) (by omega)).2

theorem law_any (s : ByteArray) (n : Int) (w : World) (hs : s.size ≤ 9223372036854775807) (wn : (Lit.int .u64 n).wf = true) :
    Calls Try.prog 8 #[.string s, .int .u64 n] w fun e w' => e = .returned (.bool true) ∧ Below w.heap.size w w' := by
  obtain ⟨hn0, hn1⟩ := bounds_u64 wn
  clear wn
  obtain ⟨n, rfl⟩ := Int.eq_ofNat_of_zero_le hn0
  obtain ⟨m, hor, hm1, hm2⟩ := or_top n (by omega)
  by_cases hb : s.size ≤ 2147483647
  · have HN := fun W => txHexNum_any m W hm1 hm2
    have HD := fun W => digits_any m hm2 W
    have HE := Lib.hid (hexs_be m hm1 hm2)
    have hcv : wrap64 (m : Int) = (m : Int) - 18446744073709551616 := by unfold wrap64; omega
    rw [HE.out] at HN
    rw [← hcv] at HN
    clear hcv hm1 hm2 hn0 hn1
    go_enter Try.func8, Try.ntmps8
    go_wp2_with (first
      | (go_at_call 17; refine (txHex_any s _ hb).mono ?_; rintro e w1 ⟨rfl, hb1⟩)
      | (go_at_call 18; refine (specHex_any s _ hb).mono ?_; rintro e w2 ⟨rfl, hd2⟩)
      | (go_at_call 19; refine (HN _).mono ?_; rintro e w3 ⟨rfl, hb3⟩)
      | (go_at_call 20; refine (HD _).mono ?_; rintro e w4 ⟨rfl, hd4⟩))
    go_ret
    have k2 := hd2.below w.heap.size
    have z1 := hb1.size
    have z2 := k2.size
    exact ⟨rfl, (hb1.trans k2).trans ((hb3.mono (by omega)).trans (hd4.below _))⟩
  · go_enter Try.func8, Try.ntmps8
    go_wp2
    go_ret
    exact ⟨rfl, Below.refl _ _⟩

end Go.Proofs.Ytghigcmjldjljaa.Hex
