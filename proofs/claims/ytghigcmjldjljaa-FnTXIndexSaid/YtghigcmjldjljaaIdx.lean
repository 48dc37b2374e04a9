/- The walks of FnTXIndex: a text's first place within another one. Conditions: those written at each lemma. -/
import Derived.Test.YtghigcmjldjljaaTxt
set_option linter.unusedVariables false
set_option linter.unusedSimpArgs false
set_option maxRecDepth 100000
set_option maxHeartbeats 1000000
namespace Go.Proofs.Ytghigcmjldjljaa.Idx
open Go.RowKit Go.Proofs.Ytghigcmjldjljaa.B Go.Proofs.Ytghigcmjldjljaa.Txt

def occ (a b : List UInt8) (i : Nat) : Prop := (a.drop i).take b.length = b
/-- r is the first place of b in a, or -1. -/
def Fst (a b : List UInt8) (r : Int) : Prop :=
  (r = -1 ∧ ∀ i, i + b.length ≤ a.length → ¬ occ a b i) ∨ (∃ i : Nat, r = i ∧ i + b.length ≤ a.length ∧ occ a b i ∧ ∀ k, k < i → ¬ occ a b k)
theorem Fst.eq {a b : List UInt8} {r q : Int} (h : Fst a b r) (k : Fst a b q) : r = q := by
  rcases h with ⟨rfl, h⟩ | ⟨i, rfl, h1, h2, h3⟩ <;> rcases k with ⟨rfl, k⟩ | ⟨j, rfl, k1, k2, k3⟩
  · rfl
  · exact absurd k2 (h j k1)
  · exact absurd h2 (k i h1)
  · rcases Nat.lt_trichotomy i j with h | h | h
    · exact absurd h2 (k3 i h)
    · rw [h]
    · exact absurd k2 (h3 j h)
theorem Fst.nonneg {a b : List UInt8} {r : Int} (h : Fst a b r) (i : Nat) (hi : i + b.length ≤ a.length) (ho : occ a b i) : 0 ≤ r := by
  rcases h with ⟨rfl, h⟩ | ⟨j, rfl, _⟩
  · exact absurd ho (h i hi)
  · omega

theorem Fst.bd {a b : List UInt8} {r : Int} (h : Fst a b r) : -1 ≤ r ∧ r ≤ a.length := by
  rcases h with ⟨rfl, h⟩ | ⟨j, rfl, _⟩ <;> omega

theorem rd_at {w : World} {v : Value} {n : Nat} {l : List UInt8} (h : Rd w 1 v n (rns l)) : ∀ k (hk : k < l.length), ∃ b o c, v = .slice (some ⟨b, o, none⟩) n c ∧ b < w.heap.size ∧ w.cell? ⟨b, o + k, none⟩ = some (.int .i32 (l[k].toNat : Int)) := by
  intro k hk
  have hn : n = l.length := by have := h.len; simp [rns] at this; omega
  obtain ⟨b, o, c, hv, _, _, hb, hc⟩ := h.open (by omega)
  exact ⟨b, o, c, hv, hb, hc k _ (by simp [rns, List.getElem?_map, hk])⟩

theorem find_any (va vb : Value) (a b : List UInt8) (w : World) (ha : Rd w 1 va a.length (rns a)) (hb : Rd w 1 vb b.length (rns b)) (la : a.length ≤ 1000000) (lb : b.length ≤ 1000000) :
    Calls Try.prog 31 #[va, vb] w fun e w' => ∃ r, e = .returned (.int .i64 r) ∧ Fst a b r ∧ Dr w w' := by
  obtain ⟨A, ca, hva, _⟩ := ha.shape
  obtain ⟨B, cb, hvb, _⟩ := hb.shape
  subst hva
  subst hvb
  have HA := Lib.hid ha
  have HB := Lib.hid hb
  clear ha hb
  go_enter Try.func31, Try.ntmps31
  go_wp2
  go_loopw [5, 6] (fun v5 _ wr => ∃ i : Nat, v5 = .int .i64 i ∧ i ≤ a.length + 1 ∧ Hid (∀ k, k < i → ¬ occ a b k) ∧ Dr w wr) (fun v5 _ _ => (a.length + 1 - (intOf v5)).toNat)
  case atStart => exact ⟨0, rfl, by omega, Lib.hid (by omega), Dr.refl _⟩
  case round =>
    obtain ⟨i, rfl, hi, HK, hdr⟩ := hrel
    by_cases hlt : i + b.length ≤ a.length
    · have hd : decide ((i : Int) ≤ (a.length : Int) - (b.length : Int)) = true := decide_eq_true (by omega)
      go_wp2
      obtain ⟨wo, rfl⟩ : ∃ wo : World, wo = wr := ⟨_, rfl⟩
      go_loopw [6] (fun v6 wr => ∃ j : Nat, v6 = .int .i64 j ∧ j ≤ b.length ∧ Hid ((a.drop i).take j = b.take j) ∧ Dr w wr) (fun v6 _ => (b.length - (intOf v6)).toNat)
      case atStart => exact ⟨0, rfl, by omega, Lib.hid (by simp), hdr⟩
      case round =>
        obtain ⟨j, rfl, hj, HJ, hdr2⟩ := hrel
        by_cases hjl : j < b.length
        · obtain ⟨b1, o1, c1, e1, hb1, hc1⟩ := rd_at HA.out (i + j) (by omega)
          obtain ⟨b2, o2, c2, e2, hb2, hc2⟩ := rd_at HB.out j hjl
          injection e1 with f1 _ f3
          injection e2 with g1 _ g3
          have x1 : wr.cell? ⟨b1, o1 + (i + j), none⟩ = some (.int .i32 (a[i + j].toNat : Int)) := by rw [← hc1]; exact (hdr2.below w.heap.size).cell hb1
          have x2 : wr.cell? ⟨b2, o2 + j, none⟩ = some (.int .i32 (b[j].toNat : Int)) := by rw [← hc2]; exact (hdr2.below w.heap.size).cell hb2
          subst f1; subst f3; subst g1; subst g3
          have HN : Hid (a[i + j] = b[j] → (a.drop i).take (j + 1) = b.take (j + 1)) := Lib.hid (fun h => by
            rw [List.take_succ_eq_append_getElem (by simp; omega), List.take_succ_eq_append_getElem hjl, HJ.out]
            congr 2
            rw [List.getElem_drop]
            exact h)
          have HM : Hid (a[i + j] ≠ b[j] → ¬ occ a b i) := Lib.hid (fun h ho => by
            apply h
            have h1 := congrArg (·[j]?) ho
            simp only [List.getElem?_take, if_pos hjl, List.getElem?_drop, List.getElem?_eq_getElem hjl] at h1
            rw [List.getElem?_eq_getElem (by omega)] at h1
            exact Option.some.inj h1)
          have HT : Hid ((a[i + j].toNat : Int) = b[j].toNat ↔ a[i + j] = b[j]) := Lib.hid ⟨fun h => UInt8.toNat_inj.1 (by omega), fun h => by rw [h]⟩
          generalize (a[i + j].toNat : Int) = p at *
          generalize (b[j].toNat : Int) = q at *
          clear hc1 hc2
          rcases bq p q with ⟨_, t2, t3⟩ | ⟨_, t2, t3⟩
          · have HN' := Lib.hid (HN.out (HT.out.1 t3))
            clear HN HM HT t3
            go_wp2
            go_region
            go_wp2
            go_roundw
            case rel => exact ⟨j + 1, by go_num, by omega, HN', hdr2.drew⟩
            case measure => simp [intOf]; omega
          · have HM' := Lib.hid (HM.out (fun h => t3 (HT.out.2 h)))
            clear HN HM HT t3
            have hne : (j : Int) ≠ b.length := by omega
            have hne2 : ((j : Int) == b.length) = false := by simpa using hne
            clear hne
            go_wp2
            go_region
            go_wp2
            exact ⟨⟨i + 1, by go_num, by omega, Lib.hid (fun k hk => by
              rcases Nat.lt_or_ge k i with h | h
              · exact HK.out k h
              · obtain rfl : k = i := by omega
                exact HM'.out), hdr2.drew⟩, by simp [intOf]; omega⟩
        · obtain rfl : j = b.length := by omega
          have HO : Hid (occ a b i) := Lib.hid (by have := HJ.out; rwa [List.take_length] at this)
          go_wp2
          go_ret
          exact ⟨_, rfl, .inr ⟨i, rfl, hlt, HO.out, HK.out⟩, hdr2⟩
    · go_wp2
      go_ret
      exact ⟨_, rfl, .inl ⟨rfl, fun k hk => HK.out k (by omega)⟩, hdr⟩


theorem Find_any (va vb : Value) (a b : List UInt8) (w : World) (ha : Rd w 1 va a.length (rns a)) (hb : Rd w 1 vb b.length (rns b)) (la : a.length ≤ 1000000) (lb : b.length ≤ 1000000) :
    Calls Try.prog 23 #[va, vb] w fun e w' => ∃ r, e = .returned (.int .i64 r) ∧ Fst a b r ∧ Dr w w' := by
  have L := find_any va vb a b w ha hb la lb
  clear ha hb
  go_enter Try.func23, Try.ntmps23
  go_wp2_with (first | (go_at_call 31; (with_reducible refine L.mono ?_); rintro e w1 ⟨r, rfl, hf, hd⟩; have HF := Lib.hid hf; clear hf))
  go_ret
  exact ⟨_, rfl, HF.out, hd⟩

theorem txIndex_any (b a : List UInt8) (w : World) (ha : asc a) (hb : asc b) (la : a.length ≤ 1000000) (lb : b.length ≤ 1000000) :
    Calls Try.prog 13 #[.string (bs b), .string (bs a)] w fun e w' => ∃ r, e = .returned (.int .i64 r) ∧ Fst a b r ∧ Below w.heap.size w w' := by
  obtain ⟨v1, w1, r1, o1, b1⟩ := runes_of (P := Try.prog) w 9 45 21 a ha la Try.underlying9 Try.underlying45 Try.underlying21
  obtain ⟨v2, w2, r2, o2, b2⟩ := runes_of (P := Try.prog) w1 9 45 21 b hb lb Try.underlying9 Try.underlying45 Try.underlying21
  have L := Find_any v1 v2 a b w2 ((Rd.of_own o1).below b2) (Rd.of_own o2) la lb
  clear ha hb o1 o2
  go_enter Try.func13, Try.ntmps13
  go_wp2_with (first | (go_at_call 23; (with_reducible refine L.mono ?_); rintro e w3 ⟨r, rfl, hf, hd⟩; have HF := Lib.hid hf; clear hf))
  go_ret
  exact ⟨_, rfl, HF.out, (b1.trans (b2.mono b1.size)).trans (hd.below _)⟩

def chAb (c : Int) : UInt8 := if c % 2 = 0 then 97 else 98
def abL (zs : List Int) : List UInt8 := zs.map chAb
theorem abL_asc (zs : List Int) : asc (abL zs) := by
  intro b hb
  simp only [abL, List.mem_map] at hb
  obtain ⟨c, _, rfl⟩ := hb
  unfold chAb
  split <;> decide
theorem slice_ab (x : Int) (h0 : 0 ≤ x) (W : World) : (Instr.slice 9 (.string ⟨#[97, 98]⟩) (some (.int .u8 (x % 2))) (some (.int .u8 (x % 2 + 1))) none).run Try.prog W = .ok (.string ⟨#[chAb x]⟩) W := by
  rw [run_slice_string (P := Try.prog) (w := W) 9 ⟨#[97, 98]⟩ .u8 .u8 (x % 2) (x % 2 + 1) Try.underlying9 (by omega) (by omega) (by show _ ≤ (2 : Int); omega)]
  unfold chAb
  have : x % 2 = 0 ∨ x % 2 = 1 := by omega
  rcases this with h | h <;> rw [h] <;> rfl

theorem txAb_any (A : Option Addr) (len cap : Nat) (zs : List Int) (m : Nat) (w : World) (h : IsRow .u8 w A len cap zs) (hlen : len ≤ 2147483647) (hm : m ≤ 1000) :
    Calls Try.prog 12 #[.slice A len cap, .int .i64 m] w fun e w' => e = .returned (.string (bs (abL ((zs.take len).take m)))) ∧ Dr w w' := by
  obtain ⟨hrd, hwf⟩ := h.rd
  have hzl : (zs.take len).length = len := by have := hrd.len; simpa using this
  have hwf2 : ∀ k (hk : k < (zs.take len).length), 0 ≤ (zs.take len)[k] ∧ (zs.take len)[k] ≤ 255 := fun k hk => bounds_u8 (hwf _ (List.mem_of_mem_take (List.getElem_mem hk)))
  generalize zs.take len = xs at *
  have HR := Lib.hid hrd
  have HX := Lib.hid hwf2
  have HL := Lib.hid hzl
  clear hrd hwf hwf2 h hzl
  go_enter Try.func12, Try.ntmps12
  go_wp2
  go_loopw [5, 6] (fun v5 v6 wr => ∃ k : Nat, v6 = .int .i64 k ∧ k ≤ len ∧ k ≤ m ∧ v5 = .string (bs (abL (xs.take k))) ∧ Dr w wr) (fun _ i _ => len - (intOf i).toNat)
  case atStart => exact ⟨0, rfl, by omega, by omega, rfl, Dr.refl _⟩
  case round =>
    obtain ⟨k, rfl, k1, k2, rfl, hdr⟩ := hrel
    by_cases h1 : k < len
    · by_cases h2 : k < m
      · have hkx : k < xs.length := by rw [HL.out]; exact h1
        obtain ⟨b, o, c, hv, _, _, hb, hc⟩ := HR.out.open (by omega)
        injection hv with hA _ hC
        have hcell : wr.cell? ⟨b, o + k, none⟩ = some (.int .u8 xs[k]) := ((hdr.below w.heap.size).cell (p := ⟨b, o + k, none⟩) hb).trans (hc k _ (by rw [List.getElem?_map, List.getElem?_eq_getElem hkx]; rfl))
        have hx := HX.out k hkx
        obtain ⟨x0, x1⟩ := hx
        have HN : Hid (abL (xs.take (k + 1)) = abL (xs.take k) ++ [chAb xs[k]]) := Lib.hid (by
          rw [List.take_succ_eq_append_getElem hkx, abL, List.map_append]
          rfl)
        have hadd := cat (P := Try.prog) (abL (xs.take k)) [chAb xs[k]] (by simp [abL]; omega)
        have hsl := slice_ab xs[k] x0
        generalize xs[k] = x at *
        generalize abL (xs.take k) = acc at *
        subst hA
        subst hC
        have y0 : 0 ≤ x % 2 := by omega
        have y1 : x % 2 ≤ 1 := by omega
        clear hc
        go_wp2
        go_region
        go_wp2
        go_roundw
        case rel => exact ⟨k + 1, by go_num, by omega, by omega, by rw [HN.out], hdr.drew⟩
        case measure => simp [intOf]; omega
      · obtain rfl : k = m := by omega
        go_wp2
        go_ret
        exact ⟨rfl, hdr⟩
    · have HE : Hid (xs.take k = xs.take m) := Lib.hid (by rw [List.take_of_length_le (by rw [HL.out]; omega), List.take_of_length_le (by rw [HL.out]; omega)])
      go_wp2
      go_ret
      rw [HE.out]
      exact ⟨rfl, hdr⟩


theorem slice_bs (t : List UInt8) (i m : Nat) (h : i + m ≤ t.length) (W : World) : (Instr.slice 9 (.string (bs t)) (some (.int .i64 (i : Int))) (some (.int .i64 ((i : Int) + m))) none).run Try.prog W = .ok (.string (bs ((t.drop i).take m))) W := by
  rw [run_slice_string (P := Try.prog) (w := W) 9 (bs t) .i64 .i64 i (i + m) Try.underlying9 (by omega) (by omega) (by rw [bs_size]; omega)]
  congr 2
  rw [show ((i : Int)).toNat = i by omega, show ((i : Int) + m).toNat = i + m by omega]
  apply ByteArray.ext
  rw [ByteArray.data_extract]
  apply Array.ext'
  simp [bs, List.extract_eq_take_drop]

theorem law_any (A : Option Addr) (la ca : Nat) (za : List Int) (B : Option Addr) (lb cb : Nat) (zb : List Int) (w : World) (ha : IsRow .u8 w A la ca za) (hb : IsRow .u8 w B lb cb zb) :
    Calls Try.prog 5 #[.slice A la ca, .slice B lb cb] w fun e w' => e = .returned (.bool true) ∧ Below w.heap.size w w' := by
  have ba := ha.rd.1.le
  have bb := hb.rd.1.le
  by_cases sa : la ≤ 2147483647
  · by_cases sb : lb ≤ 2147483647
    · have PA : ∀ W, Below w.heap.size w W → Calls Try.prog 12 #[.slice A la ca, .int .i64 6] W fun e w' => e = .returned (.string (bs (abL ((za.take la).take 6)))) ∧ Dr W w' := fun W (hW : Below w.heap.size w W) => txAb_any A la ca za 6 W (ha.below hW) sa (by omega)
      have PB : ∀ W, Below w.heap.size w W → Calls Try.prog 12 #[.slice B lb cb, .int .i64 40] W fun e w' => e = .returned (.string (bs (abL ((zb.take lb).take 40)))) ∧ Dr W w' := fun W (hW : Below w.heap.size w W) => txAb_any B lb cb zb 40 W (hb.below hW) sb (by omega)
      have q1 : (abL ((za.take la).take 6)).length ≤ 6 := by simp [abL]; omega
      have q2 : (abL ((zb.take lb).take 40)).length ≤ 40 := by simp [abL]; omega
      have a1 := abL_asc ((za.take la).take 6)
      have a2 := abL_asc ((zb.take lb).take 40)
      generalize abL ((za.take la).take 6) = s at *
      generalize abL ((zb.take lb).take 40) = t at *
      have R1 := fun W => txIndex_any s t W a2 a1 (by omega) (by omega)
      have R2 := fun W => txIndex_any s (t ++ s) W (fun b hb => by rcases List.mem_append.1 hb with h | h; exact a2 b h; exact a1 b h) a1 (by simp; omega) (by omega)
      have k1 := cat (P := Try.prog) t s (by omega)
      have HO : Hid (occ (t ++ s) s t.length ∧ t.length + s.length ≤ (t ++ s).length) := Lib.hid ⟨by unfold occ; simp, by simp⟩
      clear a1 a2 ha hb
      have hbw := Below.refl w.heap.size w
      by_cases hs : s = []
      · subst hs
        go_enter Try.func5, Try.ntmps5
        go_wp2_with (first
          | (go_at_call 12; (with_reducible refine (PA _ hbw).mono ?_); rintro e w1 ⟨rfl, hd1⟩; have hb1 := hd1.below w.heap.size)
          | (go_at_call 12; (with_reducible refine (PB _ hb1).mono ?_); rintro e w2 ⟨rfl, hd2⟩; have hbn2 := hb1.trans (hd2.below _)))
        go_ret
        exact ⟨rfl, hbn2⟩
      · have hse : s.isEmpty = false := by simpa using hs
        have hs0 : 0 < s.length := List.length_pos_iff.2 hs
        clear hs
        go_enter Try.func5, Try.ntmps5
        go_wp2_with (first
          | (go_at_call 12; (with_reducible refine (PA _ hbw).mono ?_); rintro e w1 ⟨rfl, hd1⟩; have hb1 := hd1.below w.heap.size)
          | (go_at_call 12; (with_reducible refine (PB _ hb1).mono ?_); rintro e w2 ⟨rfl, hd2⟩; have hbn2 := hb1.trans (hd2.below _)))
        go_loop [7, 8] (fun v7 v8 => ∃ (x i : Int), v7 = .int .i64 x ∧ v8 = .int .i64 i ∧ -7 ≤ i ∧ i ≤ (t.length : Int) - s.length ∧ -1 ≤ x ∧ x ≤ 100 ∧ Hid ((x = -1 ∧ ∀ k : Nat, i < k → k + s.length ≤ t.length → ¬ occ t s k) ∨ ∃ j : Nat, x = j ∧ i < j ∧ j + s.length ≤ t.length ∧ occ t s j ∧ ∀ k : Nat, i < k → k < j → ¬ occ t s k)) (fun _ v8 => (intOf v8 + 1).toNat)
        case atStart => exact ⟨-1, _, rfl, rfl, by omega, by omega, by omega, by omega, Lib.hid (.inl ⟨rfl, fun k h1 h2 => by omega⟩)⟩
        case round =>
          obtain ⟨x, i, rfl, rfl, i0, i1, x0, x1, HX⟩ := hrel
          by_cases hi : 0 ≤ i
          · obtain ⟨i, rfl⟩ := Int.eq_ofNat_of_zero_le hi
            have hsl := slice_bs t i s.length (by omega)
            have HC : Hid (occ t s i ↔ (t.drop i).take s.length = s) := Lib.hid Iff.rfl
            generalize (t.drop i).take s.length = pc at *
            by_cases hp : pc = s
            · subst hp
              have HX' : Hid (((i : Int) = -1 ∧ ∀ k : Nat, (i : Int) - 1 < k → k + pc.length ≤ t.length → ¬ occ t pc k) ∨ ∃ j : Nat, (i : Int) = j ∧ (i : Int) - 1 < j ∧ j + pc.length ≤ t.length ∧ occ t pc j ∧ ∀ k : Nat, (i : Int) - 1 < k → k < j → ¬ occ t pc k) :=
                Lib.hid (.inr ⟨i, rfl, by omega, by omega, HC.out.2 rfl, fun k h1 h2 => by omega⟩)
              clear HX HC
              go_wp2
              go_round
              case rel => exact ⟨i, i - 1, rfl, rfl, by omega, by omega, by omega, by omega, HX'⟩
              case measure => simp [intOf]
            · have hpb : (pc == s) = false := by simpa using hp
              have HX' : Hid ((x = -1 ∧ ∀ k : Nat, (i : Int) - 1 < k → k + s.length ≤ t.length → ¬ occ t s k) ∨ ∃ j : Nat, x = j ∧ (i : Int) - 1 < j ∧ j + s.length ≤ t.length ∧ occ t s j ∧ ∀ k : Nat, (i : Int) - 1 < k → k < j → ¬ occ t s k) := Lib.hid (by
                have hn : ¬ occ t s i := fun h => hp (HC.out.1 h)
                have key : ∀ k : Nat, (i : Int) - 1 < k → (i : Int) < k ∨ k = i := fun k h => by omega
                rcases HX.out with ⟨h1, h2⟩ | ⟨j, h1, h2, h3, h4, h5⟩
                · refine .inl ⟨h1, fun k hk hk2 => ?_⟩
                  rcases key k hk with h | rfl
                  · exact h2 k h hk2
                  · exact hn
                · refine .inr ⟨j, h1, by omega, h3, h4, fun k hk hk2 => ?_⟩
                  rcases key k hk with h | rfl
                  · exact h5 k h hk2
                  · exact hn)
              clear HX HC hp
              go_wp2
              go_round
              case rel => exact ⟨x, i - 1, rfl, rfl, by omega, by omega, by omega, by omega, HX'⟩
              case measure => simp [intOf]
          · have HF : Hid (Fst t s x) := Lib.hid (by
              rcases HX.out with ⟨h1, h2⟩ | ⟨j, h1, h2, h3, h4, h5⟩
              · exact .inl ⟨h1, fun k hk => h2 k (by omega) hk⟩
              · exact .inr ⟨j, h1, h3, h4, fun k hk => h5 k (by omega) hk⟩)
            clear HX
            go_wp2_with (first
              | (go_at_call 13; (with_reducible refine (R1 _).mono ?_); rintro e w3 ⟨r, rfl, hf, hb3⟩; obtain rfl := hf.eq HF.out; clear hf)
              | (go_at_call 13; (with_reducible refine (R2 _).mono ?_); rintro e w4 ⟨r2, rfl, hf2, hb4⟩; have hr2 := hf2.nonneg _ HO.out.2 HO.out.1; clear hf2))
            go_ret
            exact ⟨rfl, (hbn2.trans (hb3.mono hbn2.size)).trans (hb4.mono (by have := hbn2.size; have := hb3.size; omega))⟩
    · clear ha hb
      go_enter Try.func5, Try.ntmps5
      go_wp2
      go_ret
      exact ⟨rfl, Below.refl _ _⟩
  · clear ha hb
    go_enter Try.func5, Try.ntmps5
    go_wp2
    go_ret
    exact ⟨rfl, Below.refl _ _⟩

end Go.Proofs.Ytghigcmjldjljaa.Idx
