/- Texts of signs below 128: '[]rune(s)', 'string(r)', and the walks of txPlain and reverseString, and of the law FnTXReverse. Conditions: those written at each lemma. -/
import Derived.Test.YtghigcmjldjljaaProg
import Derived.Test.YtghigcmjldjljaaBase
import Derived.Laws.RangeString
import Derived.Laws.IdiomStrings
import Derived.Laws.Cover4
import Derived.Laws.Concat
import Derived.Laws.CopyRow
import Derived.LoopN
set_option linter.unusedVariables false
set_option linter.unusedSimpArgs false
set_option maxRecDepth 100000
namespace Go.Proofs.Ytghigcmjldjljaa.Txt
open Go.RowKit Go.Proofs.Ytghigcmjldjljaa.B

abbrev asc (l : List UInt8) : Prop := ∀ b ∈ l, b.toNat < 128
abbrev bs (l : List UInt8) : ByteArray := ⟨l.toArray⟩
abbrev rns (l : List UInt8) : List Value := l.map fun b => Value.int .i32 (b.toNat : Int)
theorem bs_size (l : List UInt8) : (bs l).size = l.length := by simp [bs, ByteArray.size]

theorem runesFrom_asc (l : List UInt8) (h : asc l) : ∀ (k i : Nat) (acc : Array Value), l.length = i + k → Conv.runesFrom (bs l) k i acc = acc ++ (rns (l.drop i)).toArray
  | 0, i, acc, hk => by
    rw [List.drop_of_length_le (by omega)]
    simp [Conv.runesFrom]
  | k + 1, i, acc, hk => by
    have hi : i < l.length := by omega
    have hs : i < (bs l).size := by rw [bs_size]; exact hi
    unfold Conv.runesFrom
    rw [if_pos hs]
    have hb : ((bs l)[i]'hs) = l[i] := rfl
    have hd := decode_ascii (bs l) i hs (by rw [hb]; exact h _ (List.getElem_mem hi))
    rw [hb] at hd
    rw [hd]
    simp only
    rw [runesFrom_asc l h k (i + 1) _ (by omega), show l.drop i = l[i] :: l.drop (i + 1) from List.drop_eq_getElem_cons hi]
    apply Array.ext'
    simp only [rns, List.map_cons, Array.toList_append, Array.toList_push, List.append_assoc, List.singleton_append]
    rfl
theorem runesFrom_all (l : List UInt8) (h : asc l) : Conv.runesFrom (bs l) (bs l).size 0 #[] = (rns l).toArray := by
  rw [bs_size, runesFrom_asc l h _ 0 _ (by omega)]
  simp

/-- '[]rune(s)'. -/
theorem runes_of {P : Program} (w : World) (src dst e : TypeId) (l : List UInt8) (h : asc l) (hl : l.length ≤ 1000000) (hs : P.underlying src = some .string) (hd : P.underlying dst = some (.slice e)) (he : P.underlying e = some (.int .i32)) :
    ∃ v w', (convert src dst (.string (bs l))).run P w = .ok v w' ∧ w'.ownsRow w.heap.size e 1 v l.length (rns l) ∧ Below w.heap.size w w' := by
  have hsz : (rns l).toArray.size = l.length := by simp [rns]
  have h1 := run_runes_of_string (P := P) w src dst e (bs l) hs hd he (by rw [runesFrom_all l h, hsz]; omega)
  rw [runesFrom_all l h, hsz] at h1
  refine ⟨_, _, h1, ⟨by simp [rns], .inr ⟨w.heap.size, _, _, rfl, Nat.le_refl _, heap_alloc_new _ _, ?_, ?_, ?_, ?_⟩⟩, (Below.refl _ _).drew.alloc (Nat.le_refl _) _⟩
  · exact grownCap_ge w l.length 0 e
  · exact grownCap_le_maxLen w l.length 0 e (by simp only [maxLen]; omega)
  · have := grownCap_ge w l.length 0 e
    simp [rns]; omega
  · simp [rns]


theorem runesBytes_asc (l : List UInt8) (h : asc l) : runesBytes (l.map fun b => (b.toNat : Int)) = bs l := by
  have key : ∀ (l : List UInt8) (acc : List UInt8), asc l → (l.map fun b => (b.toNat : Int)).foldl (fun r n => r ++ Utf8.encode n) (bs acc) = bs (acc ++ l) := by
    intro l
    induction l with
    | nil => intro acc _; simp
    | cons b t ih =>
      intro acc h
      have hb := h b (by simp)
      have e : Utf8.encode (b.toNat : Int) = bs [b] := by
        unfold Utf8.encode
        have hv : Utf8.valid (b.toNat : Int) = true := by
          unfold Utf8.valid
          simp
          omega
        simp only [hv, if_true, Int.toNat_natCast]
        rw [if_pos hb]
        simp [bs]
      rw [List.map_cons, List.foldl_cons, e, ByteArray.mk_append_mk]
      have := ih (acc ++ [b]) (fun c hc => h c (by simp [hc]))
      simpa using this
  exact key l [] h

/-- 'string(r)'. -/
theorem str_of_runes {P : Program} {w : World} {src dst e : TypeId} {base : Nat} {v : Value} {n : Nat} (l : List UInt8) (h : asc l) (hs : P.underlying src = some (.slice e)) (he : P.underlying e = some (.int .i32)) (hd : P.underlying dst = some .string)
    (ho : w.ownsRow base e 1 v n (rns l)) : (convert src dst v).run P w = .ok (.string (bs l)) w := by
  have hl : l.length = n := by have := ho.1; simpa [rns] using this
  rcases ho.2 with ⟨rfl, rfl⟩ | ⟨g, cap, cur, rfl, _⟩
  · obtain rfl : l = [] := List.eq_nil_of_length_eq_zero hl
    exact run_convert_runes_nil w src dst e 0 0 hs he hd
  · have hr := run_convert_runes (P := P) w src dst e ⟨g, 0, none⟩ n cap (l.map fun b => (b.toNat : Int)) (by simp; omega) hs he hd (fun j hj => by
      have hj' : j < l.length := by simpa using hj
      refine ho.cells (g := g) rfl j _ ?_
      simp [rns, List.getD_eq_getElem?_getD, hj'])
    rw [hr, List.take_of_length_le (by simp; omega), runesBytes_asc l h]

theorem info5 : (Try.prog.info? 5).map (fun i => (i.zero, i.size, i.bytes)) = some (some (.int .u8 0), 1, 1) := by kernel_rfl
theorem info21 : (Try.prog.info? 21).map (fun i => (i.zero, i.size, i.bytes)) = some (some (.int .i32 0), 1, 4) := by kernel_rfl

theorem str1 (W : World) (b : Nat) (x : Int) (h0 : W.cell? ⟨b, 0, none⟩ = some (.int .u8 x)) : (convert 23 9 (.slice (some ⟨b, 0, none⟩) 1 1)).run Try.prog W = .ok (.string ⟨#[UInt8.ofNat x.toNat]⟩) W := by
  have := run_convert_bytes_arg W 23 5 Try.underlying23 Try.underlying5 b 0 1 1 [x] rfl (fun i hi => by
    obtain rfl : i = 0 := by omega
    exact h0) 9 Try.underlying9
  rw [this]
  rfl
theorem cat {P : Program} (a b : List UInt8) (h : a.length + b.length ≤ 9223372036854775807) (W : World) : (Op.stringOp .add (bs a) (bs b)).run P W = .ok (.string (bs (a ++ b))) W := by
  rw [run_string_add_sum W _ _ (by rw [bs_size, bs_size]; exact h), ByteArray.mk_append_mk]

/-- The printable signs of bytes. -/
def pl (zs : List Int) : List UInt8 := (zs.take 40).map fun c => UInt8.ofNat (32 + c % 95).toNat
theorem pl_len (zs : List Int) : (pl zs).length ≤ 40 := by simp [pl]; omega
theorem pl_asc (zs : List Int) : asc (pl zs) := by
  intro b hb
  simp only [pl, List.mem_map] at hb
  obtain ⟨c, _, rfl⟩ := hb
  have h1 : (32 + c % 95).toNat < 128 := by omega
  simp
  omega

theorem txPlain_any (A : Option Addr) (len cap : Nat) (zs : List Int) (w : World) (h : IsRow .u8 w A len cap zs) (hlen : len ≤ 2147483647) :
    Calls Try.prog 10 #[.slice A len cap] w fun e w' => e = .returned (.string (bs (pl (zs.take len)))) ∧ Below w.heap.size w w' := by
  obtain ⟨hrd, hwf⟩ := h.rd
  have hzl : (zs.take len).length = len := by have := hrd.len; simpa using this
  have hwf2 : ∀ k (hk : k < (zs.take len).length), 0 ≤ (zs.take len)[k] ∧ (zs.take len)[k] ≤ 255 := fun k hk => bounds_u8 (hwf _ (List.mem_of_mem_take (List.getElem_mem hk)))
  generalize zs.take len = xs at *
  have HR := Lib.hid hrd
  have HX := Lib.hid hwf2
  have HL := Lib.hid hzl
  clear hrd hwf hwf2 h hzl
  have hs1 := fun W b x => str1 W b x
  go_enter Try.func10, Try.ntmps10
  go_wp2
  go_loopw [3, 4] (fun v3 v4 wr => ∃ k : Nat, v4 = .int .i64 k ∧ k ≤ len ∧ k ≤ 40 ∧ v3 = .string (bs (pl (xs.take k))) ∧ Below w.heap.size w wr) (fun _ i _ => len - (intOf i).toNat)
  case atStart => exact ⟨0, rfl, by omega, by omega, rfl, Below.refl _ _⟩
  case round =>
    obtain ⟨k, rfl, k1, k2, rfl, hbel⟩ := hrel
    by_cases hlt : k < len ∧ k < 40
    · obtain ⟨h1, h2⟩ := hlt
      have hkx : k < xs.length := by rw [HL.out]; exact h1
      obtain ⟨b, o, c, hv, _, _, hb, hc⟩ := HR.out.open (by omega)
      injection hv with hA _ _
      have hcell : wr.cell? ⟨b, o + k, none⟩ = some (.int .u8 xs[k]) := (hbel.cell (p := ⟨b, o + k, none⟩) hb).trans (hc k _ (by rw [List.getElem?_map, List.getElem?_eq_getElem hkx]; rfl))
      have hx := HX.out k hkx
      obtain ⟨x0, x1⟩ := hx
      have HN : Hid (pl (xs.take (k + 1)) = pl (xs.take k) ++ [UInt8.ofNat (32 + xs[k] % 95).toNat]) := Lib.hid (by
        unfold pl
        rw [List.take_take, List.take_take, Nat.min_eq_right (by omega), Nat.min_eq_right (by omega), List.take_succ_eq_append_getElem hkx, List.map_append]
        rfl)
      have hadd := cat (P := Try.prog) (pl (xs.take k)) [UInt8.ofNat (32 + xs[k] % 95).toNat] (by have := pl_len (xs.take k); simp; omega)
      generalize xs[k] = x at *
      generalize pl (xs.take k) = acc at *
      subst hA
      clear hc
      go_wp2
      go_roundw
      case rel => exact ⟨k + 1, by go_num, by omega, by omega, by rw [HN.out], hbel.alloc hbel.size _⟩
      case measure => simp [intOf]; omega
    · have HE : Hid (pl (xs.take k) = pl xs) := Lib.hid (by
        unfold pl
        rw [List.take_take]
        by_cases hk : k = 40
        · rw [hk]; rfl
        · rw [Nat.min_eq_right (by omega), List.take_of_length_le (by rw [HL.out]; omega), List.take_of_length_le (by rw [HL.out]; omega)])
      by_cases h1 : k < len
      · have h2 : k = 40 := by omega
        subst h2
        clear hlt
        go_wp2
        go_ret
        rw [HE.out]
        exact ⟨rfl, hbel⟩
      · clear hlt
        go_wp2
        go_ret
        rw [HE.out]
        exact ⟨rfl, hbel⟩

/-- One step of the turning: the list whose first i and last i places are turned. -/
def sw (l : List UInt8) (i : Nat) : List UInt8 := (List.range l.length).map fun k => if k < i ∨ l.length - 1 - i < k then l.getD (l.length - 1 - k) 0 else l.getD k 0
theorem sw_len (l : List UInt8) (i : Nat) : (sw l i).length = l.length := by simp [sw]
theorem sw_zero (l : List UInt8) : sw l 0 = l := by
  apply List.ext_getElem
  · simp [sw]
  · intro k h1 h2
    simp only [sw, List.getElem_map, List.getElem_range]
    rw [if_neg (by omega), List.getD_eq_getElem?_getD, List.getElem?_eq_getElem h2]
    rfl
theorem sw_done (l : List UInt8) (i : Nat) (h : l.length ≤ 2 * i + 1) : sw l i = l.reverse := by
  apply List.ext_getElem
  · simp [sw]
  · intro k h1 h2
    have hk : k < l.length := by simpa [sw] using h1
    simp only [sw, List.getElem_map, List.getElem_range, List.getElem_reverse]
    split
    · rw [List.getD_eq_getElem?_getD, List.getElem?_eq_getElem (by omega)]
      rfl
    · have : k = l.length - 1 - k := by omega
      rw [List.getD_eq_getElem?_getD, List.getElem?_eq_getElem hk]
      simp only [Option.getD_some]
      congr 1
theorem sw_at (l : List UInt8) (i k : Nat) (hk : k < l.length) : (sw l i)[k]? = some (if k < i ∨ l.length - 1 - i < k then l.getD (l.length - 1 - k) 0 else l.getD k 0) := by
  simp [sw, List.getElem?_map, List.getElem?_range, hk]
theorem sw_step (l : List UInt8) (i : Nat) (h : 2 * i + 1 < l.length) :
    sw l (i + 1) = ((sw l i).set i (l.getD (l.length - 1 - i) 0)).set (l.length - 1 - i) (l.getD i 0) := by
  apply List.ext_getElem?
  intro k
  by_cases hk : k < l.length
  · rw [sw_at l _ k hk, List.getElem?_set, List.getElem?_set, List.length_set, sw_len, sw_at l i k hk]
    by_cases h1 : l.length - 1 - i = k
    · subst h1
      rw [if_pos rfl, if_pos hk, if_pos (by omega)]
      congr 2
      omega
    · rw [if_neg h1]
      by_cases h2 : i = k
      · subst h2
        rw [if_pos rfl, if_pos hk, if_pos (by omega)]
      · rw [if_neg h2]
        congr 1
        by_cases h3 : k < i ∨ l.length - 1 - i < k
        · rw [if_pos h3, if_pos (by omega)]
        · rw [if_neg h3, if_neg (by omega)]
  · rw [List.getElem?_eq_none (by rw [sw_len]; omega), List.getElem?_eq_none (by simp [sw_len]; omega)]

theorem reverse_any (l : List UInt8) (h : asc l) (hl : l.length ≤ 1000000) (w : World) :
    Calls Try.prog 30 #[.string (bs l)] w fun e w' => e = .returned (.string (bs l.reverse)) ∧ Below w.heap.size w w' := by
  obtain ⟨v, w1, hrun, hown, hb1⟩ := runes_of (P := Try.prog) w 9 45 21 l h hl Try.underlying9 Try.underlying45 Try.underlying21
  have HO := Lib.hid hown
  clear hown
  obtain ⟨A, c, hv⟩ : ∃ A c, v = .slice A l.length c := by
    obtain ⟨A, c, h1, _⟩ := (Rd.of_own HO.out).shape
    exact ⟨A, c, h1⟩
  subst hv
  have hrev : asc l.reverse := fun b hb => h b (by simpa using hb)
  have HA := Lib.hid h
  have HAR := Lib.hid hrev
  clear h hrev
  by_cases hl0 : l = []
  · subst hl0
    have hsw := str_of_runes (P := Try.prog) [] (fun b hb => by cases hb) Try.underlying45 Try.underlying21 Try.underlying9 HO.out
    simp only [List.length_nil] at hsw
    go_enter Try.func30, Try.ntmps30
    go_wp2
    refine wp_loop_rounds 1 ?_
    rw [rounds_succ]
    go_wp2
    go_ret
    exact ⟨rfl, hb1⟩
  have hn0 : 0 < l.length := List.length_pos_iff.2 hl0
  clear hl0
  go_enter Try.func30, Try.ntmps30
  go_wp2
  go_loopw [4, 5] (fun v4 v5 wr => ∃ i j : Nat, v4 = .int .i64 i ∧ v5 = .int .i64 j ∧ i + j + 1 = l.length ∧ i ≤ j + 1 ∧ Hid (wr.ownsRow w.heap.size 21 1 (.slice A l.length c) l.length (rns (sw l i))) ∧ Below w.heap.size w wr) (fun v4 v5 _ => (intOf v5 + 1 - intOf v4).toNat)
  case atStart => exact ⟨0, l.length - 1, rfl, by go_num, by omega, by omega, Lib.hid (by rw [sw_zero]; exact HO.out), hb1⟩
  case round =>
    obtain ⟨i, j, rfl, rfl, hij, hi, HW, hbel⟩ := hrel
    by_cases hlt : i < j
    · obtain ⟨g, cap, hv, hg1, hg2⟩ := HW.out.form (by omega)
      injection hv with e1 _ e3
      subst e1
      subst e3
      have c1 : wr.cell? ⟨g, i, none⟩ = some (.int .i32 ((l.getD i 0).toNat : Int)) := by
        have := HW.out.cellAt i (by omega)
        rw [this, rns, List.getElem?_map, sw_at l i i (by omega), if_neg (by omega)]
        rfl
      have c2 : wr.cell? ⟨g, j, none⟩ = some (.int .i32 ((l.getD j 0).toNat : Int)) := by
        have := HW.out.cellAt j (by omega)
        rw [this, rns, List.getElem?_map, sw_at l i j (by omega), if_neg (by omega)]
        rfl
      have f1 := HW.out.frozenAt i
      have f2 := HW.out.frozenAt j
      have hne : i ≠ j := by omega
      have HS := HW.out.stored i (.int .i32 ((l.getD j 0).toNat : Int))
      have HS2 := HS.1.stored j (.int .i32 ((l.getD i 0).toNat : Int))
      have hww : Below w.heap.size w ((wr.setCell ⟨g, i, none⟩ (.int .i32 ((l.getD j 0).toNat : Int))).setCell ⟨g, j, none⟩ (.int .i32 ((l.getD i 0).toNat : Int))) := (hbel.setCell hg1 _).setCell hg1 _
      have HT : Hid (((rns (sw l i)).set i (.int .i32 ((l.getD j 0).toNat : Int))).set j (.int .i32 ((l.getD i 0).toNat : Int)) = rns (sw l (i + 1))) := Lib.hid (by
        rw [sw_step l i (by omega), show l.length - 1 - i = j by omega, rns, rns, List.map_set, List.map_set])
      have HW2 := Lib.hid HS2.1
      have HB2 := Lib.hid hww
      clear HS HS2 hww
      generalize hp : ((l.getD i 0).toNat : Int) = p at *
      generalize hq : ((l.getD j 0).toNat : Int) = q at *
      clear hp hq
      go_wp2
      go_region
      go_wp2
      go_roundw
      case rel => exact ⟨i + 1, j - 1, by go_num, by go_num, by omega, by omega, Lib.hid (by have h := HW2.out; rw [HT.out] at h; exact h), HB2.out.drew⟩
      case measure => simp [intOf]; omega
    · have hcv := str_of_runes (P := Try.prog) l.reverse HAR.out Try.underlying45 Try.underlying21 Try.underlying9 (by have h := HW.out; rw [sw_done l i (by omega)] at h; exact h)
      go_wp2
      go_ret
      exact ⟨rfl, hbel⟩


theorem Reverse_any (l : List UInt8) (h : asc l) (hl : l.length ≤ 1000000) (w : World) :
    Calls Try.prog 22 #[.string (bs l)] w fun e w' => e = .returned (.string (bs l.reverse)) ∧ Below w.heap.size w w' := by
  have L := fun W => reverse_any l h hl W
  clear h
  go_enter Try.func22, Try.ntmps22
  go_wp2_with (first | (go_at_call 30; refine (L _).mono ?_; rintro e w1 ⟨rfl, hb⟩))
  go_ret
  exact ⟨rfl, hb⟩
theorem txReverse_any (l : List UInt8) (h : asc l) (hl : l.length ≤ 1000000) (w : World) :
    Calls Try.prog 11 #[.string (bs l)] w fun e w' => e = .returned (.string (bs l.reverse)) ∧ Below w.heap.size w w' := by
  have L := fun W => Reverse_any l h hl W
  clear h
  go_enter Try.func11, Try.ntmps11
  go_wp2_with (first | (go_at_call 22; refine (L _).mono ?_; rintro e w1 ⟨rfl, hb⟩))
  go_ret
  exact ⟨rfl, hb⟩

theorem law_any (A : Option Addr) (la ca : Nat) (za : List Int) (B : Option Addr) (lb cb : Nat) (zb : List Int) (w : World) (ha : IsRow .u8 w A la ca za) (hb : IsRow .u8 w B lb cb zb) :
    Calls Try.prog 4 #[.slice A la ca, .slice B lb cb] w fun e w' => e = .returned (.bool true) ∧ Below w.heap.size w w' := by
  have ba := ha.rd.1.le
  have bb := hb.rd.1.le
  by_cases sa : la ≤ 2147483647
  · by_cases sb : lb ≤ 2147483647
    · have PA := fun W (hW : Below w.heap.size w W) => txPlain_any A la ca za W (ha.below hW) sa
      have PB := fun W (hW : Below w.heap.size w W) => txPlain_any B lb cb zb W (hb.below hW) sb
      have q1 := pl_len (za.take la)
      have q2 := pl_len (zb.take lb)
      have a1 := pl_asc (za.take la)
      have a2 := pl_asc (zb.take lb)
      generalize pl (za.take la) = s at *
      generalize pl (zb.take lb) = t at *
      have R1 := fun W => txReverse_any s a1 (by omega) W
      have R2 := fun W => txReverse_any s.reverse (fun b hb => a1 b (by simpa using hb)) (by simp; omega) W
      have R3 := fun W => txReverse_any (s ++ t) (fun b hb => by rcases List.mem_append.1 hb with h | h; exact a1 b h; exact a2 b h) (by simp; omega) W
      have R4 := fun W => txReverse_any t a2 (by omega) W
      have hz1 := bs_size s
      have hz2 : (bs s.reverse).size = s.length := by rw [bs_size, List.length_reverse]
      have k1 := cat (P := Try.prog) s t (by omega)
      have k2 := cat (P := Try.prog) t.reverse s.reverse (by simp; omega)
      rw [List.reverse_reverse] at R2
      rw [List.reverse_append] at R3
      have HI : Hid (∀ (i j : Nat), i + j + 1 = s.length → ∀ (h1 : i < (bs s.reverse).size) (h2 : j < (bs s).size), ((bs s.reverse)[i]'h1).toNat = ((bs s)[j]'h2).toNat) := Lib.hid (fun i j hij h1 h2 => by
        show (s.reverse.toArray[i]'_).toNat = (s.toArray[j]'_).toNat
        simp only [List.getElem_toArray, List.getElem_reverse]
        congr 2
        omega)
      clear a1 a2 ha hb
      have hbw := Below.refl w.heap.size w
      go_enter Try.func4, Try.ntmps4
      go_wp2_with (first
        | (go_at_call 10; (with_reducible refine (PA _ hbw).mono ?_); rintro e w1 ⟨rfl, hb1⟩)
        | (go_at_call 10; (with_reducible refine (PB _ hb1).mono ?_); rintro e w2 ⟨rfl, hb2⟩; have hbn2 := hb1.trans (hb2.mono hb1.size))
        | (go_at_call 11; (with_reducible refine (R1 _).mono ?_); rintro e w3 ⟨rfl, hb3⟩; have hbn3 := hbn2.trans (hb3.mono hbn2.size)))
      go_loopw [8] (fun v8 wr => ∃ i : Nat, v8 = .int .i64 i ∧ i ≤ s.length ∧ Below w.heap.size w wr) (fun v8 _ => (s.length - (intOf v8)).toNat)
      case atStart => exact ⟨0, rfl, by omega, hbn3⟩
      case round =>
        obtain ⟨i, rfl, hi, hbel⟩ := hrel
        by_cases hlt : i < s.length
        · obtain ⟨j, hj⟩ : ∃ j, i + j + 1 = s.length := ⟨s.length - 1 - i, by omega⟩
          have h1 : i < (bs s.reverse).size := by omega
          have h2 : j < (bs s).size := by omega
          have hq := HI.out i j hj h1 h2
          have hjj : (s.length : Int) - 1 - i = j := by omega
          obtain ⟨q, hqq⟩ : ∃ q : Int, (((bs s)[j]'h2).toNat : Int) = q := ⟨_, rfl⟩
          have e1 : ∀ h : i < (bs s.reverse).size, (((bs s.reverse)[i]'h).toNat : Int) = q := fun _ => by rw [hq, hqq]
          have e2 : ∀ h : j < (bs s).size, (((bs s)[j]'h).toNat : Int) = q := fun _ => hqq
          have jn : (0 : Int) ≤ j := by omega
          clear hq hqq
          go_wp2
          go_region
          go_wp2
          go_roundw
          case rel => exact ⟨i + 1, by go_num, by omega, hbel.drew⟩
          case measure => simp [intOf]; omega
        · have hbs := hbel.size
          go_wp2_with (first
            | (go_at_call 11; (with_reducible refine (R2 _).mono ?_); rintro e w4 ⟨rfl, hb4⟩; have hbn4 := hbel.trans (hb4.mono hbs))
            | (go_at_call 11; (with_reducible refine (R3 _).mono ?_); rintro e w5 ⟨rfl, hb5⟩; have hbn5 := hbn4.trans (hb5.mono hbn4.size))
            | (go_at_call 11; (with_reducible refine (R4 _).mono ?_); rintro e w6 ⟨rfl, hb6⟩; have hbn6 := hbn5.trans (hb6.mono hbn5.size)))
          go_ret
          exact ⟨rfl, hbn6⟩
    · clear ha hb
      go_enter Try.func4, Try.ntmps4
      go_wp2
      go_ret
      exact ⟨rfl, Below.refl _ _⟩
  · clear ha hb
    go_enter Try.func4, Try.ntmps4
    go_wp2
    go_ret
    exact ⟨rfl, Below.refl _ _⟩

end Go.Proofs.Ytghigcmjldjljaa.Txt
