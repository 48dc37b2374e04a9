/- The walks of FnVEDistance: the squared distance of two vectors of whole numbers. Conditions: those written at each lemma. -/
import Derived.Test.YtghigcmjldjljaaProg
import Derived.Test.YtghigcmjldjljaaBase
import Derived.Test.YtghigcmjldjljaaFl
set_option linter.unusedVariables false
set_option linter.unusedSimpArgs false
set_option maxRecDepth 100000
set_option maxHeartbeats 1000000
namespace Go.Proofs.Ytghigcmjldjljaa.Vec
open Go.RowKit Go.Proofs.Ytghigcmjldjljaa.B Go.Proofs.Ytghigcmjldjljaa.F

abbrev fl (n : Int) : Nat := floatOfInt .f64 n
abbrev fls (l : List Int) : List Value := l.map fun n => .float .f64 (fl n)
theorem info34 : (Try.prog.info? 34).map (fun i => (i.zero, i.size, i.bytes)) = some (some (.float .f64 0), 1, 8) := by kernel_rfl
/-- Small numbers. -/
abbrev sm (l : List Int) : Prop := ∀ n ∈ l, -32768 ≤ n ∧ n ≤ 32767

def S (a b : List Int) : Nat → Int
  | 0 => 0
  | k + 1 => S a b k + (a.getD k 0 - b.getD k 0) * (a.getD k 0 - b.getD k 0)
theorem S_comm (a b : List Int) : ∀ k, S a b k = S b a k
  | 0 => rfl
  | k + 1 => by
    rw [S, S, S_comm a b k]
    congr 1
    rw [← Int.neg_sub, Int.neg_mul_neg]
theorem sm_at {l : List Int} (h : sm l) (k : Nat) : -32768 ≤ l.getD k 0 ∧ l.getD k 0 ≤ 32767 := by
  rw [List.getD_eq_getElem?_getD]
  rcases Nat.lt_or_ge k l.length with hk | hk
  · rw [List.getElem?_eq_getElem hk]; exact h _ (List.getElem_mem hk)
  · rw [List.getElem?_eq_none hk]; simp
theorem sq_bd (x : Int) (h1 : -65535 ≤ x) (h2 : x ≤ 65535) : 0 ≤ x * x ∧ x * x ≤ 4294836225 := by
  constructor
  · rw [← Int.natAbs_mul_self]; omega
  · have h3 : x.natAbs ≤ 65535 := by omega
    have h4 := Nat.mul_le_mul h3 h3
    have h5 : x * x = ((x.natAbs * x.natAbs : Nat) : Int) := Int.natAbs_mul_self.symm
    omega
theorem S_bd {a b : List Int} (ha : sm a) (hb : sm b) : ∀ k, 0 ≤ S a b k ∧ S a b k ≤ k * 4294836225
  | 0 => by simp [S]
  | k + 1 => by
    have h := S_bd ha hb k
    have h1 := sm_at ha k
    have h2 := sm_at hb k
    have h3 := sq_bd (a.getD k 0 - b.getD k 0) (by omega) (by omega)
    rw [S]
    omega

theorem sub_run (a b : Int) (ha : -32768 ≤ a ∧ a ≤ 32767) (hb : -32768 ≤ b ∧ b ≤ 32767) : ∃ c, FI c (a - b) ∧ ∀ W, (binOp .sub 34 (.float .f64 (fl a)) (.float .f64 (fl b))).run Try.prog W = .ok (.float .f64 c) W := by
  obtain ⟨c, h1, h2⟩ := (of_int a (by omega)).sub (of_int b (by omega)) (by omega)
  exact ⟨c, h2, fun W => run_float_arith (P := Try.prog) W .sub 34 .f64 _ _ c h1⟩

theorem new_any (s : ByteArray) (w : World) : Calls Try.prog 32 #[.string s] w fun e w' => ∃ t v, e = .returned (.iface t v) ∧ Below w.heap.size w w' := by
  go_enter Try.func32, Try.ntmps32
  go_wp2
  go_ret
  refine ⟨_, _, rfl, ?_⟩
  repeat (first | with_reducible exact Below.refl _ _ | with_reducible apply Below.drew | with_reducible refine Below.alloc ?_ (by simp) _ | with_reducible refine Below.setCell ?_ (by simp) _)

theorem rd_fl {w : World} {A : Option Addr} {n c : Nat} {l : List Int} (h : Rd w 1 (.slice A n c) n (fls l)) (k : Nat) (hk : k < l.length) : ∃ b o, A = some ⟨b, o, none⟩ ∧ b < w.heap.size ∧ w.cell? ⟨b, o + k, none⟩ = some (.float .f64 (fl (l.getD k 0))) := by
  have hn : n = l.length := by have := h.len; simp at this; omega
  obtain ⟨b, o, c', hv, _, _, hb, hc⟩ := h.open (by omega)
  injection hv with e1 _ _
  refine ⟨b, o, e1, hb, hc k _ ?_⟩
  rw [List.getElem?_map, List.getElem?_eq_getElem hk, List.getD_eq_getElem?_getD, List.getElem?_eq_getElem hk]
  rfl

def Dist (a b : List Int) (w w' : World) (e : Ending) : Prop :=
  (a.length = b.length ∧ ∃ c, e = .returned (.tuple #[.float .f64 c, .nilIface]) ∧ FI c (S a b a.length) ∧ Below w.heap.size w w') ∨
  (a.length ≠ b.length ∧ ∃ t v, e = .returned (.tuple #[.float .f64 0, .iface t v]) ∧ Below w.heap.size w w')

theorem eval_any (va vb : Value) (a b : List Int) (w : World) (ha : Rd w 1 va a.length (fls a)) (hb : Rd w 1 vb b.length (fls b)) (sa : sm a) (sb : sm b) (la : a.length ≤ 1000) (lb : b.length ≤ 1000) :
    Calls Try.prog 24 #[.agg #[], va, vb] w fun e w' => Dist a b w w' e := by
  obtain ⟨A, ca, hva, _⟩ := ha.shape
  obtain ⟨B, cb, hvb, _⟩ := hb.shape
  subst hva
  subst hvb
  have HA := Lib.hid ha
  have HB := Lib.hid hb
  have SA := Lib.hid sa
  have SB := Lib.hid sb
  clear ha hb sa sb
  by_cases hl : a.length = b.length
  · have hl2 : decide ((a.length : Int) = b.length) = true := decide_eq_true (by omega)
    have hl3 : ((a.length : Int) != b.length) = false := by simp; omega
    have HL := Lib.hid hl
    have hbe := Below.refl w.heap.size w
    go_enter Try.func24, Try.ntmps24
    clear hl
    go_wp2
    go_loop [8, 20] (fun v8 v20 => ∃ (k : Nat) (t : Nat), v20 = .int .i64 k ∧ k ≤ a.length ∧ v8 = .float .f64 t ∧ Hid (FI t (S a b k))) (fun _ v20 => (a.length - (intOf v20)).toNat)
    case atStart => exact ⟨0, 0, rfl, by omega, rfl, Lib.hid (by rw [show (0 : Nat) = fl 0 by decide]; exact of_int 0 (by decide))⟩
    case round =>
      obtain ⟨k, t, rfl, hk, rfl, HT⟩ := hrel
      by_cases hlt : k < a.length
      · obtain ⟨b1, o1, e1, hb1, hc1⟩ := rd_fl HA.out k hlt
        obtain ⟨b2, o2, e2, hb2, hc2⟩ := rd_fl HB.out k (by rw [← HL.out]; exact hlt)
        have x1 : (w.alloc (.cells #[] 50)).cell? ⟨b1, o1 + k, none⟩ = some (.float .f64 (fl (a.getD k 0))) := by rw [← hc1]; exact World.cell?_alloc_lt w _ _ hb1
        have x2 : (w.alloc (.cells #[] 50)).cell? ⟨b2, o2 + k, none⟩ = some (.float .f64 (fl (b.getD k 0))) := by rw [← hc2]; exact World.cell?_alloc_lt w _ _ hb2
        subst e1
        subst e2
        have ga := sm_at SA.out k
        have gb := sm_at SB.out k
        obtain ⟨c, fc, rs⟩ := sub_run _ _ ga gb
        have hq := sq_bd (a.getD k 0 - b.getD k 0) (by omega) (by omega)
        have hS := S_bd SA.out SB.out k
        obtain ⟨d, hd, fd⟩ := fc.mul fc (by omega)
        have rm : ∀ W, (binOp .mul 34 (.float .f64 c) (.float .f64 c)).run Try.prog W = .ok (.float .f64 d) W := fun W => run_float_arith (P := Try.prog) W .mul 34 .f64 _ _ d hd
        have hk2 : (k : Int) ≤ 1000 := by omega
        obtain ⟨q, hq2, fq⟩ := HT.out.add fd (by omega)
        have ra : ∀ W, (binOp .add 34 (.float .f64 t) (.float .f64 d)).run Try.prog W = .ok (.float .f64 q) W := fun W => run_float_arith (P := Try.prog) W .add 34 .f64 _ _ q hq2
        have HT2 : Hid (FI q (S a b (k + 1))) := Lib.hid fq
        have hkb : (k : Int) < b.length := by rw [← HL.out]; omega
        clear hc1 hc2 ga gb fc hq hS hd fd hq2 fq HT
        generalize fl (a.getD k 0) = f1 at *
        generalize fl (b.getD k 0) = f2 at *
        go_wp2
        go_round
        case rel => exact ⟨k + 1, q, by go_num, by omega, rfl, HT2⟩
        case measure => simp [intOf]; omega
      · obtain rfl : k = a.length := by omega
        go_wp2
        go_ret2
        exact .inl ⟨HL.out, t, rfl, HT.out, (Below.refl _ _).alloc (Nat.le_refl _) _⟩
  · have hl3 : ((a.length : Int) != b.length) = true := by simp; omega
    have HL := Lib.hid hl
    clear hl
    go_enter Try.func24, Try.ntmps24
    go_wp2_with (first | (go_at_call 32; (with_reducible refine (new_any _ _).mono ?_); rintro e w1 ⟨t, v, rfl, hb1⟩))
    go_ret2
    exact .inr ⟨HL.out, t, v, rfl, ((Below.refl _ _).alloc (Nat.le_refl _) _).trans (hb1.mono (by simp))⟩


theorem veEq_any (va vb : Value) (a b : List Int) (w : World) (ha : Rd w 1 va a.length (fls a)) (hb : Rd w 1 vb b.length (fls b)) (sa : sm a) (sb : sm b) (la : a.length ≤ 1000) (hl : a.length = b.length) :
    Calls Try.prog 14 #[va, vb] w fun e w' => ∃ c, e = .returned (.tuple #[.float .f64 c, .bool true]) ∧ FI c (S a b a.length) ∧ Below w.heap.size w w' := by
  have L := eval_any va vb a b w ha hb sa sb la (by omega)
  have HL := Lib.hid hl
  clear ha hb sa sb la hl
  go_enter Try.func14, Try.ntmps14
  go_wp2_with (first | (go_at_call 24; (with_reducible refine L.mono ?_); intro e w1 hD; rcases hD with ⟨_, c, rfl, hc, hb1⟩ | ⟨hn, _⟩; rotate_left; exact absurd HL.out hn; have HC := Lib.hid hc; clear hc L))
  go_quiet (fail)
  go_wp2
  go_ret2
  exact ⟨c, rfl, HC.out, below_drewN hb1 _⟩
theorem veNe_any (va vb : Value) (a b : List Int) (w : World) (ha : Rd w 1 va a.length (fls a)) (hb : Rd w 1 vb b.length (fls b)) (sa : sm a) (sb : sm b) (la : a.length ≤ 1000) (lb : b.length ≤ 1000) (hl : a.length ≠ b.length) :
    Calls Try.prog 14 #[va, vb] w fun e w' => e = .returned (.tuple #[.float .f64 0, .bool false]) ∧ Below w.heap.size w w' := by
  have L := eval_any va vb a b w ha hb sa sb la lb
  have HL := Lib.hid hl
  clear ha hb sa sb la lb hl
  go_enter Try.func14, Try.ntmps14
  go_wp2_with (first | (go_at_call 24; (with_reducible refine L.mono ?_); intro e w1 hD; rcases hD with ⟨hn, _⟩ | ⟨_, t, v, rfl, hb1⟩; exact absurd hn HL.out; clear L))
  go_quiet (fail)
  go_wp2
  go_ret2
  exact ⟨rfl, below_drewN hb1 _⟩

theorem fl1 : fl 1 = 4607182418800017408 := by decide
theorem fl2 : fl 2 = 4611686018427387904 := by decide
theorem fl4 : fl 4 = 4616189618054758400 := by decide
theorem fl6 : fl 6 = 4618441417868443648 := by decide
theorem fl25 : fl 25 = 4627730092099895296 := by decide
theorem lit12 (W : World) : Rd (W.alloc (.cells #[.float .f64 4607182418800017408, .float .f64 4611686018427387904] 34)) 1 (.slice (some ⟨W.heap.size, 0, none⟩) 2 2) [1, 2].length (fls [1, 2]) := by
  have h := Rd.of_own (World.ownsRow_lit (base := W.heap.size) (e := 34) (size := 1) W #[.float .f64 4607182418800017408, .float .f64 4611686018427387904] 2 (Nat.le_refl _) (by simp [maxLen]) rfl)
  simp only [fls, List.map_cons, List.map_nil, fl1, fl2]
  exact h
theorem lit46 (W : World) : Rd (W.alloc (.cells #[.float .f64 4616189618054758400, .float .f64 4618441417868443648] 34)) 1 (.slice (some ⟨W.heap.size, 0, none⟩) 2 2) [4, 6].length (fls [4, 6]) := by
  have h := Rd.of_own (World.ownsRow_lit (base := W.heap.size) (e := 34) (size := 1) W #[.float .f64 4616189618054758400, .float .f64 4618441417868443648] 2 (Nat.le_refl _) (by simp [maxLen]) rfl)
  simp only [fls, List.map_cons, List.map_nil, fl4, fl6]
  exact h
theorem known_any (W : World) : Calls Try.prog 14 #[.slice (some ⟨W.heap.size, 0, none⟩) 2 2, .slice (some ⟨W.heap.size + 1, 0, none⟩) 2 2] ((W.alloc (.cells #[.float .f64 4607182418800017408, .float .f64 4611686018427387904] 34)).alloc (.cells #[.float .f64 4616189618054758400, .float .f64 4618441417868443648] 34))
    fun e w' => ∃ c, e = .returned (.tuple #[.float .f64 c, .bool true]) ∧ (FloatKind.f64.format.order c 4627730092099895296 != some .eq) = false ∧ Below W.heap.size W w' := by
  have h2 := lit46 (W.alloc (.cells #[.float .f64 4607182418800017408, .float .f64 4611686018427387904] 34))
  rw [show (W.alloc (.cells #[.float .f64 4607182418800017408, .float .f64 4611686018427387904] 34)).heap.size = W.heap.size + 1 by simp] at h2
  refine (veEq_any _ _ [1, 2] [4, 6] _ ((lit12 W).alloc _) h2 (by decide) (by decide) (by decide) rfl).mono ?_
  rintro e w' ⟨c, rfl, hc, hb⟩
  refine ⟨c, rfl, ?_, Below.trans (((Below.refl _ _).alloc (Nat.le_refl _) _).alloc (by simp) _) (hb.mono (by simp; omega))⟩
  have h25 : FI 4627730092099895296 25 := by rw [← fl25]; exact of_int 25 (by decide)
  have this : (dbl.order c 4627730092099895296 == some .eq) = true := by
    rw [hc.eq h25]
    exact decide_eq_true (by decide)
  show (!(dbl.order c 4627730092099895296 == some .eq)) = false
  rw [this]
  rfl

theorem take_snoc (xs : List Int) (k : Nat) (h : k < xs.length) : fls (xs.take (k + 1)) = fls (xs.take k) ++ [.float .f64 (fl xs[k])] := by
  rw [List.take_succ_eq_append_getElem h, fls, List.map_append]
  rfl

theorem law_any (A : Option Addr) (la ca : Nat) (za : List Int) (B : Option Addr) (lb cb : Nat) (zb : List Int) (w : World) (ha : IsRow .i16 w A la ca za) (hb : IsRow .i16 w B lb cb zb) :
    Calls Try.prog 6 #[.slice A la ca, .slice B lb cb] w fun e w' => e = .returned (.bool true) ∧ Below w.heap.size w w' := by
  have ba := ha.rd.1.le
  have bb := hb.rd.1.le
  by_cases sa : la ≤ 2147483647
  · by_cases sb : lb ≤ 2147483647
    · by_cases sa2 : la ≤ 12
      · by_cases sb2 : lb ≤ 12
        · obtain ⟨ra, wa⟩ := ha.rd
          obtain ⟨rb, wb⟩ := hb.rd
          have za1 : (za.take la).length = la := by have := ra.len; simpa using this
          have zb1 : (zb.take lb).length = lb := by have := rb.len; simpa using this
          have ma : sm (za.take la) := fun n hn => bounds_i16 (wa n (List.mem_of_mem_take hn))
          have mb : sm (zb.take lb) := fun n hn => bounds_i16 (wb n (List.mem_of_mem_take hn))
          generalize za.take la = xs at *
          generalize zb.take lb = ys at *
          have HA := Lib.hid ra
          have HB := Lib.hid rb
          have HM := Lib.hid (And.intro ma mb)
          have HL := Lib.hid (And.intro za1 zb1)
          clear ra rb wa wb ma mb za1 zb1 ha hb
          go_enter Try.func6, Try.ntmps6
          go_wp2
          go_loopw [5, 37] (fun v5 v37 wr => ∃ k : Nat, v37 = .int .i64 k ∧ k ≤ la ∧ Hid (wr.ownsRow w.heap.size 34 1 v5 k (fls (xs.take k))) ∧ Below w.heap.size w wr) (fun _ v37 _ => (la - (intOf v37)).toNat)
          case atStart => exact ⟨0, rfl, by omega, Lib.hid (World.ownsRow_nil _ _ _ _), Below.refl _ _⟩
          case round =>
            obtain ⟨k, rfl, hk, HO, hbel⟩ := hrel
            have hbs := hbel.size
            by_cases hlt : k < la
            · have hkx : k < xs.length := by rw [HL.out.1]; exact hlt
              obtain ⟨b, o, c, hv, _, _, hb, hc⟩ := HA.out.open (by omega)
              injection hv with e1 _ e3
              have hcell : wr.cell? ⟨b, o + k, none⟩ = some (.int .i16 xs[k]) := (hbel.cell (p := ⟨b, o + k, none⟩) hb).trans (hc k _ (by rw [List.getElem?_map, List.getElem?_eq_getElem hkx]; rfl))
              have HN := Lib.hid (take_snoc xs k hkx)
              generalize xs[k] = x at *
              subst e1
              subst e3
              clear hc
              go_wp2_with (first
                | (at_builtin; refine app1 (w0 := w) w.heap.size rfl (.tmp 41) (.tmp 44) 32 34 (.float .f64 0) 1 8 rfl Try.underlying32 info34 rfl (by omega) (by omega) u5 _ _ _ rfl rfl rfl (one1 rfl) HO.out hbel hbs (by omega) ?_; intro v1 w1 hown1 hb1 _ _; have HO1 := Lib.hid hown1; clear hown1))
              go_roundw
              case rel => exact ⟨k + 1, by go_num, by omega, Lib.hid (by rw [HN.out]; exact HO1.out), hb1⟩
              case measure => simp [intOf]; omega
            · obtain rfl : k = la := by omega
              have HX : Hid (Rd wr 1 u5 xs.length (fls xs)) := Lib.hid (by have h := Rd.of_own HO.out; rwa [← HL.out.1, List.take_length] at h)
              obtain ⟨wo, hwo⟩ : ∃ wo : World, wo = wr := ⟨_, rfl⟩
              rw [← hwo] at HX hbel hbs ⊢
              clear hwo
              go_wp2
              go_loopw [6, 49] (fun v6 v49 wr => ∃ j : Nat, v49 = .int .i64 j ∧ j ≤ lb ∧ Hid (wr.ownsRow wo.heap.size 34 1 v6 j (fls (ys.take j))) ∧ Below wo.heap.size wo wr) (fun _ v49 _ => (lb - (intOf v49)).toNat)
              case atStart => exact ⟨0, rfl, by omega, Lib.hid (World.ownsRow_nil _ _ _ _), Below.refl _ _⟩
              case round =>
                obtain ⟨j, rfl, hj, HP, hbel2⟩ := hrel
                have hbs2 := hbel2.size
                by_cases hlt2 : j < lb
                · have hkx : j < ys.length := by rw [HL.out.2]; exact hlt2
                  obtain ⟨b, o, c, hv, _, _, hb, hc⟩ := HB.out.open (by omega)
                  injection hv with e1 _ e3
                  have hcell : wr.cell? ⟨b, o + j, none⟩ = some (.int .i16 ys[j]) := ((hbel.trans (hbel2.mono hbs)).cell (p := ⟨b, o + j, none⟩) hb).trans (hc j _ (by rw [List.getElem?_map, List.getElem?_eq_getElem hkx]; rfl))
                  have HN := Lib.hid (take_snoc ys j hkx)
                  generalize ys[j] = x at *
                  subst e1
                  subst e3
                  clear hc
                  go_wp2_with (first
                    | (at_builtin; refine app1 (w0 := wo) wo.heap.size rfl (.tmp 53) (.tmp 56) 32 34 (.float .f64 0) 1 8 rfl Try.underlying32 info34 rfl (by omega) (by omega) u6 _ _ _ rfl rfl rfl (one1 rfl) HP.out hbel2 hbs2 (by omega) ?_; intro v1 w1 hown1 hb1 _ _; have HP1 := Lib.hid hown1; clear hown1))
                  go_roundw
                  case rel => exact ⟨j + 1, by go_num, by omega, Lib.hid (by rw [HN.out]; exact HP1.out), hb1⟩
                  case measure => simp [intOf]; omega
                · obtain rfl : j = lb := by omega
                  have HY : Hid (Rd wr 1 u6 ys.length (fls ys)) := Lib.hid (by have h := Rd.of_own HP.out; rwa [← HL.out.2, List.take_length] at h)
                  have HX2 : Hid (Rd wr 1 u5 xs.length (fls xs)) := Lib.hid (HX.out.below hbel2)
                  have hbw := hbel.trans (hbel2.mono hbs)
                  clear HX HP hbel2 hbs2
                  by_cases hll : xs.length = ys.length
                  · have VE := fun W (hW : Below wr.heap.size wr W) => veEq_any u5 u6 xs ys W (HX2.out.below hW) (HY.out.below hW) HM.out.1 HM.out.2 (by rw [HL.out.1]; omega) hll
                    have VF := fun W (hW : Below wr.heap.size wr W) => veEq_any u6 u5 ys xs W (HY.out.below hW) (HX2.out.below hW) HM.out.2 HM.out.1 (by rw [HL.out.2]; omega) hll.symm
                    have hkj : k = j := by rw [← HL.out.1, ← HL.out.2]; exact hll
                    subst hkj
                    have HLL := Lib.hid hll
                    clear hll
                    obtain ⟨A5, c5, h5, _⟩ := HX2.out.shape
                    obtain ⟨A6, c6, h6, _⟩ := HY.out.shape
                    rw [HL.out.1] at h5
                    rw [HL.out.2] at h6
                    subst h5
                    subst h6
                    go_wp2_with (first
                      | (go_at_call 14; (with_reducible refine (known_any _).mono ?_); rintro e w1 ⟨c1, rfl, hc1, hb1⟩)
                      | (go_at_call 14; (with_reducible refine (VE _ hb1).mono ?_); rintro e w2 ⟨c2, rfl, hc2, hb2⟩; have hbn2 := hb1.trans (hb2.mono hb1.size); have HC2 := Lib.hid hc2; clear hc2)
                      | (go_at_call 14; (with_reducible refine (VF _ hbn2).mono ?_); rintro e w3 ⟨c3, rfl, hc3, hb3⟩; have hbn3 := hbn2.trans (hb3.mono hbn2.size); have HC3 := Lib.hid hc3; clear hc3))
                    have hz3 := hbn3.size
                    go_loopw [17, 96] (fun v17 v96 wq => ∃ (i : Nat) (t : Nat), v96 = .int .i64 i ∧ i ≤ k ∧ v17 = .float .f64 t ∧ Hid (FI t (S xs ys i)) ∧ Dr w3 wq) (fun _ v96 _ => (k - (intOf v96)).toNat)
                    case atStart => exact ⟨0, 0, rfl, by omega, rfl, Lib.hid (by rw [show (0 : Nat) = fl 0 by decide]; exact of_int 0 (by decide)), Dr.refl _⟩
                    case round =>
                      obtain ⟨i, t, rfl, hi, rfl, HT, hdr⟩ := hrel
                      have hbq := hbn3.trans (hdr.below _)
                      by_cases hlt3 : i < k
                      · obtain ⟨b1, o1, e1, hb1, hc1⟩ := rd_fl (HL.out.1 ▸ HX2.out) i (by rw [HL.out.1]; exact hlt3)
                        obtain ⟨b2, o2, e2, hb2, hc2⟩ := rd_fl (HL.out.2 ▸ HY.out) i (by rw [HL.out.2]; exact hlt3)
                        have x1 : wr.cell? ⟨b1, o1 + i, none⟩ = some (.float .f64 (fl (xs.getD i 0))) := by rw [← hc1]; exact hbq.cell hb1
                        have x2 : wr.cell? ⟨b2, o2 + i, none⟩ = some (.float .f64 (fl (ys.getD i 0))) := by rw [← hc2]; exact hbq.cell hb2
                        subst e1
                        subst e2
                        have ga := sm_at HM.out.1 i
                        have gb := sm_at HM.out.2 i
                        obtain ⟨c, fc, rs⟩ := sub_run _ _ ga gb
                        have hq := sq_bd (xs.getD i 0 - ys.getD i 0) (by omega) (by omega)
                        have hS := S_bd HM.out.1 HM.out.2 i
                        obtain ⟨d, hd, fd⟩ := fc.mul fc (by omega)
                        have rm : ∀ W, (binOp .mul 34 (.float .f64 c) (.float .f64 c)).run Try.prog W = .ok (.float .f64 d) W := fun W => run_float_arith (P := Try.prog) W .mul 34 .f64 _ _ d hd
                        have hk2 : (i : Int) ≤ 1000 := by omega
                        obtain ⟨q, hq2, fq⟩ := HT.out.add fd (by omega)
                        have ra : ∀ W, (binOp .add 34 (.float .f64 t) (.float .f64 d)).run Try.prog W = .ok (.float .f64 q) W := fun W => run_float_arith (P := Try.prog) W .add 34 .f64 _ _ q hq2
                        have HT2 : Hid (FI q (S xs ys (i + 1))) := Lib.hid fq
                        clear hc1 hc2 ga gb fc hq hS hd fd hq2 fq HT
                        generalize fl (xs.getD i 0) = f1 at *
                        generalize fl (ys.getD i 0) = f2 at *
                        go_wp2
                        go_region
                        go_wp2
                        go_roundw
                        case rel => exact ⟨i + 1, q, by go_num, by omega, rfl, HT2, hdr.drew⟩
                        case measure => simp [intOf]; omega
                      · obtain rfl : i = k := by omega
                        have g2 : (FloatKind.f64.format.order c2 t == some .eq) = true := by
                          have := HC2.out.eq HT.out
                          rw [HL.out.1] at this
                          rw [decide_eq_true rfl] at this
                          exact this
                        have g3 : (FloatKind.f64.format.order c3 t == some .eq) = true := by
                          have := HC3.out.eq HT.out
                          rw [HL.out.2, S_comm ys xs] at this
                          rw [decide_eq_true rfl] at this
                          exact this
                        go_wp2
                        go_ret
                        exact ⟨rfl, hbw.trans (hbq.mono hbw.size)⟩
                  · have VE := fun W (hW : Below wr.heap.size wr W) => veNe_any u5 u6 xs ys W (HX2.out.below hW) (HY.out.below hW) HM.out.1 HM.out.2 (by rw [HL.out.1]; omega) (by rw [HL.out.2]; omega) hll
                    have VF := fun W (hW : Below wr.heap.size wr W) => veNe_any u6 u5 ys xs W (HY.out.below hW) (HX2.out.below hW) HM.out.2 HM.out.1 (by rw [HL.out.2]; omega) (by rw [HL.out.1]; omega) (Ne.symm hll)
                    have hkj : ((k : Int) != j) = true := by
                      rw [HL.out.1, HL.out.2] at hll
                      simp
                      omega
                    clear hll
                    go_wp2_with (first
                      | (go_at_call 14; (with_reducible refine (known_any _).mono ?_); rintro e w1 ⟨c1, rfl, hc1, hb1⟩)
                      | (go_at_call 14; (with_reducible refine (VE _ hb1).mono ?_); rintro e w2 ⟨rfl, hb2⟩; have hbn2 := hb1.trans (hb2.mono hb1.size))
                      | (go_at_call 14; (with_reducible refine (VF _ hbn2).mono ?_); rintro e w3 ⟨rfl, hb3⟩; have hbn3 := hbn2.trans (hb3.mono hbn2.size)))
                    go_ret
                    exact ⟨rfl, hbw.trans (hbn3.mono hbw.size)⟩
        · clear ha hb
          go_enter Try.func6, Try.ntmps6
          go_wp2
          go_ret
          exact ⟨rfl, Below.refl _ _⟩
      · clear ha hb
        go_enter Try.func6, Try.ntmps6
        go_wp2
        go_ret
        exact ⟨rfl, Below.refl _ _⟩
    · clear ha hb
      go_enter Try.func6, Try.ntmps6
      go_wp2
      go_ret
      exact ⟨rfl, Below.refl _ _⟩
  · clear ha hb
    go_enter Try.func6, Try.ntmps6
    go_wp2
    go_ret
    exact ⟨rfl, Below.refl _ _⟩

end Go.Proofs.Ytghigcmjldjljaa.Vec
