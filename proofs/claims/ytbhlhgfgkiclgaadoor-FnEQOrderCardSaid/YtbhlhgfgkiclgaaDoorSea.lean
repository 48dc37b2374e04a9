/- The walks of a sorted slice behind a pointer: its place of a number, whether it has it, the number put in, the next one. Conditions: those written at each lemma. -/
import Derived.Test.YtbhlhgfgkiclgaaDoorProg
import Derived.Test.YtbhlhgfgkiclgaaDoorBase
import Derived.Test.YtbhlhgfgkiclgaaDoorSep
import Derived.OneCell
import Derived.Deep.RegionWith
import Derived.Deep.RegionLaw
import Derived.Deep.Onto
set_option linter.unusedVariables false
set_option linter.unusedSimpArgs false
set_option maxRecDepth 100000
set_option maxHeartbeats 1000000
namespace Go.Proofs.YtbhlhgfgkiclgaaDoor.Set
open Go.RowKit Go.Proofs.YtbhlhgfgkiclgaaDoor.B

abbrev nums (xs : List Int) : List Value := xs.map (Value.int .i64)
theorem info3 : (Tryd.prog.info? 3).map (fun i => (i.zero, i.size, i.bytes)) = some (some (.int .i64 0), 1, 8) := by kernel_rfl
theorem ret_int {k : IntKind} {a b : Int} (h : a = b) : Ending.returned (.int k a) = .returned (.int k b) := by rw [h]
theorem ret_bool {a b : Bool} (h : a = b) : Ending.returned (.bool a) = .returned (.bool b) := by rw [h]

/-- Behind p a slice of the call's own that reads xs; xs is not too long. -/
def Sp (w : World) (B p : Nat) (xs : List Int) : Prop := B ≤ p ∧ xs.length ≤ 1000000 ∧ ∃ v, w.heap[p]? = some (.cells #[v] 75 (0, 0)) ∧ w.ownsRow B 3 1 v xs.length (nums xs)
theorem Sp.below {w w1 : World} {B p : Nat} {xs : List Int} (h : Sp w B p xs) (hb : Below w.heap.size w w1) : Sp w1 B p xs := by
  obtain ⟨h1, h2, v, h3, h4⟩ := h
  exact ⟨h1, h2, v, by rw [hb.block p (lt_of_block h3)]; exact h3, own_below h4 hb⟩
theorem Sp.len {w : World} {B p : Nat} {xs : List Int} (h : Sp w B p xs) : xs.length ≤ 1000000 := h.2.1
/-- The slice as it lies. -/
theorem Sp.open {w : World} {B p : Nat} {xs : List Int} (h : Sp w B p xs) : ∃ A c, w.cell? ⟨p, 0, none⟩ = some (.slice A xs.length c) ∧ xs.length ≤ c ∧ c ≤ 9223372036854775807 ∧ (0 < xs.length → ∃ g, A = some ⟨g, 0, none⟩ ∧ ∀ j (hj : j < xs.length), w.cell? ⟨g, j, none⟩ = some (.int .i64 xs[j])) := by
  obtain ⟨_, _, v, h3, h4⟩ := h
  have hr := Rd.of_own h4
  obtain ⟨A, c, rfl, h5, h6⟩ := hr.shape
  refine ⟨A, c, cell_of_one h3, h5, h6, fun hn => ?_⟩
  obtain ⟨b, o, c', hv, _, _, _, hc⟩ := hr.open hn
  injection hv with hv _ _
  have ho : o = 0 := by
    rcases h4.2 with ⟨h, _⟩ | ⟨g, cap, cur, h, _⟩
    · rw [hv] at h; injection h with h _ _; cases h
    · rw [hv] at h
      injection h with h _ _
      injection h with h
      injection h
  subst ho
  refine ⟨b, hv, fun j hj => ?_⟩
  have := hc j (.int .i64 xs[j]) (by rw [List.getElem?_map, List.getElem?_eq_getElem hj]; rfl)
  rwa [Nat.zero_add] at this

theorem at_any (B p : Nat) (xs : List Int) (x : Int) (w : World) (hs : Sp w B p xs) :
    Calls Tryd.prog 53 #[.pointer (some ⟨p, 0, none⟩), .int .i64 x] w fun e w' => e = .returned (.int .i64 (lo xs x : Nat)) ∧ w = w' := by
  obtain ⟨A, c, hcell, hlc, hcm, hA⟩ := hs.open
  have hlo := lo_le xs x
  have hlen := hs.len
  have HA := Lib.hid hA
  have HL := Lib.hid (lo_lt xs x)
  have HS := Lib.hid (lo_stop xs x)
  clear hs hA
  generalize hm : lo xs x = m at *
  clear hm
  go_enter Tryd.func53, Tryd.ntmps53
  go_wp2
  go_loop [5] (fun v5 => ∃ i : Nat, v5 = .int .i64 i ∧ i ≤ m) (fun v5 => (m - (intOf v5)).toNat)
  case atStart => exact ⟨0, rfl, by omega⟩
  case round =>
    obtain ⟨i, rfl, hi⟩ := hrel
    by_cases hlt : i < m
    · have hil : i < xs.length := by omega
      obtain ⟨g, rfl, hg⟩ := HA.out (by omega)
      have hci := hg i hil
      have hx := HL.out i hlt hil
      clear hg
      generalize xs[i] = y at *
      go_wp2
      go_round
      case rel => exact ⟨i + 1, by go_num, by omega⟩
      case measure => simp [intOf]; omega
    · obtain rfl : i = m := by omega
      by_cases hl : i < xs.length
      · obtain ⟨g, rfl, hg⟩ := HA.out (by omega)
        have hci := hg i hl
        have hx := HS.out hl
        clear hg
        generalize xs[i] = y at *
        go_wp2
        go_ret
        exact ⟨rfl, rfl⟩
      · go_wp2
        go_ret
        exact ⟨rfl, rfl⟩

theorem has_any (B p : Nat) (xs : List Int) (x : Int) (w : World) (hs : Sp w B p xs) :
    Calls Tryd.prog 39 #[.pointer (some ⟨p, 0, none⟩), .int .i64 x] w fun e w' => e = .returned (.bool (hasB xs x)) ∧ w = w' := by
  have AT := Lib.hid (at_any B p xs x w hs)
  obtain ⟨A, c, hcell, hlc, hcm, hA⟩ := hs.open
  have hlo := lo_le xs x
  have hlen := hs.len
  obtain ⟨z, hz⟩ : ∃ z, z = hasB xs x := ⟨_, rfl⟩
  rw [← hz]
  unfold hasB at hz
  clear hs
  generalize lo xs x = m at *
  by_cases hl : m < xs.length
  · obtain ⟨g, rfl, hg⟩ := hA (by omega)
    have hci := hg m hl
    rw [List.getElem?_eq_getElem hl] at hz
    clear hg hA
    generalize xs[m] = y at *
    rcases bq y x with ⟨h1, h2, h3⟩ | ⟨h1, h2, h3⟩
    · subst h3
      rw [decide_eq_true rfl] at hz
      subst hz
      go_enter Tryd.func39, Tryd.ntmps39
      go_wp2_with (go_at_call 53; (with_reducible refine AT.out.mono ?_); rintro e w1 ⟨rfl, rfl⟩)
      go_ret
      exact ⟨rfl, rfl⟩
    · rw [decide_eq_false (fun h => h3 (Option.some.inj h))] at hz
      subst hz
      clear h3
      go_enter Tryd.func39, Tryd.ntmps39
      go_wp2_with (go_at_call 53; (with_reducible refine AT.out.mono ?_); rintro e w1 ⟨rfl, rfl⟩)
      go_ret
      exact ⟨rfl, rfl⟩
  · rw [List.getElem?_eq_none (by omega), decide_eq_false (by simp)] at hz
    subst hz
    clear hA
    go_enter Tryd.func39, Tryd.ntmps39
    go_wp2_with (go_at_call 53; (with_reducible refine AT.out.mono ?_); rintro e w1 ⟨rfl, rfl⟩)
    go_ret
    exact ⟨rfl, rfl⟩

/-- What LowerBound and Next hand back. -/
def orMax (o : Option Int) : Int := o.getD 9223372036854775807
theorem lower_any (B p : Nat) (xs : List Int) (x : Int) (w : World) (hs : Sp w B p xs) :
    Calls Tryd.prog 37 #[.pointer (some ⟨p, 0, none⟩), .int .i64 x] w fun e w' => e = .returned (.int .i64 (orMax (nx xs x))) ∧ w = w' := by
  have AT := Lib.hid (at_any B p xs x w hs)
  obtain ⟨A, c, hcell, hlc, hcm, hA⟩ := hs.open
  have hlo := lo_le xs x
  have hlen := hs.len
  obtain ⟨z, hz⟩ : ∃ z, z = orMax (nx xs x) := ⟨_, rfl⟩
  rw [← hz]
  unfold nx at hz
  clear hs
  generalize lo xs x = m at *
  by_cases hl : m < xs.length
  · obtain ⟨g, rfl, hg⟩ := hA (by omega)
    have hci := hg m hl
    rw [List.getElem?_eq_getElem hl] at hz
    clear hg hA
    generalize xs[m] = y at *
    subst hz
    go_enter Tryd.func37, Tryd.ntmps37
    go_wp2_with (go_at_call 53; (with_reducible refine AT.out.mono ?_); rintro e w1 ⟨rfl, rfl⟩)
    go_ret
    exact ⟨rfl, rfl⟩
  · rw [List.getElem?_eq_none (by omega)] at hz
    subst hz
    clear hA
    go_enter Tryd.func37, Tryd.ntmps37
    go_wp2_with (go_at_call 53; (with_reducible refine AT.out.mono ?_); rintro e w1 ⟨rfl, rfl⟩)
    go_ret
    exact ⟨rfl, rfl⟩

theorem sz3 : ∀ W, (sizeOf 3).run Tryd.prog W = .ok 1 W := fun _ => by kernel_rfl
theorem Sp.rd {w : World} {B p : Nat} {xs : List Int} (h : Sp w B p xs) : ∃ A c, w.heap[p]? = some (.cells #[.slice A xs.length c] 75 (0, 0)) ∧ xs.length ≤ c ∧ Rd w 1 (.slice A xs.length c) xs.length (nums xs) := by
  obtain ⟨_, _, v, h3, h4⟩ := h
  have hr := Rd.of_own h4
  obtain ⟨A, c, rfl, h5, h6⟩ := hr.shape
  exact ⟨A, c, h3, h5, hr⟩
/-- Where s[m:] lies. -/
def tlA (A : Option Addr) (c m : Nat) : Option Addr := if c = m then A else A.map (·.add (m * 1))
theorem nums_one (xs : List Int) : ∀ u ∈ nums xs, u.oneCell' = true := one_map (fun _ => rfl) xs
theorem nums_take_one (xs : List Int) (m : Nat) : ∀ u ∈ (nums xs).take m, u.oneCell' = true := fun u hu => nums_one xs u (List.mem_of_mem_take hu)
theorem nums_drop_one (xs : List Int) (m : Nat) : ∀ u ∈ (nums xs).drop m, u.oneCell' = true := fun u hu => nums_one xs u (List.mem_of_mem_drop hu)
theorem run_head (A : Option Addr) (len c h : Nat) (h2 : (h : Int) ≤ c) (W : World) : (Instr.slice 22 (.slice A len c) none (some (.int .i64 (h : Int))) none).run Tryd.prog W = .ok (.slice A h c) W := by
  rw [run_slice_h (P := Tryd.prog) (w := W) 22 A len c Tryd.underlying22 .i64 h (by omega) h2, show Tryd.prog.elem 22 = 3 by kernel_rfl, sz3]
  rcases A with _ | ⟨b, o, sp⟩
  · simp [sliced]
  · by_cases h0 : c = 0 <;> simp [sliced, h0, Addr.add]
theorem run_tail (A : Option Addr) (len c l : Nat) (h1 : (l : Int) ≤ len) (W : World) : (Instr.slice 22 (.slice A len c) (some (.int .i64 (l : Int))) none none).run Tryd.prog W = .ok (.slice (tlA A c l) (len - l) (c - l)) W := by
  rw [run_slice_l (P := Tryd.prog) (w := W) 22 A len c Tryd.underlying22 .i64 l (by omega) h1, show Tryd.prog.elem 22 = 3 by kernel_rfl, sz3]
  rfl
theorem rd_tail {W : World} {A : Option Addr} {len c m : Nat} {cs : List Value} (h : Rd W 1 (.slice A len c) len cs) (hm : m ≤ len) (hc : len ≤ c) : Rd W 1 (.slice (tlA A c m) (len - m) (c - m)) (len - m) (cs.drop m) := by
  obtain ⟨A', h1, h2⟩ := tail_of (P := Tryd.prog) 22 3 Tryd.underlying22 sz3 A len c m hm hc
  have h3 := h1 W
  rw [run_tail A len c m (by omega) W] at h3
  injection h3 with h3 _
  injection h3 with h3 _ _
  rw [h3]
  exact h2 W cs h
attribute [local go_sem ↓] run_head run_tail

set_option maxHeartbeats 4000000 in
theorem insert_any (B p : Nat) (xs : List Int) (x : Int) (w : World) (hs : Sp w B p xs) (hx : xs.length < 1000000) (hB : B ≤ w.heap.size) :
    Calls Tryd.prog 52 #[.pointer (some ⟨p, 0, none⟩), .int .i64 x] w fun e w' => e = .returned (.bool !hasB xs x) ∧ Sp w' B p (ins xs x) ∧ w.grownBy w' (some p) := by
  by_cases hh : hasB xs x = true
  · have HS := Lib.hid hs
    have HA := Lib.hid (by have h := has_any B p xs x w hs; rw [hh] at h; exact h)
    have HI : Hid (ins xs x = xs) := Lib.hid (by unfold ins; rw [if_pos hh])
    have HB := Lib.hid hh
    clear hs hh
    go_enter Tryd.func52, Tryd.ntmps52
    go_wp2_with (go_at_call 39; (with_reducible refine HA.out.mono ?_); rintro e w1 ⟨rfl, rfl⟩)
    go_ret
    exact ⟨ret_bool (by rw [HB.out]; rfl), by rw [HI.out]; exact HS.out, World.grownBy.refl _ _⟩
  · have hf : hasB xs x = false := by simpa using hh
    have HA := Lib.hid (by have h := has_any B p xs x w hs; rw [hf] at h; exact h)
    have AT := Lib.hid (at_any B p xs x w hs)
    have HI : Hid (ins xs x = xs.take (lo xs x) ++ x :: xs.drop (lo xs x)) := Lib.hid (by unfold ins; rw [if_neg hh])
    have HF := Lib.hid hf
    have hlo := lo_le xs x
    have hBp := hs.1
    obtain ⟨A, c, hblk, hlc, hrd⟩ := hs.rd
    have hp := lt_of_block hblk
    have c0 := cell_of_one hblk
    have f0 := free_of_one hblk
    clear hh hf hs
    generalize lo xs x = m at *
    have RD1 : Hid (Rd w 1 (.slice A m c) m ((nums xs).take m)) := Lib.hid (by have h := hrd.take rfl hlo; rwa [Nat.mul_one] at h)
    have RD2 := Lib.hid (rd_tail hrd hlo hlc)
    have HK := Lib.hid hblk
    clear hrd hblk
    have hb0 : Below w.heap.size w (w.alloc (.cells #[] 3)) := (Below.refl _ _).alloc (Nat.le_refl _) _
    go_enter Tryd.func52, Tryd.ntmps52
    go_wp2_with (first
      | (go_at_call 39; (with_reducible refine HA.out.mono ?_); rintro e w1 ⟨rfl, rfl⟩)
      | (go_at_call 53; (with_reducible refine AT.out.mono ?_); rintro e w1 ⟨rfl, rfl⟩)
      | (at_builtin; go_loud (refine appRd (w0 := w) rfl (.tmp 13) (.tmp 19) 22 rfl w.heap.size 3 (.int .i64 0) 1 8 Tryd.underlying22 info3 rfl (by omega) (by omega) _ 0 _ rfl (World.ownsRow_lit w #[] 0 (Nat.le_refl _) (by simp [maxLen]) rfl) hb0 _ m _ rfl (RD1.out.below hb0) (nums_take_one _ _) (by omega) (by simp) ?_); intro v1 w1 hown1 hb1 hg1 hat1; have HO1 : Hid (w1.ownsRow w.heap.size 3 1 v1 m ((nums xs).take m)) := Lib.hid (by have h := hown1; rw [Nat.zero_add] at h; exact h); clear hown1 hg1))
    have hbs1 := hb1.size
    have hob1 := Lib.hid (own_base HO1.out)
    have c1 : w1.cell? ⟨p, 0, none⟩ = some (.slice A xs.length c) := (hb1.cell (p := ⟨p, 0, none⟩) hp).trans c0
    have f1 : w1.frozen? ⟨p, 0, none⟩ = false := (hb1.frozen (p := ⟨p, 0, none⟩) hp).trans f0
    have c1a : (w1.alloc (.cells #[.int .i64 x] 3)).cell? ⟨p, 0, none⟩ = some (.slice A xs.length c) := (World.cell?_alloc_lt w1 _ ⟨p, 0, none⟩ (by show p < w1.heap.size; omega)).trans c1
    have e0 : (0 : Int) ≤ (m : Int) := Int.natCast_nonneg _
    have e1 : (m : Int) ≤ (xs.length : Int) := by omega
    have HR1 := Lib.hid (RD2.out.below (hb1.mono (Nat.le_refl _)))
    clear hat1
    go_region_law (first
        | ((refine step_rd (by rfl) (.tmp 22) (.tmp 24) 22 (by rfl) w.heap.size 3 (.int .i64 0) 1 8 Tryd.underlying22 info3 rfl (by omega) (by omega) v1 _ _ (by rfl) ((HO1.out.alloc _).drew) _ 1 [.int .i64 x] (by rfl) (Rd.drew (Rd.of_own (World.ownsRow_lit (base := w1.heap.size) w1 #[.int .i64 x] 1 (Nat.le_refl _) (by simp [maxLen]) rfl))) (one1 rfl) (by omega) (by simp; omega) ?_; intro A2 c2 w2 hown2 hg2 hat2; have hb2 := ((hb1.alloc hbs1 _).drew).grown hg2 (by simp; omega) hob1.out; have c2' : w2.cell? ⟨p, 0, none⟩ = some (.slice A xs.length c) := (hb2.cell (p := ⟨p, 0, none⟩) hp).trans c0; have f2' : w2.frozen? ⟨p, 0, none⟩ = false := (hb2.frozen (p := ⟨p, 0, none⟩) hp).trans f0; have HO2 := Lib.hid hown2; have hbs2 := hb2.size; clear hown2 hg2 hat2))
        | ((refine step_rd (by rfl) (.tmp 25) (.tmp 31) 22 (by rfl) w.heap.size 3 (.int .i64 0) 1 8 Tryd.underlying22 info3 rfl (by omega) (by omega) _ _ _ (by rfl) HO2.out _ _ _ (by rfl) (RD2.out.below hb2) (nums_drop_one _ _) (by omega) (by omega) ?_; intro A3 c3 w3 hown3 hg3 hat3; have hb3 := hb2.grown hg3 hbs2 (own_base HO2.out); have c3' : w3.cell? ⟨p, 0, none⟩ = some (.slice A xs.length c) := (hb3.cell (p := ⟨p, 0, none⟩) hp).trans c0; have f3' : w3.frozen? ⟨p, 0, none⟩ = false := (hb3.frozen (p := ⟨p, 0, none⟩) hp).trans f0; have HO3 := Lib.hid hown3; clear hown3 hg3 hat3)))
    all_goals
      go_wp2
      go_ret
      refine ⟨ret_bool (by rw [HF.out]; rfl), ?_, grown_set hb3 p 0 _⟩
      rw [HI.out]
      have hln : (xs.take m ++ x :: xs.drop m).length = m + 1 + (xs.length - m) := by simp; omega
      refine ⟨hBp, by rw [hln]; omega, _, one_setCell (by rw [hb3.block p hp]; exact HK.out), ?_⟩
      rw [hln]
      have h := (ownsRow_setCell_below HO3.out (a := ⟨p, 0, none⟩) hp (.slice A3 (m + 1 + (xs.length - m)) c3)).mono hB
      simpa [nums, List.map_take, List.map_drop] using h

end Go.Proofs.YtbhlhgfgkiclgaaDoor.Set
