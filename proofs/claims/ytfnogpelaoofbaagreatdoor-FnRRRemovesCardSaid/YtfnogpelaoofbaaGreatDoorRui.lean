/- TryMerge: the program's way. Conditions: those written at each lemma. -/
import Derived.Test.YtfnogpelaoofbaaGreatDoorRuh
set_option linter.unusedVariables false
set_option linter.unusedSimpArgs false
set_option maxRecDepth 100000
set_option maxHeartbeats 8000000
namespace Go.Proofs.YtfnogpelaoofbaaGreatDoor.Rg
open Go.RowKit Go.Proofs.YtfnogpelaoofbaaGreatDoor.B Go.Proofs.YtfnogpelaoofbaaGreatDoor.Sp

theorem zip_all {p q : List Cl} {f : Cl → Cl → Bool} {R : Cl → Cl → Prop} (hl : p.length = q.length) (h : ∀ j, j < p.length → (f (gt p j) (gt q j) = true ↔ R (gt p j) (gt q j))) :
    ((p.zip q).all fun c => f c.1 c.2) = true ↔ ∀ j, j < p.length → R (gt p j) (gt q j) := by
  rw [List.all_eq_true]
  constructor
  · intro k j hj
    refine (h j hj).1 ?_
    have hz : j < (p.zip q).length := by rw [List.length_zip]; omega
    have := k _ (List.getElem_mem hz)
    rw [List.getElem_zip] at this
    rw [gt_at hj, gt_at (by omega : j < q.length)]
    exact this
  · intro k c hc
    obtain ⟨j, hj, e⟩ := List.mem_iff_getElem.1 hc
    have hz : j < p.length ∧ j < q.length := by rw [List.length_zip] at hj; omega
    rw [List.getElem_zip] at e
    have h2 := (h j hz.1).2 (k j hz.1)
    rw [gt_at hz.1, gt_at hz.2] at h2
    rw [← e]
    exact h2
theorem sbs_zip {p q : List Cl} {n : Nat} (h : Two p q n) : ((p.zip q).all fun c => subC c.1 c.2) = true ↔ Sbs p q :=
  zip_all (h.1.trans h.2.1.symm) fun j hj => by
    have fp := h.2.2.1 _ (gt_mem hj)
    have fq := h.2.2.2 _ (gt_mem (l := q) (i := j) (by have := h.1; have := h.2.1; omega))
    rw [subC_eq ⟨fp.1, fp.2.1⟩ ⟨fq.1, fq.2.1⟩, decide_eq_true_iff]
theorem Two.swap {p q : List Cl} {n : Nat} (h : Two p q n) : Two q p n := ⟨h.2.1, h.1, h.2.2.2, h.2.2.1⟩
theorem eqs_cl (a b : Cl) (pa : Pcl a) (pb : Pcl b) (W : World) : Calls Tryz.prog 50 #[a.e, b.e] W fun e w' => e = .returned (.tuple #[.bool (decide (Eq1 a b)), .nilIface]) ∧ Below W.heap.size W w' := by
  have h := equals_ct (ctOf a.a a.x) (ctOf a.b a.y) (ctOf b.a b.x) (ctOf b.b b.y) W
  rw [ex_eq, ex_eq, eqC_eq pa pb] at h
  exact h
/-- The index that TryMerge has found behind k columns. -/
def Ix (p q : List Cl) (k : Nat) (z : Int) : Prop :=
  (z = -1 ∧ ∀ j, j < k → Eq1 (gt p j) (gt q j)) ∨ ∃ i : Nat, i < k ∧ z = (i : Int) ∧ ¬ Eq1 (gt p i) (gt q i) ∧ ∀ j, j < k → j ≠ i → Eq1 (gt p j) (gt q j)
theorem Ix.same {p q : List Cl} {k : Nat} {z : Int} (h : Ix p q k z) (he : Eq1 (gt p k) (gt q k)) : Ix p q (k + 1) z := by
  rcases h with ⟨h1, h2⟩ | ⟨i, h1, h2, h3, h4⟩
  · exact .inl ⟨h1, fun j hj => by rcases Nat.lt_or_ge j k with h | h; exact h2 j h; rw [show j = k by omega]; exact he⟩
  · exact .inr ⟨i, by omega, h2, h3, fun j hj hn => by rcases Nat.lt_or_ge j k with h | h; exact h4 j h hn; rw [show j = k by omega]; exact he⟩
theorem Ix.one {p q : List Cl} {k : Nat} (h : Ix p q k (-1)) (he : ¬ Eq1 (gt p k) (gt q k)) : Ix p q (k + 1) k := by
  rcases h with ⟨h1, h2⟩ | ⟨i, h1, h2, h3, h4⟩
  · exact .inr ⟨k, by omega, rfl, he, fun j hj hn => h2 j (by omega)⟩
  · exact absurd h2 (by omega)
theorem Ix.two {p q : List Cl} {k : Nat} {z : Int} (h : Ix p q k z) (hz : z ≠ -1) (hk : k < p.length) (he : ¬ Eq1 (gt p k) (gt q k)) : ∀ i, ¬ One p q i := by
  intro i0 ho
  rcases h with ⟨h1, h2⟩ | ⟨i, h1, h2, h3, h4⟩
  · exact hz h1
  · have e1 : i = i0 := by
      by_cases e : i = i0
      · exact e
      · exact absurd (ho.2.2 i (by omega) e) h3
    have e2 : k = i0 := by
      by_cases e : k = i0
      · exact e
      · exact absurd (ho.2.2 k hk e) he
    omega
theorem Ix.done {p q : List Cl} {z : Int} (h : Ix p q p.length z) (hs : ¬ Sbs p q) : ∃ i : Nat, z = (i : Int) ∧ One p q i := by
  rcases h with ⟨h1, h2⟩ | ⟨i, h1, h2, h3, h4⟩
  · exact absurd (fun j hj => by have := h2 j hj; exact ⟨by omega, by omega⟩) hs
  · exact ⟨i, h2, h1, h3, h4⟩
theorem Ix.big {p q : List Cl} {k : Nat} {z : Int} (h : Ix p q k z) : -1 ≤ z ∧ z ≤ k := by
  rcases h with ⟨h1, h2⟩ | ⟨i, h1, h2, h3, h4⟩ <;> omega
theorem One.only {p q : List Cl} {i j : Nat} (h : One p q i) (h2 : One p q j) : i = j := by
  by_cases e : i = j
  · exact e
  · exact absurd (h.2.2 j h2.1 (fun x => e x.symm)) h2.2.1
theorem not_mrg {p q : List Cl} (h1 : ¬ Sbs p q) (h2 : ¬ Sbs q p) (h : ∀ i, ¬ One p q i) : ¬ Mrg p q := by
  rintro (h3 | h3 | ⟨i, h3, _⟩)
  · exact h1 h3
  · exact h2 h3
  · exact h i h3
theorem not_mrg1 {p q : List Cl} {i : Nat} (h1 : ¬ Sbs p q) (h2 : ¬ Sbs q p) (h : One p q i) (hc : ¬ Cn1 (gt p i) (gt q i)) : ¬ Mrg p q := by
  rintro (h3 | h3 | ⟨j, h3, h4⟩)
  · exact h1 h3
  · exact h2 h3
  · rw [h.only h3] at hc; exact hc h4
theorem rd_cap3 {w : World} {size n c : Nat} {A : Option Addr} {cs : List Value} (h : Rd w size (.slice A n c) n cs) : n ≤ c ∧ c ≤ 9223372036854775807 := by
  obtain ⟨A2, c2, e, h1, h2⟩ := h.shape
  injection e with _ _ e
  omega
/-- What TryMerge answers. -/
def TmA (p q : List Cl) (w w' : World) (e : Ending) : Prop :=
  ∃ A0 n0 c0 b, e = .returned (.tuple #[.slice A0 n0 c0, .bool b, .nilIface]) ∧ Below w.heap.size w w' ∧ (b = true → ∃ m, Mg p q m ∧ w'.ownsRow 0 92 3 (.slice A0 n0 c0) m.length (exs m)) ∧ (b = false → ¬ Mrg p q)
theorem trymerge_any (v u : Value) (p q : List Cl) (n : Nat) (w : World) (hor : w.ownsRow 0 92 3 v p.length (exs p)) (hou : w.ownsRow 0 92 3 u q.length (exs q)) (h : Two p q n) (hn : 0 < n) (hl : n ≤ 1000) :
    Calls Tryz.prog 48 #[v, u] w fun e w' => TmA p q w w' e := by
  have hlen : p.length = q.length := h.1.trans h.2.1.symm
  have hr := Rd.of_own hor
  have hu := Rd.of_own hou
  have HOR := Lib.hid hor
  have HOU := Lib.hid hou
  clear hor hou
  obtain ⟨A, c, rfl, hlc, hcm⟩ := hr.shape
  obtain ⟨A2, c2, rfl, hlc2, hcm2⟩ := hu.shape
  have S1 := Lib.hid (rsuperset_any _ _ p q w hr hu hlen (by have := h.1; omega))
  have S2 := Lib.hid (fun W (hb : Below w.heap.size w W) => rsuperset_any _ _ q p W (hu.below hb) (hr.below hb) hlen.symm (by have := h.2.1; omega))
  have E1 := Lib.hid (sbs_zip h.swap)
  have E2 := Lib.hid (sbs_zip h)
  have HR := Lib.hid hr
  have HU := Lib.hid hu
  have HT := Lib.hid h
  have hne : ((p.length : Int) != (q.length : Int)) = false := by simp [hlen]
  have HLQ := Lib.hid hlen
  have hpn : p.length ≤ 1000 := by have := h.1; omega
  have hp0 : 0 < p.length := by have := h.1; omega
  clear hr hu hlen h
  generalize ((q.zip p).all fun c => subC c.1 c.2) = s1 at *
  generalize ((p.zip q).all fun c => subC c.1 c.2) = s2 at *
  cases s1
  case true =>
    go_enter Tryz.func48, Tryz.ntmps48
    go_wp2_with (go_at_call 69; (with_reducible refine S1.out.mono ?_); rintro e w1 ⟨rfl, hb⟩; have B1 := Lib.hid hb; clear hb)
    go_ret3
    exact ⟨_, _, _, _, rfl, B1.out, fun _ => ⟨p, .l (E1.out.1 (by trivial)), own_below HOR.out B1.out⟩, fun h => (by cases h)⟩
  case false =>
    have N1 := Lib.hid (show ¬ Sbs q p from fun h => by have := E1.out.2 h; cases this)
    clear E1
    cases s2
    case true =>
      go_enter Tryz.func48, Tryz.ntmps48
      go_wp2_with (first
        | (go_at_call 69; (with_reducible refine S1.out.mono ?_); rintro e w1 ⟨rfl, hb⟩; have B1 := Lib.hid hb; clear hb S1)
        | (go_at_call 69; (with_reducible refine (S2.out _ B1.out).mono ?_); rintro e w2 ⟨rfl, hb⟩; have B2 := Lib.hid (B1.out.trans (hb.mono B1.out.size)); clear hb))
      go_ret3
      exact ⟨_, _, _, _, rfl, B2.out, fun _ => ⟨q, .r (E2.out.1 (by trivial)), own_below HOU.out B2.out⟩, fun h => (by cases h)⟩
    case false =>
      have N2 := Lib.hid (show ¬ Sbs p q from fun h => by have := E2.out.2 h; cases this)
      clear E2
      go_enter Tryz.func48, Tryz.ntmps48
      go_wp2_with (first
        | (go_at_call 69; (with_reducible refine S1.out.mono ?_); rintro e w1 ⟨rfl, hb⟩; have B1 := Lib.hid hb; clear hb S1)
        | (go_at_call 69; (with_reducible refine (S2.out _ B1.out).mono ?_); rintro e w2 ⟨rfl, hb⟩; have B2 := Lib.hid (B1.out.trans (hb.mono B1.out.size)); clear hb S2))
      clear B1
      go_loopw [11, 12] (fun v11 v12 wr => ∃ (k : Nat) (z : Int), v12 = .int .i64 k ∧ v11 = .int .i64 z ∧ k ≤ p.length ∧ -1 ≤ z ∧ z ≤ k ∧ Hid (Ix p q k z) ∧ Hid (Below w.heap.size w wr)) (fun _ v12 _ => (p.length - (intOf v12)).toNat)
      case atStart => exact ⟨0, -1, rfl, rfl, Nat.zero_le _, Int.le_refl _, by omega, Lib.hid (.inl ⟨rfl, fun j hj => absurd hj (Nat.not_lt_zero j)⟩), B2⟩
      case round =>
        obtain ⟨k, z, rfl, rfl, hk, hz1, hz2, HI, HB⟩ := hrel
        clear B2
        by_cases hlt : k < p.length
        · have hlt2 : k < q.length := by rw [← HLQ.out]; exact hlt
          obtain ⟨b1, o1, rfl, hb1, c0, c1, c2'⟩ := rd_ex HR.out k hlt
          obtain ⟨b2, o2, rfl, hb2, d0, d1, d2⟩ := rd_ex HU.out k hlt2
          rw [← gt_at hlt] at c0 c1
          rw [← gt_at hlt2] at d0 d1
          have SA := Lib.hid (fun W => eqs_cl (gt p k) (gt q k) (ful_pcl (HT.out.2.2.1 _ (gt_mem hlt))) (ful_pcl (HT.out.2.2.2 _ (gt_mem hlt2))) W)
          obtain ⟨sm, hsm⟩ : ∃ sm, decide (Eq1 (gt p k) (gt q k)) = sm := ⟨_, rfl⟩
          rw [hsm] at SA
          have HY := Lib.hid (show (sm = true → Eq1 (gt p k) (gt q k)) ∧ (sm = false → ¬ Eq1 (gt p k) (gt q k)) from by
            rw [← hsm]
            exact ⟨fun h => of_decide_eq_true h, fun h => of_decide_eq_false h⟩)
          clear hsm
          unfold Cl.e at SA
          generalize (ctOf (gt p k).a (gt p k).x).tid = ta at *
          generalize (ctOf (gt p k).a (gt p k).x).inner = ai at *
          generalize (ctOf (gt p k).b (gt p k).y).tid = tb at *
          generalize (ctOf (gt p k).b (gt p k).y).inner = bi at *
          generalize (ctOf (gt q k).a (gt q k).x).tid = tc at *
          generalize (ctOf (gt q k).a (gt q k).x).inner = ci at *
          generalize (ctOf (gt q k).b (gt q k).y).tid = td at *
          generalize (ctOf (gt q k).b (gt q k).y).inner = di at *
          go_upto_region 17 with fail
          obtain ⟨X, rfl⟩ : ∃ X : World, X = wr := ⟨_, rfl⟩
          refine Rv.region_goods (n := 102) (by kernel_rfl) #[53, 54, 55, 56, 57, 58, 59, 60, 61, 52, 62, 63, 13, 14] #[] (fun i v W => v = (#[.slice (some ⟨b1, o1, none⟩) p.length c, .int .i64 (k : Int), .pointer (some ⟨b1, o1 + k * 3, none⟩), exI ta ai tb bi, .slice (some ⟨b2, o2, none⟩) q.length c2, .int .i64 (k : Int), .pointer (some ⟨b2, o2 + k * 3, none⟩), exI tc ci td di, .tuple #[.bool sm, .nilIface], .tuple #[.bool sm, .nilIface], .bool sm, .nilIface, .bool sm, .nilIface] : Array Value).getD i undef) (fun i v w w' h hb => ?_) (fun i h g b hg => ?_) rfl (by kernel_rfl) (by kernel_rfl) (fun i h hr w => ?_) ?_ ?_
          · exact h
          · match i, h, hg with
            | 0, _, hg => cases hg
            | 1, _, hg => cases hg
            | 2, _, hg => cases hg
            | 3, _, hg => cases hg
            | 4, _, hg => cases hg
            | 5, _, hg => cases hg
            | 6, _, hg => cases hg
            | 7, _, hg => cases hg
            | 8, _, hg => cases hg
            | 9, _, hg => cases hg
            | 10, _, hg => cases hg
            | 11, _, hg => cases hg
            | 12, _, hg => cases hg
            | 13, _, hg => cases hg
            | m + 14, h, _ => exact absurd h (by show ¬ m + 14 < 14; omega)
          · match i, h, hr with
            | 0, _, hr => exact Bool.noConfusion (show true = false from hr)
            | 1, _, hr => exact Bool.noConfusion (show true = false from hr)
            | 2, _, hr => exact Bool.noConfusion (show true = false from hr)
            | 3, _, hr => exact Bool.noConfusion (show true = false from hr)
            | 4, _, hr => exact Bool.noConfusion (show true = false from hr)
            | 5, _, hr => exact Bool.noConfusion (show true = false from hr)
            | 6, _, hr => exact Bool.noConfusion (show true = false from hr)
            | 7, _, hr => exact Bool.noConfusion (show true = false from hr)
            | 8, _, hr => exact Bool.noConfusion (show true = false from hr)
            | 9, _, hr => exact Bool.noConfusion (show true = false from hr)
            | 10, _, hr => exact Bool.noConfusion (show true = false from hr)
            | 11, _, hr => exact Bool.noConfusion (show true = false from hr)
            | 12, _, hr => exact Bool.noConfusion (show true = false from hr)
            | 13, _, hr => exact Bool.noConfusion (show true = false from hr)
            | m + 14, h, _ => exact absurd h (by show ¬ m + 14 < 14; omega)
          · intro i h a W hrun hbase hpre hdep htr
            have HBW := HB.out.trans (htr.mono HB.out.size)
            have q0 := (HBW.cell (p := ⟨b1, o1 + k * 3, none⟩) hb1).trans c0
            have q1 := (HBW.cell (p := ⟨b1, o1 + k * 3 + 1, none⟩) hb1).trans c1
            have q2 := (HBW.cell (p := ⟨b1, o1 + k * 3 + 2, none⟩) hb1).trans c2'
            have s0 := (HBW.cell (p := ⟨b2, o2 + k * 3, none⟩) hb2).trans d0
            have s1 := (HBW.cell (p := ⟨b2, o2 + k * 3 + 1, none⟩) hb2).trans d1
            have s2 := (HBW.cell (p := ⟨b2, o2 + k * 3 + 2, none⟩) hb2).trans d2
            match i, h with
            | 0, _ =>
              obtain ⟨e0, x0⟩ := Rv.ev (show a.tmps.getD 0 undef = .slice (some ⟨b1, o1, none⟩) p.length c from hbase 0 rfl)
              exact Rv.step_op (op := Go.Op.move (Go.Operand.tmp 0)) (v := .slice (some ⟨b1, o1, none⟩) p.length c) (w1 := W) rfl rfl (fun d pos aft g => by unfold execOp; go_simp) ⟨_, rfl, rfl, Below.refl _ _⟩
            | 1, _ =>
              obtain ⟨e12, x12⟩ := Rv.ev (show a.tmps.getD 12 undef = .int .i64 (k : Int) from hbase 12 rfl)
              exact Rv.step_op (op := Go.Op.move (Go.Operand.tmp 12)) (v := .int .i64 (k : Int)) (w1 := W) rfl rfl (fun d pos aft g => by unfold execOp; go_simp) ⟨_, rfl, rfl, Below.refl _ _⟩
            | 2, _ =>
              obtain ⟨e53, x53⟩ := Rv.ev (show a.tmps.getD 53 undef = .slice (some ⟨b1, o1, none⟩) p.length c from hdep 0 rfl)
              obtain ⟨e54, x54⟩ := Rv.ev (show a.tmps.getD 54 undef = .int .i64 (k : Int) from hdep 1 rfl)
              exact Rv.step_op (op := Go.Op.indexAddr 63 (Go.Operand.tmp 53) (Go.Operand.tmp 54)) (v := .pointer (some ⟨b1, o1 + k * 3, none⟩)) (w1 := W) rfl rfl (fun d pos aft g => by unfold execOp; go_simp) ⟨_, rfl, rfl, Below.refl _ _⟩
            | 3, _ =>
              obtain ⟨e55, x55⟩ := Rv.ev (show a.tmps.getD 55 undef = .pointer (some ⟨b1, o1 + k * 3, none⟩) from hdep 2 rfl)
              exact Rv.step_op (op := Go.Op.load 92 (Go.Operand.tmp 55)) (v := exI ta ai tb bi) (w1 := W) rfl rfl (fun d pos aft g => by unfold execOp; go_simp) ⟨_, rfl, rfl, Below.refl _ _⟩
            | 4, _ =>
              obtain ⟨e1, x1⟩ := Rv.ev (show a.tmps.getD 1 undef = .slice (some ⟨b2, o2, none⟩) q.length c2 from hbase 1 rfl)
              exact Rv.step_op (op := Go.Op.move (Go.Operand.tmp 1)) (v := .slice (some ⟨b2, o2, none⟩) q.length c2) (w1 := W) rfl rfl (fun d pos aft g => by unfold execOp; go_simp) ⟨_, rfl, rfl, Below.refl _ _⟩
            | 5, _ =>
              obtain ⟨e12, x12⟩ := Rv.ev (show a.tmps.getD 12 undef = .int .i64 (k : Int) from hbase 12 rfl)
              exact Rv.step_op (op := Go.Op.move (Go.Operand.tmp 12)) (v := .int .i64 (k : Int)) (w1 := W) rfl rfl (fun d pos aft g => by unfold execOp; go_simp) ⟨_, rfl, rfl, Below.refl _ _⟩
            | 6, _ =>
              obtain ⟨e57, x57⟩ := Rv.ev (show a.tmps.getD 57 undef = .slice (some ⟨b2, o2, none⟩) q.length c2 from hdep 4 rfl)
              obtain ⟨e58, x58⟩ := Rv.ev (show a.tmps.getD 58 undef = .int .i64 (k : Int) from hdep 5 rfl)
              exact Rv.step_op (op := Go.Op.indexAddr 63 (Go.Operand.tmp 57) (Go.Operand.tmp 58)) (v := .pointer (some ⟨b2, o2 + k * 3, none⟩)) (w1 := W) rfl rfl (fun d pos aft g => by unfold execOp; go_simp) ⟨_, rfl, rfl, Below.refl _ _⟩
            | 7, _ =>
              obtain ⟨e59, x59⟩ := Rv.ev (show a.tmps.getD 59 undef = .pointer (some ⟨b2, o2 + k * 3, none⟩) from hdep 6 rfl)
              exact Rv.step_op (op := Go.Op.load 92 (Go.Operand.tmp 59)) (v := exI tc ci td di) (w1 := W) rfl rfl (fun d pos aft g => by unfold execOp; go_simp) ⟨_, rfl, rfl, Below.refl _ _⟩
            | 8, _ =>
              obtain ⟨e56, x56⟩ := Rv.ev (show a.tmps.getD 56 undef = exI ta ai tb bi from hdep 3 rfl)
              obtain ⟨e60, x60⟩ := Rv.ev (show a.tmps.getD 60 undef = exI tc ci td di from hdep 7 rfl)
              have cf : ∀ x0 x1 W, (callFunc 50 #[x0, x1]).run Tryz.prog W = .ok (.enter 50 #[x0, x1]) W := fun _ _ _ => by kernel_rfl
              refine Rv.step_fn (op := Go.Op.call { callee := Go.Callee.value (Go.Operand.func 50), args := #[Go.Operand.tmp 56, Go.Operand.tmp 60], argTypes := #[92, 92] }) (f := 50) (args := #[exI ta ai tb bi, exI tc ci td di]) (R := fun v W' => v = .tuple #[.bool sm, .nilIface] ∧ Below W.heap.size W W') rfl rfl (fun d pos aft g => by unfold execOp; go_simp) ((SA.out W).mono ?_) ?_
              · (rintro e W' ⟨rfl, hb⟩; exact ⟨_, rfl, rfl, hb⟩)
              · (rintro v W' ⟨rfl, hb⟩; exact ⟨_, rfl, rfl, hb⟩)
            | 9, _ =>
              obtain ⟨e61, x61⟩ := Rv.ev (show a.tmps.getD 61 undef = .tuple #[.bool sm, .nilIface] from hdep 8 rfl)
              exact Rv.step_op (op := Go.Op.move (Go.Operand.tmp 61)) (v := .tuple #[.bool sm, .nilIface]) (w1 := W) rfl rfl (fun d pos aft g => by unfold execOp; go_simp) ⟨_, rfl, rfl, Below.refl _ _⟩
            | 10, _ =>
              obtain ⟨e52, x52⟩ := Rv.ev (show a.tmps.getD 52 undef = .tuple #[.bool sm, .nilIface] from hdep 9 rfl)
              exact Rv.step_op (op := Go.Op.extract (Go.Operand.tmp 52) 0) (v := .bool sm) (w1 := W) rfl rfl (fun d pos aft g => by unfold execOp; go_simp) ⟨_, rfl, rfl, Below.refl _ _⟩
            | 11, _ =>
              obtain ⟨e52, x52⟩ := Rv.ev (show a.tmps.getD 52 undef = .tuple #[.bool sm, .nilIface] from hdep 9 rfl)
              exact Rv.step_op (op := Go.Op.extract (Go.Operand.tmp 52) 1) (v := .nilIface) (w1 := W) rfl rfl (fun d pos aft g => by unfold execOp; go_simp) ⟨_, rfl, rfl, Below.refl _ _⟩
            | 12, _ =>
              obtain ⟨e62, x62⟩ := Rv.ev (show a.tmps.getD 62 undef = .bool sm from hdep 10 rfl)
              exact Rv.step_op (op := Go.Op.assign (Go.Operand.tmp 62)) (v := .bool sm) (w1 := W) rfl rfl (fun d pos aft g => by unfold execOp; go_simp) ⟨_, rfl, rfl, Below.refl _ _⟩
            | 13, _ =>
              obtain ⟨e63, x63⟩ := Rv.ev (show a.tmps.getD 63 undef = .nilIface from hdep 11 rfl)
              exact Rv.step_op (op := Go.Op.assign (Go.Operand.tmp 63)) (v := .nilIface) (w1 := W) rfl rfl (fun d pos aft g => by unfold execOp; go_simp) ⟨_, rfl, rfl, Below.refl _ _⟩
            | m + 14, h => exact absurd h (by show ¬ m + 14 < 14; omega)
          intro W f hf htr
          have f0 : f 0 = .slice (some ⟨b1, o1, none⟩) p.length c := hf 0 (by show 0 < 14; omega)
          have f1 : f 1 = .int .i64 (k : Int) := hf 1 (by show 1 < 14; omega)
          have f2 : f 2 = .pointer (some ⟨b1, o1 + k * 3, none⟩) := hf 2 (by show 2 < 14; omega)
          have f3 : f 3 = exI ta ai tb bi := hf 3 (by show 3 < 14; omega)
          have f4 : f 4 = .slice (some ⟨b2, o2, none⟩) q.length c2 := hf 4 (by show 4 < 14; omega)
          have f5 : f 5 = .int .i64 (k : Int) := hf 5 (by show 5 < 14; omega)
          have f6 : f 6 = .pointer (some ⟨b2, o2 + k * 3, none⟩) := hf 6 (by show 6 < 14; omega)
          have f7 : f 7 = exI tc ci td di := hf 7 (by show 7 < 14; omega)
          have f8 : f 8 = .tuple #[.bool sm, .nilIface] := hf 8 (by show 8 < 14; omega)
          have f9 : f 9 = .tuple #[.bool sm, .nilIface] := hf 9 (by show 9 < 14; omega)
          have f10 : f 10 = .bool sm := hf 10 (by show 10 < 14; omega)
          have f11 : f 11 = .nilIface := hf 11 (by show 11 < 14; omega)
          have f12 : f 12 = .bool sm := hf 12 (by show 12 < 14; omega)
          have f13 : f 13 = .nilIface := hf 13 (by show 13 < 14; omega)
          refine (show ∀ (a : Act) (w : World), Code.wp _ _ _ a w → _ from by assumption) _ _ ?_
          refine Rv.fin_swap (L' := [(53, f 0), (54, f 1), (55, f 2), (56, f 3), (57, f 4), (58, f 5), (59, f 6), (60, f 7), (61, f 8), (52, f 9), (62, f 10), (63, f 11), (13, f 12), (14, f 13)]) rfl ?_
          rw [f0, f1, f2, f3, f4, f5, f6, f7, f8, f9, f10, f11, f12, f13]
          clear f0 f1 f2 f3 f4 f5 f6 f7 f8 f9 f10 f11 f12 f13
          simp only [Rv.fin, List.foldl_cons, List.foldl_nil, Act.put, List.setIfInBounds_toArray, List.set_cons_succ, List.set_cons_zero]
          have HB2 := Lib.hid (HB.out.trans (htr.mono HB.out.size))
          clear htr
          cases sm
          · have HNE := Lib.hid (HY.out.2 rfl)
            rcases Int.lt_or_le z 0 with hz | hz
            · obtain rfl : z = -1 := by omega
              go_wp2
              go_roundw
              case rel => exact ⟨k + 1, k, by go_num, rfl, by omega, by omega, by omega, Lib.hid (HI.out.one HNE.out), HB2⟩
              case measure => simp [intOf]; omega
            · have hzz : (z == -1) = false := by rw [beq_eq_false_iff_ne]; omega
              have HTW := Lib.hid (not_mrg N2.out N1.out (HI.out.two (by omega) hlt HNE.out))
              go_wp2
              go_ret3
              exact ⟨_, _, _, _, rfl, HB2.out, fun h => (by cases h), fun _ => HTW.out⟩
          · go_wp2
            go_roundw
            case rel => exact ⟨k + 1, z, by go_num, rfl, by omega, by omega, by omega, Lib.hid (HI.out.same (HY.out.1 rfl)), HB2⟩
            case measure => simp [intOf]; omega
        · obtain rfl : k = p.length := by omega
          obtain ⟨ix, rfl, hone⟩ := HI.out.done N2.out
          have hlt := hone.1
          have hlt2 : ix < q.length := by rw [← HLQ.out]; exact hlt
          have HONE := Lib.hid hone
          clear hone HI
          have hzz : ((ix : Int) == -1) = false := by rw [beq_eq_false_iff_ne]; omega
          obtain ⟨b1, o1, rfl, hb1, c0, c1, c2'⟩ := rd_ex HR.out ix hlt
          obtain ⟨b2, o2, rfl, hb2, d0, d1, d2⟩ := rd_ex HU.out ix hlt2
          rw [← gt_at hlt] at c0 c1
          rw [← gt_at hlt2] at d0 d1
          have fp := HT.out.2.2.1 _ (gt_mem hlt)
          have fq := HT.out.2.2.2 _ (gt_mem hlt2)
          have SA := Lib.hid (fun W => union_cl (gt p ix) (gt q ix) W (ful_pcl fp) (ful_pcl fq) fp.2.2 fq.2.2)
          have CP := Lib.hid (fun W (hb : Below w.heap.size w W) => copy_any _ p.length (exs p) W (HR.out.below hb) (exs_one1 p) hp0 (by omega))
          have HST := Lib.hid (exs_set p ix (jn (gt p ix) (gt q ix)) hlt)
          have HG := Lib.hid (exs_get p ix hlt)
          rw [← gt_at hlt] at HG
          clear fp fq
          by_cases hcn : Cn1 (gt p ix) (gt q ix)
          · have HCN := Lib.hid hcn
            rw [if_pos hcn, decide_eq_true hcn] at SA
            unfold Cl.e at SA
            generalize (ctOf (gt p ix).a (gt p ix).x).tid = ta at *
            generalize (ctOf (gt p ix).a (gt p ix).x).inner = ai at *
            generalize (ctOf (gt p ix).b (gt p ix).y).tid = tb at *
            generalize (ctOf (gt p ix).b (gt p ix).y).inner = bi at *
            generalize (ctOf (gt q ix).a (gt q ix).x).tid = tc at *
            generalize (ctOf (gt q ix).a (gt q ix).x).inner = ci at *
            generalize (ctOf (gt q ix).b (gt q ix).y).tid = td at *
            generalize (ctOf (gt q ix).b (gt q ix).y).inner = di at *
            generalize (ctOf (jn (gt p ix) (gt q ix)).a (jn (gt p ix) (gt q ix)).x).tid = r1 at *
            generalize (ctOf (jn (gt p ix) (gt q ix)).a (jn (gt p ix) (gt q ix)).x).inner = j1 at *
            generalize (ctOf (jn (gt p ix) (gt q ix)).b (jn (gt p ix) (gt q ix)).y).tid = r2 at *
            generalize (ctOf (jn (gt p ix) (gt q ix)).b (jn (gt p ix) (gt q ix)).y).inner = j2 at *
            go_upto_region 26 with fail
            obtain ⟨X, rfl⟩ : ∃ X : World, X = wr := ⟨_, rfl⟩
            refine Rv.region_fin (n := 102) (by kernel_rfl) #[76, 77, 78, 79, 80, 81, 82, 83, 84, 75, 85, 86, 87, 15, 1014, 16, 17] #[] (fun i f W => if i = 14 then (fun f W => ∃ g, f 13 = .pointer (some ⟨g, 0, none⟩) ∧ W.heap[g]? = some (.cells #[.iface r1 j1, .iface r2 j2, tv] 92 (0, 0))) f W else if i = 13 then (fun f W => ∃ g, f 13 = .pointer (some ⟨g, 0, none⟩) ∧ W.heap[g]? = some (.cells #[.nilIface, .nilIface, .nilIface] 92 (0, 0))) f W else f i = (#[.slice (some ⟨b1, o1, none⟩) p.length c, .int .i64 (ix : Int), .pointer (some ⟨b1, o1 + ix * 3, none⟩), exI ta ai tb bi, .slice (some ⟨b2, o2, none⟩) q.length c2, .int .i64 (ix : Int), .pointer (some ⟨b2, o2 + ix * 3, none⟩), exI tc ci td di, .tuple #[exI r1 j1 r2 j2, .bool true, .nilIface], .tuple #[exI r1 j1 r2 j2, .bool true, .nilIface], exI r1 j1 r2 j2, .bool true, .nilIface, undef, undef, .bool true, .nilIface] : Array Value).getD i undef) (fun i j => (i == 14 && (j == 13))) (fun i => i == 14) (fun i f W W' => if i = 14 then (fun f W W' => ∃ g, f 13 = .pointer (some ⟨g, 0, none⟩) ∧ Rv.But g W W') f W W' else True) (fun W => Below X.heap.size X W) (fun _ => True) (Rv.One 13 X.heap.size) (Rv.One.loc (by show 13 < 17; omega)) (fun i f f' w hi h hd hg => ?_) (fun i j f w w' hi hj hij hK hdp h hr => ?_) (fun i h g b hg => ?_) rfl (by kernel_rfl) (fun i h g b hg => ?_) ((Below.refl _ _).drew) (trivial) (fun f => Rv.One.start) (fun i h hr f w hf => ?_) (fun i h hr => absurd hr (Rv.allrun (by kernel_rfl) i h)) ?_ ?_
            · by_cases hi1014 : i = 14
              · subst hi1014
                rw [if_pos rfl] at hg ⊢
                obtain ⟨g, q1, q2⟩ := hg
                exact ⟨g, (hd 13 rfl).symm.trans q1, q2⟩
              rw [if_neg hi1014] at hg ⊢
              by_cases hi15 : i = 13
              · subst hi15
                rw [if_pos rfl] at hg ⊢
                obtain ⟨g, q1, q2⟩ := hg
                exact ⟨g, h.symm.trans q1, q2⟩
              rw [if_neg hi15] at hg ⊢
              rw [← h]; exact hg
            · by_cases hj1014 : j = 14
              · subst hj1014
                rw [if_pos rfl] at h ⊢
                rcases hr with ⟨hK1, hr⟩ | hr
                · exfalso
                  exact hij (by simpa using hK1)
                · obtain ⟨g, e, hb⟩ := h
                  exact ⟨g, e, (hr.block _ (Rv.lt_of_blk hb)).trans hb⟩
              rw [if_neg hj1014] at h ⊢
              by_cases hj15 : j = 13
              · subst hj15
                rw [if_pos rfl] at h ⊢
                rcases hr with ⟨hK1, hr⟩ | hr
                · exfalso
                  have e : i = 14 := by simpa using hK1
                  subst e
                  revert hK
                  decide
                · obtain ⟨g, e, hb⟩ := h
                  exact ⟨g, e, (hr.block _ (Rv.lt_of_blk hb)).trans hb⟩
              rw [if_neg hj15] at h ⊢
              exact h
            · match i, h, hg with
              | 0, _, hg => cases hg
              | 1, _, hg => cases hg
              | 2, _, hg => cases hg
              | 3, _, hg => cases hg
              | 4, _, hg => cases hg
              | 5, _, hg => cases hg
              | 6, _, hg => cases hg
              | 7, _, hg => cases hg
              | 8, _, hg => cases hg
              | 9, _, hg => cases hg
              | 10, _, hg => cases hg
              | 11, _, hg => cases hg
              | 12, _, hg => cases hg
              | 13, _, hg => cases hg
              | 14, _, hg => cases hg
              | 15, _, hg => cases hg
              | 16, _, hg => cases hg
              | m + 17, h, _ => exact absurd h (by show ¬ m + 17 < 17; omega)
            · match i, h, hg with
              | 0, _, hg => cases hg
              | 1, _, hg => cases hg
              | 2, _, hg => cases hg
              | 3, _, hg => cases hg
              | 4, _, hg => cases hg
              | 5, _, hg => cases hg
              | 6, _, hg => cases hg
              | 7, _, hg => cases hg
              | 8, _, hg => cases hg
              | 9, _, hg => cases hg
              | 10, _, hg => cases hg
              | 11, _, hg => cases hg
              | 12, _, hg => cases hg
              | 13, _, hg => cases hg
              | 14, _, hg => cases hg
              | 15, _, hg => cases hg
              | 16, _, hg => cases hg
              | m + 17, h, _ => exact absurd h (by show ¬ m + 17 < 17; omega)
            · match i, h, hr, hf with
              | 0, _, hr, _ => exact Bool.noConfusion (show true = false from hr)
              | 1, _, hr, _ => exact Bool.noConfusion (show true = false from hr)
              | 2, _, hr, _ => exact Bool.noConfusion (show true = false from hr)
              | 3, _, hr, _ => exact Bool.noConfusion (show true = false from hr)
              | 4, _, hr, _ => exact Bool.noConfusion (show true = false from hr)
              | 5, _, hr, _ => exact Bool.noConfusion (show true = false from hr)
              | 6, _, hr, _ => exact Bool.noConfusion (show true = false from hr)
              | 7, _, hr, _ => exact Bool.noConfusion (show true = false from hr)
              | 8, _, hr, _ => exact Bool.noConfusion (show true = false from hr)
              | 9, _, hr, _ => exact Bool.noConfusion (show true = false from hr)
              | 10, _, hr, _ => exact Bool.noConfusion (show true = false from hr)
              | 11, _, hr, _ => exact Bool.noConfusion (show true = false from hr)
              | 12, _, hr, _ => exact Bool.noConfusion (show true = false from hr)
              | 13, _, hr, _ => exact Bool.noConfusion (show true = false from hr)
              | 14, _, hr, _ => exact Bool.noConfusion (show true = false from hr)
              | 15, _, hr, _ => exact Bool.noConfusion (show true = false from hr)
              | 16, _, hr, _ => exact Bool.noConfusion (show true = false from hr)
              | m + 17, h, _, _ => exact absurd h (by show ¬ m + 17 < 17; omega)
            · intro i h a W hrun hbase hpre hdep htr hta hJ
              have HBW := HB.out.trans (htr.mono HB.out.size)
              have q0 := (HBW.cell (p := ⟨b1, o1 + ix * 3, none⟩) hb1).trans c0
              have q1 := (HBW.cell (p := ⟨b1, o1 + ix * 3 + 1, none⟩) hb1).trans c1
              have q2 := (HBW.cell (p := ⟨b1, o1 + ix * 3 + 2, none⟩) hb1).trans c2'
              have s0 := (HBW.cell (p := ⟨b2, o2 + ix * 3, none⟩) hb2).trans d0
              have s1 := (HBW.cell (p := ⟨b2, o2 + ix * 3 + 1, none⟩) hb2).trans d1
              have s2 := (HBW.cell (p := ⟨b2, o2 + ix * 3 + 2, none⟩) hb2).trans d2
              match i, h with
              | 0, _ =>
                obtain ⟨e0, x0⟩ := Rv.ev (show a.tmps.getD 0 undef = .slice (some ⟨b1, o1, none⟩) p.length c from hbase 0 rfl)
                exact Rv.step_op (op := Go.Op.move (Go.Operand.tmp 0)) (v := .slice (some ⟨b1, o1, none⟩) p.length c) (w1 := W) rfl rfl (fun d pos aft g => by unfold execOp; go_simp) ⟨_, rfl, rfl, .inr (Below.refl _ _), htr, fun _ ht => ht, fun L _ hJ => Rv.One.keep (by decide) _ (Nat.le_refl _) hJ⟩
              | 1, _ =>
                obtain ⟨e11, x11⟩ := Rv.ev (show a.tmps.getD 11 undef = .int .i64 (ix : Int) from hbase 11 rfl)
                exact Rv.step_op (op := Go.Op.move (Go.Operand.tmp 11)) (v := .int .i64 (ix : Int)) (w1 := W) rfl rfl (fun d pos aft g => by unfold execOp; go_simp) ⟨_, rfl, rfl, .inr (Below.refl _ _), htr, fun _ ht => ht, fun L _ hJ => Rv.One.keep (by decide) _ (Nat.le_refl _) hJ⟩
              | 2, _ =>
                obtain ⟨e76, x76⟩ := Rv.ev (show a.tmps.getD 76 undef = .slice (some ⟨b1, o1, none⟩) p.length c from hdep 0 rfl rfl)
                obtain ⟨e77, x77⟩ := Rv.ev (show a.tmps.getD 77 undef = .int .i64 (ix : Int) from hdep 1 rfl rfl)
                exact Rv.step_op (op := Go.Op.indexAddr 63 (Go.Operand.tmp 76) (Go.Operand.tmp 77)) (v := .pointer (some ⟨b1, o1 + ix * 3, none⟩)) (w1 := W) rfl rfl (fun d pos aft g => by unfold execOp; go_simp) ⟨_, rfl, rfl, .inr (Below.refl _ _), htr, fun _ ht => ht, fun L _ hJ => Rv.One.keep (by decide) _ (Nat.le_refl _) hJ⟩
              | 3, _ =>
                obtain ⟨e78, x78⟩ := Rv.ev (show a.tmps.getD 78 undef = .pointer (some ⟨b1, o1 + ix * 3, none⟩) from hdep 2 rfl rfl)
                exact Rv.step_op (op := Go.Op.load 92 (Go.Operand.tmp 78)) (v := exI ta ai tb bi) (w1 := W) rfl rfl (fun d pos aft g => by unfold execOp; go_simp) ⟨_, rfl, rfl, .inr (Below.refl _ _), htr, fun _ ht => ht, fun L _ hJ => Rv.One.keep (by decide) _ (Nat.le_refl _) hJ⟩
              | 4, _ =>
                obtain ⟨e1, x1⟩ := Rv.ev (show a.tmps.getD 1 undef = .slice (some ⟨b2, o2, none⟩) q.length c2 from hbase 1 rfl)
                exact Rv.step_op (op := Go.Op.move (Go.Operand.tmp 1)) (v := .slice (some ⟨b2, o2, none⟩) q.length c2) (w1 := W) rfl rfl (fun d pos aft g => by unfold execOp; go_simp) ⟨_, rfl, rfl, .inr (Below.refl _ _), htr, fun _ ht => ht, fun L _ hJ => Rv.One.keep (by decide) _ (Nat.le_refl _) hJ⟩
              | 5, _ =>
                obtain ⟨e11, x11⟩ := Rv.ev (show a.tmps.getD 11 undef = .int .i64 (ix : Int) from hbase 11 rfl)
                exact Rv.step_op (op := Go.Op.move (Go.Operand.tmp 11)) (v := .int .i64 (ix : Int)) (w1 := W) rfl rfl (fun d pos aft g => by unfold execOp; go_simp) ⟨_, rfl, rfl, .inr (Below.refl _ _), htr, fun _ ht => ht, fun L _ hJ => Rv.One.keep (by decide) _ (Nat.le_refl _) hJ⟩
              | 6, _ =>
                obtain ⟨e80, x80⟩ := Rv.ev (show a.tmps.getD 80 undef = .slice (some ⟨b2, o2, none⟩) q.length c2 from hdep 4 rfl rfl)
                obtain ⟨e81, x81⟩ := Rv.ev (show a.tmps.getD 81 undef = .int .i64 (ix : Int) from hdep 5 rfl rfl)
                exact Rv.step_op (op := Go.Op.indexAddr 63 (Go.Operand.tmp 80) (Go.Operand.tmp 81)) (v := .pointer (some ⟨b2, o2 + ix * 3, none⟩)) (w1 := W) rfl rfl (fun d pos aft g => by unfold execOp; go_simp) ⟨_, rfl, rfl, .inr (Below.refl _ _), htr, fun _ ht => ht, fun L _ hJ => Rv.One.keep (by decide) _ (Nat.le_refl _) hJ⟩
              | 7, _ =>
                obtain ⟨e82, x82⟩ := Rv.ev (show a.tmps.getD 82 undef = .pointer (some ⟨b2, o2 + ix * 3, none⟩) from hdep 6 rfl rfl)
                exact Rv.step_op (op := Go.Op.load 92 (Go.Operand.tmp 82)) (v := exI tc ci td di) (w1 := W) rfl rfl (fun d pos aft g => by unfold execOp; go_simp) ⟨_, rfl, rfl, .inr (Below.refl _ _), htr, fun _ ht => ht, fun L _ hJ => Rv.One.keep (by decide) _ (Nat.le_refl _) hJ⟩
              | 8, _ =>
                obtain ⟨e79, x79⟩ := Rv.ev (show a.tmps.getD 79 undef = exI ta ai tb bi from hdep 3 rfl rfl)
                obtain ⟨e83, x83⟩ := Rv.ev (show a.tmps.getD 83 undef = exI tc ci td di from hdep 7 rfl rfl)
                have cf : ∀ x0 x1 W, (callFunc 71 #[x0, x1]).run Tryz.prog W = .ok (.enter 71 #[x0, x1]) W := fun _ _ _ => by kernel_rfl
                refine Rv.step_fn (op := Go.Op.call { callee := Go.Callee.value (Go.Operand.func 71), args := #[Go.Operand.tmp 79, Go.Operand.tmp 83], argTypes := #[92, 92] }) (f := 71) (args := #[exI ta ai tb bi, exI tc ci td di]) (R := fun v W' => v = .tuple #[exI r1 j1 r2 j2, .bool true, .nilIface] ∧ Below W.heap.size W W') rfl rfl (fun d pos aft g => by unfold execOp; go_simp) ((SA.out W).mono ?_) ?_
                · (rintro e W' ⟨rfl, hb⟩; exact ⟨_, rfl, rfl, hb⟩)
                · (rintro v W' ⟨rfl, hb⟩; exact ⟨_, rfl, rfl, .inr hb, (fun W W' ht hb => ht.trans (hb.mono ht.size)) W W' htr hb, fun _ ht => (fun _ _ _ _ => trivial) W W' ht hb, fun L _ hJ => Rv.One.keep (by decide) _ (hb.size) hJ⟩)
              | 9, _ =>
                obtain ⟨e84, x84⟩ := Rv.ev (show a.tmps.getD 84 undef = .tuple #[exI r1 j1 r2 j2, .bool true, .nilIface] from hdep 8 rfl rfl)
                exact Rv.step_op (op := Go.Op.move (Go.Operand.tmp 84)) (v := .tuple #[exI r1 j1 r2 j2, .bool true, .nilIface]) (w1 := W) rfl rfl (fun d pos aft g => by unfold execOp; go_simp) ⟨_, rfl, rfl, .inr (Below.refl _ _), htr, fun _ ht => ht, fun L _ hJ => Rv.One.keep (by decide) _ (Nat.le_refl _) hJ⟩
              | 10, _ =>
                obtain ⟨e75, x75⟩ := Rv.ev (show a.tmps.getD 75 undef = .tuple #[exI r1 j1 r2 j2, .bool true, .nilIface] from hdep 9 rfl rfl)
                exact Rv.step_op (op := Go.Op.extract (Go.Operand.tmp 75) 0) (v := exI r1 j1 r2 j2) (w1 := W) rfl rfl (fun d pos aft g => by unfold execOp; go_simp) ⟨_, rfl, rfl, .inr (Below.refl _ _), htr, fun _ ht => ht, fun L _ hJ => Rv.One.keep (by decide) _ (Nat.le_refl _) hJ⟩
              | 11, _ =>
                obtain ⟨e75, x75⟩ := Rv.ev (show a.tmps.getD 75 undef = .tuple #[exI r1 j1 r2 j2, .bool true, .nilIface] from hdep 9 rfl rfl)
                exact Rv.step_op (op := Go.Op.extract (Go.Operand.tmp 75) 1) (v := .bool true) (w1 := W) rfl rfl (fun d pos aft g => by unfold execOp; go_simp) ⟨_, rfl, rfl, .inr (Below.refl _ _), htr, fun _ ht => ht, fun L _ hJ => Rv.One.keep (by decide) _ (Nat.le_refl _) hJ⟩
              | 12, _ =>
                obtain ⟨e75, x75⟩ := Rv.ev (show a.tmps.getD 75 undef = .tuple #[exI r1 j1 r2 j2, .bool true, .nilIface] from hdep 9 rfl rfl)
                exact Rv.step_op (op := Go.Op.extract (Go.Operand.tmp 75) 2) (v := .nilIface) (w1 := W) rfl rfl (fun d pos aft g => by unfold execOp; go_simp) ⟨_, rfl, rfl, .inr (Below.refl _ _), htr, fun _ ht => ht, fun L _ hJ => Rv.One.keep (by decide) _ (Nat.le_refl _) hJ⟩
              | 13, _ =>
                have hal : Below W.heap.size W (W.alloc (.cells #[.nilIface, .nilIface, .nilIface] 92)) := (Below.refl _ _).alloc (Nat.le_refl _) _
                exact Rv.step_op (op := Go.Op.alloc 92) (ty := 0) (v := .pointer (some ⟨W.heap.size, 0, none⟩)) (w1 := W.alloc (.cells #[.nilIface, .nilIface, .nilIface] 92)) rfl rfl (fun d pos aft g => by unfold execOp; go_simp) ⟨_, rfl, ⟨W.heap.size, rfl, heap_alloc_new W _⟩, .inr hal, htr.trans (hal.mono htr.size), fun _ ht => ht, fun L _ hJ => Rv.One.new htr.size (by simp) hJ⟩
              | 14, _ =>
                obtain ⟨g15, e15', h15⟩ : ∃ g, a.tmps.getD 15 undef = .pointer (some ⟨g, 0, none⟩) ∧ W.heap[g]? = some (.cells #[.nilIface, .nilIface, .nilIface] 92 (0, 0)) := hdep 13 rfl rfl
                obtain ⟨e15, x15⟩ := Rv.ev e15'
                obtain ⟨e85, x85⟩ := Rv.ev (show a.tmps.getD 85 undef = exI r1 j1 r2 j2 from hdep 10 rfl rfl)
                obtain ⟨L, _, hL, hJ2⟩ := hJ
                have hge : X.heap.size ≤ g15 := by
                  obtain ⟨g, eg, hge, _⟩ := hJ2 (hL 13 rfl)
                  have eg2 : Value.pointer (some ⟨g, 0, none⟩) = .pointer (some ⟨g15, 0, none⟩) := eg.symm.trans e15'
                  injection eg2 with eg2
                  injection eg2 with eg2
                  injection eg2 with eg2
                  omega
                obtain ⟨k0, k1, k2⟩ := Rv.cells3 h15
                obtain ⟨m0, m1, m2⟩ := Rv.frozen3 h15
                exact Rv.step_skip (op := Go.Op.store 92 (Go.Operand.tmp 15) (Go.Operand.tmp 85)) (ty := 0) (w1 := (((W.setCell ⟨g15, 0, none⟩ (.iface r1 j1)).setCell ⟨g15, 1, none⟩ (.iface r2 j2)).setCell ⟨g15, 2, none⟩ (tv))) rfl rfl (fun d pos aft g => by unfold execOp; go_simp) ⟨undef, rfl, ⟨g15, e15', Rv.sets3 h15 _ _ _⟩, .inl ⟨rfl, g15, e15', Rv.buts3 g15 W _ _ _⟩, Rv.belows3 htr hge _ _ _, (fun h _ => by cases h), fun L _ hJ => Rv.One.keep (by decide) _ ((Rv.buts3 g15 W _ _ _).1) hJ⟩
              | 15, _ =>
                obtain ⟨e86, x86⟩ := Rv.ev (show a.tmps.getD 86 undef = .bool true from hdep 11 rfl rfl)
                exact Rv.step_op (op := Go.Op.assign (Go.Operand.tmp 86)) (v := .bool true) (w1 := W) rfl rfl (fun d pos aft g => by unfold execOp; go_simp) ⟨_, rfl, rfl, .inr (Below.refl _ _), htr, fun _ ht => ht, fun L _ hJ => Rv.One.keep (by decide) _ (Nat.le_refl _) hJ⟩
              | 16, _ =>
                obtain ⟨e87, x87⟩ := Rv.ev (show a.tmps.getD 87 undef = .nilIface from hdep 12 rfl rfl)
                exact Rv.step_op (op := Go.Op.assign (Go.Operand.tmp 87)) (v := .nilIface) (w1 := W) rfl rfl (fun d pos aft g => by unfold execOp; go_simp) ⟨_, rfl, rfl, .inr (Below.refl _ _), htr, fun _ ht => ht, fun L _ hJ => Rv.One.keep (by decide) _ (Nat.le_refl _) hJ⟩
              | m + 17, h => exact absurd h (by show ¬ m + 17 < 17; omega)
            intro W f hf htr hJ
            have f0 : f 0 = .slice (some ⟨b1, o1, none⟩) p.length c := hf 0 (by show 0 < 17; omega) rfl
            have f1 : f 1 = .int .i64 (ix : Int) := hf 1 (by show 1 < 17; omega) rfl
            have f2 : f 2 = .pointer (some ⟨b1, o1 + ix * 3, none⟩) := hf 2 (by show 2 < 17; omega) rfl
            have f3 : f 3 = exI ta ai tb bi := hf 3 (by show 3 < 17; omega) rfl
            have f4 : f 4 = .slice (some ⟨b2, o2, none⟩) q.length c2 := hf 4 (by show 4 < 17; omega) rfl
            have f5 : f 5 = .int .i64 (ix : Int) := hf 5 (by show 5 < 17; omega) rfl
            have f6 : f 6 = .pointer (some ⟨b2, o2 + ix * 3, none⟩) := hf 6 (by show 6 < 17; omega) rfl
            have f7 : f 7 = exI tc ci td di := hf 7 (by show 7 < 17; omega) rfl
            have f8 : f 8 = .tuple #[exI r1 j1 r2 j2, .bool true, .nilIface] := hf 8 (by show 8 < 17; omega) rfl
            have f9 : f 9 = .tuple #[exI r1 j1 r2 j2, .bool true, .nilIface] := hf 9 (by show 9 < 17; omega) rfl
            have f10 : f 10 = exI r1 j1 r2 j2 := hf 10 (by show 10 < 17; omega) rfl
            have f11 : f 11 = .bool true := hf 11 (by show 11 < 17; omega) rfl
            have f12 : f 12 = .nilIface := hf 12 (by show 12 < 17; omega) rfl
            have HS14 := Lib.hid (show (fun f W => ∃ g, f 13 = .pointer (some ⟨g, 0, none⟩) ∧ W.heap[g]? = some (.cells #[.iface r1 j1, .iface r2 j2, tv] 92 (0, 0))) f W from hf 14 (by show 14 < 17; omega) rfl)
            have f15 : f 15 = .bool true := hf 15 (by show 15 < 17; omega) rfl
            have f16 : f 16 = .nilIface := hf 16 (by show 16 < 17; omega) rfl
            clear hf
            refine (show ∀ (a : Act) (w : World), Code.wp _ _ _ a w → _ from by assumption) _ _ ?_
            refine Rv.fin_swap (L' := [(76, f 0), (77, f 1), (78, f 2), (79, f 3), (80, f 4), (81, f 5), (82, f 6), (83, f 7), (84, f 8), (75, f 9), (85, f 10), (86, f 11), (87, f 12), (15, f 13), (1014, f 14), (16, f 15), (17, f 16)]) rfl ?_
            rw [f0, f1, f2, f3, f4, f5, f6, f7, f8, f9, f10, f11, f12, f15, f16]
            clear f0 f1 f2 f3 f4 f5 f6 f7 f8 f9 f10 f11 f12 f15 f16
            simp only [Rv.fin, List.foldl_cons, List.foldl_nil, Act.put, List.setIfInBounds_toArray, List.set_cons_succ, List.set_cons_zero, List.set_nil]
            obtain ⟨g8, e13, hg8⟩ := HS14.out
            rw [e13]
            clear e13 HS14 hJ
            have HB2 := Lib.hid (HB.out.trans (htr.mono HB.out.size))
            clear htr c0 c1 c2' d0 d1 d2 SA HB
            have HG8 := Lib.hid hg8
            clear hg8
            go_wp2_with (go_at_call 72; (with_reducible refine (CP.out _ HB2.out).mono ?_); rintro e w1 ⟨u, rfl, ho, hb⟩; obtain ⟨g, c1, hu, hgB⟩ : ∃ g c1, u = .slice (some ⟨g, 0, none⟩) p.length c1 ∧ w.heap.size ≤ g := (by
                have hs := HB2.out.size
                rcases ho.2 with ⟨_, h2⟩ | ⟨g, c1, _, h2, h3, _⟩
                · omega
                · exact ⟨g, c1, h2, by omega⟩); subst hu; have HO := Lib.hid ho; have HB3 := Lib.hid (HB2.out.trans (hb.mono HB2.out.size)); have hbx := (hb.block g8 (Rv.lt_of_blk HG8.out)).trans HG8.out; obtain ⟨q0, q1, q2⟩ := Rv.cells3 hbx; obtain ⟨s0, t0⟩ := own_cell (j := ix * 3) HO.out HG.out.1; obtain ⟨s1, t1⟩ := own_cell (j := ix * 3 + 1) HO.out HG.out.2.1; obtain ⟨s2, t2⟩ := own_cell (j := ix * 3 + 2) HO.out HG.out.2.2; clear ho hb hbx CP)
            have HO2 := Lib.hid (own_store3 HO.out (ix * 3) (ix * 3 + 1) (ix * 3 + 2) (.iface r1 j1) (.iface r2 j2) tv)
            rw [HST.out] at HO2
            have HB4 := Lib.hid (((HB3.out.setCell (p := ⟨g, ix * 3, none⟩) hgB (.iface r1 j1)).setCell (p := ⟨g, ix * 3 + 1, none⟩) hgB (.iface r2 j2)).setCell (p := ⟨g, ix * 3 + 2, none⟩) hgB tv)
            go_ret3
            exact ⟨_, _, _, _, rfl, HB4.out, fun _ => ⟨_, .u ix HONE.out HCN.out, by rw [List.length_set]; exact HO2.out.mono (Nat.zero_le _)⟩, fun h => (by cases h)⟩
          · have HNM := Lib.hid (not_mrg1 N2.out N1.out HONE.out hcn)
            rw [if_neg hcn, decide_eq_false hcn] at SA
            unfold Cl.e at SA
            generalize (ctOf (gt p ix).a (gt p ix).x).tid = ta at *
            generalize (ctOf (gt p ix).a (gt p ix).x).inner = ai at *
            generalize (ctOf (gt p ix).b (gt p ix).y).tid = tb at *
            generalize (ctOf (gt p ix).b (gt p ix).y).inner = bi at *
            generalize (ctOf (gt q ix).a (gt q ix).x).tid = tc at *
            generalize (ctOf (gt q ix).a (gt q ix).x).inner = ci at *
            generalize (ctOf (gt q ix).b (gt q ix).y).tid = td at *
            generalize (ctOf (gt q ix).b (gt q ix).y).inner = di at *
            generalize (ctOf (jn (gt p ix) (gt q ix)).a (jn (gt p ix) (gt q ix)).x).tid = r1 at *
            generalize (ctOf (jn (gt p ix) (gt q ix)).a (jn (gt p ix) (gt q ix)).x).inner = j1 at *
            generalize (ctOf (jn (gt p ix) (gt q ix)).b (jn (gt p ix) (gt q ix)).y).tid = r2 at *
            generalize (ctOf (jn (gt p ix) (gt q ix)).b (jn (gt p ix) (gt q ix)).y).inner = j2 at *
            go_upto_region 26 with fail
            obtain ⟨X, rfl⟩ : ∃ X : World, X = wr := ⟨_, rfl⟩
            refine Rv.region_fin (n := 102) (by kernel_rfl) #[76, 77, 78, 79, 80, 81, 82, 83, 84, 75, 85, 86, 87, 15, 1014, 16, 17] #[] (fun i f W => if i = 14 then (fun f W => ∃ g, f 13 = .pointer (some ⟨g, 0, none⟩) ∧ W.heap[g]? = some (.cells #[.nilIface, .nilIface, .nilIface] 92 (0, 0))) f W else if i = 13 then (fun f W => ∃ g, f 13 = .pointer (some ⟨g, 0, none⟩) ∧ W.heap[g]? = some (.cells #[.nilIface, .nilIface, .nilIface] 92 (0, 0))) f W else f i = (#[.slice (some ⟨b1, o1, none⟩) p.length c, .int .i64 (ix : Int), .pointer (some ⟨b1, o1 + ix * 3, none⟩), exI ta ai tb bi, .slice (some ⟨b2, o2, none⟩) q.length c2, .int .i64 (ix : Int), .pointer (some ⟨b2, o2 + ix * 3, none⟩), exI tc ci td di, .tuple #[.agg #[.nilIface, .nilIface, .nilIface], .bool false, .nilIface], .tuple #[.agg #[.nilIface, .nilIface, .nilIface], .bool false, .nilIface], .agg #[.nilIface, .nilIface, .nilIface], .bool false, .nilIface, undef, undef, .bool false, .nilIface] : Array Value).getD i undef) (fun i j => (i == 14 && (j == 13))) (fun i => i == 14) (fun i f W W' => if i = 14 then (fun f W W' => ∃ g, f 13 = .pointer (some ⟨g, 0, none⟩) ∧ Rv.But g W W') f W W' else True) (fun W => Below X.heap.size X W) (fun _ => True) (Rv.One 13 X.heap.size) (Rv.One.loc (by show 13 < 17; omega)) (fun i f f' w hi h hd hg => ?_) (fun i j f w w' hi hj hij hK hdp h hr => ?_) (fun i h g b hg => ?_) rfl (by kernel_rfl) (fun i h g b hg => ?_) ((Below.refl _ _).drew) (trivial) (fun f => Rv.One.start) (fun i h hr f w hf => ?_) (fun i h hr => absurd hr (Rv.allrun (by kernel_rfl) i h)) ?_ ?_
            · by_cases hi1014 : i = 14
              · subst hi1014
                rw [if_pos rfl] at hg ⊢
                obtain ⟨g, q1, q2⟩ := hg
                exact ⟨g, (hd 13 rfl).symm.trans q1, q2⟩
              rw [if_neg hi1014] at hg ⊢
              by_cases hi15 : i = 13
              · subst hi15
                rw [if_pos rfl] at hg ⊢
                obtain ⟨g, q1, q2⟩ := hg
                exact ⟨g, h.symm.trans q1, q2⟩
              rw [if_neg hi15] at hg ⊢
              rw [← h]; exact hg
            · by_cases hj1014 : j = 14
              · subst hj1014
                rw [if_pos rfl] at h ⊢
                rcases hr with ⟨hK1, hr⟩ | hr
                · exfalso
                  exact hij (by simpa using hK1)
                · obtain ⟨g, e, hb⟩ := h
                  exact ⟨g, e, (hr.block _ (Rv.lt_of_blk hb)).trans hb⟩
              rw [if_neg hj1014] at h ⊢
              by_cases hj15 : j = 13
              · subst hj15
                rw [if_pos rfl] at h ⊢
                rcases hr with ⟨hK1, hr⟩ | hr
                · exfalso
                  have e : i = 14 := by simpa using hK1
                  subst e
                  revert hK
                  decide
                · obtain ⟨g, e, hb⟩ := h
                  exact ⟨g, e, (hr.block _ (Rv.lt_of_blk hb)).trans hb⟩
              rw [if_neg hj15] at h ⊢
              exact h
            · match i, h, hg with
              | 0, _, hg => cases hg
              | 1, _, hg => cases hg
              | 2, _, hg => cases hg
              | 3, _, hg => cases hg
              | 4, _, hg => cases hg
              | 5, _, hg => cases hg
              | 6, _, hg => cases hg
              | 7, _, hg => cases hg
              | 8, _, hg => cases hg
              | 9, _, hg => cases hg
              | 10, _, hg => cases hg
              | 11, _, hg => cases hg
              | 12, _, hg => cases hg
              | 13, _, hg => cases hg
              | 14, _, hg => cases hg
              | 15, _, hg => cases hg
              | 16, _, hg => cases hg
              | m + 17, h, _ => exact absurd h (by show ¬ m + 17 < 17; omega)
            · match i, h, hg with
              | 0, _, hg => cases hg
              | 1, _, hg => cases hg
              | 2, _, hg => cases hg
              | 3, _, hg => cases hg
              | 4, _, hg => cases hg
              | 5, _, hg => cases hg
              | 6, _, hg => cases hg
              | 7, _, hg => cases hg
              | 8, _, hg => cases hg
              | 9, _, hg => cases hg
              | 10, _, hg => cases hg
              | 11, _, hg => cases hg
              | 12, _, hg => cases hg
              | 13, _, hg => cases hg
              | 14, _, hg => cases hg
              | 15, _, hg => cases hg
              | 16, _, hg => cases hg
              | m + 17, h, _ => exact absurd h (by show ¬ m + 17 < 17; omega)
            · match i, h, hr, hf with
              | 0, _, hr, _ => exact Bool.noConfusion (show true = false from hr)
              | 1, _, hr, _ => exact Bool.noConfusion (show true = false from hr)
              | 2, _, hr, _ => exact Bool.noConfusion (show true = false from hr)
              | 3, _, hr, _ => exact Bool.noConfusion (show true = false from hr)
              | 4, _, hr, _ => exact Bool.noConfusion (show true = false from hr)
              | 5, _, hr, _ => exact Bool.noConfusion (show true = false from hr)
              | 6, _, hr, _ => exact Bool.noConfusion (show true = false from hr)
              | 7, _, hr, _ => exact Bool.noConfusion (show true = false from hr)
              | 8, _, hr, _ => exact Bool.noConfusion (show true = false from hr)
              | 9, _, hr, _ => exact Bool.noConfusion (show true = false from hr)
              | 10, _, hr, _ => exact Bool.noConfusion (show true = false from hr)
              | 11, _, hr, _ => exact Bool.noConfusion (show true = false from hr)
              | 12, _, hr, _ => exact Bool.noConfusion (show true = false from hr)
              | 13, _, hr, _ => exact Bool.noConfusion (show true = false from hr)
              | 14, _, hr, _ => exact Bool.noConfusion (show true = false from hr)
              | 15, _, hr, _ => exact Bool.noConfusion (show true = false from hr)
              | 16, _, hr, _ => exact Bool.noConfusion (show true = false from hr)
              | m + 17, h, _, _ => exact absurd h (by show ¬ m + 17 < 17; omega)
            · intro i h a W hrun hbase hpre hdep htr hta hJ
              have HBW := HB.out.trans (htr.mono HB.out.size)
              have q0 := (HBW.cell (p := ⟨b1, o1 + ix * 3, none⟩) hb1).trans c0
              have q1 := (HBW.cell (p := ⟨b1, o1 + ix * 3 + 1, none⟩) hb1).trans c1
              have q2 := (HBW.cell (p := ⟨b1, o1 + ix * 3 + 2, none⟩) hb1).trans c2'
              have s0 := (HBW.cell (p := ⟨b2, o2 + ix * 3, none⟩) hb2).trans d0
              have s1 := (HBW.cell (p := ⟨b2, o2 + ix * 3 + 1, none⟩) hb2).trans d1
              have s2 := (HBW.cell (p := ⟨b2, o2 + ix * 3 + 2, none⟩) hb2).trans d2
              match i, h with
              | 0, _ =>
                obtain ⟨e0, x0⟩ := Rv.ev (show a.tmps.getD 0 undef = .slice (some ⟨b1, o1, none⟩) p.length c from hbase 0 rfl)
                exact Rv.step_op (op := Go.Op.move (Go.Operand.tmp 0)) (v := .slice (some ⟨b1, o1, none⟩) p.length c) (w1 := W) rfl rfl (fun d pos aft g => by unfold execOp; go_simp) ⟨_, rfl, rfl, .inr (Below.refl _ _), htr, fun _ ht => ht, fun L _ hJ => Rv.One.keep (by decide) _ (Nat.le_refl _) hJ⟩
              | 1, _ =>
                obtain ⟨e11, x11⟩ := Rv.ev (show a.tmps.getD 11 undef = .int .i64 (ix : Int) from hbase 11 rfl)
                exact Rv.step_op (op := Go.Op.move (Go.Operand.tmp 11)) (v := .int .i64 (ix : Int)) (w1 := W) rfl rfl (fun d pos aft g => by unfold execOp; go_simp) ⟨_, rfl, rfl, .inr (Below.refl _ _), htr, fun _ ht => ht, fun L _ hJ => Rv.One.keep (by decide) _ (Nat.le_refl _) hJ⟩
              | 2, _ =>
                obtain ⟨e76, x76⟩ := Rv.ev (show a.tmps.getD 76 undef = .slice (some ⟨b1, o1, none⟩) p.length c from hdep 0 rfl rfl)
                obtain ⟨e77, x77⟩ := Rv.ev (show a.tmps.getD 77 undef = .int .i64 (ix : Int) from hdep 1 rfl rfl)
                exact Rv.step_op (op := Go.Op.indexAddr 63 (Go.Operand.tmp 76) (Go.Operand.tmp 77)) (v := .pointer (some ⟨b1, o1 + ix * 3, none⟩)) (w1 := W) rfl rfl (fun d pos aft g => by unfold execOp; go_simp) ⟨_, rfl, rfl, .inr (Below.refl _ _), htr, fun _ ht => ht, fun L _ hJ => Rv.One.keep (by decide) _ (Nat.le_refl _) hJ⟩
              | 3, _ =>
                obtain ⟨e78, x78⟩ := Rv.ev (show a.tmps.getD 78 undef = .pointer (some ⟨b1, o1 + ix * 3, none⟩) from hdep 2 rfl rfl)
                exact Rv.step_op (op := Go.Op.load 92 (Go.Operand.tmp 78)) (v := exI ta ai tb bi) (w1 := W) rfl rfl (fun d pos aft g => by unfold execOp; go_simp) ⟨_, rfl, rfl, .inr (Below.refl _ _), htr, fun _ ht => ht, fun L _ hJ => Rv.One.keep (by decide) _ (Nat.le_refl _) hJ⟩
              | 4, _ =>
                obtain ⟨e1, x1⟩ := Rv.ev (show a.tmps.getD 1 undef = .slice (some ⟨b2, o2, none⟩) q.length c2 from hbase 1 rfl)
                exact Rv.step_op (op := Go.Op.move (Go.Operand.tmp 1)) (v := .slice (some ⟨b2, o2, none⟩) q.length c2) (w1 := W) rfl rfl (fun d pos aft g => by unfold execOp; go_simp) ⟨_, rfl, rfl, .inr (Below.refl _ _), htr, fun _ ht => ht, fun L _ hJ => Rv.One.keep (by decide) _ (Nat.le_refl _) hJ⟩
              | 5, _ =>
                obtain ⟨e11, x11⟩ := Rv.ev (show a.tmps.getD 11 undef = .int .i64 (ix : Int) from hbase 11 rfl)
                exact Rv.step_op (op := Go.Op.move (Go.Operand.tmp 11)) (v := .int .i64 (ix : Int)) (w1 := W) rfl rfl (fun d pos aft g => by unfold execOp; go_simp) ⟨_, rfl, rfl, .inr (Below.refl _ _), htr, fun _ ht => ht, fun L _ hJ => Rv.One.keep (by decide) _ (Nat.le_refl _) hJ⟩
              | 6, _ =>
                obtain ⟨e80, x80⟩ := Rv.ev (show a.tmps.getD 80 undef = .slice (some ⟨b2, o2, none⟩) q.length c2 from hdep 4 rfl rfl)
                obtain ⟨e81, x81⟩ := Rv.ev (show a.tmps.getD 81 undef = .int .i64 (ix : Int) from hdep 5 rfl rfl)
                exact Rv.step_op (op := Go.Op.indexAddr 63 (Go.Operand.tmp 80) (Go.Operand.tmp 81)) (v := .pointer (some ⟨b2, o2 + ix * 3, none⟩)) (w1 := W) rfl rfl (fun d pos aft g => by unfold execOp; go_simp) ⟨_, rfl, rfl, .inr (Below.refl _ _), htr, fun _ ht => ht, fun L _ hJ => Rv.One.keep (by decide) _ (Nat.le_refl _) hJ⟩
              | 7, _ =>
                obtain ⟨e82, x82⟩ := Rv.ev (show a.tmps.getD 82 undef = .pointer (some ⟨b2, o2 + ix * 3, none⟩) from hdep 6 rfl rfl)
                exact Rv.step_op (op := Go.Op.load 92 (Go.Operand.tmp 82)) (v := exI tc ci td di) (w1 := W) rfl rfl (fun d pos aft g => by unfold execOp; go_simp) ⟨_, rfl, rfl, .inr (Below.refl _ _), htr, fun _ ht => ht, fun L _ hJ => Rv.One.keep (by decide) _ (Nat.le_refl _) hJ⟩
              | 8, _ =>
                obtain ⟨e79, x79⟩ := Rv.ev (show a.tmps.getD 79 undef = exI ta ai tb bi from hdep 3 rfl rfl)
                obtain ⟨e83, x83⟩ := Rv.ev (show a.tmps.getD 83 undef = exI tc ci td di from hdep 7 rfl rfl)
                have cf : ∀ x0 x1 W, (callFunc 71 #[x0, x1]).run Tryz.prog W = .ok (.enter 71 #[x0, x1]) W := fun _ _ _ => by kernel_rfl
                refine Rv.step_fn (op := Go.Op.call { callee := Go.Callee.value (Go.Operand.func 71), args := #[Go.Operand.tmp 79, Go.Operand.tmp 83], argTypes := #[92, 92] }) (f := 71) (args := #[exI ta ai tb bi, exI tc ci td di]) (R := fun v W' => v = .tuple #[.agg #[.nilIface, .nilIface, .nilIface], .bool false, .nilIface] ∧ Below W.heap.size W W') rfl rfl (fun d pos aft g => by unfold execOp; go_simp) ((SA.out W).mono ?_) ?_
                · (rintro e W' ⟨rfl, hb⟩; exact ⟨_, rfl, rfl, hb⟩)
                · (rintro v W' ⟨rfl, hb⟩; exact ⟨_, rfl, rfl, .inr hb, (fun W W' ht hb => ht.trans (hb.mono ht.size)) W W' htr hb, fun _ ht => (fun _ _ _ _ => trivial) W W' ht hb, fun L _ hJ => Rv.One.keep (by decide) _ (hb.size) hJ⟩)
              | 9, _ =>
                obtain ⟨e84, x84⟩ := Rv.ev (show a.tmps.getD 84 undef = .tuple #[.agg #[.nilIface, .nilIface, .nilIface], .bool false, .nilIface] from hdep 8 rfl rfl)
                exact Rv.step_op (op := Go.Op.move (Go.Operand.tmp 84)) (v := .tuple #[.agg #[.nilIface, .nilIface, .nilIface], .bool false, .nilIface]) (w1 := W) rfl rfl (fun d pos aft g => by unfold execOp; go_simp) ⟨_, rfl, rfl, .inr (Below.refl _ _), htr, fun _ ht => ht, fun L _ hJ => Rv.One.keep (by decide) _ (Nat.le_refl _) hJ⟩
              | 10, _ =>
                obtain ⟨e75, x75⟩ := Rv.ev (show a.tmps.getD 75 undef = .tuple #[.agg #[.nilIface, .nilIface, .nilIface], .bool false, .nilIface] from hdep 9 rfl rfl)
                exact Rv.step_op (op := Go.Op.extract (Go.Operand.tmp 75) 0) (v := .agg #[.nilIface, .nilIface, .nilIface]) (w1 := W) rfl rfl (fun d pos aft g => by unfold execOp; go_simp) ⟨_, rfl, rfl, .inr (Below.refl _ _), htr, fun _ ht => ht, fun L _ hJ => Rv.One.keep (by decide) _ (Nat.le_refl _) hJ⟩
              | 11, _ =>
                obtain ⟨e75, x75⟩ := Rv.ev (show a.tmps.getD 75 undef = .tuple #[.agg #[.nilIface, .nilIface, .nilIface], .bool false, .nilIface] from hdep 9 rfl rfl)
                exact Rv.step_op (op := Go.Op.extract (Go.Operand.tmp 75) 1) (v := .bool false) (w1 := W) rfl rfl (fun d pos aft g => by unfold execOp; go_simp) ⟨_, rfl, rfl, .inr (Below.refl _ _), htr, fun _ ht => ht, fun L _ hJ => Rv.One.keep (by decide) _ (Nat.le_refl _) hJ⟩
              | 12, _ =>
                obtain ⟨e75, x75⟩ := Rv.ev (show a.tmps.getD 75 undef = .tuple #[.agg #[.nilIface, .nilIface, .nilIface], .bool false, .nilIface] from hdep 9 rfl rfl)
                exact Rv.step_op (op := Go.Op.extract (Go.Operand.tmp 75) 2) (v := .nilIface) (w1 := W) rfl rfl (fun d pos aft g => by unfold execOp; go_simp) ⟨_, rfl, rfl, .inr (Below.refl _ _), htr, fun _ ht => ht, fun L _ hJ => Rv.One.keep (by decide) _ (Nat.le_refl _) hJ⟩
              | 13, _ =>
                have hal : Below W.heap.size W (W.alloc (.cells #[.nilIface, .nilIface, .nilIface] 92)) := (Below.refl _ _).alloc (Nat.le_refl _) _
                exact Rv.step_op (op := Go.Op.alloc 92) (ty := 0) (v := .pointer (some ⟨W.heap.size, 0, none⟩)) (w1 := W.alloc (.cells #[.nilIface, .nilIface, .nilIface] 92)) rfl rfl (fun d pos aft g => by unfold execOp; go_simp) ⟨_, rfl, ⟨W.heap.size, rfl, heap_alloc_new W _⟩, .inr hal, htr.trans (hal.mono htr.size), fun _ ht => ht, fun L _ hJ => Rv.One.new htr.size (by simp) hJ⟩
              | 14, _ =>
                obtain ⟨g15, e15', h15⟩ : ∃ g, a.tmps.getD 15 undef = .pointer (some ⟨g, 0, none⟩) ∧ W.heap[g]? = some (.cells #[.nilIface, .nilIface, .nilIface] 92 (0, 0)) := hdep 13 rfl rfl
                obtain ⟨e15, x15⟩ := Rv.ev e15'
                obtain ⟨e85, x85⟩ := Rv.ev (show a.tmps.getD 85 undef = .agg #[.nilIface, .nilIface, .nilIface] from hdep 10 rfl rfl)
                obtain ⟨L, _, hL, hJ2⟩ := hJ
                have hge : X.heap.size ≤ g15 := by
                  obtain ⟨g, eg, hge, _⟩ := hJ2 (hL 13 rfl)
                  have eg2 : Value.pointer (some ⟨g, 0, none⟩) = .pointer (some ⟨g15, 0, none⟩) := eg.symm.trans e15'
                  injection eg2 with eg2
                  injection eg2 with eg2
                  injection eg2 with eg2
                  omega
                obtain ⟨k0, k1, k2⟩ := Rv.cells3 h15
                obtain ⟨m0, m1, m2⟩ := Rv.frozen3 h15
                exact Rv.step_skip (op := Go.Op.store 92 (Go.Operand.tmp 15) (Go.Operand.tmp 85)) (ty := 0) (w1 := (((W.setCell ⟨g15, 0, none⟩ (.nilIface)).setCell ⟨g15, 1, none⟩ (.nilIface)).setCell ⟨g15, 2, none⟩ (.nilIface))) rfl rfl (fun d pos aft g => by unfold execOp; go_simp) ⟨undef, rfl, ⟨g15, e15', Rv.sets3 h15 _ _ _⟩, .inl ⟨rfl, g15, e15', Rv.buts3 g15 W _ _ _⟩, Rv.belows3 htr hge _ _ _, (fun h _ => by cases h), fun L _ hJ => Rv.One.keep (by decide) _ ((Rv.buts3 g15 W _ _ _).1) hJ⟩
              | 15, _ =>
                obtain ⟨e86, x86⟩ := Rv.ev (show a.tmps.getD 86 undef = .bool false from hdep 11 rfl rfl)
                exact Rv.step_op (op := Go.Op.assign (Go.Operand.tmp 86)) (v := .bool false) (w1 := W) rfl rfl (fun d pos aft g => by unfold execOp; go_simp) ⟨_, rfl, rfl, .inr (Below.refl _ _), htr, fun _ ht => ht, fun L _ hJ => Rv.One.keep (by decide) _ (Nat.le_refl _) hJ⟩
              | 16, _ =>
                obtain ⟨e87, x87⟩ := Rv.ev (show a.tmps.getD 87 undef = .nilIface from hdep 12 rfl rfl)
                exact Rv.step_op (op := Go.Op.assign (Go.Operand.tmp 87)) (v := .nilIface) (w1 := W) rfl rfl (fun d pos aft g => by unfold execOp; go_simp) ⟨_, rfl, rfl, .inr (Below.refl _ _), htr, fun _ ht => ht, fun L _ hJ => Rv.One.keep (by decide) _ (Nat.le_refl _) hJ⟩
              | m + 17, h => exact absurd h (by show ¬ m + 17 < 17; omega)
            intro W f hf htr hJ
            have f0 : f 0 = .slice (some ⟨b1, o1, none⟩) p.length c := hf 0 (by show 0 < 17; omega) rfl
            have f1 : f 1 = .int .i64 (ix : Int) := hf 1 (by show 1 < 17; omega) rfl
            have f2 : f 2 = .pointer (some ⟨b1, o1 + ix * 3, none⟩) := hf 2 (by show 2 < 17; omega) rfl
            have f3 : f 3 = exI ta ai tb bi := hf 3 (by show 3 < 17; omega) rfl
            have f4 : f 4 = .slice (some ⟨b2, o2, none⟩) q.length c2 := hf 4 (by show 4 < 17; omega) rfl
            have f5 : f 5 = .int .i64 (ix : Int) := hf 5 (by show 5 < 17; omega) rfl
            have f6 : f 6 = .pointer (some ⟨b2, o2 + ix * 3, none⟩) := hf 6 (by show 6 < 17; omega) rfl
            have f7 : f 7 = exI tc ci td di := hf 7 (by show 7 < 17; omega) rfl
            have f8 : f 8 = .tuple #[.agg #[.nilIface, .nilIface, .nilIface], .bool false, .nilIface] := hf 8 (by show 8 < 17; omega) rfl
            have f9 : f 9 = .tuple #[.agg #[.nilIface, .nilIface, .nilIface], .bool false, .nilIface] := hf 9 (by show 9 < 17; omega) rfl
            have f10 : f 10 = .agg #[.nilIface, .nilIface, .nilIface] := hf 10 (by show 10 < 17; omega) rfl
            have f11 : f 11 = .bool false := hf 11 (by show 11 < 17; omega) rfl
            have f12 : f 12 = .nilIface := hf 12 (by show 12 < 17; omega) rfl
            have HS14 := Lib.hid (show (fun f W => ∃ g, f 13 = .pointer (some ⟨g, 0, none⟩) ∧ W.heap[g]? = some (.cells #[.nilIface, .nilIface, .nilIface] 92 (0, 0))) f W from hf 14 (by show 14 < 17; omega) rfl)
            have f15 : f 15 = .bool false := hf 15 (by show 15 < 17; omega) rfl
            have f16 : f 16 = .nilIface := hf 16 (by show 16 < 17; omega) rfl
            clear hf
            refine (show ∀ (a : Act) (w : World), Code.wp _ _ _ a w → _ from by assumption) _ _ ?_
            refine Rv.fin_swap (L' := [(76, f 0), (77, f 1), (78, f 2), (79, f 3), (80, f 4), (81, f 5), (82, f 6), (83, f 7), (84, f 8), (75, f 9), (85, f 10), (86, f 11), (87, f 12), (15, f 13), (1014, f 14), (16, f 15), (17, f 16)]) rfl ?_
            rw [f0, f1, f2, f3, f4, f5, f6, f7, f8, f9, f10, f11, f12, f15, f16]
            clear f0 f1 f2 f3 f4 f5 f6 f7 f8 f9 f10 f11 f12 f15 f16
            simp only [Rv.fin, List.foldl_cons, List.foldl_nil, Act.put, List.setIfInBounds_toArray, List.set_cons_succ, List.set_cons_zero, List.set_nil]
            obtain ⟨g8, e13, hg8⟩ := HS14.out
            rw [e13]
            clear e13 HS14 hJ
            have HB2 := Lib.hid (HB.out.trans (htr.mono HB.out.size))
            clear htr c0 c1 c2' d0 d1 d2 SA HB
            clear hg8
            go_wp2
            go_ret3
            exact ⟨_, _, _, _, rfl, HB2.out, fun h => (by cases h), fun _ => HNM.out⟩
end Go.Proofs.YtfnogpelaoofbaaGreatDoor.Rg
