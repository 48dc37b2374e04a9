/- The law FnGEEnds for whatever points. Conditions: those written at each lemma. -/
import Derived.Test.YtfelbaibbanllaaGej
set_option linter.unusedVariables false
set_option linter.unusedSimpArgs false
set_option maxRecDepth 100000
set_option maxHeartbeats 8000000
namespace Go.Proofs.Ytfelbaibbanllaa.Ge
open Go.RowKit Go.Proofs.Ytfelbaibbanllaa.B
attribute [local go_sem] run_store_float

theorem feq_self {x : Nat} {n : Int} (h : F.FI x n) : feq x x = true := by
  unfold feq
  rw [F.fmt, h.eq h]
  simp
theorem peq_self {k : Int} {p : Nat × Nat} (h : Whole k p) : peq p p = true := by
  obtain ⟨m, n, h1, h2, _⟩ := h
  unfold peq
  rw [feq_self h1, feq_self h2]
  rfl
theorem cons_of {α : Type} {l : List α} (h : 0 < l.length) : ∃ p l', l = p :: l' := by
  match l, h with
  | p :: l', _ => exact ⟨p, l', rfl⟩
abbrev one : Nat := 4607182418800017408
def sq : List (Nat × Nat) := [(0, 0), (one, 0), (one, one), (0, 0)]
theorem peq0 : peq (0, 0) (0, 0) = true := by decide +kernel
theorem geStart_m (A : Option Addr) (c m : Nat) (l : List (Nat × Nat)) (w : World) (hr : Rd w 2 (.slice A (m + 1) c) (m + 1) (pc l)) (hlm : l.length = m + 1) (hl : m + 1 ≤ 100000) :
    Calls Try.prog 14 #[.slice A (m + 1) c] w fun e w' => e = .returned (ptV (l[0]'(by omega))) ∧ Below w.heap.size w w' := by
  match l, hlm, hr with
  | p :: l, hlm, hr =>
    rw [← hlm] at hr hl ⊢
    exact geStart_any A c p l w hr hl
theorem geClosed_m (A : Option Addr) (c m : Nat) (l : List (Nat × Nat)) (w : World) (hr : Rd w 2 (.slice A (m + 1) c) (m + 1) (pc l)) (hlm : l.length = m + 1) (hl : m + 1 ≤ 100000) :
    Calls Try.prog 16 #[.slice A (m + 1) c] w fun e w' => e = .returned (.bool (peq (l[0]'(by omega)) (l[m]'(by omega)))) ∧ Below w.heap.size w w' := by
  have K := fun W A2 c2 h => closedOf_any A2 c2 m l W h hlm
  generalize (peq (l[0]'(by omega)) (l[m]'(by omega))) = B at *
  have h := geClosed_gen A c l B w (by rw [hlm]; exact hr) (by omega) (fun W A2 c2 h => by
    rw [hlm] at h ⊢
    exact K W A2 c2 h)
  rwa [hlm] at h
theorem geRing_m (A : Option Addr) (c m : Nat) (l : List (Nat × Nat)) (w : World) (hr : Rd w 2 (.slice A (m + 1) c) (m + 1) (pc l)) (hlm : l.length = m + 1) (hl : m + 1 ≤ 100000) :
    Calls Try.prog 17 #[.slice A (m + 1) c] w fun e w' => e = .returned (.bool (decide (4 ≤ m + 1) && peq (l[0]'(by omega)) (l[m]'(by omega)))) ∧ Below w.heap.size w w' := by
  have K := fun W A2 c2 h => linRing_any A2 c2 m l W h hlm
  generalize (decide (4 ≤ m + 1) && peq (l[0]'(by omega)) (l[m]'(by omega))) = B at *
  have h := geRing_gen A c l B w (by rw [hlm]; exact hr) (by omega) (fun W A2 c2 h => by
    rw [hlm] at h ⊢
    exact K W A2 c2 h)
  rwa [hlm] at h
theorem geRing_sq (A : Option Addr) (c : Nat) (w : World) (hr : Rd w 2 (.slice A 4 c) 4 (pc sq)) : Calls Try.prog 17 #[.slice A 4 c] w fun e w' => e = .returned (.bool true) ∧ Below w.heap.size w w' := by
  refine (geRing_m A c 3 sq w hr rfl (by decide)).mono ?_
  rintro e w' ⟨rfl, hb⟩
  refine ⟨?_, hb⟩
  rw [show sq[0]'(by decide) = (0, 0) from rfl, show sq[3]'(by decide) = (0, 0) from rfl, peq0]
  rfl

theorem law4_any (A : Option Addr) (c : Nat) (l : List (Nat × Nat)) (f : Bool) (w : World) (hr : Rd w 2 (.slice A l.length c) l.length (pc l)) (h64 : W64 l) :
    Calls Try.prog 4 #[.slice A l.length c, .bool f] w fun e w' => e = .returned (.bool true) ∧ Below w.heap.size w w' := by
  have hmx := hr.le
  by_cases hbig : l.length ≤ 2147483647
  · have SM := Lib.hid (small_any A c l 2 w hr h64 (by omega))
    have HR := Lib.hid hr
    clear hr h64
    go_enter Try.func4, Try.ntmps4
    go_wp2_with fail
    refine SM.out.mono ?_
    rintro e w1 ⟨ok, rfl, hok, hb1⟩
    have HB1 := Lib.hid hb1
    clear hb1
    rcases ok with _ | _
    · clear hok
      go_wp2
      go_ret
      exact ⟨rfl, HB1.out⟩
    · obtain ⟨h2, h12, hw⟩ := hok rfl
      have HW := Lib.hid hw
      clear hok hw hbig hmx
      obtain ⟨m, hm⟩ : ∃ m, l.length = m + 1 := ⟨l.length - 1, by omega⟩
      have HRX1 : Hid (Rd w1 2 (.slice A (m + 1) c) (m + 1) (pc l)) := Lib.hid (by have h := HR.out.below HB1.out; rwa [hm] at h)
      rw [hm]
      cases f
      · have hcast : ((m + 1 : Nat) : Int) = (m : Int) + 1 := by omega
        go_upto_region 8 with fail
        obtain ⟨wX, hwX⟩ : ∃ wX, wX = w1 := ⟨_, rfl⟩
        obtain ⟨A2, hA2⟩ : ∃ A2, A2 = A := ⟨_, rfl⟩
        obtain ⟨c2, hc2⟩ : ∃ c2, c2 = c := ⟨_, rfl⟩
        obtain ⟨L, hL⟩ : ∃ L, L = l := ⟨_, rfl⟩
        subst hwX; subst hA2; subst hc2; subst hL
        have HRX := HRX1
        have HWX := HW
        have HBX := HB1
        have hLm := hm
        have hm13 : m ≤ 13 := by omega
        have hm1 : 1 ≤ m := by omega
        clear HRX1 HW HB1 hm h2 h12 hcast HR SM
        obtain ⟨b, o, rfl, hb, hc⟩ := rd_at HRX.out hLm (by omega)
        have C0 := Lib.hid (hc 0 (by omega))
        have CM := Lib.hid (hc m (by omega))
        rw [Nat.zero_mul, Nat.add_zero] at C0
        have GS := Lib.hid (fun W (hW : Below wX.heap.size wX W) => geStart_m _ c2 m L W (HRX.out.below hW) hLm (by omega))
        have GE := Lib.hid (fun W (hW : Below wX.heap.size wX W) => geEnd_any _ c2 m L W (HRX.out.below hW) hLm (by omega))
        have GC := Lib.hid (fun W (hW : Below wX.heap.size wX W) => geClosed_m _ c2 m L W (HRX.out.below hW) hLm (by omega))
        have GR := Lib.hid (fun W (hW : Below wX.heap.size wX W) => geRing_m _ c2 m L W (HRX.out.below hW) hLm (by omega))
        have SP := Lib.hid (fun W (hW : Below wX.heap.size wX W) => spec_any _ c2 m L W (HRX.out.below hW) hLm)
        have NP := Lib.hid (fun W => eql28s _ _ _ (peq_self (HWX.out _ (List.getElem_mem (show 0 < L.length by omega)))) W)
        have NQ := Lib.hid (fun W => eql28s _ _ _ (peq_self (HWX.out _ (List.getElem_mem (show m < L.length by omega)))) W)
        clear hc
        generalize L[0]'(by omega) = p at *
        generalize L[m]'(by omega) = q at *
        have NB := Lib.hid (fun W => eql28s p q _ rfl W)
        generalize (decide (4 ≤ (m + 1)) && peq p q) = R at *
        generalize peq p q = B at *
        obtain ⟨x, y⟩ := p
        obtain ⟨x2, y2⟩ := q
        clear HWX hLm
        refine Rv.region_goods (n := 62) (by kernel_rfl) #[17, 18, 19, 20, 21, 22, 23, 24, 25, 26, 27, 28, 29, 30, 31, 32, 33, 34, 35, 36, 37, 38, 39, 40, 41, 42, 43, 44, 45, 46, 47, 48, 49, 50, 51, 52, 53, 54, 55, 56, 57, 58, 59, 60, 61, 4] #[none, none, none, none, none, none, some true, none, none, none, none, none, none, none, none, none, some true, none, none, none, none, none, none, none, none, none, none, none, none, none, some true, none, none, none, none, none, none, some true] (fun i v W => if i = 42 then (fun v W => ∃ g, v = .slice (some ⟨g, 0, none⟩) 4 4 ∧ Rd W 2 (.slice (some ⟨g, 0, none⟩) 4 4) 4 (pc sq)) v W else v = (#[.slice (some ⟨b, o, none⟩) (m + 1) c2, ptV (x, y), .slice (some ⟨b, o, none⟩) (m + 1) c2, .pointer (some ⟨b, o, none⟩), ptV (x, y), .bool true, .bool true, .slice (some ⟨b, o, none⟩) (m + 1) c2, ptV (x2, y2), .slice (some ⟨b, o, none⟩) (m + 1) c2, .int .i64 ((m : Int) + 1), .int .i64 (m : Int), .pointer (some ⟨b, o + m * 2, none⟩), ptV (x2, y2), .bool true, .bool true, .bool true, .slice (some ⟨b, o, none⟩) (m + 1) c2, .bool B, .slice (some ⟨b, o, none⟩) (m + 1) c2, .pointer (some ⟨b, o, none⟩), ptV (x, y), .slice (some ⟨b, o, none⟩) (m + 1) c2, .int .i64 ((m : Int) + 1), .int .i64 (m : Int), .pointer (some ⟨b, o + m * 2, none⟩), ptV (x2, y2), .bool B, .bool true, .bool true, .bool true, .slice (some ⟨b, o, none⟩) (m + 1) c2, .bool R, .slice (some ⟨b, o, none⟩) (m + 1) c2, .bool R, .bool true, .bool true, .bool true, .agg #[.float .f64 0, .float .f64 0], .agg #[.float .f64 one, .float .f64 0], .agg #[.float .f64 one, .float .f64 one], .agg #[.float .f64 0, .float .f64 0], undef, .bool true, .bool true, .bool true] : Array Value).getD i undef) (fun i v w w' h hb => ?_) (fun i h g b hg => ?_) rfl (by kernel_rfl) (by kernel_rfl) (fun i h hr w => ?_) ?_ ?_
        · by_cases hi59 : i = 42
          · subst hi59
            rw [if_pos rfl] at h ⊢
            exact (fun v w w' h hb => h.imp fun g h => ⟨h.1, h.2.below hb⟩) v w w' h hb
          rw [if_neg hi59] at h ⊢
          exact h
        · match i, h, hg with
          | 0, _, hg => cases hg
          | 1, _, hg => cases hg
          | 2, _, hg => cases hg
          | 3, _, hg => cases hg
          | 4, _, hg => cases hg
          | 5, _, hg => cases hg
          | 6, _, hg => cases hg
          | 7, _, hg => (cases hg; exact fun v w e => e)
          | 8, _, hg => (cases hg; exact fun v w e => e)
          | 9, _, hg => (cases hg; exact fun v w e => e)
          | 10, _, hg => (cases hg; exact fun v w e => e)
          | 11, _, hg => (cases hg; exact fun v w e => e)
          | 12, _, hg => (cases hg; exact fun v w e => e)
          | 13, _, hg => (cases hg; exact fun v w e => e)
          | 14, _, hg => (cases hg; exact fun v w e => e)
          | 15, _, hg => cases hg
          | 16, _, hg => cases hg
          | 17, _, hg => (cases hg; exact fun v w e => e)
          | 18, _, hg => (cases hg; exact fun v w e => e)
          | 19, _, hg => (cases hg; exact fun v w e => e)
          | 20, _, hg => (cases hg; exact fun v w e => e)
          | 21, _, hg => (cases hg; exact fun v w e => e)
          | 22, _, hg => (cases hg; exact fun v w e => e)
          | 23, _, hg => (cases hg; exact fun v w e => e)
          | 24, _, hg => (cases hg; exact fun v w e => e)
          | 25, _, hg => (cases hg; exact fun v w e => e)
          | 26, _, hg => (cases hg; exact fun v w e => e)
          | 27, _, hg => (cases hg; exact fun v w e => e)
          | 28, _, hg => (cases hg; exact fun v w e => e)
          | 29, _, hg => cases hg
          | 30, _, hg => cases hg
          | 31, _, hg => (cases hg; exact fun v w e => e)
          | 32, _, hg => (cases hg; exact fun v w e => e)
          | 33, _, hg => (cases hg; exact fun v w e => e)
          | 34, _, hg => (cases hg; exact fun v w e => e)
          | 35, _, hg => (cases hg; exact fun v w e => e)
          | 36, _, hg => cases hg
          | 37, _, hg => cases hg
          | 38, _, hg => (cases hg; exact fun v w e => e)
          | 39, _, hg => (cases hg; exact fun v w e => e)
          | 40, _, hg => (cases hg; exact fun v w e => e)
          | 41, _, hg => (cases hg; exact fun v w e => e)
          | 42, _, hg => (cases hg; exact fun v w e => e)
          | 43, _, hg => (cases hg; exact fun v w e => e)
          | 44, _, hg => cases hg
          | 45, _, hg => cases hg
          | m + 46, h, _ => exact absurd h (by show ¬ m + 46 < 46; omega)
        · match i, h, hr with
          | 0, _, hr => exact Bool.noConfusion (show true = false from hr)
          | 1, _, hr => exact Bool.noConfusion (show true = false from hr)
          | 2, _, hr => exact Bool.noConfusion (show true = false from hr)
          | 3, _, hr => exact Bool.noConfusion (show true = false from hr)
          | 4, _, hr => exact Bool.noConfusion (show true = false from hr)
          | 5, _, hr => exact Bool.noConfusion (show true = false from hr)
          | 6, _, hr => exact Bool.noConfusion (show true = false from hr)
          | 7, _, hr => exact Bool.noConfusion (show true = false from hr)
          | 8, _, hr => exact Bool.noConfusion (show true = false from hr)
          | 9, _, hr => exact Bool.noConfusion (show true = false from hr)
          | 10, _, hr => exact Bool.noConfusion (show true = false from hr)
          | 11, _, hr => exact Bool.noConfusion (show true = false from hr)
          | 12, _, hr => exact Bool.noConfusion (show true = false from hr)
          | 13, _, hr => exact Bool.noConfusion (show true = false from hr)
          | 14, _, hr => exact Bool.noConfusion (show true = false from hr)
          | 15, _, hr => exact Bool.noConfusion (show true = false from hr)
          | 16, _, hr => exact Bool.noConfusion (show true = false from hr)
          | 17, _, hr => exact Bool.noConfusion (show true = false from hr)
          | 18, _, hr => exact Bool.noConfusion (show true = false from hr)
          | 19, _, hr => exact Bool.noConfusion (show true = false from hr)
          | 20, _, hr => exact Bool.noConfusion (show true = false from hr)
          | 21, _, hr => exact Bool.noConfusion (show true = false from hr)
          | 22, _, hr => exact Bool.noConfusion (show true = false from hr)
          | 23, _, hr => exact Bool.noConfusion (show true = false from hr)
          | 24, _, hr => exact Bool.noConfusion (show true = false from hr)
          | 25, _, hr => exact Bool.noConfusion (show true = false from hr)
          | 26, _, hr => exact Bool.noConfusion (show true = false from hr)
          | 27, _, hr => exact Bool.noConfusion (show true = false from hr)
          | 28, _, hr => exact Bool.noConfusion (show true = false from hr)
          | 29, _, hr => exact Bool.noConfusion (show true = false from hr)
          | 30, _, hr => exact Bool.noConfusion (show true = false from hr)
          | 31, _, hr => exact Bool.noConfusion (show true = false from hr)
          | 32, _, hr => exact Bool.noConfusion (show true = false from hr)
          | 33, _, hr => exact Bool.noConfusion (show true = false from hr)
          | 34, _, hr => exact Bool.noConfusion (show true = false from hr)
          | 35, _, hr => exact Bool.noConfusion (show true = false from hr)
          | 36, _, hr => exact Bool.noConfusion (show true = false from hr)
          | 37, _, hr => exact Bool.noConfusion (show true = false from hr)
          | 38, _, hr => exact Bool.noConfusion (show true = false from hr)
          | 39, _, hr => exact Bool.noConfusion (show true = false from hr)
          | 40, _, hr => exact Bool.noConfusion (show true = false from hr)
          | 41, _, hr => exact Bool.noConfusion (show true = false from hr)
          | 42, _, hr => exact Bool.noConfusion (show true = false from hr)
          | 43, _, hr => exact Bool.noConfusion (show true = false from hr)
          | 44, _, hr => exact Bool.noConfusion (show true = false from hr)
          | 45, _, hr => exact Bool.noConfusion (show true = false from hr)
          | m + 46, h, _ => exact absurd h (by show ¬ m + 46 < 46; omega)
        · intro i h a W hrun hbase hpre hdep htr
          obtain ⟨k0, k1⟩ := C0.out W htr
          obtain ⟨k2, k3⟩ := CM.out W htr
          have hq0 : ¬ ((m : Int) + 1 ≤ 0) := by omega
          have hq1 : ¬ ((m : Int) < 0) := by omega
          match i, h with
          | 0, _ =>
            obtain ⟨e0, x0⟩ := Rv.ev (show a.tmps.getD 0 undef = .slice (some ⟨b, o, none⟩) (m + 1) c2 from hbase 0 rfl)
            exact Rv.step_op (op := Go.Op.move (Go.Operand.tmp 0)) (v := .slice (some ⟨b, o, none⟩) (m + 1) c2) (w1 := W) rfl rfl (fun d pos aft g => by unfold execOp; go_simp) ⟨_, rfl, rfl, Below.refl _ _⟩
          | 1, _ =>
            obtain ⟨e17, x17⟩ := Rv.ev (show a.tmps.getD 17 undef = .slice (some ⟨b, o, none⟩) (m + 1) c2 from hdep 0 rfl)
            have cf : ∀ x0 W, (callFunc 14 #[x0]).run Try.prog W = .ok (.enter 14 #[x0]) W := fun _ _ => by kernel_rfl
            refine Rv.step_fn (op := Go.Op.call { callee := Go.Callee.value (Go.Operand.func 14), args := #[Go.Operand.tmp 17], argTypes := #[22] }) (f := 14) (args := #[.slice (some ⟨b, o, none⟩) (m + 1) c2]) (R := fun v W' => v = ptV (x, y) ∧ Below W.heap.size W W') rfl rfl (fun d pos aft g => by unfold execOp; go_simp) ((GS.out W htr).mono ?_) ?_
            · (rintro e W' ⟨rfl, hb⟩; exact ⟨_, rfl, rfl, hb⟩)
            · (rintro v W' ⟨rfl, hb⟩; exact ⟨_, rfl, rfl, hb⟩)
          | 2, _ =>
            obtain ⟨e0, x0⟩ := Rv.ev (show a.tmps.getD 0 undef = .slice (some ⟨b, o, none⟩) (m + 1) c2 from hbase 0 rfl)
            exact Rv.step_op (op := Go.Op.move (Go.Operand.tmp 0)) (v := .slice (some ⟨b, o, none⟩) (m + 1) c2) (w1 := W) rfl rfl (fun d pos aft g => by unfold execOp; go_simp) ⟨_, rfl, rfl, Below.refl _ _⟩
          | 3, _ =>
            obtain ⟨e19, x19⟩ := Rv.ev (show a.tmps.getD 19 undef = .slice (some ⟨b, o, none⟩) (m + 1) c2 from hdep 2 rfl)
            exact Rv.step_op (op := Go.Op.indexAddr 22 (Go.Operand.tmp 19) (Go.Operand.const (Go.Value.int Go.IntKind.i64 0))) (v := .pointer (some ⟨b, o, none⟩)) (w1 := W) rfl rfl (fun d pos aft g => by unfold execOp; go_simp) ⟨_, rfl, rfl, Below.refl _ _⟩
          | 4, _ =>
            obtain ⟨e20, x20⟩ := Rv.ev (show a.tmps.getD 20 undef = .pointer (some ⟨b, o, none⟩) from hdep 3 rfl)
            exact Rv.step_op (op := Go.Op.load 28 (Go.Operand.tmp 20)) (v := ptV (x, y)) (w1 := W) rfl rfl (fun d pos aft g => by unfold execOp; go_simp) ⟨_, rfl, rfl, Below.refl _ _⟩
          | 5, _ =>
            obtain ⟨e18, x18⟩ := Rv.ev (show a.tmps.getD 18 undef = ptV (x, y) from hdep 1 rfl)
            obtain ⟨e21, x21⟩ := Rv.ev (show a.tmps.getD 21 undef = ptV (x, y) from hdep 4 rfl)
            have nq := NP.out
            exact Rv.step_op (op := Go.Op.binOp Go.BinOp.eql 28 (Go.Operand.tmp 18) (Go.Operand.tmp 21) 28) (v := .bool true) (w1 := W) rfl rfl (fun d pos aft g => by unfold execOp; go_simp) ⟨_, rfl, rfl, Below.refl _ _⟩
          | 6, _ =>
            obtain ⟨e22, x22⟩ := Rv.ev (show a.tmps.getD 22 undef = .bool true from hdep 5 rfl)
            exact Rv.step_op (op := Go.Op.move (Go.Operand.tmp 22)) (v := .bool true) (w1 := W) rfl rfl (fun d pos aft g => by unfold execOp; go_simp) ⟨_, rfl, rfl, Below.refl _ _⟩
          | 7, _ =>
            obtain ⟨e0, x0⟩ := Rv.ev (show a.tmps.getD 0 undef = .slice (some ⟨b, o, none⟩) (m + 1) c2 from hbase 0 rfl)
            exact Rv.step_op (op := Go.Op.move (Go.Operand.tmp 0)) (v := .slice (some ⟨b, o, none⟩) (m + 1) c2) (w1 := W) rfl rfl (fun d pos aft g => by unfold execOp; go_simp) ⟨_, rfl, rfl, Below.refl _ _⟩
          | 8, _ =>
            obtain ⟨e24, x24⟩ := Rv.ev (show a.tmps.getD 24 undef = .slice (some ⟨b, o, none⟩) (m + 1) c2 from hdep 7 rfl)
            have cf : ∀ x0 W, (callFunc 15 #[x0]).run Try.prog W = .ok (.enter 15 #[x0]) W := fun _ _ => by kernel_rfl
            refine Rv.step_fn (op := Go.Op.call { callee := Go.Callee.value (Go.Operand.func 15), args := #[Go.Operand.tmp 24], argTypes := #[22] }) (f := 15) (args := #[.slice (some ⟨b, o, none⟩) (m + 1) c2]) (R := fun v W' => v = ptV (x2, y2) ∧ Below W.heap.size W W') rfl rfl (fun d pos aft g => by unfold execOp; go_simp) ((GE.out W htr).mono ?_) ?_
            · (rintro e W' ⟨rfl, hb⟩; exact ⟨_, rfl, rfl, hb⟩)
            · (rintro v W' ⟨rfl, hb⟩; exact ⟨_, rfl, rfl, hb⟩)
          | 9, _ =>
            obtain ⟨e0, x0⟩ := Rv.ev (show a.tmps.getD 0 undef = .slice (some ⟨b, o, none⟩) (m + 1) c2 from hbase 0 rfl)
            exact Rv.step_op (op := Go.Op.move (Go.Operand.tmp 0)) (v := .slice (some ⟨b, o, none⟩) (m + 1) c2) (w1 := W) rfl rfl (fun d pos aft g => by unfold execOp; go_simp) ⟨_, rfl, rfl, Below.refl _ _⟩
          | 10, _ =>
            obtain ⟨e5, x5⟩ := Rv.ev (show a.tmps.getD 5 undef = .int .i64 ((m : Int) + 1) from hbase 5 rfl)
            exact Rv.step_op (op := Go.Op.move (Go.Operand.tmp 5)) (v := .int .i64 ((m : Int) + 1)) (w1 := W) rfl rfl (fun d pos aft g => by unfold execOp; go_simp) ⟨_, rfl, rfl, Below.refl _ _⟩
          | 11, _ =>
            obtain ⟨e27, x27⟩ := Rv.ev (show a.tmps.getD 27 undef = .int .i64 ((m : Int) + 1) from hdep 10 rfl)
            have hwr : IntKind.i64.wrap (m : Int) = m := IntWalk.i64_in _ (by omega)
            exact Rv.step_op (op := Go.Op.binOp Go.BinOp.sub 3 (Go.Operand.tmp 27) (Go.Operand.const (Go.Value.int Go.IntKind.i64 1)) 3) (v := .int .i64 (m : Int)) (w1 := W) rfl rfl (fun d pos aft g => by unfold execOp; go_simp) ⟨_, rfl, rfl, Below.refl _ _⟩
          | 12, _ =>
            obtain ⟨e26, x26⟩ := Rv.ev (show a.tmps.getD 26 undef = .slice (some ⟨b, o, none⟩) (m + 1) c2 from hdep 9 rfl)
            obtain ⟨e28, x28⟩ := Rv.ev (show a.tmps.getD 28 undef = .int .i64 (m : Int) from hdep 11 rfl)
            have hlt : ¬ ((m : Int) + 1 ≤ m) := by omega
            have hlt2 : (m : Int) < (m : Int) + 1 := by omega
            exact Rv.step_op (op := Go.Op.indexAddr 22 (Go.Operand.tmp 26) (Go.Operand.tmp 28)) (v := .pointer (some ⟨b, o + m * 2, none⟩)) (w1 := W) rfl rfl (fun d pos aft g => by unfold execOp; go_simp) ⟨_, rfl, rfl, Below.refl _ _⟩
          | 13, _ =>
            obtain ⟨e29, x29⟩ := Rv.ev (show a.tmps.getD 29 undef = .pointer (some ⟨b, o + m * 2, none⟩) from hdep 12 rfl)
            exact Rv.step_op (op := Go.Op.load 28 (Go.Operand.tmp 29)) (v := ptV (x2, y2)) (w1 := W) rfl rfl (fun d pos aft g => by unfold execOp; go_simp) ⟨_, rfl, rfl, Below.refl _ _⟩
          | 14, _ =>
            obtain ⟨e25, x25⟩ := Rv.ev (show a.tmps.getD 25 undef = ptV (x2, y2) from hdep 8 rfl)
            obtain ⟨e30, x30⟩ := Rv.ev (show a.tmps.getD 30 undef = ptV (x2, y2) from hdep 13 rfl)
            have nq := NQ.out
            exact Rv.step_op (op := Go.Op.binOp Go.BinOp.eql 28 (Go.Operand.tmp 25) (Go.Operand.tmp 30) 28) (v := .bool true) (w1 := W) rfl rfl (fun d pos aft g => by unfold execOp; go_simp) ⟨_, rfl, rfl, Below.refl _ _⟩
          | 15, _ =>
            obtain ⟨e23, x23⟩ := Rv.ev (show a.tmps.getD 23 undef = .bool true from hdep 6 rfl)
            obtain ⟨e31, x31⟩ := Rv.ev (show a.tmps.getD 31 undef = .bool true from hdep 14 rfl)
            exact Rv.step_op (op := Go.Op.pick (Go.Operand.tmp 23) (Go.Operand.tmp 31) (Go.Operand.const (Go.Value.bool false))) (v := .bool true) (w1 := W) rfl rfl (fun d pos aft g => by unfold execOp; go_simp) ⟨_, rfl, rfl, Below.refl _ _⟩
          | 16, _ =>
            obtain ⟨e32, x32⟩ := Rv.ev (show a.tmps.getD 32 undef = .bool true from hdep 15 rfl)
            exact Rv.step_op (op := Go.Op.move (Go.Operand.tmp 32)) (v := .bool true) (w1 := W) rfl rfl (fun d pos aft g => by unfold execOp; go_simp) ⟨_, rfl, rfl, Below.refl _ _⟩
          | 17, _ =>
            obtain ⟨e0, x0⟩ := Rv.ev (show a.tmps.getD 0 undef = .slice (some ⟨b, o, none⟩) (m + 1) c2 from hbase 0 rfl)
            exact Rv.step_op (op := Go.Op.move (Go.Operand.tmp 0)) (v := .slice (some ⟨b, o, none⟩) (m + 1) c2) (w1 := W) rfl rfl (fun d pos aft g => by unfold execOp; go_simp) ⟨_, rfl, rfl, Below.refl _ _⟩
          | 18, _ =>
            obtain ⟨e34, x34⟩ := Rv.ev (show a.tmps.getD 34 undef = .slice (some ⟨b, o, none⟩) (m + 1) c2 from hdep 17 rfl)
            have cf : ∀ x0 W, (callFunc 16 #[x0]).run Try.prog W = .ok (.enter 16 #[x0]) W := fun _ _ => by kernel_rfl
            refine Rv.step_fn (op := Go.Op.call { callee := Go.Callee.value (Go.Operand.func 16), args := #[Go.Operand.tmp 34], argTypes := #[22] }) (f := 16) (args := #[.slice (some ⟨b, o, none⟩) (m + 1) c2]) (R := fun v W' => v = .bool B ∧ Below W.heap.size W W') rfl rfl (fun d pos aft g => by unfold execOp; go_simp) ((GC.out W htr).mono ?_) ?_
            · (rintro e W' ⟨rfl, hb⟩; exact ⟨_, rfl, rfl, hb⟩)
            · (rintro v W' ⟨rfl, hb⟩; exact ⟨_, rfl, rfl, hb⟩)
          | 19, _ =>
            obtain ⟨e0, x0⟩ := Rv.ev (show a.tmps.getD 0 undef = .slice (some ⟨b, o, none⟩) (m + 1) c2 from hbase 0 rfl)
            exact Rv.step_op (op := Go.Op.move (Go.Operand.tmp 0)) (v := .slice (some ⟨b, o, none⟩) (m + 1) c2) (w1 := W) rfl rfl (fun d pos aft g => by unfold execOp; go_simp) ⟨_, rfl, rfl, Below.refl _ _⟩
          | 20, _ =>
            obtain ⟨e36, x36⟩ := Rv.ev (show a.tmps.getD 36 undef = .slice (some ⟨b, o, none⟩) (m + 1) c2 from hdep 19 rfl)
            exact Rv.step_op (op := Go.Op.indexAddr 22 (Go.Operand.tmp 36) (Go.Operand.const (Go.Value.int Go.IntKind.i64 0))) (v := .pointer (some ⟨b, o, none⟩)) (w1 := W) rfl rfl (fun d pos aft g => by unfold execOp; go_simp) ⟨_, rfl, rfl, Below.refl _ _⟩
          | 21, _ =>
            obtain ⟨e37, x37⟩ := Rv.ev (show a.tmps.getD 37 undef = .pointer (some ⟨b, o, none⟩) from hdep 20 rfl)
            exact Rv.step_op (op := Go.Op.load 28 (Go.Operand.tmp 37)) (v := ptV (x, y)) (w1 := W) rfl rfl (fun d pos aft g => by unfold execOp; go_simp) ⟨_, rfl, rfl, Below.refl _ _⟩
          | 22, _ =>
            obtain ⟨e0, x0⟩ := Rv.ev (show a.tmps.getD 0 undef = .slice (some ⟨b, o, none⟩) (m + 1) c2 from hbase 0 rfl)
            exact Rv.step_op (op := Go.Op.move (Go.Operand.tmp 0)) (v := .slice (some ⟨b, o, none⟩) (m + 1) c2) (w1 := W) rfl rfl (fun d pos aft g => by unfold execOp; go_simp) ⟨_, rfl, rfl, Below.refl _ _⟩
          | 23, _ =>
            obtain ⟨e5, x5⟩ := Rv.ev (show a.tmps.getD 5 undef = .int .i64 ((m : Int) + 1) from hbase 5 rfl)
            exact Rv.step_op (op := Go.Op.move (Go.Operand.tmp 5)) (v := .int .i64 ((m : Int) + 1)) (w1 := W) rfl rfl (fun d pos aft g => by unfold execOp; go_simp) ⟨_, rfl, rfl, Below.refl _ _⟩
          | 24, _ =>
            obtain ⟨e40, x40⟩ := Rv.ev (show a.tmps.getD 40 undef = .int .i64 ((m : Int) + 1) from hdep 23 rfl)
            have hwr : IntKind.i64.wrap (m : Int) = m := IntWalk.i64_in _ (by omega)
            exact Rv.step_op (op := Go.Op.binOp Go.BinOp.sub 3 (Go.Operand.tmp 40) (Go.Operand.const (Go.Value.int Go.IntKind.i64 1)) 3) (v := .int .i64 (m : Int)) (w1 := W) rfl rfl (fun d pos aft g => by unfold execOp; go_simp) ⟨_, rfl, rfl, Below.refl _ _⟩
          | 25, _ =>
            obtain ⟨e39, x39⟩ := Rv.ev (show a.tmps.getD 39 undef = .slice (some ⟨b, o, none⟩) (m + 1) c2 from hdep 22 rfl)
            obtain ⟨e41, x41⟩ := Rv.ev (show a.tmps.getD 41 undef = .int .i64 (m : Int) from hdep 24 rfl)
            have hlt : ¬ ((m : Int) + 1 ≤ m) := by omega
            have hlt2 : (m : Int) < (m : Int) + 1 := by omega
            exact Rv.step_op (op := Go.Op.indexAddr 22 (Go.Operand.tmp 39) (Go.Operand.tmp 41)) (v := .pointer (some ⟨b, o + m * 2, none⟩)) (w1 := W) rfl rfl (fun d pos aft g => by unfold execOp; go_simp) ⟨_, rfl, rfl, Below.refl _ _⟩
          | 26, _ =>
            obtain ⟨e42, x42⟩ := Rv.ev (show a.tmps.getD 42 undef = .pointer (some ⟨b, o + m * 2, none⟩) from hdep 25 rfl)
            exact Rv.step_op (op := Go.Op.load 28 (Go.Operand.tmp 42)) (v := ptV (x2, y2)) (w1 := W) rfl rfl (fun d pos aft g => by unfold execOp; go_simp) ⟨_, rfl, rfl, Below.refl _ _⟩
          | 27, _ =>
            obtain ⟨e38, x38⟩ := Rv.ev (show a.tmps.getD 38 undef = ptV (x, y) from hdep 21 rfl)
            obtain ⟨e43, x43⟩ := Rv.ev (show a.tmps.getD 43 undef = ptV (x2, y2) from hdep 26 rfl)
            have nq := NB.out
            exact Rv.step_op (op := Go.Op.binOp Go.BinOp.eql 28 (Go.Operand.tmp 38) (Go.Operand.tmp 43) 28) (v := .bool B) (w1 := W) rfl rfl (fun d pos aft g => by unfold execOp; go_simp) ⟨_, rfl, rfl, Below.refl _ _⟩
          | 28, _ =>
            obtain ⟨e35, x35⟩ := Rv.ev (show a.tmps.getD 35 undef = .bool B from hdep 18 rfl)
            obtain ⟨e44, x44⟩ := Rv.ev (show a.tmps.getD 44 undef = .bool B from hdep 27 rfl)
            exact Rv.step_op (op := Go.Op.binOp Go.BinOp.eql 4 (Go.Operand.tmp 35) (Go.Operand.tmp 44) 4) (v := .bool true) (w1 := W) rfl rfl (fun d pos aft g => by unfold execOp; go_simp) ⟨_, rfl, rfl, Below.refl _ _⟩
          | 29, _ =>
            obtain ⟨e33, x33⟩ := Rv.ev (show a.tmps.getD 33 undef = .bool true from hdep 16 rfl)
            obtain ⟨e45, x45⟩ := Rv.ev (show a.tmps.getD 45 undef = .bool true from hdep 28 rfl)
            exact Rv.step_op (op := Go.Op.pick (Go.Operand.tmp 33) (Go.Operand.tmp 45) (Go.Operand.const (Go.Value.bool false))) (v := .bool true) (w1 := W) rfl rfl (fun d pos aft g => by unfold execOp; go_simp) ⟨_, rfl, rfl, Below.refl _ _⟩
          | 30, _ =>
            obtain ⟨e46, x46⟩ := Rv.ev (show a.tmps.getD 46 undef = .bool true from hdep 29 rfl)
            exact Rv.step_op (op := Go.Op.move (Go.Operand.tmp 46)) (v := .bool true) (w1 := W) rfl rfl (fun d pos aft g => by unfold execOp; go_simp) ⟨_, rfl, rfl, Below.refl _ _⟩
          | 31, _ =>
            obtain ⟨e0, x0⟩ := Rv.ev (show a.tmps.getD 0 undef = .slice (some ⟨b, o, none⟩) (m + 1) c2 from hbase 0 rfl)
            exact Rv.step_op (op := Go.Op.move (Go.Operand.tmp 0)) (v := .slice (some ⟨b, o, none⟩) (m + 1) c2) (w1 := W) rfl rfl (fun d pos aft g => by unfold execOp; go_simp) ⟨_, rfl, rfl, Below.refl _ _⟩
          | 32, _ =>
            obtain ⟨e48, x48⟩ := Rv.ev (show a.tmps.getD 48 undef = .slice (some ⟨b, o, none⟩) (m + 1) c2 from hdep 31 rfl)
            have cf : ∀ x0 W, (callFunc 17 #[x0]).run Try.prog W = .ok (.enter 17 #[x0]) W := fun _ _ => by kernel_rfl
            refine Rv.step_fn (op := Go.Op.call { callee := Go.Callee.value (Go.Operand.func 17), args := #[Go.Operand.tmp 48], argTypes := #[22] }) (f := 17) (args := #[.slice (some ⟨b, o, none⟩) (m + 1) c2]) (R := fun v W' => v = .bool R ∧ Below W.heap.size W W') rfl rfl (fun d pos aft g => by unfold execOp; go_simp) ((GR.out W htr).mono ?_) ?_
            · (rintro e W' ⟨rfl, hb⟩; exact ⟨_, rfl, rfl, hb⟩)
            · (rintro v W' ⟨rfl, hb⟩; exact ⟨_, rfl, rfl, hb⟩)
          | 33, _ =>
            obtain ⟨e0, x0⟩ := Rv.ev (show a.tmps.getD 0 undef = .slice (some ⟨b, o, none⟩) (m + 1) c2 from hbase 0 rfl)
            exact Rv.step_op (op := Go.Op.move (Go.Operand.tmp 0)) (v := .slice (some ⟨b, o, none⟩) (m + 1) c2) (w1 := W) rfl rfl (fun d pos aft g => by unfold execOp; go_simp) ⟨_, rfl, rfl, Below.refl _ _⟩
          | 34, _ =>
            obtain ⟨e50, x50⟩ := Rv.ev (show a.tmps.getD 50 undef = .slice (some ⟨b, o, none⟩) (m + 1) c2 from hdep 33 rfl)
            have cf : ∀ x0 W, (callFunc 18 #[x0]).run Try.prog W = .ok (.enter 18 #[x0]) W := fun _ _ => by kernel_rfl
            refine Rv.step_fn (op := Go.Op.call { callee := Go.Callee.value (Go.Operand.func 18), args := #[Go.Operand.tmp 50], argTypes := #[22] }) (f := 18) (args := #[.slice (some ⟨b, o, none⟩) (m + 1) c2]) (R := fun v W' => v = .bool R ∧ Below W.heap.size W W') rfl rfl (fun d pos aft g => by unfold execOp; go_simp) ((SP.out W htr).mono ?_) ?_
            · (rintro e W' ⟨rfl, hb⟩; exact ⟨_, rfl, rfl, hb⟩)
            · (rintro v W' ⟨rfl, hb⟩; exact ⟨_, rfl, rfl, hb⟩)
          | 35, _ =>
            obtain ⟨e49, x49⟩ := Rv.ev (show a.tmps.getD 49 undef = .bool R from hdep 32 rfl)
            obtain ⟨e51, x51⟩ := Rv.ev (show a.tmps.getD 51 undef = .bool R from hdep 34 rfl)
            exact Rv.step_op (op := Go.Op.binOp Go.BinOp.eql 4 (Go.Operand.tmp 49) (Go.Operand.tmp 51) 4) (v := .bool true) (w1 := W) rfl rfl (fun d pos aft g => by unfold execOp; go_simp) ⟨_, rfl, rfl, Below.refl _ _⟩
          | 36, _ =>
            obtain ⟨e47, x47⟩ := Rv.ev (show a.tmps.getD 47 undef = .bool true from hdep 30 rfl)
            obtain ⟨e52, x52⟩ := Rv.ev (show a.tmps.getD 52 undef = .bool true from hdep 35 rfl)
            exact Rv.step_op (op := Go.Op.pick (Go.Operand.tmp 47) (Go.Operand.tmp 52) (Go.Operand.const (Go.Value.bool false))) (v := .bool true) (w1 := W) rfl rfl (fun d pos aft g => by unfold execOp; go_simp) ⟨_, rfl, rfl, Below.refl _ _⟩
          | 37, _ =>
            obtain ⟨e53, x53⟩ := Rv.ev (show a.tmps.getD 53 undef = .bool true from hdep 36 rfl)
            exact Rv.step_op (op := Go.Op.move (Go.Operand.tmp 53)) (v := .bool true) (w1 := W) rfl rfl (fun d pos aft g => by unfold execOp; go_simp) ⟨_, rfl, rfl, Below.refl _ _⟩
          | 38, _ =>
            exact Rv.step_op (op := Go.Op.build 28 #[(0, Go.Operand.const (Go.Value.float Go.FloatKind.f64 0)), (1, Go.Operand.const (Go.Value.float Go.FloatKind.f64 0))]) (v := .agg #[.float .f64 0, .float .f64 0]) (w1 := W) rfl rfl (fun d pos aft g => by unfold execOp; go_simp) ⟨_, rfl, rfl, Below.refl _ _⟩
          | 39, _ =>
            exact Rv.step_op (op := Go.Op.build 28 #[(0, Go.Operand.const (Go.Value.float Go.FloatKind.f64 4607182418800017408)), (1, Go.Operand.const (Go.Value.float Go.FloatKind.f64 0))]) (v := .agg #[.float .f64 one, .float .f64 0]) (w1 := W) rfl rfl (fun d pos aft g => by unfold execOp; go_simp) ⟨_, rfl, rfl, Below.refl _ _⟩
          | 40, _ =>
            exact Rv.step_op (op := Go.Op.build 28 #[(0, Go.Operand.const (Go.Value.float Go.FloatKind.f64 4607182418800017408)), (1, Go.Operand.const (Go.Value.float Go.FloatKind.f64 4607182418800017408))]) (v := .agg #[.float .f64 one, .float .f64 one]) (w1 := W) rfl rfl (fun d pos aft g => by unfold execOp; go_simp) ⟨_, rfl, rfl, Below.refl _ _⟩
          | 41, _ =>
            exact Rv.step_op (op := Go.Op.build 28 #[(0, Go.Operand.const (Go.Value.float Go.FloatKind.f64 0)), (1, Go.Operand.const (Go.Value.float Go.FloatKind.f64 0))]) (v := .agg #[.float .f64 0, .float .f64 0]) (w1 := W) rfl rfl (fun d pos aft g => by unfold execOp; go_simp) ⟨_, rfl, rfl, Below.refl _ _⟩
          | 42, _ =>
            obtain ⟨e55, x55⟩ := Rv.ev (show a.tmps.getD 55 undef = .agg #[.float .f64 0, .float .f64 0] from hdep 38 rfl)
            obtain ⟨e56, x56⟩ := Rv.ev (show a.tmps.getD 56 undef = .agg #[.float .f64 one, .float .f64 0] from hdep 39 rfl)
            obtain ⟨e57, x57⟩ := Rv.ev (show a.tmps.getD 57 undef = .agg #[.float .f64 one, .float .f64 one] from hdep 40 rfl)
            obtain ⟨e58, x58⟩ := Rv.ev (show a.tmps.getD 58 undef = .agg #[.float .f64 0, .float .f64 0] from hdep 41 rfl)
            have hal : Below W.heap.size W (W.alloc (.cells #[.float .f64 0, .float .f64 0, .float .f64 one, .float .f64 0, .float .f64 one, .float .f64 one, .float .f64 0, .float .f64 0] 28)) := (Below.refl _ _).alloc (Nat.le_refl _) _
            exact Rv.step_op (op := Go.Op.buildSlice 22 4 #[(0, Go.Operand.tmp 55), (1, Go.Operand.tmp 56), (2, Go.Operand.tmp 57), (3, Go.Operand.tmp 58)]) (ty := 22) (v := .slice (some ⟨W.heap.size, 0, none⟩) 4 4) (w1 := W.alloc (.cells #[.float .f64 0, .float .f64 0, .float .f64 one, .float .f64 0, .float .f64 one, .float .f64 one, .float .f64 0, .float .f64 0] 28)) rfl rfl (fun d pos aft g => by unfold execOp; go_simp) ⟨_, rfl, ⟨W.heap.size, rfl, Rd.of_own (World.ownsRow_lit (base := W.heap.size) (e := 28) (size := 2) W #[.float .f64 0, .float .f64 0, .float .f64 one, .float .f64 0, .float .f64 one, .float .f64 one, .float .f64 0, .float .f64 0] 4 (Nat.le_refl _) (by simp [maxLen]) rfl)⟩, hal⟩
          | 43, _ =>
            obtain ⟨g59, e59', h59⟩ : ∃ g, a.tmps.getD 59 undef = .slice (some ⟨g, 0, none⟩) 4 4 ∧ Rd W 2 (.slice (some ⟨g, 0, none⟩) 4 4) 4 (pc sq) := hdep 42 rfl
            obtain ⟨e59, x59⟩ := Rv.ev e59'
            have cf : ∀ x0 W, (callFunc 17 #[x0]).run Try.prog W = .ok (.enter 17 #[x0]) W := fun _ _ => by kernel_rfl
            refine Rv.step_fn (op := Go.Op.call { callee := Go.Callee.value (Go.Operand.func 17), args := #[Go.Operand.tmp 59], argTypes := #[22] }) (ty := 4) (f := 17) (args := #[.slice (some ⟨g59, 0, none⟩) 4 4]) (R := fun v W' => v = .bool true ∧ Below W.heap.size W W') rfl rfl (fun d pos aft g => by unfold execOp; go_simp) ((geRing_sq _ _ W h59).mono ?_) ?_
            · (rintro e W' ⟨rfl, hb⟩; exact ⟨_, rfl, rfl, hb⟩)
            · (rintro v W' ⟨rfl, hb⟩; exact ⟨_, rfl, rfl, hb⟩)
          | 44, _ =>
            obtain ⟨e54, x54⟩ := Rv.ev (show a.tmps.getD 54 undef = .bool true from hdep 37 rfl)
            obtain ⟨e60, x60⟩ := Rv.ev (show a.tmps.getD 60 undef = .bool true from hdep 43 rfl)
            exact Rv.step_op (op := Go.Op.pick (Go.Operand.tmp 54) (Go.Operand.tmp 60) (Go.Operand.const (Go.Value.bool false))) (v := .bool true) (w1 := W) rfl rfl (fun d pos aft g => by unfold execOp; go_simp) ⟨_, rfl, rfl, Below.refl _ _⟩
          | 45, _ =>
            obtain ⟨e61, x61⟩ := Rv.ev (show a.tmps.getD 61 undef = .bool true from hdep 44 rfl)
            exact Rv.step_op (op := Go.Op.assign (Go.Operand.tmp 61)) (v := .bool true) (w1 := W) rfl rfl (fun d pos aft g => by unfold execOp; go_simp) ⟨_, rfl, rfl, Below.refl _ _⟩
          | m + 46, h => exact absurd h (by show ¬ m + 46 < 46; omega)
        intro W f hf htr
        have f0 : f 0 = .slice (some ⟨b, o, none⟩) (m + 1) c2 := hf 0 (by show 0 < 46; omega)
        have f1 : f 1 = ptV (x, y) := hf 1 (by show 1 < 46; omega)
        have f2 : f 2 = .slice (some ⟨b, o, none⟩) (m + 1) c2 := hf 2 (by show 2 < 46; omega)
        have f3 : f 3 = .pointer (some ⟨b, o, none⟩) := hf 3 (by show 3 < 46; omega)
        have f4 : f 4 = ptV (x, y) := hf 4 (by show 4 < 46; omega)
        have f5 : f 5 = .bool true := hf 5 (by show 5 < 46; omega)
        have f6 : f 6 = .bool true := hf 6 (by show 6 < 46; omega)
        have f7 : f 7 = .slice (some ⟨b, o, none⟩) (m + 1) c2 := hf 7 (by show 7 < 46; omega)
        have f8 : f 8 = ptV (x2, y2) := hf 8 (by show 8 < 46; omega)
        have f9 : f 9 = .slice (some ⟨b, o, none⟩) (m + 1) c2 := hf 9 (by show 9 < 46; omega)
        have f10 : f 10 = .int .i64 ((m : Int) + 1) := hf 10 (by show 10 < 46; omega)
        have f11 : f 11 = .int .i64 (m : Int) := hf 11 (by show 11 < 46; omega)
        have f12 : f 12 = .pointer (some ⟨b, o + m * 2, none⟩) := hf 12 (by show 12 < 46; omega)
        have f13 : f 13 = ptV (x2, y2) := hf 13 (by show 13 < 46; omega)
        have f14 : f 14 = .bool true := hf 14 (by show 14 < 46; omega)
        have f15 : f 15 = .bool true := hf 15 (by show 15 < 46; omega)
        have f16 : f 16 = .bool true := hf 16 (by show 16 < 46; omega)
        have f17 : f 17 = .slice (some ⟨b, o, none⟩) (m + 1) c2 := hf 17 (by show 17 < 46; omega)
        have f18 : f 18 = .bool B := hf 18 (by show 18 < 46; omega)
        have f19 : f 19 = .slice (some ⟨b, o, none⟩) (m + 1) c2 := hf 19 (by show 19 < 46; omega)
        have f20 : f 20 = .pointer (some ⟨b, o, none⟩) := hf 20 (by show 20 < 46; omega)
        have f21 : f 21 = ptV (x, y) := hf 21 (by show 21 < 46; omega)
        have f22 : f 22 = .slice (some ⟨b, o, none⟩) (m + 1) c2 := hf 22 (by show 22 < 46; omega)
        have f23 : f 23 = .int .i64 ((m : Int) + 1) := hf 23 (by show 23 < 46; omega)
        have f24 : f 24 = .int .i64 (m : Int) := hf 24 (by show 24 < 46; omega)
        have f25 : f 25 = .pointer (some ⟨b, o + m * 2, none⟩) := hf 25 (by show 25 < 46; omega)
        have f26 : f 26 = ptV (x2, y2) := hf 26 (by show 26 < 46; omega)
        have f27 : f 27 = .bool B := hf 27 (by show 27 < 46; omega)
        have f28 : f 28 = .bool true := hf 28 (by show 28 < 46; omega)
        have f29 : f 29 = .bool true := hf 29 (by show 29 < 46; omega)
        have f30 : f 30 = .bool true := hf 30 (by show 30 < 46; omega)
        have f31 : f 31 = .slice (some ⟨b, o, none⟩) (m + 1) c2 := hf 31 (by show 31 < 46; omega)
        have f32 : f 32 = .bool R := hf 32 (by show 32 < 46; omega)
        have f33 : f 33 = .slice (some ⟨b, o, none⟩) (m + 1) c2 := hf 33 (by show 33 < 46; omega)
        have f34 : f 34 = .bool R := hf 34 (by show 34 < 46; omega)
        have f35 : f 35 = .bool true := hf 35 (by show 35 < 46; omega)
        have f36 : f 36 = .bool true := hf 36 (by show 36 < 46; omega)
        have f37 : f 37 = .bool true := hf 37 (by show 37 < 46; omega)
        have f38 : f 38 = .agg #[.float .f64 0, .float .f64 0] := hf 38 (by show 38 < 46; omega)
        have f39 : f 39 = .agg #[.float .f64 one, .float .f64 0] := hf 39 (by show 39 < 46; omega)
        have f40 : f 40 = .agg #[.float .f64 one, .float .f64 one] := hf 40 (by show 40 < 46; omega)
        have f41 : f 41 = .agg #[.float .f64 0, .float .f64 0] := hf 41 (by show 41 < 46; omega)
        have f42 := hf 42 (by show 42 < 46; omega)
        have f43 : f 43 = .bool true := hf 43 (by show 43 < 46; omega)
        have f44 : f 44 = .bool true := hf 44 (by show 44 < 46; omega)
        have f45 : f 45 = .bool true := hf 45 (by show 45 < 46; omega)
        refine (show ∀ (a : Act) (w : World), Code.wp _ _ _ a w → _ from by assumption) _ _ ?_
        refine Rv.fin_swap (L' := [(17, f 0), (18, f 1), (19, f 2), (20, f 3), (21, f 4), (22, f 5), (23, f 6), (24, f 7), (25, f 8), (26, f 9), (27, f 10), (28, f 11), (29, f 12), (30, f 13), (31, f 14), (32, f 15), (33, f 16), (34, f 17), (35, f 18), (36, f 19), (37, f 20), (38, f 21), (39, f 22), (40, f 23), (41, f 24), (42, f 25), (43, f 26), (44, f 27), (45, f 28), (46, f 29), (47, f 30), (48, f 31), (49, f 32), (50, f 33), (51, f 34), (52, f 35), (53, f 36), (54, f 37), (55, f 38), (56, f 39), (57, f 40), (58, f 41), (59, f 42), (60, f 43), (61, f 44), (4, f 45)]) rfl ?_
        rw [f0, f1, f2, f3, f4, f5, f6, f7, f8, f9, f10, f11, f12, f13, f14, f15, f16, f17, f18, f19, f20, f21, f22, f23, f24, f25, f26, f27, f28, f29, f30, f31, f32, f33, f34, f35, f36, f37, f38, f39, f40, f41, f43, f44, f45]
        clear f0 f1 f2 f3 f4 f5 f6 f7 f8 f9 f10 f11 f12 f13 f14 f15 f16 f17 f18 f19 f20 f21 f22 f23 f24 f25 f26 f27 f28 f29 f30 f31 f32 f33 f34 f35 f36 f37 f38 f39 f40 f41 f43 f44 f45
        simp only [Rv.fin, List.foldl_cons, List.foldl_nil, Act.put, List.setIfInBounds_toArray, List.set_cons_succ, List.set_cons_zero]
        go_wp2
        go_ret
        exact ⟨rfl, HBX.out.trans (htr.mono HBX.out.size)⟩
      · obtain ⟨p, l', hpl⟩ := cons_of (l := l) (by omega)
        subst hpl
        by_cases htt : True
        · have RG := Lib.hid (geRing_any A c p l' w1 (HR.out.below HB1.out) (by omega))
          rw [hm] at RG
          unfold Copy at RG
          have hm2 : (p :: l' ++ [p]).length = (m + 1) + 1 := by simp at hm ⊢; omega
          rw [hm2] at RG
          have HWR : Hid (∀ q ∈ p :: l' ++ [p], Whole 1000 q) := Lib.hid (fun q hq => by
            rcases List.mem_append.1 hq with h | h
            · exact HW.out q h
            · rw [List.mem_singleton.1 h]; exact HW.out p List.mem_cons_self)
          have HM2 := Lib.hid hm2
          clear hm2
          generalize p :: l' ++ [p] = L at *
          have hcast : ((m + 1 + 1 : Nat) : Int) = ((m + 1 : Nat) : Int) + 1 := by omega
          go_upto_region 8 with ((go_at_call 8; (with_reducible refine RG.out.mono ?_); rintro e w2 ⟨A2, c2, rfl, ho, hb⟩; have HO := Lib.hid (Rd.of_own ho); have HB := Lib.hid (HB1.out.trans (hb.mono HB1.out.size)); clear ho hb))
          obtain ⟨wX, hwX⟩ : ∃ wX, wX = w2 := ⟨_, rfl⟩
          subst hwX
          have HRX := HO
          have HWX := HWR
          have HBX := HB
          have hLm := HM2.out
          have hm13 : m + 1 ≤ 13 := by omega
          have hm1 : 1 ≤ m + 1 := by omega
          clear HRX1 HW HB1 hm h2 h12 hcast HR SM RG HO HB HWR HM2
          have hcast2 : (m : Int) + 1 + 1 = (m : Int) + 2 := by omega
          clear hcast2
          obtain ⟨b, o, rfl, hb, hc⟩ := rd_at HRX.out hLm (by omega)
          have C0 := Lib.hid (hc 0 (by omega))
          have CM := Lib.hid (hc (m + 1) (by omega))
          rw [Nat.zero_mul, Nat.add_zero] at C0
          have GS := Lib.hid (fun W (hW : Below wX.heap.size wX W) => geStart_m _ c2 (m + 1) L W (HRX.out.below hW) hLm (by omega))
          have GE := Lib.hid (fun W (hW : Below wX.heap.size wX W) => geEnd_any _ c2 (m + 1) L W (HRX.out.below hW) hLm (by omega))
          have GC := Lib.hid (fun W (hW : Below wX.heap.size wX W) => geClosed_m _ c2 (m + 1) L W (HRX.out.below hW) hLm (by omega))
          have GR := Lib.hid (fun W (hW : Below wX.heap.size wX W) => geRing_m _ c2 (m + 1) L W (HRX.out.below hW) hLm (by omega))
          have SP := Lib.hid (fun W (hW : Below wX.heap.size wX W) => spec_any _ c2 (m + 1) L W (HRX.out.below hW) hLm)
          have NP := Lib.hid (fun W => eql28s _ _ _ (peq_self (HWX.out _ (List.getElem_mem (show 0 < L.length by omega)))) W)
          have NQ := Lib.hid (fun W => eql28s _ _ _ (peq_self (HWX.out _ (List.getElem_mem (show (m + 1) < L.length by omega)))) W)
          clear hc
          generalize L[0]'(by omega) = p at *
          generalize L[(m + 1)]'(by omega) = q at *
          have NB := Lib.hid (fun W => eql28s p q _ rfl W)
          generalize (decide (4 ≤ ((m + 1) + 1)) && peq p q) = R at *
          generalize peq p q = B at *
          obtain ⟨x, y⟩ := p
          obtain ⟨x2, y2⟩ := q
          clear HWX hLm
          refine Rv.region_goods (n := 62) (by kernel_rfl) #[17, 18, 19, 20, 21, 22, 23, 24, 25, 26, 27, 28, 29, 30, 31, 32, 33, 34, 35, 36, 37, 38, 39, 40, 41, 42, 43, 44, 45, 46, 47, 48, 49, 50, 51, 52, 53, 54, 55, 56, 57, 58, 59, 60, 61, 4] #[none, none, none, none, none, none, some true, none, none, none, none, none, none, none, none, none, some true, none, none, none, none, none, none, none, none, none, none, none, none, none, some true, none, none, none, none, none, none, some true] (fun i v W => if i = 42 then (fun v W => ∃ g, v = .slice (some ⟨g, 0, none⟩) 4 4 ∧ Rd W 2 (.slice (some ⟨g, 0, none⟩) 4 4) 4 (pc sq)) v W else v = (#[.slice (some ⟨b, o, none⟩) ((m + 1) + 1) c2, ptV (x, y), .slice (some ⟨b, o, none⟩) ((m + 1) + 1) c2, .pointer (some ⟨b, o, none⟩), ptV (x, y), .bool true, .bool true, .slice (some ⟨b, o, none⟩) ((m + 1) + 1) c2, ptV (x2, y2), .slice (some ⟨b, o, none⟩) ((m + 1) + 1) c2, .int .i64 (((m : Int) + 1) + 1), .int .i64 ((m : Int) + 1), .pointer (some ⟨b, o + (m + 1) * 2, none⟩), ptV (x2, y2), .bool true, .bool true, .bool true, .slice (some ⟨b, o, none⟩) ((m + 1) + 1) c2, .bool B, .slice (some ⟨b, o, none⟩) ((m + 1) + 1) c2, .pointer (some ⟨b, o, none⟩), ptV (x, y), .slice (some ⟨b, o, none⟩) ((m + 1) + 1) c2, .int .i64 (((m : Int) + 1) + 1), .int .i64 ((m : Int) + 1), .pointer (some ⟨b, o + (m + 1) * 2, none⟩), ptV (x2, y2), .bool B, .bool true, .bool true, .bool true, .slice (some ⟨b, o, none⟩) ((m + 1) + 1) c2, .bool R, .slice (some ⟨b, o, none⟩) ((m + 1) + 1) c2, .bool R, .bool true, .bool true, .bool true, .agg #[.float .f64 0, .float .f64 0], .agg #[.float .f64 one, .float .f64 0], .agg #[.float .f64 one, .float .f64 one], .agg #[.float .f64 0, .float .f64 0], undef, .bool true, .bool true, .bool true] : Array Value).getD i undef) (fun i v w w' h hb => ?_) (fun i h g b hg => ?_) rfl (by kernel_rfl) (by kernel_rfl) (fun i h hr w => ?_) ?_ ?_
          · by_cases hi59 : i = 42
            · subst hi59
              rw [if_pos rfl] at h ⊢
              exact (fun v w w' h hb => h.imp fun g h => ⟨h.1, h.2.below hb⟩) v w w' h hb
            rw [if_neg hi59] at h ⊢
            exact h
          · match i, h, hg with
            | 0, _, hg => cases hg
            | 1, _, hg => cases hg
            | 2, _, hg => cases hg
            | 3, _, hg => cases hg
            | 4, _, hg => cases hg
            | 5, _, hg => cases hg
            | 6, _, hg => cases hg
            | 7, _, hg => (cases hg; exact fun v w e => e)
            | 8, _, hg => (cases hg; exact fun v w e => e)
            | 9, _, hg => (cases hg; exact fun v w e => e)
            | 10, _, hg => (cases hg; exact fun v w e => e)
            | 11, _, hg => (cases hg; exact fun v w e => e)
            | 12, _, hg => (cases hg; exact fun v w e => e)
            | 13, _, hg => (cases hg; exact fun v w e => e)
            | 14, _, hg => (cases hg; exact fun v w e => e)
            | 15, _, hg => cases hg
            | 16, _, hg => cases hg
            | 17, _, hg => (cases hg; exact fun v w e => e)
            | 18, _, hg => (cases hg; exact fun v w e => e)
            | 19, _, hg => (cases hg; exact fun v w e => e)
            | 20, _, hg => (cases hg; exact fun v w e => e)
            | 21, _, hg => (cases hg; exact fun v w e => e)
            | 22, _, hg => (cases hg; exact fun v w e => e)
            | 23, _, hg => (cases hg; exact fun v w e => e)
            | 24, _, hg => (cases hg; exact fun v w e => e)
            | 25, _, hg => (cases hg; exact fun v w e => e)
            | 26, _, hg => (cases hg; exact fun v w e => e)
            | 27, _, hg => (cases hg; exact fun v w e => e)
            | 28, _, hg => (cases hg; exact fun v w e => e)
            | 29, _, hg => cases hg
            | 30, _, hg => cases hg
            | 31, _, hg => (cases hg; exact fun v w e => e)
            | 32, _, hg => (cases hg; exact fun v w e => e)
            | 33, _, hg => (cases hg; exact fun v w e => e)
            | 34, _, hg => (cases hg; exact fun v w e => e)
            | 35, _, hg => (cases hg; exact fun v w e => e)
            | 36, _, hg => cases hg
            | 37, _, hg => cases hg
            | 38, _, hg => (cases hg; exact fun v w e => e)
            | 39, _, hg => (cases hg; exact fun v w e => e)
            | 40, _, hg => (cases hg; exact fun v w e => e)
            | 41, _, hg => (cases hg; exact fun v w e => e)
            | 42, _, hg => (cases hg; exact fun v w e => e)
            | 43, _, hg => (cases hg; exact fun v w e => e)
            | 44, _, hg => cases hg
            | 45, _, hg => cases hg
            | m + 46, h, _ => exact absurd h (by show ¬ m + 46 < 46; omega)
          · match i, h, hr with
            | 0, _, hr => exact Bool.noConfusion (show true = false from hr)
            | 1, _, hr => exact Bool.noConfusion (show true = false from hr)
            | 2, _, hr => exact Bool.noConfusion (show true = false from hr)
            | 3, _, hr => exact Bool.noConfusion (show true = false from hr)
            | 4, _, hr => exact Bool.noConfusion (show true = false from hr)
            | 5, _, hr => exact Bool.noConfusion (show true = false from hr)
            | 6, _, hr => exact Bool.noConfusion (show true = false from hr)
            | 7, _, hr => exact Bool.noConfusion (show true = false from hr)
            | 8, _, hr => exact Bool.noConfusion (show true = false from hr)
            | 9, _, hr => exact Bool.noConfusion (show true = false from hr)
            | 10, _, hr => exact Bool.noConfusion (show true = false from hr)
            | 11, _, hr => exact Bool.noConfusion (show true = false from hr)
            | 12, _, hr => exact Bool.noConfusion (show true = false from hr)
            | 13, _, hr => exact Bool.noConfusion (show true = false from hr)
            | 14, _, hr => exact Bool.noConfusion (show true = false from hr)
            | 15, _, hr => exact Bool.noConfusion (show true = false from hr)
            | 16, _, hr => exact Bool.noConfusion (show true = false from hr)
            | 17, _, hr => exact Bool.noConfusion (show true = false from hr)
            | 18, _, hr => exact Bool.noConfusion (show true = false from hr)
            | 19, _, hr => exact Bool.noConfusion (show true = false from hr)
            | 20, _, hr => exact Bool.noConfusion (show true = false from hr)
            | 21, _, hr => exact Bool.noConfusion (show true = false from hr)
            | 22, _, hr => exact Bool.noConfusion (show true = false from hr)
            | 23, _, hr => exact Bool.noConfusion (show true = false from hr)
            | 24, _, hr => exact Bool.noConfusion (show true = false from hr)
            | 25, _, hr => exact Bool.noConfusion (show true = false from hr)
            | 26, _, hr => exact Bool.noConfusion (show true = false from hr)
            | 27, _, hr => exact Bool.noConfusion (show true = false from hr)
            | 28, _, hr => exact Bool.noConfusion (show true = false from hr)
            | 29, _, hr => exact Bool.noConfusion (show true = false from hr)
            | 30, _, hr => exact Bool.noConfusion (show true = false from hr)
            | 31, _, hr => exact Bool.noConfusion (show true = false from hr)
            | 32, _, hr => exact Bool.noConfusion (show true = false from hr)
            | 33, _, hr => exact Bool.noConfusion (show true = false from hr)
            | 34, _, hr => exact Bool.noConfusion (show true = false from hr)
            | 35, _, hr => exact Bool.noConfusion (show true = false from hr)
            | 36, _, hr => exact Bool.noConfusion (show true = false from hr)
            | 37, _, hr => exact Bool.noConfusion (show true = false from hr)
            | 38, _, hr => exact Bool.noConfusion (show true = false from hr)
            | 39, _, hr => exact Bool.noConfusion (show true = false from hr)
            | 40, _, hr => exact Bool.noConfusion (show true = false from hr)
            | 41, _, hr => exact Bool.noConfusion (show true = false from hr)
            | 42, _, hr => exact Bool.noConfusion (show true = false from hr)
            | 43, _, hr => exact Bool.noConfusion (show true = false from hr)
            | 44, _, hr => exact Bool.noConfusion (show true = false from hr)
            | 45, _, hr => exact Bool.noConfusion (show true = false from hr)
            | m + 46, h, _ => exact absurd h (by show ¬ m + 46 < 46; omega)
          · intro i h a W hrun hbase hpre hdep htr
            obtain ⟨k0, k1⟩ := C0.out W htr
            obtain ⟨k2, k3⟩ := CM.out W htr
            have hq0 : ¬ (((m : Int) + 1) + 1 ≤ 0) := by omega
            have hq1 : ¬ (((m : Int) + 1) < 0) := by omega
            match i, h with
            | 0, _ =>
              obtain ⟨e0, x0⟩ := Rv.ev (show a.tmps.getD 0 undef = .slice (some ⟨b, o, none⟩) ((m + 1) + 1) c2 from hbase 0 rfl)
              exact Rv.step_op (op := Go.Op.move (Go.Operand.tmp 0)) (v := .slice (some ⟨b, o, none⟩) ((m + 1) + 1) c2) (w1 := W) rfl rfl (fun d pos aft g => by unfold execOp; go_simp) ⟨_, rfl, rfl, Below.refl _ _⟩
            | 1, _ =>
              obtain ⟨e17, x17⟩ := Rv.ev (show a.tmps.getD 17 undef = .slice (some ⟨b, o, none⟩) ((m + 1) + 1) c2 from hdep 0 rfl)
              have cf : ∀ x0 W, (callFunc 14 #[x0]).run Try.prog W = .ok (.enter 14 #[x0]) W := fun _ _ => by kernel_rfl
              refine Rv.step_fn (op := Go.Op.call { callee := Go.Callee.value (Go.Operand.func 14), args := #[Go.Operand.tmp 17], argTypes := #[22] }) (f := 14) (args := #[.slice (some ⟨b, o, none⟩) ((m + 1) + 1) c2]) (R := fun v W' => v = ptV (x, y) ∧ Below W.heap.size W W') rfl rfl (fun d pos aft g => by unfold execOp; go_simp) ((GS.out W htr).mono ?_) ?_
              · (rintro e W' ⟨rfl, hb⟩; exact ⟨_, rfl, rfl, hb⟩)
              · (rintro v W' ⟨rfl, hb⟩; exact ⟨_, rfl, rfl, hb⟩)
            | 2, _ =>
              obtain ⟨e0, x0⟩ := Rv.ev (show a.tmps.getD 0 undef = .slice (some ⟨b, o, none⟩) ((m + 1) + 1) c2 from hbase 0 rfl)
              exact Rv.step_op (op := Go.Op.move (Go.Operand.tmp 0)) (v := .slice (some ⟨b, o, none⟩) ((m + 1) + 1) c2) (w1 := W) rfl rfl (fun d pos aft g => by unfold execOp; go_simp) ⟨_, rfl, rfl, Below.refl _ _⟩
            | 3, _ =>
              obtain ⟨e19, x19⟩ := Rv.ev (show a.tmps.getD 19 undef = .slice (some ⟨b, o, none⟩) ((m + 1) + 1) c2 from hdep 2 rfl)
              exact Rv.step_op (op := Go.Op.indexAddr 22 (Go.Operand.tmp 19) (Go.Operand.const (Go.Value.int Go.IntKind.i64 0))) (v := .pointer (some ⟨b, o, none⟩)) (w1 := W) rfl rfl (fun d pos aft g => by unfold execOp; go_simp) ⟨_, rfl, rfl, Below.refl _ _⟩
            | 4, _ =>
              obtain ⟨e20, x20⟩ := Rv.ev (show a.tmps.getD 20 undef = .pointer (some ⟨b, o, none⟩) from hdep 3 rfl)
              exact Rv.step_op (op := Go.Op.load 28 (Go.Operand.tmp 20)) (v := ptV (x, y)) (w1 := W) rfl rfl (fun d pos aft g => by unfold execOp; go_simp) ⟨_, rfl, rfl, Below.refl _ _⟩
            | 5, _ =>
              obtain ⟨e18, x18⟩ := Rv.ev (show a.tmps.getD 18 undef = ptV (x, y) from hdep 1 rfl)
              obtain ⟨e21, x21⟩ := Rv.ev (show a.tmps.getD 21 undef = ptV (x, y) from hdep 4 rfl)
              have nq := NP.out
              exact Rv.step_op (op := Go.Op.binOp Go.BinOp.eql 28 (Go.Operand.tmp 18) (Go.Operand.tmp 21) 28) (v := .bool true) (w1 := W) rfl rfl (fun d pos aft g => by unfold execOp; go_simp) ⟨_, rfl, rfl, Below.refl _ _⟩
            | 6, _ =>
              obtain ⟨e22, x22⟩ := Rv.ev (show a.tmps.getD 22 undef = .bool true from hdep 5 rfl)
              exact Rv.step_op (op := Go.Op.move (Go.Operand.tmp 22)) (v := .bool true) (w1 := W) rfl rfl (fun d pos aft g => by unfold execOp; go_simp) ⟨_, rfl, rfl, Below.refl _ _⟩
            | 7, _ =>
              obtain ⟨e0, x0⟩ := Rv.ev (show a.tmps.getD 0 undef = .slice (some ⟨b, o, none⟩) ((m + 1) + 1) c2 from hbase 0 rfl)
              exact Rv.step_op (op := Go.Op.move (Go.Operand.tmp 0)) (v := .slice (some ⟨b, o, none⟩) ((m + 1) + 1) c2) (w1 := W) rfl rfl (fun d pos aft g => by unfold execOp; go_simp) ⟨_, rfl, rfl, Below.refl _ _⟩
            | 8, _ =>
              obtain ⟨e24, x24⟩ := Rv.ev (show a.tmps.getD 24 undef = .slice (some ⟨b, o, none⟩) ((m + 1) + 1) c2 from hdep 7 rfl)
              have cf : ∀ x0 W, (callFunc 15 #[x0]).run Try.prog W = .ok (.enter 15 #[x0]) W := fun _ _ => by kernel_rfl
              refine Rv.step_fn (op := Go.Op.call { callee := Go.Callee.value (Go.Operand.func 15), args := #[Go.Operand.tmp 24], argTypes := #[22] }) (f := 15) (args := #[.slice (some ⟨b, o, none⟩) ((m + 1) + 1) c2]) (R := fun v W' => v = ptV (x2, y2) ∧ Below W.heap.size W W') rfl rfl (fun d pos aft g => by unfold execOp; go_simp) ((GE.out W htr).mono ?_) ?_
              · (rintro e W' ⟨rfl, hb⟩; exact ⟨_, rfl, rfl, hb⟩)
              · (rintro v W' ⟨rfl, hb⟩; exact ⟨_, rfl, rfl, hb⟩)
            | 9, _ =>
              obtain ⟨e0, x0⟩ := Rv.ev (show a.tmps.getD 0 undef = .slice (some ⟨b, o, none⟩) ((m + 1) + 1) c2 from hbase 0 rfl)
              exact Rv.step_op (op := Go.Op.move (Go.Operand.tmp 0)) (v := .slice (some ⟨b, o, none⟩) ((m + 1) + 1) c2) (w1 := W) rfl rfl (fun d pos aft g => by unfold execOp; go_simp) ⟨_, rfl, rfl, Below.refl _ _⟩
            | 10, _ =>
              obtain ⟨e5, x5⟩ := Rv.ev (show a.tmps.getD 5 undef = .int .i64 (((m : Int) + 1) + 1) from hbase 5 rfl)
              exact Rv.step_op (op := Go.Op.move (Go.Operand.tmp 5)) (v := .int .i64 (((m : Int) + 1) + 1)) (w1 := W) rfl rfl (fun d pos aft g => by unfold execOp; go_simp) ⟨_, rfl, rfl, Below.refl _ _⟩
            | 11, _ =>
              obtain ⟨e27, x27⟩ := Rv.ev (show a.tmps.getD 27 undef = .int .i64 (((m : Int) + 1) + 1) from hdep 10 rfl)
              have hwr : IntKind.i64.wrap ((m : Int) + 1) = ((m : Int) + 1) := IntWalk.i64_in _ (by omega)
              exact Rv.step_op (op := Go.Op.binOp Go.BinOp.sub 3 (Go.Operand.tmp 27) (Go.Operand.const (Go.Value.int Go.IntKind.i64 1)) 3) (v := .int .i64 ((m : Int) + 1)) (w1 := W) rfl rfl (fun d pos aft g => by unfold execOp; go_simp) ⟨_, rfl, rfl, Below.refl _ _⟩
            | 12, _ =>
              obtain ⟨e26, x26⟩ := Rv.ev (show a.tmps.getD 26 undef = .slice (some ⟨b, o, none⟩) ((m + 1) + 1) c2 from hdep 9 rfl)
              obtain ⟨e28, x28⟩ := Rv.ev (show a.tmps.getD 28 undef = .int .i64 ((m : Int) + 1) from hdep 11 rfl)
              have hlt : ¬ (((m : Int) + 1) + 1 ≤ m) := by omega
              have hlt2 : ((m : Int) + 1) < ((m : Int) + 1) + 1 := by omega
              exact Rv.step_op (op := Go.Op.indexAddr 22 (Go.Operand.tmp 26) (Go.Operand.tmp 28)) (v := .pointer (some ⟨b, o + (m + 1) * 2, none⟩)) (w1 := W) rfl rfl (fun d pos aft g => by unfold execOp; go_simp) ⟨_, rfl, rfl, Below.refl _ _⟩
            | 13, _ =>
              obtain ⟨e29, x29⟩ := Rv.ev (show a.tmps.getD 29 undef = .pointer (some ⟨b, o + (m + 1) * 2, none⟩) from hdep 12 rfl)
              exact Rv.step_op (op := Go.Op.load 28 (Go.Operand.tmp 29)) (v := ptV (x2, y2)) (w1 := W) rfl rfl (fun d pos aft g => by unfold execOp; go_simp) ⟨_, rfl, rfl, Below.refl _ _⟩
            | 14, _ =>
              obtain ⟨e25, x25⟩ := Rv.ev (show a.tmps.getD 25 undef = ptV (x2, y2) from hdep 8 rfl)
              obtain ⟨e30, x30⟩ := Rv.ev (show a.tmps.getD 30 undef = ptV (x2, y2) from hdep 13 rfl)
              have nq := NQ.out
              exact Rv.step_op (op := Go.Op.binOp Go.BinOp.eql 28 (Go.Operand.tmp 25) (Go.Operand.tmp 30) 28) (v := .bool true) (w1 := W) rfl rfl (fun d pos aft g => by unfold execOp; go_simp) ⟨_, rfl, rfl, Below.refl _ _⟩
            | 15, _ =>
              obtain ⟨e23, x23⟩ := Rv.ev (show a.tmps.getD 23 undef = .bool true from hdep 6 rfl)
              obtain ⟨e31, x31⟩ := Rv.ev (show a.tmps.getD 31 undef = .bool true from hdep 14 rfl)
              exact Rv.step_op (op := Go.Op.pick (Go.Operand.tmp 23) (Go.Operand.tmp 31) (Go.Operand.const (Go.Value.bool false))) (v := .bool true) (w1 := W) rfl rfl (fun d pos aft g => by unfold execOp; go_simp) ⟨_, rfl, rfl, Below.refl _ _⟩
            | 16, _ =>
              obtain ⟨e32, x32⟩ := Rv.ev (show a.tmps.getD 32 undef = .bool true from hdep 15 rfl)
              exact Rv.step_op (op := Go.Op.move (Go.Operand.tmp 32)) (v := .bool true) (w1 := W) rfl rfl (fun d pos aft g => by unfold execOp; go_simp) ⟨_, rfl, rfl, Below.refl _ _⟩
            | 17, _ =>
              obtain ⟨e0, x0⟩ := Rv.ev (show a.tmps.getD 0 undef = .slice (some ⟨b, o, none⟩) ((m + 1) + 1) c2 from hbase 0 rfl)
              exact Rv.step_op (op := Go.Op.move (Go.Operand.tmp 0)) (v := .slice (some ⟨b, o, none⟩) ((m + 1) + 1) c2) (w1 := W) rfl rfl (fun d pos aft g => by unfold execOp; go_simp) ⟨_, rfl, rfl, Below.refl _ _⟩
            | 18, _ =>
              obtain ⟨e34, x34⟩ := Rv.ev (show a.tmps.getD 34 undef = .slice (some ⟨b, o, none⟩) ((m + 1) + 1) c2 from hdep 17 rfl)
              have cf : ∀ x0 W, (callFunc 16 #[x0]).run Try.prog W = .ok (.enter 16 #[x0]) W := fun _ _ => by kernel_rfl
              refine Rv.step_fn (op := Go.Op.call { callee := Go.Callee.value (Go.Operand.func 16), args := #[Go.Operand.tmp 34], argTypes := #[22] }) (f := 16) (args := #[.slice (some ⟨b, o, none⟩) ((m + 1) + 1) c2]) (R := fun v W' => v = .bool B ∧ Below W.heap.size W W') rfl rfl (fun d pos aft g => by unfold execOp; go_simp) ((GC.out W htr).mono ?_) ?_
              · (rintro e W' ⟨rfl, hb⟩; exact ⟨_, rfl, rfl, hb⟩)
              · (rintro v W' ⟨rfl, hb⟩; exact ⟨_, rfl, rfl, hb⟩)
            | 19, _ =>
              obtain ⟨e0, x0⟩ := Rv.ev (show a.tmps.getD 0 undef = .slice (some ⟨b, o, none⟩) ((m + 1) + 1) c2 from hbase 0 rfl)
              exact Rv.step_op (op := Go.Op.move (Go.Operand.tmp 0)) (v := .slice (some ⟨b, o, none⟩) ((m + 1) + 1) c2) (w1 := W) rfl rfl (fun d pos aft g => by unfold execOp; go_simp) ⟨_, rfl, rfl, Below.refl _ _⟩
            | 20, _ =>
              obtain ⟨e36, x36⟩ := Rv.ev (show a.tmps.getD 36 undef = .slice (some ⟨b, o, none⟩) ((m + 1) + 1) c2 from hdep 19 rfl)
              exact Rv.step_op (op := Go.Op.indexAddr 22 (Go.Operand.tmp 36) (Go.Operand.const (Go.Value.int Go.IntKind.i64 0))) (v := .pointer (some ⟨b, o, none⟩)) (w1 := W) rfl rfl (fun d pos aft g => by unfold execOp; go_simp) ⟨_, rfl, rfl, Below.refl _ _⟩
            | 21, _ =>
              obtain ⟨e37, x37⟩ := Rv.ev (show a.tmps.getD 37 undef = .pointer (some ⟨b, o, none⟩) from hdep 20 rfl)
              exact Rv.step_op (op := Go.Op.load 28 (Go.Operand.tmp 37)) (v := ptV (x, y)) (w1 := W) rfl rfl (fun d pos aft g => by unfold execOp; go_simp) ⟨_, rfl, rfl, Below.refl _ _⟩
            | 22, _ =>
              obtain ⟨e0, x0⟩ := Rv.ev (show a.tmps.getD 0 undef = .slice (some ⟨b, o, none⟩) ((m + 1) + 1) c2 from hbase 0 rfl)
              exact Rv.step_op (op := Go.Op.move (Go.Operand.tmp 0)) (v := .slice (some ⟨b, o, none⟩) ((m + 1) + 1) c2) (w1 := W) rfl rfl (fun d pos aft g => by unfold execOp; go_simp) ⟨_, rfl, rfl, Below.refl _ _⟩
            | 23, _ =>
              obtain ⟨e5, x5⟩ := Rv.ev (show a.tmps.getD 5 undef = .int .i64 (((m : Int) + 1) + 1) from hbase 5 rfl)
              exact Rv.step_op (op := Go.Op.move (Go.Operand.tmp 5)) (v := .int .i64 (((m : Int) + 1) + 1)) (w1 := W) rfl rfl (fun d pos aft g => by unfold execOp; go_simp) ⟨_, rfl, rfl, Below.refl _ _⟩
            | 24, _ =>
              obtain ⟨e40, x40⟩ := Rv.ev (show a.tmps.getD 40 undef = .int .i64 (((m : Int) + 1) + 1) from hdep 23 rfl)
              have hwr : IntKind.i64.wrap ((m : Int) + 1) = ((m : Int) + 1) := IntWalk.i64_in _ (by omega)
              exact Rv.step_op (op := Go.Op.binOp Go.BinOp.sub 3 (Go.Operand.tmp 40) (Go.Operand.const (Go.Value.int Go.IntKind.i64 1)) 3) (v := .int .i64 ((m : Int) + 1)) (w1 := W) rfl rfl (fun d pos aft g => by unfold execOp; go_simp) ⟨_, rfl, rfl, Below.refl _ _⟩
            | 25, _ =>
              obtain ⟨e39, x39⟩ := Rv.ev (show a.tmps.getD 39 undef = .slice (some ⟨b, o, none⟩) ((m + 1) + 1) c2 from hdep 22 rfl)
              obtain ⟨e41, x41⟩ := Rv.ev (show a.tmps.getD 41 undef = .int .i64 ((m : Int) + 1) from hdep 24 rfl)
              have hlt : ¬ (((m : Int) + 1) + 1 ≤ m) := by omega
              have hlt2 : ((m : Int) + 1) < ((m : Int) + 1) + 1 := by omega
              exact Rv.step_op (op := Go.Op.indexAddr 22 (Go.Operand.tmp 39) (Go.Operand.tmp 41)) (v := .pointer (some ⟨b, o + (m + 1) * 2, none⟩)) (w1 := W) rfl rfl (fun d pos aft g => by unfold execOp; go_simp) ⟨_, rfl, rfl, Below.refl _ _⟩
            | 26, _ =>
              obtain ⟨e42, x42⟩ := Rv.ev (show a.tmps.getD 42 undef = .pointer (some ⟨b, o + (m + 1) * 2, none⟩) from hdep 25 rfl)
              exact Rv.step_op (op := Go.Op.load 28 (Go.Operand.tmp 42)) (v := ptV (x2, y2)) (w1 := W) rfl rfl (fun d pos aft g => by unfold execOp; go_simp) ⟨_, rfl, rfl, Below.refl _ _⟩
            | 27, _ =>
              obtain ⟨e38, x38⟩ := Rv.ev (show a.tmps.getD 38 undef = ptV (x, y) from hdep 21 rfl)
              obtain ⟨e43, x43⟩ := Rv.ev (show a.tmps.getD 43 undef = ptV (x2, y2) from hdep 26 rfl)
              have nq := NB.out
              exact Rv.step_op (op := Go.Op.binOp Go.BinOp.eql 28 (Go.Operand.tmp 38) (Go.Operand.tmp 43) 28) (v := .bool B) (w1 := W) rfl rfl (fun d pos aft g => by unfold execOp; go_simp) ⟨_, rfl, rfl, Below.refl _ _⟩
            | 28, _ =>
              obtain ⟨e35, x35⟩ := Rv.ev (show a.tmps.getD 35 undef = .bool B from hdep 18 rfl)
              obtain ⟨e44, x44⟩ := Rv.ev (show a.tmps.getD 44 undef = .bool B from hdep 27 rfl)
              exact Rv.step_op (op := Go.Op.binOp Go.BinOp.eql 4 (Go.Operand.tmp 35) (Go.Operand.tmp 44) 4) (v := .bool true) (w1 := W) rfl rfl (fun d pos aft g => by unfold execOp; go_simp) ⟨_, rfl, rfl, Below.refl _ _⟩
            | 29, _ =>
              obtain ⟨e33, x33⟩ := Rv.ev (show a.tmps.getD 33 undef = .bool true from hdep 16 rfl)
              obtain ⟨e45, x45⟩ := Rv.ev (show a.tmps.getD 45 undef = .bool true from hdep 28 rfl)
              exact Rv.step_op (op := Go.Op.pick (Go.Operand.tmp 33) (Go.Operand.tmp 45) (Go.Operand.const (Go.Value.bool false))) (v := .bool true) (w1 := W) rfl rfl (fun d pos aft g => by unfold execOp; go_simp) ⟨_, rfl, rfl, Below.refl _ _⟩
            | 30, _ =>
              obtain ⟨e46, x46⟩ := Rv.ev (show a.tmps.getD 46 undef = .bool true from hdep 29 rfl)
              exact Rv.step_op (op := Go.Op.move (Go.Operand.tmp 46)) (v := .bool true) (w1 := W) rfl rfl (fun d pos aft g => by unfold execOp; go_simp) ⟨_, rfl, rfl, Below.refl _ _⟩
            | 31, _ =>
              obtain ⟨e0, x0⟩ := Rv.ev (show a.tmps.getD 0 undef = .slice (some ⟨b, o, none⟩) ((m + 1) + 1) c2 from hbase 0 rfl)
              exact Rv.step_op (op := Go.Op.move (Go.Operand.tmp 0)) (v := .slice (some ⟨b, o, none⟩) ((m + 1) + 1) c2) (w1 := W) rfl rfl (fun d pos aft g => by unfold execOp; go_simp) ⟨_, rfl, rfl, Below.refl _ _⟩
            | 32, _ =>
              obtain ⟨e48, x48⟩ := Rv.ev (show a.tmps.getD 48 undef = .slice (some ⟨b, o, none⟩) ((m + 1) + 1) c2 from hdep 31 rfl)
              have cf : ∀ x0 W, (callFunc 17 #[x0]).run Try.prog W = .ok (.enter 17 #[x0]) W := fun _ _ => by kernel_rfl
              refine Rv.step_fn (op := Go.Op.call { callee := Go.Callee.value (Go.Operand.func 17), args := #[Go.Operand.tmp 48], argTypes := #[22] }) (f := 17) (args := #[.slice (some ⟨b, o, none⟩) ((m + 1) + 1) c2]) (R := fun v W' => v = .bool R ∧ Below W.heap.size W W') rfl rfl (fun d pos aft g => by unfold execOp; go_simp) ((GR.out W htr).mono ?_) ?_
              · (rintro e W' ⟨rfl, hb⟩; exact ⟨_, rfl, rfl, hb⟩)
              · (rintro v W' ⟨rfl, hb⟩; exact ⟨_, rfl, rfl, hb⟩)
            | 33, _ =>
              obtain ⟨e0, x0⟩ := Rv.ev (show a.tmps.getD 0 undef = .slice (some ⟨b, o, none⟩) ((m + 1) + 1) c2 from hbase 0 rfl)
              exact Rv.step_op (op := Go.Op.move (Go.Operand.tmp 0)) (v := .slice (some ⟨b, o, none⟩) ((m + 1) + 1) c2) (w1 := W) rfl rfl (fun d pos aft g => by unfold execOp; go_simp) ⟨_, rfl, rfl, Below.refl _ _⟩
            | 34, _ =>
              obtain ⟨e50, x50⟩ := Rv.ev (show a.tmps.getD 50 undef = .slice (some ⟨b, o, none⟩) ((m + 1) + 1) c2 from hdep 33 rfl)
              have cf : ∀ x0 W, (callFunc 18 #[x0]).run Try.prog W = .ok (.enter 18 #[x0]) W := fun _ _ => by kernel_rfl
              refine Rv.step_fn (op := Go.Op.call { callee := Go.Callee.value (Go.Operand.func 18), args := #[Go.Operand.tmp 50], argTypes := #[22] }) (f := 18) (args := #[.slice (some ⟨b, o, none⟩) ((m + 1) + 1) c2]) (R := fun v W' => v = .bool R ∧ Below W.heap.size W W') rfl rfl (fun d pos aft g => by unfold execOp; go_simp) ((SP.out W htr).mono ?_) ?_
              · (rintro e W' ⟨rfl, hb⟩; exact ⟨_, rfl, rfl, hb⟩)
              · (rintro v W' ⟨rfl, hb⟩; exact ⟨_, rfl, rfl, hb⟩)
            | 35, _ =>
              obtain ⟨e49, x49⟩ := Rv.ev (show a.tmps.getD 49 undef = .bool R from hdep 32 rfl)
              obtain ⟨e51, x51⟩ := Rv.ev (show a.tmps.getD 51 undef = .bool R from hdep 34 rfl)
              exact Rv.step_op (op := Go.Op.binOp Go.BinOp.eql 4 (Go.Operand.tmp 49) (Go.Operand.tmp 51) 4) (v := .bool true) (w1 := W) rfl rfl (fun d pos aft g => by unfold execOp; go_simp) ⟨_, rfl, rfl, Below.refl _ _⟩
            | 36, _ =>
              obtain ⟨e47, x47⟩ := Rv.ev (show a.tmps.getD 47 undef = .bool true from hdep 30 rfl)
              obtain ⟨e52, x52⟩ := Rv.ev (show a.tmps.getD 52 undef = .bool true from hdep 35 rfl)
              exact Rv.step_op (op := Go.Op.pick (Go.Operand.tmp 47) (Go.Operand.tmp 52) (Go.Operand.const (Go.Value.bool false))) (v := .bool true) (w1 := W) rfl rfl (fun d pos aft g => by unfold execOp; go_simp) ⟨_, rfl, rfl, Below.refl _ _⟩
            | 37, _ =>
              obtain ⟨e53, x53⟩ := Rv.ev (show a.tmps.getD 53 undef = .bool true from hdep 36 rfl)
              exact Rv.step_op (op := Go.Op.move (Go.Operand.tmp 53)) (v := .bool true) (w1 := W) rfl rfl (fun d pos aft g => by unfold execOp; go_simp) ⟨_, rfl, rfl, Below.refl _ _⟩
            | 38, _ =>
              exact Rv.step_op (op := Go.Op.build 28 #[(0, Go.Operand.const (Go.Value.float Go.FloatKind.f64 0)), (1, Go.Operand.const (Go.Value.float Go.FloatKind.f64 0))]) (v := .agg #[.float .f64 0, .float .f64 0]) (w1 := W) rfl rfl (fun d pos aft g => by unfold execOp; go_simp) ⟨_, rfl, rfl, Below.refl _ _⟩
            | 39, _ =>
              exact Rv.step_op (op := Go.Op.build 28 #[(0, Go.Operand.const (Go.Value.float Go.FloatKind.f64 4607182418800017408)), (1, Go.Operand.const (Go.Value.float Go.FloatKind.f64 0))]) (v := .agg #[.float .f64 one, .float .f64 0]) (w1 := W) rfl rfl (fun d pos aft g => by unfold execOp; go_simp) ⟨_, rfl, rfl, Below.refl _ _⟩
            | 40, _ =>
              exact Rv.step_op (op := Go.Op.build 28 #[(0, Go.Operand.const (Go.Value.float Go.FloatKind.f64 4607182418800017408)), (1, Go.Operand.const (Go.Value.float Go.FloatKind.f64 4607182418800017408))]) (v := .agg #[.float .f64 one, .float .f64 one]) (w1 := W) rfl rfl (fun d pos aft g => by unfold execOp; go_simp) ⟨_, rfl, rfl, Below.refl _ _⟩
            | 41, _ =>
              exact Rv.step_op (op := Go.Op.build 28 #[(0, Go.Operand.const (Go.Value.float Go.FloatKind.f64 0)), (1, Go.Operand.const (Go.Value.float Go.FloatKind.f64 0))]) (v := .agg #[.float .f64 0, .float .f64 0]) (w1 := W) rfl rfl (fun d pos aft g => by unfold execOp; go_simp) ⟨_, rfl, rfl, Below.refl _ _⟩
            | 42, _ =>
              obtain ⟨e55, x55⟩ := Rv.ev (show a.tmps.getD 55 undef = .agg #[.float .f64 0, .float .f64 0] from hdep 38 rfl)
              obtain ⟨e56, x56⟩ := Rv.ev (show a.tmps.getD 56 undef = .agg #[.float .f64 one, .float .f64 0] from hdep 39 rfl)
              obtain ⟨e57, x57⟩ := Rv.ev (show a.tmps.getD 57 undef = .agg #[.float .f64 one, .float .f64 one] from hdep 40 rfl)
              obtain ⟨e58, x58⟩ := Rv.ev (show a.tmps.getD 58 undef = .agg #[.float .f64 0, .float .f64 0] from hdep 41 rfl)
              have hal : Below W.heap.size W (W.alloc (.cells #[.float .f64 0, .float .f64 0, .float .f64 one, .float .f64 0, .float .f64 one, .float .f64 one, .float .f64 0, .float .f64 0] 28)) := (Below.refl _ _).alloc (Nat.le_refl _) _
              exact Rv.step_op (op := Go.Op.buildSlice 22 4 #[(0, Go.Operand.tmp 55), (1, Go.Operand.tmp 56), (2, Go.Operand.tmp 57), (3, Go.Operand.tmp 58)]) (ty := 22) (v := .slice (some ⟨W.heap.size, 0, none⟩) 4 4) (w1 := W.alloc (.cells #[.float .f64 0, .float .f64 0, .float .f64 one, .float .f64 0, .float .f64 one, .float .f64 one, .float .f64 0, .float .f64 0] 28)) rfl rfl (fun d pos aft g => by unfold execOp; go_simp) ⟨_, rfl, ⟨W.heap.size, rfl, Rd.of_own (World.ownsRow_lit (base := W.heap.size) (e := 28) (size := 2) W #[.float .f64 0, .float .f64 0, .float .f64 one, .float .f64 0, .float .f64 one, .float .f64 one, .float .f64 0, .float .f64 0] 4 (Nat.le_refl _) (by simp [maxLen]) rfl)⟩, hal⟩
            | 43, _ =>
              obtain ⟨g59, e59', h59⟩ : ∃ g, a.tmps.getD 59 undef = .slice (some ⟨g, 0, none⟩) 4 4 ∧ Rd W 2 (.slice (some ⟨g, 0, none⟩) 4 4) 4 (pc sq) := hdep 42 rfl
              obtain ⟨e59, x59⟩ := Rv.ev e59'
              have cf : ∀ x0 W, (callFunc 17 #[x0]).run Try.prog W = .ok (.enter 17 #[x0]) W := fun _ _ => by kernel_rfl
              refine Rv.step_fn (op := Go.Op.call { callee := Go.Callee.value (Go.Operand.func 17), args := #[Go.Operand.tmp 59], argTypes := #[22] }) (ty := 4) (f := 17) (args := #[.slice (some ⟨g59, 0, none⟩) 4 4]) (R := fun v W' => v = .bool true ∧ Below W.heap.size W W') rfl rfl (fun d pos aft g => by unfold execOp; go_simp) ((geRing_sq _ _ W h59).mono ?_) ?_
              · (rintro e W' ⟨rfl, hb⟩; exact ⟨_, rfl, rfl, hb⟩)
              · (rintro v W' ⟨rfl, hb⟩; exact ⟨_, rfl, rfl, hb⟩)
            | 44, _ =>
              obtain ⟨e54, x54⟩ := Rv.ev (show a.tmps.getD 54 undef = .bool true from hdep 37 rfl)
              obtain ⟨e60, x60⟩ := Rv.ev (show a.tmps.getD 60 undef = .bool true from hdep 43 rfl)
              exact Rv.step_op (op := Go.Op.pick (Go.Operand.tmp 54) (Go.Operand.tmp 60) (Go.Operand.const (Go.Value.bool false))) (v := .bool true) (w1 := W) rfl rfl (fun d pos aft g => by unfold execOp; go_simp) ⟨_, rfl, rfl, Below.refl _ _⟩
            | 45, _ =>
              obtain ⟨e61, x61⟩ := Rv.ev (show a.tmps.getD 61 undef = .bool true from hdep 44 rfl)
              exact Rv.step_op (op := Go.Op.assign (Go.Operand.tmp 61)) (v := .bool true) (w1 := W) rfl rfl (fun d pos aft g => by unfold execOp; go_simp) ⟨_, rfl, rfl, Below.refl _ _⟩
            | m + 46, h => exact absurd h (by show ¬ m + 46 < 46; omega)
          intro W f hf htr
          have f0 : f 0 = .slice (some ⟨b, o, none⟩) ((m + 1) + 1) c2 := hf 0 (by show 0 < 46; omega)
          have f1 : f 1 = ptV (x, y) := hf 1 (by show 1 < 46; omega)
          have f2 : f 2 = .slice (some ⟨b, o, none⟩) ((m + 1) + 1) c2 := hf 2 (by show 2 < 46; omega)
          have f3 : f 3 = .pointer (some ⟨b, o, none⟩) := hf 3 (by show 3 < 46; omega)
          have f4 : f 4 = ptV (x, y) := hf 4 (by show 4 < 46; omega)
          have f5 : f 5 = .bool true := hf 5 (by show 5 < 46; omega)
          have f6 : f 6 = .bool true := hf 6 (by show 6 < 46; omega)
          have f7 : f 7 = .slice (some ⟨b, o, none⟩) ((m + 1) + 1) c2 := hf 7 (by show 7 < 46; omega)
          have f8 : f 8 = ptV (x2, y2) := hf 8 (by show 8 < 46; omega)
          have f9 : f 9 = .slice (some ⟨b, o, none⟩) ((m + 1) + 1) c2 := hf 9 (by show 9 < 46; omega)
          have f10 : f 10 = .int .i64 (((m : Int) + 1) + 1) := hf 10 (by show 10 < 46; omega)
          have f11 : f 11 = .int .i64 ((m : Int) + 1) := hf 11 (by show 11 < 46; omega)
          have f12 : f 12 = .pointer (some ⟨b, o + (m + 1) * 2, none⟩) := hf 12 (by show 12 < 46; omega)
          have f13 : f 13 = ptV (x2, y2) := hf 13 (by show 13 < 46; omega)
          have f14 : f 14 = .bool true := hf 14 (by show 14 < 46; omega)
          have f15 : f 15 = .bool true := hf 15 (by show 15 < 46; omega)
          have f16 : f 16 = .bool true := hf 16 (by show 16 < 46; omega)
          have f17 : f 17 = .slice (some ⟨b, o, none⟩) ((m + 1) + 1) c2 := hf 17 (by show 17 < 46; omega)
          have f18 : f 18 = .bool B := hf 18 (by show 18 < 46; omega)
          have f19 : f 19 = .slice (some ⟨b, o, none⟩) ((m + 1) + 1) c2 := hf 19 (by show 19 < 46; omega)
          have f20 : f 20 = .pointer (some ⟨b, o, none⟩) := hf 20 (by show 20 < 46; omega)
          have f21 : f 21 = ptV (x, y) := hf 21 (by show 21 < 46; omega)
          have f22 : f 22 = .slice (some ⟨b, o, none⟩) ((m + 1) + 1) c2 := hf 22 (by show 22 < 46; omega)
          have f23 : f 23 = .int .i64 (((m : Int) + 1) + 1) := hf 23 (by show 23 < 46; omega)
          have f24 : f 24 = .int .i64 ((m : Int) + 1) := hf 24 (by show 24 < 46; omega)
          have f25 : f 25 = .pointer (some ⟨b, o + (m + 1) * 2, none⟩) := hf 25 (by show 25 < 46; omega)
          have f26 : f 26 = ptV (x2, y2) := hf 26 (by show 26 < 46; omega)
          have f27 : f 27 = .bool B := hf 27 (by show 27 < 46; omega)
          have f28 : f 28 = .bool true := hf 28 (by show 28 < 46; omega)
          have f29 : f 29 = .bool true := hf 29 (by show 29 < 46; omega)
          have f30 : f 30 = .bool true := hf 30 (by show 30 < 46; omega)
          have f31 : f 31 = .slice (some ⟨b, o, none⟩) ((m + 1) + 1) c2 := hf 31 (by show 31 < 46; omega)
          have f32 : f 32 = .bool R := hf 32 (by show 32 < 46; omega)
          have f33 : f 33 = .slice (some ⟨b, o, none⟩) ((m + 1) + 1) c2 := hf 33 (by show 33 < 46; omega)
          have f34 : f 34 = .bool R := hf 34 (by show 34 < 46; omega)
          have f35 : f 35 = .bool true := hf 35 (by show 35 < 46; omega)
          have f36 : f 36 = .bool true := hf 36 (by show 36 < 46; omega)
          have f37 : f 37 = .bool true := hf 37 (by show 37 < 46; omega)
          have f38 : f 38 = .agg #[.float .f64 0, .float .f64 0] := hf 38 (by show 38 < 46; omega)
          have f39 : f 39 = .agg #[.float .f64 one, .float .f64 0] := hf 39 (by show 39 < 46; omega)
          have f40 : f 40 = .agg #[.float .f64 one, .float .f64 one] := hf 40 (by show 40 < 46; omega)
          have f41 : f 41 = .agg #[.float .f64 0, .float .f64 0] := hf 41 (by show 41 < 46; omega)
          have f42 := hf 42 (by show 42 < 46; omega)
          have f43 : f 43 = .bool true := hf 43 (by show 43 < 46; omega)
          have f44 : f 44 = .bool true := hf 44 (by show 44 < 46; omega)
          have f45 : f 45 = .bool true := hf 45 (by show 45 < 46; omega)
          refine (show ∀ (a : Act) (w : World), Code.wp _ _ _ a w → _ from by assumption) _ _ ?_
          refine Rv.fin_swap (L' := [(17, f 0), (18, f 1), (19, f 2), (20, f 3), (21, f 4), (22, f 5), (23, f 6), (24, f 7), (25, f 8), (26, f 9), (27, f 10), (28, f 11), (29, f 12), (30, f 13), (31, f 14), (32, f 15), (33, f 16), (34, f 17), (35, f 18), (36, f 19), (37, f 20), (38, f 21), (39, f 22), (40, f 23), (41, f 24), (42, f 25), (43, f 26), (44, f 27), (45, f 28), (46, f 29), (47, f 30), (48, f 31), (49, f 32), (50, f 33), (51, f 34), (52, f 35), (53, f 36), (54, f 37), (55, f 38), (56, f 39), (57, f 40), (58, f 41), (59, f 42), (60, f 43), (61, f 44), (4, f 45)]) rfl ?_
          rw [f0, f1, f2, f3, f4, f5, f6, f7, f8, f9, f10, f11, f12, f13, f14, f15, f16, f17, f18, f19, f20, f21, f22, f23, f24, f25, f26, f27, f28, f29, f30, f31, f32, f33, f34, f35, f36, f37, f38, f39, f40, f41, f43, f44, f45]
          clear f0 f1 f2 f3 f4 f5 f6 f7 f8 f9 f10 f11 f12 f13 f14 f15 f16 f17 f18 f19 f20 f21 f22 f23 f24 f25 f26 f27 f28 f29 f30 f31 f32 f33 f34 f35 f36 f37 f38 f39 f40 f41 f43 f44 f45
          simp only [Rv.fin, List.foldl_cons, List.foldl_nil, Act.put, List.setIfInBounds_toArray, List.set_cons_succ, List.set_cons_zero]
          go_wp2
          go_ret
          exact ⟨rfl, HBX.out.trans (htr.mono HBX.out.size)⟩
        · exact absurd trivial htt
  · clear hr h64
    go_enter Try.func4, Try.ntmps4
    go_wp2
    go_ret
    exact ⟨rfl, Below.refl _ _⟩
end Go.Proofs.Ytfelbaibbanllaa.Ge
