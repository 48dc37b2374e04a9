/- The matcher goes back where it must. Conditions: the listed tables of unicode/utf8 read as listed; those written at each lemma. -/
import Derived.Test.YtbcclblocagneaaDoorLkv
import Derived.Test.YtbcclblocagneaaDoorRv
import Derived.Deep.Cut
import Derived.Deep.Onto
set_option linter.unusedVariables false
set_option linter.unusedSimpArgs false
set_option maxRecDepth 100000
set_option maxHeartbeats 4000000
namespace Go.Proofs.YtbcclblocagneaaDoor.Lk
open Go.RowKit Go.Proofs.YtbcclblocagneaaDoor.B

def offs (T : List Int) (S : List Nat) : List Value := S.map fun i => .int .i64 (off T i)
theorem offs_get (T : List Int) (S : List Nat) (j : Nat) (h : j < S.length) : (offs T S)[j]? = some (.int .i64 (off T S[j])) := by
  unfold offs
  rw [List.getElem?_map, List.getElem?_eq_getElem h]
  rfl
theorem nds_get (nodes : List Nd) (j : Nat) (h : j < nodes.length) : (nodes.map Nd.v)[j]? = some nodes[j].v := by
  rw [List.getElem?_map, List.getElem?_eq_getElem h]
  rfl
abbrev mt (nv : Value) : Obj := .cells #[nv, wf, .int .i32 92] 85
abbrev mtV (nv : Value) : Value := .agg #[nv, wf, .int .i32 92]
/-- What backtrack answers, and what it leaves. -/
def BackPost (nodes : List Nd) (T : List Int) (S : List Nat) (B g c : Nat) (w : World) (e : Ending) (w' : World) : Prop :=
  (bt nodes S S.length = none ∧ e = .returned (.tuple #[.bool false, .int .i64 0]) ∧ Below w.heap.size w w') ∨
  (∃ k, k < S.length ∧ bt nodes S S.length = some (S.take k ++ [S.getD k 0 + 1]) ∧ e = .returned (.tuple #[.bool true, .int .i64 ((k : Int) + 1)]) ∧
    w'.ownsRow B 3 1 (.slice (some ⟨g, 0, none⟩) S.length c) S.length ((offs T S).set k (.int .i64 (off T (S.getD k 0 + 1)))) ∧ Below g w w')
theorem own_belowL {w w1 : World} {base : Nat} {e : TypeId} {size n : Nat} {v : Value} {xs : List Value} (h : w.ownsRow base e size v n xs) (hb : Below w.heap.size w w1) : w1.ownsRow base e size v n xs := by
  have hl := h.lt
  refine ⟨h.1, ?_⟩
  rcases h.2 with h2 | ⟨g, cap, cur, hv, h1, hg, r⟩
  · exact .inl h2
  · refine .inr ⟨g, cap, cur, hv, h1, ?_, r⟩
    rw [hb.block g (hl g (by rw [hv]; rfl)).2]
    exact hg
theorem own_at {W : World} {B g n c j : Nat} {xs : List Value} {u : Value} (h : W.ownsRow B 3 1 (.slice (some ⟨g, 0, none⟩) n c) n xs) (hu : xs[j]? = some u) : W.cell? ⟨g, j, none⟩ = some u ∧ W.frozen? ⟨g, j, none⟩ = false := by
  have hc := h.cells (g := g) rfl j u hu
  rw [add_plain] at hc
  exact ⟨hc, h.frozenAt j⟩
theorem rd_one {w : World} {A : Option Addr} {n c j : Nat} {cs : List Value} {u : Value} (h : Rd w 1 (.slice A n c) n cs) (hu : cs[j]? = some u) : ∃ b o, A = some ⟨b, o, none⟩ ∧ b < w.heap.size ∧ w.cell? ⟨b, o + j, none⟩ = some u := by
  have hn : 0 < n := by
    have hl := h.len
    rcases Nat.lt_or_ge j cs.length with h1 | h1
    · omega
    · rw [List.getElem?_eq_none h1] at hu; cases hu
  obtain ⟨b, o, c', e, _, _, hb, hc⟩ := h.open hn
  injection e with e1 _ _
  exact ⟨b, o, e1, hb, hc j u hu⟩
theorem back_any (nodes : List Nd) (T : List Int) (S : List Nat) (An : Option Addr) (cn B g c : Nat) (k0 : Int) (w : World) (hT : Tab w) (hab : ∀ r ∈ T, r ∈ AB) (hr : Rd w 1 (.slice An nodes.length cn) nodes.length (nodes.map Nd.v)) (hS : S.length ≤ nodes.length)
    (ho : w.ownsRow B 3 1 (.slice (some ⟨g, 0, none⟩) S.length c) S.length (offs T S)) (hx : ∀ x ∈ S, x < T.length) (hk : k0 = (S.length : Int) - 1 ∨ k0 = (S.length : Int)) (hTl : T.length ≤ 100000) (hNl : nodes.length ≤ 100000) :
    Calls Tryd.prog 67 #[mtV (.slice An nodes.length cn), .string (str T), .int .i64 k0, .slice (some ⟨g, 0, none⟩) S.length c] w (BackPost nodes T S B g c w) := by
  have hgl : g < w.heap.size := (ho.lt g rfl).2
  have hA : Below w.heap.size w (w.alloc (mt (.slice An nodes.length cn))) := (Below.refl _ _).alloc (Nat.le_refl _) _
  have HT := Lib.hid (tab_below hT hA)
  have HR := Lib.hid (hr.below hA)
  have HO := Lib.hid (own_belowL ho hA)
  have HA := Lib.hid hA
  have HM := Lib.hid (heap_alloc_new w (mt (.slice An nodes.length cn)))
  have HX := Lib.hid hx
  have HAB := Lib.hid hab
  have hsz := str_len4 T
  have hs1 : w.heap.size < (w.alloc (mt (.slice An nodes.length cn))).heap.size := by simp
  clear hT hr ho hA hx hab
  generalize hX0 : w.alloc (mt (.slice An nodes.length cn)) = X0 at *
  rcases hk with rfl | rfl
  all_goals
    have HX0 := Lib.hid hX0
    clear hX0
    have hd1 : decide ((S.length : Int) ≤ (S.length : Int) - 1) = false := by simp; omega
    have hd2 : decide ((S.length : Int) ≤ (S.length : Int)) = true := by simp
    go_enter Tryd.func67, Tryd.ntmps67
    go_wp2
    rw [HX0.out]
    go_loopw [2, 10, 11, 12] (fun v2 v10 v11 v12 wr => ∃ k : Nat, v2 = .int .i64 ((k : Int) - 1) ∧ k ≤ S.length ∧ Hid (bt nodes S S.length = bt nodes S k) ∧ Hid (Below X0.heap.size X0 wr)) (fun v2 _ _ _ _ => (intOf v2 + 1).toNat)
    case atStart => exact ⟨S.length, rfl, Nat.le_refl _, Lib.hid rfl, Lib.hid (Below.refl _ _)⟩
    case round =>
      obtain ⟨k, rfl, hk, HBT, HB⟩ := hrel
      by_cases hpos : 0 < k
      · obtain ⟨j, rfl⟩ : ∃ j, k = j + 1 := ⟨k - 1, by omega⟩
        have hj1 : (((j + 1 : Nat) : Int)) - 1 = (j : Int) := by omega
        rw [hj1]
        have hjS : j < S.length := by omega
        have hjn : j < nodes.length := by omega
        have hxl := HX.out _ (List.getElem_mem hjS)
        obtain ⟨s0, t0⟩ := own_at (own_belowL HO.out HB.out) (offs_get T S j hjS)
        have DE := Lib.hid (fun W (hW : Below X0.heap.size X0 W) => dec_at T S[j] W (tab_below HT.out hW) HAB.out hxl)
        have hsl := str_drop T S[j] (Nat.le_of_lt hxl)
        have hol := off_le T S[j] (Nat.le_of_lt hxl)
        have HOS := Lib.hid (off_succ T S[j] hxl)
        have hrune := ab_pos (HAB.out _ (List.getElem_mem hxl))
        have HGD : Hid (S.getD j 0 = S[j]) := Lib.hid (by rw [List.getD_eq_getElem?_getD, List.getElem?_eq_getElem hjS]; rfl)
        have HBK : Hid (bt nodes S (j + 1) = if nodes[j]? = some .any then some (S.take j ++ [S.getD j 0 + 1]) else bt nodes S j) := Lib.hid rfl
        rw [HGD.out, List.getElem?_eq_getElem hjn] at HBK
        obtain ⟨bn, on, rfl, hbn, hcn⟩ := rd_one HR.out (nds_get nodes j hjn)
        have HNJ := Lib.hid hcn
        clear hcn
        generalize nodes[j] = nd at *
        generalize T[S[j]] = r at *
        generalize S[j] = x at *
        generalize (enc r).length = wd at *
        have hr1 : (r == 65533) = false := by rw [beq_eq_false_iff_ne]; omega
        clear hj1
        go_upto_region 9 with (go_at_call 65; (with_reducible refine (DE.out _ HB.out).mono ?_); rintro e w1 ⟨rfl, hb1⟩; have HB1 := Lib.hid (HB.out.trans (hb1.mono HB.out.size)); clear hb1)
        obtain ⟨X, rfl⟩ : ∃ X : World, X = w1 := ⟨_, rfl⟩
        have hs2 := HB1.out.size
        cases nd
        case any =>
          refine Rv.region_goods (n := 54) (by kernel_rfl) #[37, 38, 39, 40, 41, 42, 43, 44, 45] #[] (fun i v W => v = (#[.pointer (some ⟨w.heap.size, 0, none⟩), .slice (some ⟨bn, on, none⟩) nodes.length cn, .int .i64 (j : Int), .pointer (some ⟨bn, on + j, none⟩), .iface 105 (.agg #[]), .pointer (some ⟨w.heap.size, 1, none⟩), wf, .int .i32 r, .bool true] : Array Value).getD i undef) (fun i v w w' h hb => ?_) (fun i h g b hg => ?_) rfl (by kernel_rfl) (by kernel_rfl) (fun i h hr w => ?_) ?_ ?_
          · exact h
          · match i, h, hg with
            | 0, _, hg => cases hg
            | 1, _, hg => cases hg
            | 2, _, hg => cases hg
            | 3, _, hg => cases hg
            | 4, _, hg => cases hg
            | 5, _, hg => cases hg
            | 6, _, hg => cases hg
            | 7, _, hg => cases hg
            | 8, _, hg => cases hg
            | m + 9, h, _ => exact absurd h (by show ¬ m + 9 < 9; omega)
          · match i, h, hr with
            | 0, _, hr => exact Bool.noConfusion (show true = false from hr)
            | 1, _, hr => exact Bool.noConfusion (show true = false from hr)
            | 2, _, hr => exact Bool.noConfusion (show true = false from hr)
            | 3, _, hr => exact Bool.noConfusion (show true = false from hr)
            | 4, _, hr => exact Bool.noConfusion (show true = false from hr)
            | 5, _, hr => exact Bool.noConfusion (show true = false from hr)
            | 6, _, hr => exact Bool.noConfusion (show true = false from hr)
            | 7, _, hr => exact Bool.noConfusion (show true = false from hr)
            | 8, _, hr => exact Bool.noConfusion (show true = false from hr)
            | m + 9, h, _ => exact absurd h (by show ¬ m + 9 < 9; omega)
          · intro i h a W hrun hbase hpre hdep htr
            have HBW := HB1.out.trans (htr.mono hs2)
            have m := (HBW.block w.heap.size hs1).trans HM.out
            have n0 : W.cell? ⟨w.heap.size, 0, none⟩ = some (.slice (some ⟨bn, on, none⟩) nodes.length cn) := by simp [World.cell?, m]
            have n1 : W.cell? ⟨w.heap.size, 1, none⟩ = some wf := by simp [World.cell?, m]
            have q0 : W.cell? ⟨bn, on + j, none⟩ = some (.iface 105 (.agg #[])) := (HBW.cell (p := ⟨bn, on + j, none⟩) hbn).trans HNJ.out
            match i, h with
            | 0, _ =>
              obtain ⟨e4, x4⟩ := Rv.ev (show a.tmps.getD 4 undef = .pointer (some ⟨w.heap.size, 0, none⟩) from hbase 4 rfl)
              exact Rv.step_op (op := Go.Op.fieldAddr 85 (Go.Operand.tmp 4) 0) (v := .pointer (some ⟨w.heap.size, 0, none⟩)) (w1 := W) rfl rfl (fun d pos aft g => by unfold execOp; go_simp) ⟨_, rfl, rfl, Below.refl _ _⟩
            | 1, _ =>
              obtain ⟨e37, x37⟩ := Rv.ev (show a.tmps.getD 37 undef = .pointer (some ⟨w.heap.size, 0, none⟩) from hdep 0 rfl)
              exact Rv.step_op (op := Go.Op.load 83 (Go.Operand.tmp 37)) (v := .slice (some ⟨bn, on, none⟩) nodes.length cn) (w1 := W) rfl rfl (fun d pos aft g => by unfold execOp; go_simp) ⟨_, rfl, rfl, Below.refl _ _⟩
            | 2, _ =>
              obtain ⟨e2, x2⟩ := Rv.ev (show a.tmps.getD 2 undef = .int .i64 (j : Int) from hbase 2 rfl)
              exact Rv.step_op (op := Go.Op.move (Go.Operand.tmp 2)) (v := .int .i64 (j : Int)) (w1 := W) rfl rfl (fun d pos aft g => by unfold execOp; go_simp) ⟨_, rfl, rfl, Below.refl _ _⟩
            | 3, _ =>
              obtain ⟨e38, x38⟩ := Rv.ev (show a.tmps.getD 38 undef = .slice (some ⟨bn, on, none⟩) nodes.length cn from hdep 1 rfl)
              obtain ⟨e39, x39⟩ := Rv.ev (show a.tmps.getD 39 undef = .int .i64 (j : Int) from hdep 2 rfl)
              exact Rv.step_op (op := Go.Op.indexAddr 83 (Go.Operand.tmp 38) (Go.Operand.tmp 39)) (v := .pointer (some ⟨bn, on + j, none⟩)) (w1 := W) rfl rfl (fun d pos aft g => by unfold execOp; go_simp) ⟨_, rfl, rfl, Below.refl _ _⟩
            | 4, _ =>
              obtain ⟨e40, x40⟩ := Rv.ev (show a.tmps.getD 40 undef = .pointer (some ⟨bn, on + j, none⟩) from hdep 3 rfl)
              exact Rv.step_op (op := Go.Op.load 110 (Go.Operand.tmp 40)) (v := .iface 105 (.agg #[])) (w1 := W) rfl rfl (fun d pos aft g => by unfold execOp; go_simp) ⟨_, rfl, rfl, Below.refl _ _⟩
            | 5, _ =>
              obtain ⟨e4, x4⟩ := Rv.ev (show a.tmps.getD 4 undef = .pointer (some ⟨w.heap.size, 0, none⟩) from hbase 4 rfl)
              exact Rv.step_op (op := Go.Op.fieldAddr 85 (Go.Operand.tmp 4) 1) (v := .pointer (some ⟨w.heap.size, 1, none⟩)) (w1 := W) rfl rfl (fun d pos aft g => by unfold execOp; go_simp) ⟨_, rfl, rfl, Below.refl _ _⟩
            | 6, _ =>
              obtain ⟨e42, x42⟩ := Rv.ev (show a.tmps.getD 42 undef = .pointer (some ⟨w.heap.size, 1, none⟩) from hdep 5 rfl)
              exact Rv.step_op (op := Go.Op.load 82 (Go.Operand.tmp 42)) (v := wf) (w1 := W) rfl rfl (fun d pos aft g => by unfold execOp; go_simp) ⟨_, rfl, rfl, Below.refl _ _⟩
            | 7, _ =>
              obtain ⟨e11, x11⟩ := Rv.ev (show a.tmps.getD 11 undef = .int .i32 r from hbase 11 rfl)
              exact Rv.step_op (op := Go.Op.move (Go.Operand.tmp 11)) (v := .int .i32 r) (w1 := W) rfl rfl (fun d pos aft g => by unfold execOp; go_simp) ⟨_, rfl, rfl, Below.refl _ _⟩
            | 8, _ =>
              obtain ⟨e41, x41⟩ := Rv.ev (show a.tmps.getD 41 undef = .iface 105 (.agg #[]) from hdep 4 rfl)
              obtain ⟨e43, x43⟩ := Rv.ev (show a.tmps.getD 43 undef = wf from hdep 6 rfl)
              obtain ⟨e44, x44⟩ := Rv.ev (show a.tmps.getD 44 undef = .int .i32 r from hdep 7 rfl)
              have hm : ∀ W, (Go.method 258 105 (.agg #[]) "MatchNext").run Tryd.prog W = .ok (108, .agg #[]) W := fun _ => by kernel_rfl
              have cf : ∀ x0 x1 x2 W, (callFunc 108 #[x0, x1, x2]).run Tryd.prog W = .ok (.enter 108 #[x0, x1, x2]) W := fun _ _ _ _ => by kernel_rfl
              refine Rv.step_fn (op := Go.Op.call { callee := Go.Callee.invoke (Go.Operand.tmp 41) "MatchNext", args := #[Go.Operand.tmp 43, Go.Operand.tmp 44], argTypes := #[82, 21] }) (ty := 4) (f := 108) (args := #[.agg #[], wf, .int .i32 r]) (R := fun v W' => v = .bool true ∧ Below W.heap.size W W') rfl rfl (fun d pos aft g => by unfold execOp; go_simp) ((anyNext r W).mono ?_) ?_
              · (rintro e W' ⟨rfl, hb⟩; exact ⟨_, rfl, rfl, hb⟩)
              · (rintro v W' ⟨rfl, hb⟩; exact ⟨_, rfl, rfl, hb⟩)
            | m + 9, h => exact absurd h (by show ¬ m + 9 < 9; omega)
          intro W f hf htr
          have f0 : f 0 = .pointer (some ⟨w.heap.size, 0, none⟩) := hf 0 (by show 0 < 9; omega)
          have f1 : f 1 = .slice (some ⟨bn, on, none⟩) nodes.length cn := hf 1 (by show 1 < 9; omega)
          have f2 : f 2 = .int .i64 (j : Int) := hf 2 (by show 2 < 9; omega)
          have f3 : f 3 = .pointer (some ⟨bn, on + j, none⟩) := hf 3 (by show 3 < 9; omega)
          have f4 : f 4 = .iface 105 (.agg #[]) := hf 4 (by show 4 < 9; omega)
          have f5 : f 5 = .pointer (some ⟨w.heap.size, 1, none⟩) := hf 5 (by show 5 < 9; omega)
          have f6 : f 6 = wf := hf 6 (by show 6 < 9; omega)
          have f7 : f 7 = .int .i32 r := hf 7 (by show 7 < 9; omega)
          have f8 : f 8 = .bool true := hf 8 (by show 8 < 9; omega)
          refine (show ∀ (a : Act) (w : World), Code.wp _ _ _ a w → _ from by assumption) _ _ ?_
          refine Rv.fin_swap (L' := [(37, f 0), (38, f 1), (39, f 2), (40, f 3), (41, f 4), (42, f 5), (43, f 6), (44, f 7), (45, f 8)]) rfl ?_
          rw [f0, f1, f2, f3, f4, f5, f6, f7, f8]
          clear f0 f1 f2 f3 f4 f5 f6 f7 f8
          simp only [Rv.fin, List.foldl_cons, List.foldl_nil, Act.put, List.setIfInBounds_toArray, List.set_cons_succ, List.set_cons_zero]
          have HBW := Lib.hid (HB1.out.trans (htr.mono hs2))
          clear htr
          obtain ⟨s1, t1⟩ := own_at (own_belowL HO.out HBW.out) (offs_get T S j hjS)
          have HO2 := Lib.hid ((own_belowL HO.out HBW.out).stored j (.int .i64 (off T (x + 1)))).1
          have hb2 := off_le T (x + 1) hxl
          have hb3 : ((off T (x + 1) : Nat) : Int) ≤ 400000 := by omega
          have hov : ((off T x : Nat) : Int) + ((wd : Nat) : Int) = ((off T (x + 1) : Nat) : Int) := by rw [HOS.out]; omega
          have HBF := Lib.hid (((HA.out.mono (Nat.le_of_lt hgl)).trans (HBW.out.mono (by omega))).setCell (p := ⟨g, j, none⟩) (Nat.le_refl _) (.int .i64 (off T (x + 1))))
          rw [if_pos rfl] at HBK
          go_wp2
          go_ret2
          exact .inr ⟨j, hjS, by rw [HGD.out]; exact HBT.out.trans HBK.out, rfl, by rw [HGD.out]; exact HO2.out, HBF.out⟩
        case one r0 =>
          refine Rv.region_goods (n := 54) (by kernel_rfl) #[37, 38, 39, 40, 41, 42, 43, 44, 45] #[] (fun i v W => v = (#[.pointer (some ⟨w.heap.size, 0, none⟩), .slice (some ⟨bn, on, none⟩) nodes.length cn, .int .i64 (j : Int), .pointer (some ⟨bn, on + j, none⟩), .iface 104 (.agg #[.int .i32 r0, .int .i32 r0]), .pointer (some ⟨w.heap.size, 1, none⟩), wf, .int .i32 r, .bool false] : Array Value).getD i undef) (fun i v w w' h hb => ?_) (fun i h g b hg => ?_) rfl (by kernel_rfl) (by kernel_rfl) (fun i h hr w => ?_) ?_ ?_
          · exact h
          · match i, h, hg with
            | 0, _, hg => cases hg
            | 1, _, hg => cases hg
            | 2, _, hg => cases hg
            | 3, _, hg => cases hg
            | 4, _, hg => cases hg
            | 5, _, hg => cases hg
            | 6, _, hg => cases hg
            | 7, _, hg => cases hg
            | 8, _, hg => cases hg
            | m + 9, h, _ => exact absurd h (by show ¬ m + 9 < 9; omega)
          · match i, h, hr with
            | 0, _, hr => exact Bool.noConfusion (show true = false from hr)
            | 1, _, hr => exact Bool.noConfusion (show true = false from hr)
            | 2, _, hr => exact Bool.noConfusion (show true = false from hr)
            | 3, _, hr => exact Bool.noConfusion (show true = false from hr)
            | 4, _, hr => exact Bool.noConfusion (show true = false from hr)
            | 5, _, hr => exact Bool.noConfusion (show true = false from hr)
            | 6, _, hr => exact Bool.noConfusion (show true = false from hr)
            | 7, _, hr => exact Bool.noConfusion (show true = false from hr)
            | 8, _, hr => exact Bool.noConfusion (show true = false from hr)
            | m + 9, h, _ => exact absurd h (by show ¬ m + 9 < 9; omega)
          · intro i h a W hrun hbase hpre hdep htr
            have HBW := HB1.out.trans (htr.mono hs2)
            have m := (HBW.block w.heap.size hs1).trans HM.out
            have n0 : W.cell? ⟨w.heap.size, 0, none⟩ = some (.slice (some ⟨bn, on, none⟩) nodes.length cn) := by simp [World.cell?, m]
            have n1 : W.cell? ⟨w.heap.size, 1, none⟩ = some wf := by simp [World.cell?, m]
            have q0 : W.cell? ⟨bn, on + j, none⟩ = some (.iface 104 (.agg #[.int .i32 r0, .int .i32 r0])) := (HBW.cell (p := ⟨bn, on + j, none⟩) hbn).trans HNJ.out
            match i, h with
            | 0, _ =>
              obtain ⟨e4, x4⟩ := Rv.ev (show a.tmps.getD 4 undef = .pointer (some ⟨w.heap.size, 0, none⟩) from hbase 4 rfl)
              exact Rv.step_op (op := Go.Op.fieldAddr 85 (Go.Operand.tmp 4) 0) (v := .pointer (some ⟨w.heap.size, 0, none⟩)) (w1 := W) rfl rfl (fun d pos aft g => by unfold execOp; go_simp) ⟨_, rfl, rfl, Below.refl _ _⟩
            | 1, _ =>
              obtain ⟨e37, x37⟩ := Rv.ev (show a.tmps.getD 37 undef = .pointer (some ⟨w.heap.size, 0, none⟩) from hdep 0 rfl)
              exact Rv.step_op (op := Go.Op.load 83 (Go.Operand.tmp 37)) (v := .slice (some ⟨bn, on, none⟩) nodes.length cn) (w1 := W) rfl rfl (fun d pos aft g => by unfold execOp; go_simp) ⟨_, rfl, rfl, Below.refl _ _⟩
            | 2, _ =>
              obtain ⟨e2, x2⟩ := Rv.ev (show a.tmps.getD 2 undef = .int .i64 (j : Int) from hbase 2 rfl)
              exact Rv.step_op (op := Go.Op.move (Go.Operand.tmp 2)) (v := .int .i64 (j : Int)) (w1 := W) rfl rfl (fun d pos aft g => by unfold execOp; go_simp) ⟨_, rfl, rfl, Below.refl _ _⟩
            | 3, _ =>
              obtain ⟨e38, x38⟩ := Rv.ev (show a.tmps.getD 38 undef = .slice (some ⟨bn, on, none⟩) nodes.length cn from hdep 1 rfl)
              obtain ⟨e39, x39⟩ := Rv.ev (show a.tmps.getD 39 undef = .int .i64 (j : Int) from hdep 2 rfl)
              exact Rv.step_op (op := Go.Op.indexAddr 83 (Go.Operand.tmp 38) (Go.Operand.tmp 39)) (v := .pointer (some ⟨bn, on + j, none⟩)) (w1 := W) rfl rfl (fun d pos aft g => by unfold execOp; go_simp) ⟨_, rfl, rfl, Below.refl _ _⟩
            | 4, _ =>
              obtain ⟨e40, x40⟩ := Rv.ev (show a.tmps.getD 40 undef = .pointer (some ⟨bn, on + j, none⟩) from hdep 3 rfl)
              exact Rv.step_op (op := Go.Op.load 110 (Go.Operand.tmp 40)) (v := .iface 104 (.agg #[.int .i32 r0, .int .i32 r0])) (w1 := W) rfl rfl (fun d pos aft g => by unfold execOp; go_simp) ⟨_, rfl, rfl, Below.refl _ _⟩
            | 5, _ =>
              obtain ⟨e4, x4⟩ := Rv.ev (show a.tmps.getD 4 undef = .pointer (some ⟨w.heap.size, 0, none⟩) from hbase 4 rfl)
              exact Rv.step_op (op := Go.Op.fieldAddr 85 (Go.Operand.tmp 4) 1) (v := .pointer (some ⟨w.heap.size, 1, none⟩)) (w1 := W) rfl rfl (fun d pos aft g => by unfold execOp; go_simp) ⟨_, rfl, rfl, Below.refl _ _⟩
            | 6, _ =>
              obtain ⟨e42, x42⟩ := Rv.ev (show a.tmps.getD 42 undef = .pointer (some ⟨w.heap.size, 1, none⟩) from hdep 5 rfl)
              exact Rv.step_op (op := Go.Op.load 82 (Go.Operand.tmp 42)) (v := wf) (w1 := W) rfl rfl (fun d pos aft g => by unfold execOp; go_simp) ⟨_, rfl, rfl, Below.refl _ _⟩
            | 7, _ =>
              obtain ⟨e11, x11⟩ := Rv.ev (show a.tmps.getD 11 undef = .int .i32 r from hbase 11 rfl)
              exact Rv.step_op (op := Go.Op.move (Go.Operand.tmp 11)) (v := .int .i32 r) (w1 := W) rfl rfl (fun d pos aft g => by unfold execOp; go_simp) ⟨_, rfl, rfl, Below.refl _ _⟩
            | 8, _ =>
              obtain ⟨e41, x41⟩ := Rv.ev (show a.tmps.getD 41 undef = .iface 104 (.agg #[.int .i32 r0, .int .i32 r0]) from hdep 4 rfl)
              obtain ⟨e43, x43⟩ := Rv.ev (show a.tmps.getD 43 undef = wf from hdep 6 rfl)
              obtain ⟨e44, x44⟩ := Rv.ev (show a.tmps.getD 44 undef = .int .i32 r from hdep 7 rfl)
              have hm : ∀ W, (Go.method 258 104 (.agg #[.int .i32 r0, .int .i32 r0]) "MatchNext").run Tryd.prog W = .ok (106, .agg #[.int .i32 r0, .int .i32 r0]) W := fun _ => by kernel_rfl
              have cf : ∀ x0 x1 x2 W, (callFunc 106 #[x0, x1, x2]).run Tryd.prog W = .ok (.enter 106 #[x0, x1, x2]) W := fun _ _ _ _ => by kernel_rfl
              refine Rv.step_fn (op := Go.Op.call { callee := Go.Callee.invoke (Go.Operand.tmp 41) "MatchNext", args := #[Go.Operand.tmp 43, Go.Operand.tmp 44], argTypes := #[82, 21] }) (ty := 4) (f := 106) (args := #[.agg #[.int .i32 r0, .int .i32 r0], wf, .int .i32 r]) (R := fun v W' => v = .bool false ∧ Below W.heap.size W W') rfl rfl (fun d pos aft g => by unfold execOp; go_simp) ((oneNext r0 r W).mono ?_) ?_
              · (rintro e W' ⟨rfl, hb⟩; exact ⟨_, rfl, rfl, hb⟩)
              · (rintro v W' ⟨rfl, hb⟩; exact ⟨_, rfl, rfl, hb⟩)
            | m + 9, h => exact absurd h (by show ¬ m + 9 < 9; omega)
          intro W f hf htr
          have f0 : f 0 = .pointer (some ⟨w.heap.size, 0, none⟩) := hf 0 (by show 0 < 9; omega)
          have f1 : f 1 = .slice (some ⟨bn, on, none⟩) nodes.length cn := hf 1 (by show 1 < 9; omega)
          have f2 : f 2 = .int .i64 (j : Int) := hf 2 (by show 2 < 9; omega)
          have f3 : f 3 = .pointer (some ⟨bn, on + j, none⟩) := hf 3 (by show 3 < 9; omega)
          have f4 : f 4 = .iface 104 (.agg #[.int .i32 r0, .int .i32 r0]) := hf 4 (by show 4 < 9; omega)
          have f5 : f 5 = .pointer (some ⟨w.heap.size, 1, none⟩) := hf 5 (by show 5 < 9; omega)
          have f6 : f 6 = wf := hf 6 (by show 6 < 9; omega)
          have f7 : f 7 = .int .i32 r := hf 7 (by show 7 < 9; omega)
          have f8 : f 8 = .bool false := hf 8 (by show 8 < 9; omega)
          refine (show ∀ (a : Act) (w : World), Code.wp _ _ _ a w → _ from by assumption) _ _ ?_
          refine Rv.fin_swap (L' := [(37, f 0), (38, f 1), (39, f 2), (40, f 3), (41, f 4), (42, f 5), (43, f 6), (44, f 7), (45, f 8)]) rfl ?_
          rw [f0, f1, f2, f3, f4, f5, f6, f7, f8]
          clear f0 f1 f2 f3 f4 f5 f6 f7 f8
          simp only [Rv.fin, List.foldl_cons, List.foldl_nil, Act.put, List.setIfInBounds_toArray, List.set_cons_succ, List.set_cons_zero]
          have HBW := Lib.hid (HB1.out.trans (htr.mono hs2))
          clear htr
          rw [if_neg (by intro h; cases h)] at HBK
          go_wp2
          go_roundw
          case rel => exact ⟨j, rfl, by omega, Lib.hid (HBT.out.trans HBK.out), HBW⟩
          case measure => simp [intOf]
      · obtain rfl : k = 0 := by omega
        have HB0 := Lib.hid (HBT.out.trans (show bt nodes S 0 = none from rfl))
        have HBF := Lib.hid (HA.out.trans (HB.out.mono HA.out.size))
        go_wp2
        go_ret2
        exact .inl ⟨HB0.out, rfl, HBF.out⟩
end Go.Proofs.YtbcclblocagneaaDoor.Lk
