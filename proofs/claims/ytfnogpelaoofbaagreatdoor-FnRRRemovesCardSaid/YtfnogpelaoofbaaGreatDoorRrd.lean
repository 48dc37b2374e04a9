/- What two ranges of several columns have in common, as the program and the thin package have it. Conditions: those written at each lemma. -/
import Derived.Test.YtfnogpelaoofbaaGreatDoorRrc
import Derived.Test.YtfnogpelaoofbaaGreatDoorSuf
set_option linter.unusedVariables false
set_option linter.unusedSimpArgs false
set_option maxRecDepth 100000
set_option maxHeartbeats 8000000
namespace Go.Proofs.YtfnogpelaoofbaaGreatDoor.Rg
open Go.RowKit Go.Proofs.YtfnogpelaoofbaaGreatDoor.B Go.Proofs.YtfnogpelaoofbaaGreatDoor.Sp

theorem try_cl (a b : Cl) (w : World) (pa : Pcl a) (pb : Pcl b) :
    Calls Tryz.prog 77 #[exI (ctOf a.a a.x).tid (ctOf a.a a.x).inner (ctOf a.b a.y).tid (ctOf a.b a.y).inner, exI (ctOf b.a b.x).tid (ctOf b.a b.x).inner (ctOf b.b b.y).tid (ctOf b.b b.y).inner] w
      fun e w' => e = .returned (.tuple #[exI (ctOf (rs a b).a (rs a b).x).tid (ctOf (rs a b).a (rs a b).x).inner (ctOf (rs a b).b (rs a b).y).tid (ctOf (rs a b).b (rs a b).y).inner, .bool (decide ((mtc a b).lo < (mtc a b).hi)), .nilIface]) ∧ Below w.heap.size w w' := by
  have h := try_ct (ctOf a.a a.x) (ctOf a.b a.y) (ctOf b.a b.x) (ctOf b.b b.y) w
  rw [tiY_eq pa pb] at h
  have e : exV (tiL (ctOf a.a a.x) (ctOf a.b a.y) (ctOf b.a b.x) (ctOf b.b b.y)) (tiU (ctOf a.a a.x) (ctOf a.b a.y) (ctOf b.a b.x) (ctOf b.b b.y)) = exV (ctOf (rs a b).a (rs a b).x) (ctOf (rs a b).b (rs a b).y) := by
    unfold tiL tiU
    rw [tiY_eq pa pb, mx_eq pa pb, mn_eq pa pb]
    by_cases hy : (mtc a b).lo < (mtc a b).hi
    · rw [if_pos (decide_eq_true hy), if_pos (decide_eq_true hy), rs_yes hy]
    · rw [if_neg (by simpa using hy), if_neg (by simpa using hy), rs_no hy]; rfl
  rw [e] at h
  simp only [ex_eq] at h
  exact h
/-- Have two ranges of several columns something in common? -/
def allM (p q : List Cl) : Bool := (p.zip q).all fun c => decide ((mtc c.1 c.2).lo < (mtc c.1 c.2).hi)
def isect (p q : List Cl) : List Cl := if allM p q = true then meetL p q else p.map fun _ => ⟨4, 0, 4, 0⟩
theorem isect_yes {p q : List Cl} (h : allM p q = true) : isect p q = meetL p q := if_pos h
theorem isect_no {p q : List Cl} (h : allM p q = false) : isect p q = p.map fun _ => ⟨4, 0, 4, 0⟩ := if_neg (by simp [h])
theorem isect_len {p q : List Cl} (h : p.length = q.length) : (isect p q).length = p.length := by
  unfold isect
  split
  · rw [meetL_len]; omega
  · rw [List.length_map]
theorem isect_pcl {p q : List Cl} (ha : ∀ c ∈ p, Pcl c) (hb : ∀ c ∈ q, Pcl c) : ∀ c ∈ isect p q, Pcl c := by
  unfold isect
  split
  · exact meetL_pcl ha hb
  · intro c hc
    obtain ⟨_, _, rfl⟩ := List.mem_map.1 hc
    exact aa_pcl
theorem inter_any (v u : Value) (p q : List Cl) (w : World) (hr : Rd w 3 v p.length (exs p)) (hu : Rd w 3 u q.length (exs q)) (ha : ∀ c ∈ p, Pcl c) (hb : ∀ c ∈ q, Pcl c) (hlen : p.length = q.length) (hl : p.length ≤ 100000) :
    Calls Tryz.prog 61 #[v, u] w fun e w' => ∃ A c, e = .returned (.tuple #[.slice A p.length c, .nilIface]) ∧ Rd w' 3 (.slice A p.length c) p.length (exs (isect p q)) ∧ Below w.heap.size w w' := by
  obtain ⟨A, c, rfl, hlc, hcm⟩ := hr.shape
  obtain ⟨A2, c2, rfl, hlc2, hcm2⟩ := hu.shape
  have HR := Lib.hid hr
  have HU := Lib.hid hu
  have PA := Lib.hid ha
  have PB := Lib.hid hb
  have HLQ := Lib.hid hlen
  obtain ⟨i0, hi, hz0, hz1, hz2⟩ := info_parts info64
  have hmk : ∀ W, (Instr.makeSlice 63 (.int .i64 (p.length : Int)) (.int .i64 (p.length : Int))).run Tryz.prog W = .ok (.slice (some ⟨W.heap.size, 0, none⟩) p.length p.length) (W.alloc (.cells (madeCells #[.nilIface, .nilIface, .nilIface] (p.length * 3)) 92)) := fun W => by
    have h := run_make (P := Tryz.prog) W 63 92 i0 (.agg #[.nilIface, .nilIface, .nilIface]) Tryz.underlying63 hi hz0 .i64 .i64 p.length p.length (by omega) (Int.le_refl _) (by rw [hz2]; omega) (by omega)
    rw [hz1, Int.toNat_natCast] at h
    exact h
  have HO0 : Hid ((w.alloc (.cells (madeCells #[.nilIface, .nilIface, .nilIface] (p.length * 3)) 92)).ownsRow w.heap.size 92 3 (.slice (some ⟨w.heap.size, 0, none⟩) p.length p.length) p.length (fill (meetL p q) 0 p.length)) := Lib.hid (by
    have h := World.ownsRow_lit (base := w.heap.size) (e := 92) (size := 3) w (madeCells #[.nilIface, .nilIface, .nilIface] (p.length * 3)) p.length (Nat.le_refl _) (by simp [maxLen]; omega) (size_madeCells _ _)
    rwa [made_three, ← fill_zero (meetL p q)] at h)
  have HB0 : Hid (Below w.heap.size w (w.alloc (.cells (madeCells #[.nilIface, .nilIface, .nilIface] (p.length * 3)) 92))) := Lib.hid ((Below.refl _ _).alloc (Nat.le_refl _) _)
  have hML := Lib.hid (show (meetL p q).length = p.length from by rw [meetL_len]; omega)
  obtain ⟨res, hres⟩ : ∃ res, isect p q = res := ⟨_, rfl⟩
  rw [hres]
  have HS := Lib.hid hres
  have hne : ((p.length : Int) != (q.length : Int)) = false := by simp [hlen]
  clear hr hu ha hb hi hz0 hz1 hz2 hlen hres
  go_enter Tryz.func61, Tryz.ntmps61
  go_wp2
  go_loopw [7, 8, 9, 10, 21] (fun v7 v8 v9 v10 v21 wr => ∃ (k : Nat), v21 = .int .i64 k ∧ k ≤ p.length ∧ Hid ((((p.zip q).take k).all fun c => decide ((mtc c.1 c.2).lo < (mtc c.1 c.2).hi)) = true) ∧ Hid (wr.ownsRow w.heap.size 92 3 (.slice (some ⟨w.heap.size, 0, none⟩) p.length p.length) p.length (fill (meetL p q) k p.length)) ∧ Hid (Below w.heap.size w wr)) (fun _ _ _ _ v21 _ => (p.length - (intOf v21)).toNat)
  case atStart => exact ⟨0, rfl, Nat.zero_le _, Lib.hid rfl, HO0, HB0⟩
  case round =>
    obtain ⟨k, rfl, hk, HN, HO, HB⟩ := hrel
    have hbs := HB.out.size
    clear HO0 HB0
    by_cases hlt : k < p.length
    · have hlt2 : k < q.length := by rw [← HLQ.out]; exact hlt
      obtain ⟨b1, o1, rfl, hb1, c0, c1, c2'⟩ := rd_ex HR.out k hlt
      obtain ⟨b2, o2, rfl, hb2, d0, d1, d2⟩ := rd_ex HU.out k hlt2
      have TR := Lib.hid (fun W => try_cl p[k] q[k] W (PA.out _ (List.getElem_mem hlt)) (PB.out _ (List.getElem_mem hlt2)))
      have hz : k < (p.zip q).length := by rw [List.length_zip]; omega
      have hml : k < (meetL p q).length := by rw [hML.out]; exact hlt
      have HM := Lib.hid (show (((p.zip q).take (k + 1)).all fun c => decide ((mtc c.1 c.2).lo < (mtc c.1 c.2).hi)) = decide ((mtc p[k] q[k]).lo < (mtc p[k] q[k]).hi) from by rw [take_snocA _ k hz, List.all_append, HN.out, List.getElem_zip]; simp)
      have HF := Lib.hid (show decide ((mtc p[k] q[k]).lo < (mtc p[k] q[k]).hi) = false → allM p q = false from fun h => by
        unfold allM
        rw [← List.take_append_drop (k + 1) (p.zip q), List.all_append, HM.out, h, Bool.false_and])
      have hgm : (meetL p q)[k] = mtc p[k] q[k] := by
        have h1 : (meetL p q)[k]? = some (mtc p[k] q[k]) := by
          unfold meetL
          rw [List.getElem?_zipWith, List.getElem?_eq_getElem hlt, List.getElem?_eq_getElem hlt2]
        rw [List.getElem?_eq_getElem hml] at h1
        exact Option.some.inj h1
      have HFS := fill_set (meetL p q) k p.length hml hlt
      rw [hgm] at HFS
      have HG := Lib.hid (fun j (hj : j < 3) => fill_get (meetL p q) k p.length j (Nat.le_of_lt hml) hlt hj)
      have HY := Lib.hid (fun (h : decide ((mtc p[k] q[k]).lo < (mtc p[k] q[k]).hi) = true) => rs_yes (of_decide_eq_true h))
      clear hz hml hgm
      generalize rs p[k] q[k] = R at *
      generalize mtc p[k] q[k] = M at *
      generalize p[k] = P at *
      generalize q[k] = Q at *
      obtain ⟨yes, hyes⟩ : ∃ yes, decide (M.lo < M.hi) = yes := ⟨_, rfl⟩
      rw [hyes] at TR HM HF HY
      have HFS := Lib.hid HFS
      have HRM : Hid (yes = true → R = M) := Lib.hid HY.out
      clear hyes HY
      generalize (ctOf P.a P.x).tid = t1 at *
      generalize (ctOf P.a P.x).inner = i1 at *
      generalize (ctOf P.b P.y).tid = t2 at *
      generalize (ctOf P.b P.y).inner = i2 at *
      generalize (ctOf Q.a Q.x).tid = t3 at *
      generalize (ctOf Q.a Q.x).inner = i3 at *
      generalize (ctOf Q.b Q.y).tid = t4 at *
      generalize (ctOf Q.b Q.y).inner = i4 at *
      have hno : ∀ (v : Bool) (W : World), (Op.unary .not (.bool v)).run Tryz.prog W = .ok (.bool (!v)) W := fun _ _ => rfl
      go_upto_region 7 with fail
      obtain ⟨X, rfl⟩ : ∃ X : World, X = wr := ⟨_, rfl⟩
      obtain ⟨r1, hr1⟩ : ∃ x, (ctOf R.a R.x).tid = x := ⟨_, rfl⟩
      obtain ⟨j1, hj1⟩ : ∃ x, (ctOf R.a R.x).inner = x := ⟨_, rfl⟩
      obtain ⟨r2, hr2⟩ : ∃ x, (ctOf R.b R.y).tid = x := ⟨_, rfl⟩
      obtain ⟨j2, hj2⟩ : ∃ x, (ctOf R.b R.y).inner = x := ⟨_, rfl⟩
      rw [hr1, hj1, hr2, hj2] at TR
      have HR1 := Lib.hid hr1
      have HJ1 := Lib.hid hj1
      have HR2 := Lib.hid hr2
      have HJ2 := Lib.hid hj2
      clear hr1 hj1 hr2 hj2
      refine Rv.region_fin (n := 50) (by kernel_rfl) #[25, 26, 27, 28, 29, 30, 31, 32, 33, 24, 34, 35, 36, 8, 1014, 9, 10] #[] (fun i f W => if i = 14 then (fun f W => ∃ g, f 13 = .pointer (some ⟨g, 0, none⟩) ∧ W.heap[g]? = some (.cells #[.iface r1 j1, .iface r2 j2, tv] 92 (0, 0))) f W else if i = 13 then (fun f W => ∃ g, f 13 = .pointer (some ⟨g, 0, none⟩) ∧ W.heap[g]? = some (.cells #[.nilIface, .nilIface, .nilIface] 92 (0, 0))) f W else f i = (#[.slice (some ⟨b1, o1, none⟩) p.length c, .int .i64 (k : Int), .pointer (some ⟨b1, o1 + k * 3, none⟩), exI t1 i1 t2 i2, .slice (some ⟨b2, o2, none⟩) q.length c2, .int .i64 (k : Int), .pointer (some ⟨b2, o2 + k * 3, none⟩), exI t3 i3 t4 i4, .tuple #[exI r1 j1 r2 j2, .bool yes, .nilIface], .tuple #[exI r1 j1 r2 j2, .bool yes, .nilIface], exI r1 j1 r2 j2, .bool yes, .nilIface, undef, undef, .bool yes, .nilIface] : Array Value).getD i undef) (fun i j => (i == 14 && (j == 13))) (fun i => i == 14) (fun i f W W' => if i = 14 then (fun f W W' => ∃ g, f 13 = .pointer (some ⟨g, 0, none⟩) ∧ Rv.But g W W') f W W' else True) (fun W => Below X.heap.size X W) (fun _ => True) (Rv.One 13 X.heap.size) (Rv.One.loc (by show 13 < 17; omega)) (fun i f f' w hi h hd hg => ?_) (fun i j f w w' hi hj hij hK hdp h hr => ?_) (fun i h g b hg => ?_) rfl (by kernel_rfl) (fun i h g b hg => ?_) ((Below.refl _ _).drew) (trivial) (fun f => Rv.One.start) (fun i h hr f w hf => ?_) (fun i h hr => absurd hr (Rv.allrun (by kernel_rfl) i h)) ?_ ?_
      · by_cases hi1014 : i = 14
        · subst hi1014
          rw [if_pos rfl] at hg ⊢
          obtain ⟨g, q1, q2⟩ := hg
          exact ⟨g, (hd 13 rfl).symm.trans q1, q2⟩
        rw [if_neg hi1014] at hg ⊢
        by_cases hi8 : i = 13
        · subst hi8
          rw [if_pos rfl] at hg ⊢
          obtain ⟨g, q1, q2⟩ := hg
          exact ⟨g, h.symm.trans q1, q2⟩
        rw [if_neg hi8] at hg ⊢
        rw [← h]; exact hg
      · by_cases hj1014 : j = 14
        · subst hj1014
          rw [if_pos rfl] at h ⊢
          rcases hr with ⟨hK1, hr⟩ | hr
          · exfalso
            exact hij (by simpa using hK1)
          · obtain ⟨g, e, hb⟩ := h
            exact ⟨g, e, (hr.block _ (Rv.lt_of_blk hb)).trans hb⟩
        rw [if_neg hj1014] at h ⊢
        by_cases hj8 : j = 13
        · subst hj8
          rw [if_pos rfl] at h ⊢
          rcases hr with ⟨hK1, hr⟩ | hr
          · exfalso
            have e : i = 14 := by simpa using hK1
            subst e
            revert hK
            decide
          · obtain ⟨g, e, hb⟩ := h
            exact ⟨g, e, (hr.block _ (Rv.lt_of_blk hb)).trans hb⟩
        rw [if_neg hj8] at h ⊢
        exact h
      · match i, h, hg with
        | 0, _, hg => cases hg
        | 1, _, hg => cases hg
        | 2, _, hg => cases hg
        | 3, _, hg => cases hg
        | 4, _, hg => cases hg
        | 5, _, hg => cases hg
        | 6, _, hg => cases hg
        | 7, _, hg => cases hg
        | 8, _, hg => cases hg
        | 9, _, hg => cases hg
        | 10, _, hg => cases hg
        | 11, _, hg => cases hg
        | 12, _, hg => cases hg
        | 13, _, hg => cases hg
        | 14, _, hg => cases hg
        | 15, _, hg => cases hg
        | 16, _, hg => cases hg
        | m + 17, h, _ => exact absurd h (by show ¬ m + 17 < 17; omega)
      · match i, h, hg with
        | 0, _, hg => cases hg
        | 1, _, hg => cases hg
        | 2, _, hg => cases hg
        | 3, _, hg => cases hg
        | 4, _, hg => cases hg
        | 5, _, hg => cases hg
        | 6, _, hg => cases hg
        | 7, _, hg => cases hg
        | 8, _, hg => cases hg
        | 9, _, hg => cases hg
        | 10, _, hg => cases hg
        | 11, _, hg => cases hg
        | 12, _, hg => cases hg
        | 13, _, hg => cases hg
        | 14, _, hg => cases hg
        | 15, _, hg => cases hg
        | 16, _, hg => cases hg
        | m + 17, h, _ => exact absurd h (by show ¬ m + 17 < 17; omega)
      · match i, h, hr, hf with
        | 0, _, hr, _ => exact Bool.noConfusion (show true = false from hr)
        | 1, _, hr, _ => exact Bool.noConfusion (show true = false from hr)
        | 2, _, hr, _ => exact Bool.noConfusion (show true = false from hr)
        | 3, _, hr, _ => exact Bool.noConfusion (show true = false from hr)
        | 4, _, hr, _ => exact Bool.noConfusion (show true = false from hr)
        | 5, _, hr, _ => exact Bool.noConfusion (show true = false from hr)
        | 6, _, hr, _ => exact Bool.noConfusion (show true = false from hr)
        | 7, _, hr, _ => exact Bool.noConfusion (show true = false from hr)
        | 8, _, hr, _ => exact Bool.noConfusion (show true = false from hr)
        | 9, _, hr, _ => exact Bool.noConfusion (show true = false from hr)
        | 10, _, hr, _ => exact Bool.noConfusion (show true = false from hr)
        | 11, _, hr, _ => exact Bool.noConfusion (show true = false from hr)
        | 12, _, hr, _ => exact Bool.noConfusion (show true = false from hr)
        | 13, _, hr, _ => exact Bool.noConfusion (show true = false from hr)
        | 14, _, hr, _ => exact Bool.noConfusion (show true = false from hr)
        | 15, _, hr, _ => exact Bool.noConfusion (show true = false from hr)
        | 16, _, hr, _ => exact Bool.noConfusion (show true = false from hr)
        | m + 17, h, _, _ => exact absurd h (by show ¬ m + 17 < 17; omega)
      · intro i h a W hrun hbase hpre hdep htr hta hJ
        have HBW := HB.out.trans (htr.mono HB.out.size)
        have q0 := (HBW.cell (p := ⟨b1, o1 + k * 3, none⟩) hb1).trans c0
        have q1 := (HBW.cell (p := ⟨b1, o1 + k * 3 + 1, none⟩) hb1).trans c1
        have q2 := (HBW.cell (p := ⟨b1, o1 + k * 3 + 2, none⟩) hb1).trans c2'
        have s0 := (HBW.cell (p := ⟨b2, o2 + k * 3, none⟩) hb2).trans d0
        have s1 := (HBW.cell (p := ⟨b2, o2 + k * 3 + 1, none⟩) hb2).trans d1
        have s2 := (HBW.cell (p := ⟨b2, o2 + k * 3 + 2, none⟩) hb2).trans d2
        match i, h with
        | 0, _ =>
          obtain ⟨e0, x0⟩ := Rv.ev (show a.tmps.getD 0 undef = .slice (some ⟨b1, o1, none⟩) p.length c from hbase 0 rfl)
          exact Rv.step_op (op := Go.Op.move (Go.Operand.tmp 0)) (v := .slice (some ⟨b1, o1, none⟩) p.length c) (w1 := W) rfl rfl (fun d pos aft g => by unfold execOp; go_simp) ⟨_, rfl, rfl, .inr (Below.refl _ _), htr, fun _ ht => ht, fun L _ hJ => Rv.One.keep (by decide) _ (Nat.le_refl _) hJ⟩
        | 1, _ =>
          obtain ⟨e7, x7⟩ := Rv.ev (show a.tmps.getD 7 undef = .int .i64 (k : Int) from hbase 7 rfl)
          exact Rv.step_op (op := Go.Op.move (Go.Operand.tmp 7)) (v := .int .i64 (k : Int)) (w1 := W) rfl rfl (fun d pos aft g => by unfold execOp; go_simp) ⟨_, rfl, rfl, .inr (Below.refl _ _), htr, fun _ ht => ht, fun L _ hJ => Rv.One.keep (by decide) _ (Nat.le_refl _) hJ⟩
        | 2, _ =>
          obtain ⟨e25, x25⟩ := Rv.ev (show a.tmps.getD 25 undef = .slice (some ⟨b1, o1, none⟩) p.length c from hdep 0 rfl rfl)
          obtain ⟨e26, x26⟩ := Rv.ev (show a.tmps.getD 26 undef = .int .i64 (k : Int) from hdep 1 rfl rfl)
          exact Rv.step_op (op := Go.Op.indexAddr 63 (Go.Operand.tmp 25) (Go.Operand.tmp 26)) (v := .pointer (some ⟨b1, o1 + k * 3, none⟩)) (w1 := W) rfl rfl (fun d pos aft g => by unfold execOp; go_simp) ⟨_, rfl, rfl, .inr (Below.refl _ _), htr, fun _ ht => ht, fun L _ hJ => Rv.One.keep (by decide) _ (Nat.le_refl _) hJ⟩
        | 3, _ =>
          obtain ⟨e27, x27⟩ := Rv.ev (show a.tmps.getD 27 undef = .pointer (some ⟨b1, o1 + k * 3, none⟩) from hdep 2 rfl rfl)
          exact Rv.step_op (op := Go.Op.load 92 (Go.Operand.tmp 27)) (v := exI t1 i1 t2 i2) (w1 := W) rfl rfl (fun d pos aft g => by unfold execOp; go_simp) ⟨_, rfl, rfl, .inr (Below.refl _ _), htr, fun _ ht => ht, fun L _ hJ => Rv.One.keep (by decide) _ (Nat.le_refl _) hJ⟩
        | 4, _ =>
          obtain ⟨e1, x1⟩ := Rv.ev (show a.tmps.getD 1 undef = .slice (some ⟨b2, o2, none⟩) q.length c2 from hbase 1 rfl)
          exact Rv.step_op (op := Go.Op.move (Go.Operand.tmp 1)) (v := .slice (some ⟨b2, o2, none⟩) q.length c2) (w1 := W) rfl rfl (fun d pos aft g => by unfold execOp; go_simp) ⟨_, rfl, rfl, .inr (Below.refl _ _), htr, fun _ ht => ht, fun L _ hJ => Rv.One.keep (by decide) _ (Nat.le_refl _) hJ⟩
        | 5, _ =>
          obtain ⟨e7, x7⟩ := Rv.ev (show a.tmps.getD 7 undef = .int .i64 (k : Int) from hbase 7 rfl)
          exact Rv.step_op (op := Go.Op.move (Go.Operand.tmp 7)) (v := .int .i64 (k : Int)) (w1 := W) rfl rfl (fun d pos aft g => by unfold execOp; go_simp) ⟨_, rfl, rfl, .inr (Below.refl _ _), htr, fun _ ht => ht, fun L _ hJ => Rv.One.keep (by decide) _ (Nat.le_refl _) hJ⟩
        | 6, _ =>
          obtain ⟨e29, x29⟩ := Rv.ev (show a.tmps.getD 29 undef = .slice (some ⟨b2, o2, none⟩) q.length c2 from hdep 4 rfl rfl)
          obtain ⟨e30, x30⟩ := Rv.ev (show a.tmps.getD 30 undef = .int .i64 (k : Int) from hdep 5 rfl rfl)
          exact Rv.step_op (op := Go.Op.indexAddr 63 (Go.Operand.tmp 29) (Go.Operand.tmp 30)) (v := .pointer (some ⟨b2, o2 + k * 3, none⟩)) (w1 := W) rfl rfl (fun d pos aft g => by unfold execOp; go_simp) ⟨_, rfl, rfl, .inr (Below.refl _ _), htr, fun _ ht => ht, fun L _ hJ => Rv.One.keep (by decide) _ (Nat.le_refl _) hJ⟩
        | 7, _ =>
          obtain ⟨e31, x31⟩ := Rv.ev (show a.tmps.getD 31 undef = .pointer (some ⟨b2, o2 + k * 3, none⟩) from hdep 6 rfl rfl)
          exact Rv.step_op (op := Go.Op.load 92 (Go.Operand.tmp 31)) (v := exI t3 i3 t4 i4) (w1 := W) rfl rfl (fun d pos aft g => by unfold execOp; go_simp) ⟨_, rfl, rfl, .inr (Below.refl _ _), htr, fun _ ht => ht, fun L _ hJ => Rv.One.keep (by decide) _ (Nat.le_refl _) hJ⟩
        | 8, _ =>
          obtain ⟨e28, x28⟩ := Rv.ev (show a.tmps.getD 28 undef = exI t1 i1 t2 i2 from hdep 3 rfl rfl)
          obtain ⟨e32, x32⟩ := Rv.ev (show a.tmps.getD 32 undef = exI t3 i3 t4 i4 from hdep 7 rfl rfl)
          have cf : ∀ x0 x1 W, (callFunc 77 #[x0, x1]).run Tryz.prog W = .ok (.enter 77 #[x0, x1]) W := fun _ _ _ => by kernel_rfl
          refine Rv.step_fn (op := Go.Op.call { callee := Go.Callee.value (Go.Operand.func 77), args := #[Go.Operand.tmp 28, Go.Operand.tmp 32], argTypes := #[92, 92] }) (f := 77) (args := #[exI t1 i1 t2 i2, exI t3 i3 t4 i4]) (R := fun v W' => v = .tuple #[exI r1 j1 r2 j2, .bool yes, .nilIface] ∧ Below W.heap.size W W') rfl rfl (fun d pos aft g => by unfold execOp; go_simp) ((TR.out W).mono ?_) ?_
          · (rintro e W' ⟨rfl, hb⟩; exact ⟨_, rfl, rfl, hb⟩)
          · (rintro v W' ⟨rfl, hb⟩; exact ⟨_, rfl, rfl, .inr hb, (fun W W' ht hb => ht.trans (hb.mono ht.size)) W W' htr hb, fun _ ht => (fun _ _ _ _ => trivial) W W' ht hb, fun L _ hJ => Rv.One.keep (by decide) _ (hb.size) hJ⟩)
        | 9, _ =>
          obtain ⟨e33, x33⟩ := Rv.ev (show a.tmps.getD 33 undef = .tuple #[exI r1 j1 r2 j2, .bool yes, .nilIface] from hdep 8 rfl rfl)
          exact Rv.step_op (op := Go.Op.move (Go.Operand.tmp 33)) (v := .tuple #[exI r1 j1 r2 j2, .bool yes, .nilIface]) (w1 := W) rfl rfl (fun d pos aft g => by unfold execOp; go_simp) ⟨_, rfl, rfl, .inr (Below.refl _ _), htr, fun _ ht => ht, fun L _ hJ => Rv.One.keep (by decide) _ (Nat.le_refl _) hJ⟩
        | 10, _ =>
          obtain ⟨e24, x24⟩ := Rv.ev (show a.tmps.getD 24 undef = .tuple #[exI r1 j1 r2 j2, .bool yes, .nilIface] from hdep 9 rfl rfl)
          exact Rv.step_op (op := Go.Op.extract (Go.Operand.tmp 24) 0) (v := exI r1 j1 r2 j2) (w1 := W) rfl rfl (fun d pos aft g => by unfold execOp; go_simp) ⟨_, rfl, rfl, .inr (Below.refl _ _), htr, fun _ ht => ht, fun L _ hJ => Rv.One.keep (by decide) _ (Nat.le_refl _) hJ⟩
        | 11, _ =>
          obtain ⟨e24, x24⟩ := Rv.ev (show a.tmps.getD 24 undef = .tuple #[exI r1 j1 r2 j2, .bool yes, .nilIface] from hdep 9 rfl rfl)
          exact Rv.step_op (op := Go.Op.extract (Go.Operand.tmp 24) 1) (v := .bool yes) (w1 := W) rfl rfl (fun d pos aft g => by unfold execOp; go_simp) ⟨_, rfl, rfl, .inr (Below.refl _ _), htr, fun _ ht => ht, fun L _ hJ => Rv.One.keep (by decide) _ (Nat.le_refl _) hJ⟩
        | 12, _ =>
          obtain ⟨e24, x24⟩ := Rv.ev (show a.tmps.getD 24 undef = .tuple #[exI r1 j1 r2 j2, .bool yes, .nilIface] from hdep 9 rfl rfl)
          exact Rv.step_op (op := Go.Op.extract (Go.Operand.tmp 24) 2) (v := .nilIface) (w1 := W) rfl rfl (fun d pos aft g => by unfold execOp; go_simp) ⟨_, rfl, rfl, .inr (Below.refl _ _), htr, fun _ ht => ht, fun L _ hJ => Rv.One.keep (by decide) _ (Nat.le_refl _) hJ⟩
        | 13, _ =>
          have hal : Below W.heap.size W (W.alloc (.cells #[.nilIface, .nilIface, .nilIface] 92)) := (Below.refl _ _).alloc (Nat.le_refl _) _
          exact Rv.step_op (op := Go.Op.alloc 92) (ty := 0) (v := .pointer (some ⟨W.heap.size, 0, none⟩)) (w1 := W.alloc (.cells #[.nilIface, .nilIface, .nilIface] 92)) rfl rfl (fun d pos aft g => by unfold execOp; go_simp) ⟨_, rfl, ⟨W.heap.size, rfl, heap_alloc_new W _⟩, .inr hal, htr.trans (hal.mono htr.size), fun _ ht => ht, fun L _ hJ => Rv.One.new htr.size (by simp) hJ⟩
        | 14, _ =>
          obtain ⟨g8, e8', h8⟩ : ∃ g, a.tmps.getD 8 undef = .pointer (some ⟨g, 0, none⟩) ∧ W.heap[g]? = some (.cells #[.nilIface, .nilIface, .nilIface] 92 (0, 0)) := hdep 13 rfl rfl
          obtain ⟨e8, x8⟩ := Rv.ev e8'
          obtain ⟨e34, x34⟩ := Rv.ev (show a.tmps.getD 34 undef = exI r1 j1 r2 j2 from hdep 10 rfl rfl)
          obtain ⟨L, _, hL, hJ2⟩ := hJ
          have hge : X.heap.size ≤ g8 := by
            obtain ⟨g, eg, hge, _⟩ := hJ2 (hL 13 rfl)
            have eg2 : Value.pointer (some ⟨g, 0, none⟩) = .pointer (some ⟨g8, 0, none⟩) := eg.symm.trans e8'
            injection eg2 with eg2
            injection eg2 with eg2
            injection eg2 with eg2
            omega
          obtain ⟨k0, k1, k2⟩ := Rv.cells3 h8
          obtain ⟨m0, m1, m2⟩ := Rv.frozen3 h8
          exact Rv.step_skip (op := Go.Op.store 92 (Go.Operand.tmp 8) (Go.Operand.tmp 34)) (ty := 0) (w1 := (((W.setCell ⟨g8, 0, none⟩ (.iface r1 j1)).setCell ⟨g8, 1, none⟩ (.iface r2 j2)).setCell ⟨g8, 2, none⟩ (tv))) rfl rfl (fun d pos aft g => by unfold execOp; go_simp) ⟨undef, rfl, ⟨g8, e8', Rv.sets3 h8 _ _ _⟩, .inl ⟨rfl, g8, e8', Rv.buts3 g8 W _ _ _⟩, Rv.belows3 htr hge _ _ _, (fun h _ => by cases h), fun L _ hJ => Rv.One.keep (by decide) _ ((Rv.buts3 g8 W _ _ _).1) hJ⟩
        | 15, _ =>
          obtain ⟨e35, x35⟩ := Rv.ev (show a.tmps.getD 35 undef = .bool yes from hdep 11 rfl rfl)
          exact Rv.step_op (op := Go.Op.assign (Go.Operand.tmp 35)) (v := .bool yes) (w1 := W) rfl rfl (fun d pos aft g => by unfold execOp; go_simp) ⟨_, rfl, rfl, .inr (Below.refl _ _), htr, fun _ ht => ht, fun L _ hJ => Rv.One.keep (by decide) _ (Nat.le_refl _) hJ⟩
        | 16, _ =>
          obtain ⟨e36, x36⟩ := Rv.ev (show a.tmps.getD 36 undef = .nilIface from hdep 12 rfl rfl)
          exact Rv.step_op (op := Go.Op.assign (Go.Operand.tmp 36)) (v := .nilIface) (w1 := W) rfl rfl (fun d pos aft g => by unfold execOp; go_simp) ⟨_, rfl, rfl, .inr (Below.refl _ _), htr, fun _ ht => ht, fun L _ hJ => Rv.One.keep (by decide) _ (Nat.le_refl _) hJ⟩
        | m + 17, h => exact absurd h (by show ¬ m + 17 < 17; omega)
      intro W f hf htr hJ
      have f0 : f 0 = .slice (some ⟨b1, o1, none⟩) p.length c := hf 0 (by show 0 < 17; omega) rfl
      have f1 : f 1 = .int .i64 (k : Int) := hf 1 (by show 1 < 17; omega) rfl
      have f2 : f 2 = .pointer (some ⟨b1, o1 + k * 3, none⟩) := hf 2 (by show 2 < 17; omega) rfl
      have f3 : f 3 = exI t1 i1 t2 i2 := hf 3 (by show 3 < 17; omega) rfl
      have f4 : f 4 = .slice (some ⟨b2, o2, none⟩) q.length c2 := hf 4 (by show 4 < 17; omega) rfl
      have f5 : f 5 = .int .i64 (k : Int) := hf 5 (by show 5 < 17; omega) rfl
      have f6 : f 6 = .pointer (some ⟨b2, o2 + k * 3, none⟩) := hf 6 (by show 6 < 17; omega) rfl
      have f7 : f 7 = exI t3 i3 t4 i4 := hf 7 (by show 7 < 17; omega) rfl
      have f8 : f 8 = .tuple #[exI r1 j1 r2 j2, .bool yes, .nilIface] := hf 8 (by show 8 < 17; omega) rfl
      have f9 : f 9 = .tuple #[exI r1 j1 r2 j2, .bool yes, .nilIface] := hf 9 (by show 9 < 17; omega) rfl
      have f10 : f 10 = exI r1 j1 r2 j2 := hf 10 (by show 10 < 17; omega) rfl
      have f11 : f 11 = .bool yes := hf 11 (by show 11 < 17; omega) rfl
      have f12 : f 12 = .nilIface := hf 12 (by show 12 < 17; omega) rfl
      have HS14 := Lib.hid (show (fun f W => ∃ g, f 13 = .pointer (some ⟨g, 0, none⟩) ∧ W.heap[g]? = some (.cells #[.iface r1 j1, .iface r2 j2, tv] 92 (0, 0))) f W from hf 14 (by show 14 < 17; omega) rfl)
      have f15 : f 15 = .bool yes := hf 15 (by show 15 < 17; omega) rfl
      have f16 : f 16 = .nilIface := hf 16 (by show 16 < 17; omega) rfl
      clear hf
      refine (show ∀ (a : Act) (w : World), Code.wp _ _ _ a w → _ from by assumption) _ _ ?_
      refine Rv.fin_swap (L' := [(25, f 0), (26, f 1), (27, f 2), (28, f 3), (29, f 4), (30, f 5), (31, f 6), (32, f 7), (33, f 8), (24, f 9), (34, f 10), (35, f 11), (36, f 12), (8, f 13), (1014, f 14), (9, f 15), (10, f 16)]) rfl ?_
      rw [f0, f1, f2, f3, f4, f5, f6, f7, f8, f9, f10, f11, f12, f15, f16]
      clear f0 f1 f2 f3 f4 f5 f6 f7 f8 f9 f10 f11 f12 f15 f16
      simp only [Rv.fin, List.foldl_cons, List.foldl_nil, Act.put, List.setIfInBounds_toArray, List.set_cons_succ, List.set_cons_zero, List.set_nil]
      obtain ⟨g8, e13, hg8⟩ := HS14.out
      obtain ⟨g8', q8, hge8, _⟩ := hJ rfl
      rw [e13] at q8
      injection q8 with q8; injection q8 with q8; injection q8 with q8; subst q8
      rw [e13]
      clear e13 HS14 hJ
      have HO1 := Lib.hid (own_below HO.out htr)
      have HB1 := Lib.hid (HB.out.trans (htr.mono hbs))
      have H8 := Lib.hid hg8
      have hge : w.heap.size ≤ g8 := Nat.le_trans hbs hge8
      clear htr hg8
      cases yes
      · have hall := HF.out rfl
        have hres : p.map (fun _ => (⟨4, 0, 4, 0⟩ : Cl)) = res := by rw [← HS.out]; exact (isect_no hall).symm
        have HRE := Lib.hid hres
        clear hall hres hmk
        go_wp2_with (go_at_call 78; (with_reducible refine (asempty_any _ p _ (HR.out.below HB1.out) hl).mono ?_); rintro e w9 ⟨A9, c9, rfl, hr9, hb9⟩; have R9 := Lib.hid hr9; have HB9 := Lib.hid (HB1.out.trans (hb9.mono HB1.out.size)); clear hr9 hb9)
        go_ret2
        exact ⟨A9, c9, rfl, by rw [← HRE.out]; exact R9.out, HB9.out⟩
      · obtain rfl : R = M := HRM.out rfl
        obtain ⟨k0, k1, k2⟩ := Rv.cells3 H8.out
        obtain ⟨s0, t0⟩ := own_cell (j := k * 3) HO1.out (HG.out 0 (by omega))
        obtain ⟨s1, t1'⟩ := own_cell HO1.out (HG.out 1 (by omega))
        obtain ⟨s2, t2'⟩ := own_cell HO1.out (HG.out 2 (by omega))
        have HO2 := Lib.hid (own_store3 HO1.out (k * 3) (k * 3 + 1) (k * 3 + 2) (.iface r1 j1) (.iface r2 j2) tv)
        have HFS2 := HFS.out
        rw [HR1.out, HJ1.out, HR2.out, HJ2.out] at HFS2
        rw [HFS2] at HO2
        have HB2 := Lib.hid (((HB1.out.setCell (p := ⟨w.heap.size, k * 3, none⟩) (Nat.le_refl _) (.iface r1 j1)).setCell (p := ⟨w.heap.size, k * 3 + 1, none⟩) (Nat.le_refl _) (.iface r2 j2)).setCell (p := ⟨w.heap.size, k * 3 + 2, none⟩) (Nat.le_refl _) tv)
        clear HFS2 HFS hmk
        go_wp2
        go_roundw
        case rel => exact ⟨k + 1, by go_num, by omega, HM, HO2, HB2⟩
        case measure => simp [intOf]; omega
    · obtain rfl : k = p.length := by omega
      rw [List.take_of_length_le (by rw [List.length_zip]; omega)] at HN
      have hf := fill_all (meetL p q)
      rw [hML.out] at hf
      rw [hf] at HO
      have hres : meetL p q = res := by rw [← HS.out]; exact (isect_yes HN.out).symm
      have HRE := Lib.hid hres
      clear hres hf hmk
      go_wp2
      go_ret2
      exact ⟨_, _, rfl, by rw [← HRE.out]; exact Rd.of_own HO.out, HB.out⟩
end Go.Proofs.YtfnogpelaoofbaaGreatDoor.Rg
