/- What ranges of several columns have in common: the program's way. Conditions: those written at each lemma. -/
import Derived.Test.YtfnogpelaoofbaaGreatDoorRrb
set_option linter.unusedVariables false
set_option linter.unusedSimpArgs false
set_option maxRecDepth 100000
set_option maxHeartbeats 4000000
namespace Go.Proofs.YtfnogpelaoofbaaGreatDoor.Rg
open Go.RowKit Go.Proofs.YtfnogpelaoofbaaGreatDoor.B Go.Proofs.YtfnogpelaoofbaaGreatDoor.Sp

theorem info64 : (Tryz.prog.info? 92).map (fun i => (i.zero, i.size, i.bytes)) = some (some (.agg #[.nilIface, .nilIface, .nilIface]), 3, 48) := by kernel_rfl
theorem exs_one (c : Cl) : exs [c] = [.iface (ctOf c.a c.x).tid (ctOf c.a c.x).inner, .iface (ctOf c.b c.y).tid (ctOf c.b c.y).inner, tv] := rfl
theorem exs_cell : ∀ cs : List Cl, ∀ u ∈ exs cs, u.oneCell' = true
  | [], u, h => by cases h
  | c :: r, u, h => by
    rw [exs, List.mem_append] at h
    rcases h with h | h
    · simp at h
      rcases h with rfl | rfl | rfl <;> rfl
    · exact exs_cell r u h
theorem turned_exs (v : Value) (cs : List Cl) (w : World) (hr : Rd w 4 v cs.length (clc cs)) (hp : ∀ c ∈ cs, Pcl c) (hl : cs.length ≤ 100000) :
    Calls Tryz.prog 46 #[v, .func (.func 47) #[] #[]] w fun e w' => ∃ v', e = .returned v' ∧ w'.ownsRow w.heap.size 92 3 v' cs.length (exs cs) ∧ Below w.heap.size w w' := by
  obtain ⟨A, c, rfl, hlc, hcm⟩ := hr.shape
  have HR := Lib.hid hr
  have HP := Lib.hid hp
  clear hr hp
  go_enter Tryz.func46, Tryz.ntmps46
  go_wp2
  go_loopw [5, 10] (fun v5 v10 wr => ∃ (k : Nat), v10 = .int .i64 k ∧ k ≤ cs.length ∧ Hid (wr.ownsRow w.heap.size 92 3 v5 k (exs (cs.take k))) ∧ Hid (Below w.heap.size w wr)) (fun _ v10 _ => (cs.length - (intOf v10)).toNat)
  case atStart => exact ⟨0, rfl, Nat.zero_le _, Lib.hid (World.ownsRow_nil _ _ _ _), Lib.hid (Below.refl _ _)⟩
  case round =>
    obtain ⟨k, rfl, hk, HO, HB⟩ := hrel
    have hbs := HB.out.size
    by_cases hlt : k < cs.length
    · obtain ⟨b, o, rfl, hb, c0, c1, c2, c3⟩ := rd_cl HR.out k hlt
      have d0 := (HB.out.cell (p := ⟨b, o + k * 4, none⟩) hb).trans c0
      have d1 := (HB.out.cell (p := ⟨b, o + k * 4 + 1, none⟩) hb).trans c1
      have d2 := (HB.out.cell (p := ⟨b, o + k * 4 + 2, none⟩) hb).trans c2
      have d3 := (HB.out.cell (p := ⟨b, o + k * 4 + 3, none⟩) hb).trans c3
      have CO := fun W => expr_any cs[k].a cs[k].x cs[k].b cs[k].y W (HP.out _ (List.getElem_mem hlt)).1.1 (HP.out _ (List.getElem_mem hlt)).1.2.1 (HP.out _ (List.getElem_mem hlt)).2.1 (HP.out _ (List.getElem_mem hlt)).2.2.1
      simp only [ex_eq] at CO
      have CO := Lib.hid CO
      have HM := Lib.hid (show exs (cs.take (k + 1)) = exs (cs.take k) ++ exs [cs[k]] from by rw [take_snocA cs k hlt, exs_append])
      clear c0 c1 c2 c3
      generalize cs[k] = C at *
      rw [exs_one] at HM
      generalize (ctOf C.a C.x).tid = t1 at *
      generalize (ctOf C.a C.x).inner = i1 at *
      generalize (ctOf C.b C.y).tid = t2 at *
      generalize (ctOf C.b C.y).inner = i2 at *
      have HBA := Lib.hid (HB.out.alloc hbs (cl4 C))
      have HOA := Lib.hid (own_below HO.out ((Below.refl _ _).alloc (Nat.le_refl _) (cl4 C)))
      go_wp2_with (first
        | (go_at_call 47; (with_reducible refine (CO.out _).mono ?_); rintro e w1 ⟨rfl, hb1⟩; have HB1 := Lib.hid (HBA.out.trans (hb1.mono HBA.out.size)); have HO1 := Lib.hid (own_below HOA.out hb1); clear hb1)
        | (at_builtin; go_loud (refine app1 (w0 := w) w.heap.size rfl (.tmp 14) (.tmp 18) 62 92 (.agg #[.nilIface, .nilIface, .nilIface]) 3 48 rfl Tryz.underlying62 info64 rfl (by omega) (by omega) u5 _ _ #[.iface t1 i1, .iface t2 i2, tv] rfl rfl rfl (by simp [Value.oneCell']) HO1.out HB1.out HB1.out.size (by omega) ?_); intro v3 w3 hown3 hb3 hg3 _; have HO3 := Lib.hid hown3; have HB3 := Lib.hid hb3; clear hown3 hb3 hg3))
      go_roundw
      case rel => exact ⟨k + 1, by go_num, by omega, Lib.hid (by rw [HM.out]; exact HO3.out), HB3⟩
      case measure => simp [intOf]; omega
    · obtain rfl : k = cs.length := by omega
      rw [List.take_length] at HO
      go_wp2
      go_ret
      exact ⟨_, rfl, HO.out, HB.out⟩
theorem exprs_any (v : Value) (cs : List Cl) (w : World) (hr : Rd w 4 v cs.length (clc cs)) (hp : ∀ c ∈ cs, Pcl c) (hl : cs.length ≤ 100000) :
    Calls Tryz.prog 25 #[v] w fun e w' => ∃ A c, e = .returned (.slice A cs.length c) ∧ Rd w' 3 (.slice A cs.length c) cs.length (exs cs) ∧ Below w.heap.size w w' := by
  have T := Lib.hid (turned_exs v cs w hr hp hl)
  clear hr hp
  go_enter Tryz.func25, Tryz.ntmps25
  go_wp2_with (go_at_call 46; (with_reducible refine T.out.mono ?_); rintro e w1 ⟨v', rfl, ho, hb⟩; have HO := Lib.hid (Rd.of_own ho); have HB := Lib.hid hb; clear ho hb)
  obtain ⟨A, c, rfl, _⟩ := HO.out.shape
  go_ret
  exact ⟨A, c, rfl, HO.out, HB.out⟩
theorem cols_any (v : Value) (cs : List Cl) (w : World) (hr : Rd w 3 v cs.length (exs cs)) (hp : ∀ c ∈ cs, Pcl c) (hl : cs.length ≤ 100000) :
    Calls Tryz.prog 28 #[v] w fun e w' => ∃ v', e = .returned v' ∧ w'.ownsRow w.heap.size 54 4 v' cs.length (clc cs) ∧ Below w.heap.size w w' := by
  have T := Lib.hid (turned_cols v cs w hr hp hl)
  clear hr hp
  go_enter Tryz.func28, Tryz.ntmps28
  go_wp2_with (go_at_call 54; (with_reducible refine T.out.mono ?_); rintro e w1 ⟨v', rfl, ho, hb⟩; have HO := Lib.hid ho; have HB := Lib.hid hb; clear ho hb)
  go_ret
  exact ⟨v', rfl, HO.out, HB.out⟩

/-! ### rows that are filled one by one -/
theorem made_three (n : Nat) : (madeCells #[.nilIface, .nilIface, .nilIface] n).toList = List.replicate n .nilIface := by
  apply List.ext_getElem?
  intro j
  by_cases hj : j < n
  · have h3 : j % 3 = 0 ∨ j % 3 = 1 ∨ j % 3 = 2 := by omega
    rcases h3 with h3 | h3 | h3 <;> simp [madeCells, hj, h3]
  · simp [madeCells, hj]
/-- The row when k of n ranges are in it. -/
def fill (cs : List Cl) (k n : Nat) : List Value := exs (cs.take k) ++ List.replicate ((n - k) * 3) .nilIface
theorem fill_zero (cs : List Cl) (n : Nat) : fill cs 0 n = List.replicate (n * 3) .nilIface := rfl
theorem fill_all (cs : List Cl) : fill cs cs.length cs.length = exs cs := by unfold fill; rw [List.take_length, Nat.sub_self]; simp
theorem fill_len (cs : List Cl) (k n : Nat) (h : k ≤ cs.length) (h2 : k ≤ n) : (fill cs k n).length = n * 3 := by
  unfold fill
  rw [List.length_append, exs_len, List.length_take, List.length_replicate]
  omega
theorem fill_get (cs : List Cl) (k n j : Nat) (h : k ≤ cs.length) (h2 : k < n) (hj : j < 3) : (fill cs k n)[k * 3 + j]? = some .nilIface := by
  unfold fill
  have hl : (exs (cs.take k)).length = k * 3 := by rw [exs_len, List.length_take]; omega
  rw [List.getElem?_append_right (by omega), hl, List.getElem?_replicate, if_pos (by omega)]
theorem fill_set (cs : List Cl) (k n : Nat) (h : k < cs.length) (h2 : k < n) :
    (((fill cs k n).set (k * 3) (.iface (ctOf cs[k].a cs[k].x).tid (ctOf cs[k].a cs[k].x).inner)).set (k * 3 + 1) (.iface (ctOf cs[k].b cs[k].y).tid (ctOf cs[k].b cs[k].y).inner)).set (k * 3 + 2) tv = fill cs (k + 1) n := by
  unfold fill
  have hl : (exs (cs.take k)).length = k * 3 := by rw [exs_len, List.length_take]; omega
  have e : (n - k) * 3 = (n - (k + 1)) * 3 + 1 + 1 + 1 := by omega
  rw [take_snocA cs k h, exs_append, exs_one, e, List.replicate_succ, List.replicate_succ, List.replicate_succ]
  rw [List.set_append_right _ _ (by omega), List.set_append_right _ _ (by omega), List.set_append_right _ _ (by omega), hl]
  have e0 : k * 3 - k * 3 = 0 := by omega
  have e1 : k * 3 + 1 - k * 3 = 1 := by omega
  have e2 : k * 3 + 2 - k * 3 = 2 := by omega
  rw [e0, e1, e2]
  simp
theorem own_cell {W : World} {B g n c j : Nat} {xs : List Value} {u : Value} (h : W.ownsRow B 92 3 (.slice (some ⟨g, 0, none⟩) n c) n xs) (hu : xs[j]? = some u) : W.cell? ⟨g, j, none⟩ = some u ∧ W.frozen? ⟨g, j, none⟩ = false := by
  have hc := h.cells (g := g) rfl j u hu
  rw [add_plain] at hc
  exact ⟨hc, h.frozenAt j⟩
/-- Three cells are stored. -/
theorem own_store3 {W : World} {B g n c : Nat} {xs : List Value} (h : W.ownsRow B 92 3 (.slice (some ⟨g, 0, none⟩) n c) n xs) (j0 j1 j2 : Nat) (a b d : Value) :
    (((W.setCell ⟨g, j0, none⟩ a).setCell ⟨g, j1, none⟩ b).setCell ⟨g, j2, none⟩ d).ownsRow B 92 3 (.slice (some ⟨g, 0, none⟩) n c) n (((xs.set j0 a).set j1 b).set j2 d) :=
  (((h.stored j0 a).1.stored j1 b).1.stored j2 d).1
theorem asempty_any (v : Value) (cs : List Cl) (w : World) (hr : Rd w 3 v cs.length (exs cs)) (hl : cs.length ≤ 100000) :
    Calls Tryz.prog 78 #[v] w fun e w' => ∃ A c, e = .returned (.slice A cs.length c) ∧ Rd w' 3 (.slice A cs.length c) cs.length (exs (cs.map fun _ => ⟨4, 0, 4, 0⟩)) ∧ Below w.heap.size w w' := by
  obtain ⟨A, c, rfl, hlc, hcm⟩ := hr.shape
  have HR := Lib.hid hr
  obtain ⟨i0, hi, hz0, hz1, hz2⟩ := info_parts info64
  have hmk : ∀ W, (Instr.makeSlice 63 (.int .i64 (cs.length : Int)) (.int .i64 (cs.length : Int))).run Tryz.prog W = .ok (.slice (some ⟨W.heap.size, 0, none⟩) cs.length cs.length) (W.alloc (.cells (madeCells #[.nilIface, .nilIface, .nilIface] (cs.length * 3)) 92)) := fun W => by
    have h := run_make (P := Tryz.prog) W 63 92 i0 (.agg #[.nilIface, .nilIface, .nilIface]) Tryz.underlying63 hi hz0 .i64 .i64 cs.length cs.length (by omega) (Int.le_refl _) (by rw [hz2]; omega) (by omega)
    rw [hz1, Int.toNat_natCast] at h
    exact h
  have Em := fun W => empty_con W
  simp only [exV, Ct.v] at Em
  have Em := Lib.hid Em
  have HO0 : Hid ((w.alloc (.cells (madeCells #[.nilIface, .nilIface, .nilIface] (cs.length * 3)) 92)).ownsRow w.heap.size 92 3 (.slice (some ⟨w.heap.size, 0, none⟩) cs.length cs.length) cs.length (fill (cs.map fun _ => ⟨4, 0, 4, 0⟩) 0 cs.length)) := Lib.hid (by
    have h := World.ownsRow_lit (base := w.heap.size) (e := 92) (size := 3) w (madeCells #[.nilIface, .nilIface, .nilIface] (cs.length * 3)) cs.length (Nat.le_refl _) (by simp [maxLen]; omega) (size_madeCells _ _)
    rwa [made_three, ← fill_zero (cs.map fun _ => ⟨4, 0, 4, 0⟩)] at h)
  have HB0 : Hid (Below w.heap.size w (w.alloc (.cells (madeCells #[.nilIface, .nilIface, .nilIface] (cs.length * 3)) 92))) := Lib.hid ((Below.refl _ _).alloc (Nat.le_refl _) _)
  clear hr hi hz0 hz1 hz2
  go_enter Tryz.func78, Tryz.ntmps78
  go_wp2
  go_loopw [4, 10] (fun v4 v10 wr => ∃ (k : Nat), v10 = .int .i64 k ∧ k ≤ cs.length ∧ Hid (wr.ownsRow w.heap.size 92 3 (.slice (some ⟨w.heap.size, 0, none⟩) cs.length cs.length) cs.length (fill (cs.map fun _ => ⟨4, 0, 4, 0⟩) k cs.length)) ∧ Hid (Below w.heap.size w wr)) (fun _ v10 _ => (cs.length - (intOf v10)).toNat)
  case atStart => exact ⟨0, rfl, Nat.zero_le _, HO0, HB0⟩
  case round =>
    obtain ⟨k, rfl, hk, HO, HB⟩ := hrel
    have hbs := HB.out.size
    clear HO0 HB0
    by_cases hlt : k < cs.length
    · obtain ⟨b, o, rfl, hb, c0, c1, c2⟩ := rd_ex HR.out k hlt
      have d2 := (HB.out.cell (p := ⟨b, o + k * 3 + 2, none⟩) hb).trans c2
      clear c0 c1 c2 hmk
      have HM := Lib.hid (fill_set (cs.map fun _ => (⟨4, 0, 4, 0⟩ : Cl)) k cs.length (by simpa using hlt) hlt)
      have HG := Lib.hid (fun j (hj : j < 3) => fill_get (cs.map fun _ => (⟨4, 0, 4, 0⟩ : Cl)) k cs.length j (by simpa using hk) hlt hj)
      simp only [List.getElem_map] at HM
      go_wp2_with (go_at_call 73; (with_reducible refine (Em.out _).mono ?_); rintro e w1 ⟨rfl, hb1⟩; have HB1 := Lib.hid (HB.out.trans (hb1.mono hbs)); have HO1 := Lib.hid (own_below HO.out hb1); clear hb1; obtain ⟨s0, t0⟩ := own_cell (j := k * 3) HO1.out (HG.out 0 (by omega)); obtain ⟨s1, t1⟩ := own_cell HO1.out (HG.out 1 (by omega)); obtain ⟨s2, t2⟩ := own_cell HO1.out (HG.out 2 (by omega)))
      have HO2 := Lib.hid (own_store3 HO1.out (k * 3) (k * 3 + 1) (k * 3 + 2) (.iface (ctOf 4 0).tid (ctOf 4 0).inner) (.iface (ctOf 4 0).tid (ctOf 4 0).inner) tv)
      rw [HM.out] at HO2
      have HB2 := Lib.hid (((HB1.out.setCell (p := ⟨w.heap.size, k * 3, none⟩) (Nat.le_refl _) (.iface (ctOf 4 0).tid (ctOf 4 0).inner)).setCell (p := ⟨w.heap.size, k * 3 + 1, none⟩) (Nat.le_refl _) (.iface (ctOf 4 0).tid (ctOf 4 0).inner)).setCell (p := ⟨w.heap.size, k * 3 + 2, none⟩) (Nat.le_refl _) tv)
      go_roundw
      case rel => exact ⟨k + 1, by go_num, by omega, HO2, HB2⟩
      case measure => simp [intOf]; omega
    · obtain rfl : k = cs.length := by omega
      have HF := Lib.hid (fill_all (cs.map fun _ => (⟨4, 0, 4, 0⟩ : Cl)))
      rw [List.length_map] at HF
      rw [HF.out] at HO
      go_wp2
      go_ret
      exact ⟨_, _, rfl, Rd.of_own HO.out, HB.out⟩
end Go.Proofs.YtfnogpelaoofbaaGreatDoor.Rg
