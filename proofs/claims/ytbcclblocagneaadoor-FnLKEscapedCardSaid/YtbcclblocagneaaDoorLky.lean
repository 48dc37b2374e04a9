/- The matcher: what it answers is what its runs say. Conditions: the listed tables of unicode/utf8 read as listed; those written at each lemma. -/
import Derived.Test.YtbcclblocagneaaDoorLkx
import Derived.Deep.LoopGhost
set_option linter.unusedVariables false
set_option linter.unusedSimpArgs false
set_option maxRecDepth 100000
set_option maxHeartbeats 8000000
namespace Go.Proofs.YtbcclblocagneaaDoor.Lk
open Go.RowKit Go.Proofs.YtbcclblocagneaaDoor.B

/-- What has been taken lies one behind the other, and not behind where the matcher stands. -/
def Inv (S : List Nat) (i : Nat) : Prop := S.Pairwise (· ≤ ·) ∧ ∀ x ∈ S, x ≤ i
theorem Inv.push {S : List Nat} {i j : Nat} (h : Inv S i) (hij : i ≤ j) : Inv (S ++ [j]) j := by
  refine ⟨List.pairwise_append.2 ⟨h.1, List.pairwise_singleton _ _, fun a ha b hb => ?_⟩, fun x hx => ?_⟩
  · rw [List.mem_singleton.1 hb]; exact Nat.le_trans (h.2 a ha) hij
  · rcases List.mem_append.1 hx with h1 | h1
    · exact Nat.le_trans (h.2 x h1) hij
    · rw [List.mem_singleton.1 h1]; exact Nat.le_refl _
theorem Inv.back {S : List Nat} {i k : Nat} (h : Inv S i) (hk : k < S.length) : Inv (S.take k ++ [S.getD k 0 + 1]) (S.getD k 0 + 1) ∧ S.getD k 0 + 1 ≤ i + 1 := by
  have e : S.getD k 0 = S[k] := by rw [List.getD_eq_getElem?_getD, List.getElem?_eq_getElem hk]; rfl
  rw [e]
  have h1 : Inv (S.take k) S[k] := by
    refine ⟨h.1.sublist (List.take_sublist _ _), fun x hx => ?_⟩
    obtain ⟨j, hj, rfl⟩ := List.getElem_of_mem hx
    rw [List.getElem_take]
    rw [List.length_take] at hj
    exact List.pairwise_iff_getElem.1 h.1 j k (by omega) hk (by omega)
  exact ⟨h1.push (Nat.le_succ _), by have := h.2 _ (List.getElem_mem hk); omega⟩
theorem offs_append (T : List Int) (A C : List Nat) : offs T (A ++ C) = offs T A ++ offs T C := List.map_append
theorem offs_set (T : List Int) (S : List Nat) (k : Nat) (hk : k < S.length) (x : Nat) : ((offs T S).set k (.int .i64 (off T x))).take (k + 1) = offs T (S.take k ++ [x]) := by
  have hl : (offs T S).length = S.length := by unfold offs; simp
  rw [List.take_succ_eq_append_getElem (by simpa [hl] using hk), List.getElem_set_self, List.take_set_of_le (Nat.le_refl k), offs_append]
  congr 1
  unfold offs
  rw [List.map_take]
theorem own_take {W : World} {B e g n c k : Nat} {xs : List Value} (h : W.ownsRow B e 1 (.slice (some ⟨g, 0, none⟩) n c) n xs) (hk : k ≤ n) : W.ownsRow B e 1 (.slice (some ⟨g, 0, none⟩) k c) k (xs.take k) := by
  have h1 := h.1
  rcases h.2 with ⟨h2, _⟩ | ⟨g2, cap, cur, h2, h3, h4, h5, h6, h7, h8⟩
  · cases h2
  · injection h2 with e1 e2 e3
    injection e1 with e1
    injection e1 with e1
    subst e1
    subst e3
    refine ⟨by rw [List.length_take]; omega, .inr ⟨g, c, cur, rfl, h3, h4, by omega, h6, h7, ?_⟩⟩
    rw [← h8, List.take_take, Nat.mul_one, Nat.mul_one, Nat.min_eq_left hk]
theorem own_some {W : World} {B e s n : Nat} {v : Value} {xs : List Value} (h : W.ownsRow B e s v (n + 1) xs) : ∃ g c, v = .slice (some ⟨g, 0, none⟩) (n + 1) c := by
  rcases h.2 with ⟨_, h2⟩ | ⟨g, c, _, h2, _⟩
  · cases h2
  · exact ⟨g, c, h2⟩
theorem sz3 (W : World) : (sizeOf 3).run Tryd.prog W = .ok 1 W := by kernel_rfl
theorem cut_run (g n c k : Nat) (hk : k ≤ c) (W : World) : (Instr.slice 38 (.slice (some ⟨g, 0, none⟩) n c) none (some (.int .i64 (k : Int))) none).run Tryd.prog W = .ok (.slice (some ⟨g, 0, none⟩) k c) W := by
  have he : Tryd.prog.elem 38 = 3 := by simp [Program.elem, Tryd.underlying38]
  have hrun := run_slice_h (P := Tryd.prog) (w := W) 38 (some ⟨g, 0, none⟩) n c (by rw [he]; exact Tryd.underlying38) .i64 (k : Int) (by omega) (by omega)
  rw [hrun, he, sz3, Result.andThen_ok]
  unfold sliced
  have e : (k : Int).toNat = k := by omega
  rw [e]
  split
  · rfl
  · rw [Option.map_some, Nat.zero_mul, add_at]; rfl
theorem info3 : (Tryd.prog.info? 3).map (fun i => (i.zero, i.size, i.bytes)) = some (some (.int .i64 0), 1, 8) := by kernel_rfl
theorem cut_run1 (g n c k : Nat) (hk : k + 1 ≤ c) (W : World) : (Instr.slice 38 (.slice (some ⟨g, 0, none⟩) n c) none (some (.int .i64 ((k : Int) + 1))) none).run Tryd.prog W = .ok (.slice (some ⟨g, 0, none⟩) (k + 1) c) W := by
  have h := cut_run g n c (k + 1) hk W
  have e : ((k + 1 : Nat) : Int) = (k : Int) + 1 := by omega
  rwa [e] at h
theorem back_none {nodes : List Nd} {T : List Int} {S : List Nat} {B g c : Nat} {w w' : World} {e : Ending} (h : BackPost nodes T S B g c w e w') (hb : bt nodes S S.length = none) : e = .returned (.tuple #[.bool false, .int .i64 0]) ∧ Below w.heap.size w w' := by
  rcases h with ⟨_, h1, h2⟩ | ⟨k, hk, h1, _⟩
  · exact ⟨h1, h2⟩
  · rw [hb] at h1; cases h1
/-- What stands behind a step back: where it stands, and the row. -/
def BackSome (nodes : List Nd) (T : List Int) (S : List Nat) (B g c : Nat) (w : World) (L : List Nat) (x k : Nat) (w' : World) : Prop :=
  k < S.length ∧ L = S.take k ++ [x] ∧ x = S.getD k 0 + 1 ∧ w'.ownsRow B 3 1 (.slice (some ⟨g, 0, none⟩) (k + 1) c) (k + 1) (offs T L) ∧ w'.cell? ⟨g, k, none⟩ = some (.int .i64 (off T x)) ∧ Below g w w' ∧ k + 1 ≤ c
theorem back_some {nodes : List Nd} {T : List Int} {S S1 : List Nat} {x B g c : Nat} {w w' : World} {e : Ending} (h : BackPost nodes T S B g c w e w') (hb : bt nodes S S.length = some (S1 ++ [x])) : ∃ k : Nat, e = .returned (.tuple #[.bool true, .int .i64 ((k : Int) + 1)]) ∧ BackSome nodes T S B g c w (S1 ++ [x]) x k w' := by
  rcases h with ⟨h0, _⟩ | ⟨k, hk, h1, h2, h3, h4⟩
  · rw [hb] at h0; cases h0
  · rw [hb] at h1
    have h5 := Option.some.inj h1
    have h6 := List.append_inj' h5 rfl
    have hx : x = S.getD k 0 + 1 := by
      have := h6.2
      injection this
    refine ⟨k, h2, hk, by rw [h6.1], hx, ?_, ?_, h4, ?_⟩
    · rw [h6.1, hx, ← offs_set T S k hk]
      exact own_take h3 hk
    · have hl : k < (offs T S).length := by unfold offs; simpa using hk
      rw [hx]
      exact (own_at h3 (by rw [List.getElem?_set_self hl])).1
    · rcases h3.2 with ⟨h7, _⟩ | ⟨g2, cap, cur, h7, _, _, h8, _⟩
      · cases h7
      · injection h7 with e1 e2 e3
        omega
theorem match_any (nodes : List Nd) (T : List Int) (An : Option Addr) (cn n : Nat) (b : Bool) (w : World) (hT : Tab w) (hab : ∀ r ∈ T, r ∈ AB) (hr : Rd w 1 (.slice An nodes.length cn) nodes.length (nodes.map Nd.v)) (hne : 0 < nodes.length)
    (hno : ∀ r, .one r ∈ nodes → 0 < r) (hR : Runs nodes T n 0 [] b) (hTl : T.length ≤ 100000) (hNl : nodes.length ≤ 100000) :
    Calls Tryd.prog 56 #[mtV (.slice An nodes.length cn), .string (str T)] w fun e w' => e = .returned (.bool b) ∧ Below w.heap.size w w' := by
  have hA : Below w.heap.size w (w.alloc (mt (.slice An nodes.length cn))) := (Below.refl _ _).alloc (Nat.le_refl _) _
  have HT := Lib.hid (tab_below hT hA)
  have HR := Lib.hid (hr.below hA)
  have HA := Lib.hid hA
  have HM := Lib.hid (heap_alloc_new w (mt (.slice An nodes.length cn)))
  have HAB := Lib.hid hab
  have HNO := Lib.hid hno
  have HRN := Lib.hid hR
  have hsz := str_len4 T
  have hs1 : w.heap.size < (w.alloc (mt (.slice An nodes.length cn))).heap.size := by simp
  obtain ⟨i0, hi, hz0, hz1, hz2⟩ := info_parts info3
  have hmk : ∀ W, (Instr.makeSlice 38 (.int .i64 0) (.int .i64 (nodes.length : Int))).run Tryd.prog W = .ok (.slice (some ⟨W.heap.size, 0, none⟩) 0 nodes.length) (W.alloc (.cells (madeCells #[.int .i64 0] nodes.length) 3)) := fun W => by
    have h := run_make (P := Tryd.prog) W 38 3 i0 (.int .i64 0) Tryd.underlying38 hi hz0 .i64 .i64 0 nodes.length (Int.le_refl _) (by omega) (by rw [hz2]; omega) (by omega)
    rw [hz1, Int.toNat_natCast, Nat.mul_one] at h
    exact h
  have HOW := Lib.hid (fun (W : World) => World.ownsRow_made (base := W.heap.size) (e := 3) (size := 1) W (madeCells #[.int .i64 0] nodes.length) nodes.length (Nat.le_refl _) (by simp [maxLen]; omega) (by rw [size_madeCells]; omega))
  have hn0 : ((nodes.length : Int) == 0) = false := by rw [beq_eq_false_iff_ne]; omega
  clear hT hr hA hab hno hR hi hz0 hz1 hz2
  generalize hX0 : w.alloc (mt (.slice An nodes.length cn)) = X0 at *
  have HX0 := Lib.hid hX0
  have hc0 : X0.cell? ⟨w.heap.size, 0, none⟩ = some (.slice An nodes.length cn) := by simp [World.cell?, HM.out]
  have HC0 := Lib.hid hc0
  have hsX : w.heap.size + 1 = X0.heap.size := by rw [← hX0]; simp
  have HSX := Lib.hid hsX
  clear hX0
  go_enter Tryd.func56, Tryd.ntmps56
  go_wp2
  rw [HX0.out]
  go_loopg [5, 6, 7, 8, 9, 10, 11, 12, 13, 14] n (fun m v5 v6 v7 v8 v9 v10 v11 v12 v13 v14 wr => ∃ (i : Nat) (S : List Nat) (g c : Nat), v5 = .int .i64 (off T i : Nat) ∧ v6 = .int .i64 (S.length : Nat) ∧ v7 = .slice (some ⟨g, 0, none⟩) S.length c ∧ i ≤ T.length ∧ S.length ≤ nodes.length ∧ Hid (Runs nodes T m i S b) ∧ Hid (Inv S i) ∧ Hid (wr.ownsRow X0.heap.size 3 1 (.slice (some ⟨g, 0, none⟩) S.length c) S.length (offs T S)) ∧ Hid (Below X0.heap.size X0 wr))
  case atStart => exact ⟨0, [], X0.heap.size, nodes.length, rfl, rfl, rfl, Nat.zero_le _, Nat.zero_le _, HRN, Lib.hid ⟨List.Pairwise.nil, fun x hx => by cases hx⟩, Lib.hid (HOW.out X0), Lib.hid ((Below.refl _ _).alloc (Nat.le_refl _) _)⟩
  case round =>
    obtain ⟨i, S, g, c, rfl, rfl, rfl, hi, hS, HRun, HI, HO, HB⟩ := hrel
    have hbs := HB.out.size
    have hX : w.heap.size < X0.heap.size := by have := HSX.out; omega
    have hc0 : wr.cell? ⟨w.heap.size, 0, none⟩ = some (.slice An nodes.length cn) := (HB.out.cell (p := ⟨w.heap.size, 0, none⟩) hX).trans HC0.out
    have hbase := own_base HO.out g rfl
    have hRun := HRun.out
    clear HRun hmk HOW
    have HBF := Lib.hid (HA.out.trans (HB.out.mono HA.out.size))
    have BK := Lib.hid (fun (k0 : Int) (W : World) (hW : Below wr.heap.size wr W) (hk : k0 = (S.length : Int) - 1 ∨ k0 = (S.length : Int)) (hil : i < T.length) => back_any nodes T S An cn X0.heap.size g c k0 W (tab_below HT.out (HB.out.trans (hW.mono hbs))) HAB.out (HR.out.below (HB.out.trans (hW.mono hbs))) hS (own_belowL HO.out hW) (fun x hx => by have := HI.out.2 x hx; omega) hk hTl hNl)
    have hMT : wr.heap[w.heap.size]? = some (mt (.slice An nodes.length cn)) := (HB.out.block _ hX).trans HM.out
    have hcs : wr.cell? ⟨w.heap.size, 0, none⟩ = some (.slice An nodes.length cn) ∧ wr.cell? ⟨w.heap.size, 1, none⟩ = some wf ∧ wr.cell? ⟨w.heap.size, 2, none⟩ = some (.int .i32 92) := by
      refine ⟨?_, ?_, ?_⟩ <;> simp [World.cell?, hMT]
    have HCS := Lib.hid hcs
    obtain ⟨_, hc1, hc2⟩ := hcs
    clear hMT
    cases hRun with
    | done h1 h2 =>
      have e1 : ((off T i : Int) == ((str T).size : Int)) = true := by rw [h1, off_all]; simp
      have e2 : ((S.length : Int) == (nodes.length : Int)) = true := by rw [h2]; simp
      clear h1 h2
      go_wp2
      go_ret
      exact ⟨rfl, HBF.out⟩
    | fullNone h1 h2 h3 =>
      have hol := off_lt T i h1
      have e1 : ((off T i : Int) == ((str T).size : Int)) = false := by rw [beq_eq_false_iff_ne]; omega
      have e2 : ((S.length : Int) == (nodes.length : Int)) = true := by rw [h2]; simp
      have H1 := Lib.hid h1
      have H3 := Lib.hid h3
      clear h1 h2 h3
      go_wp2_with (go_at_call 67; (with_reducible refine (BK.out _ _ (Below.refl _ _) (.inl rfl) H1.out).mono ?_); rintro e w1 hbp; obtain ⟨rfl, hb1⟩ := back_none hbp H3.out; have HB1 := Lib.hid (HBF.out.trans (hb1.mono HBF.out.size)); clear hbp hb1)
      go_ret
      exact ⟨rfl, HB1.out⟩
    | @fullSome m i' S' S1 x b' h1 h2 h3 h4 =>
      have hol := off_lt T i h1
      have e1 : ((off T i : Int) == ((str T).size : Int)) = false := by rw [beq_eq_false_iff_ne]; omega
      have e2 : ((S.length : Int) == (nodes.length : Int)) = true := by rw [h2]; simp
      have H1 := Lib.hid h1
      have H3 := Lib.hid h3
      have H4 := Lib.hid h4
      clear h1 h2 h3 h4
      go_wp2_with (go_at_call 67; (with_reducible refine (BK.out _ _ (Below.refl _ _) (.inl rfl) H1.out).mono ?_); rintro e w1 hbp; obtain ⟨k, rfl, hbs1⟩ := back_some hbp H3.out; have HBS := Lib.hid hbs1; obtain ⟨hkS, -, -, -, hck, -, hkc⟩ := hbs1; have hcr := cut_run1 g S.length c k hkc; clear hbp)
      obtain ⟨_, hL, hx, ho, _, hb, _⟩ := HBS.out
      have hLlen : (S1 ++ [x]).length = k + 1 := by rw [hL, List.length_append, List.length_take]; simp; omega
      have hIB := HI.out.back hkS
      rw [← hx, ← hL] at hIB
      have hHB := (HB.out).trans (hb.mono hbase)
      go_roundg m
      case measure => omega
      case rel => exact ⟨x, S1 ++ [x], g, c, rfl, by rw [hLlen]; rfl, by rw [hLlen], by have h9 := hIB.2; have h10 := H1.out; omega, by omega, H4, Lib.hid hIB.1, Lib.hid (by rw [hLlen]; exact ho), Lib.hid hHB⟩
    | rest h1 h2 =>
      have e1 : ((off T i : Int) == ((str T).size : Int)) = true := by rw [h1, off_all]; simp
      have e2 : ((S.length : Int) == (nodes.length : Int)) = false := by rw [beq_eq_false_iff_ne]; omega
      have hno1 : ¬ off T i < (str T).size := by rw [h1, off_all]; omega
      have ta1 : ∀ W, (Instr.typeAssert (.iface 105 (.agg #[])) 110 105 true).run Tryd.prog W = .ok (.tuple #[.agg #[], .bool true]) W := fun _ => by kernel_rfl
      have ta2 : ∀ r W, (Instr.typeAssert (.iface 104 (.agg #[.int .i32 r, .int .i32 r])) 110 105 true).run Tryd.prog W = .ok (.tuple #[.agg #[], .bool false]) W := fun _ _ => by kernel_rfl
      obtain ⟨wo, rfl⟩ : ∃ wo : World, wo = wr := ⟨_, rfl⟩
      have H2 := Lib.hid h2
      clear h1
      go_wp2
      go_loopw [6, 9, 10] (fun v6 v9 v10 wr => ∃ j : Nat, v6 = .int .i64 (j : Nat) ∧ S.length ≤ j ∧ j ≤ nodes.length ∧ Hid (∀ x ∈ (nodes.drop S.length).take (j - S.length), x = Nd.any) ∧ Hid (Below X0.heap.size X0 wr)) (fun v6 _ _ _ => (nodes.length - (intOf v6)).toNat)
      case atStart => exact ⟨S.length, rfl, Nat.le_refl _, Nat.le_of_lt h2, Lib.hid (by simp), HB⟩
      case round =>
        obtain ⟨j, rfl, hj1, hj2, HA2, HB2⟩ := hrel
        have hd0 := (HB2.out.cell (p := ⟨w.heap.size, 0, none⟩) hX).trans HC0.out
        have hbs2 := HB2.out.size
        by_cases hlt : j < nodes.length
        · obtain ⟨bn, on, rfl, hbn, hcn⟩ := rd_one HR.out (nds_get nodes j hlt)
          have hnd := (HB2.out.cell (p := ⟨bn, on + j, none⟩) hbn).trans hcn
          have HAL := Lib.hid (HB2.out.alloc hbs2 (.cells #[] 105))
          have HD := Lib.hid (show (nodes.drop S.length).take (j + 1 - S.length) = (nodes.drop S.length).take (j - S.length) ++ [nodes[j]] from by
            have hl : j - S.length < (nodes.drop S.length).length := by rw [List.length_drop]; omega
            rw [show j + 1 - S.length = (j - S.length) + 1 by omega, List.take_succ_eq_append_getElem hl, List.getElem_drop]
            congr 2
            congr 1
            omega)
          have HMEM := Lib.hid (show nodes[j] ∈ nodes.drop S.length from by
            have hl : j - S.length < (nodes.drop S.length).length := by rw [List.length_drop]; omega
            have h := List.getElem_mem hl
            rw [List.getElem_drop] at h
            have e : S.length + (j - S.length) = j := by omega
            simp only [e] at h
            exact h)
          generalize nodes[j] = nd at *
          clear hcn
          cases nd
          case any =>
            simp only [Nd.v] at hnd
            go_wp2
            go_roundw
            case rel => exact ⟨j + 1, by go_num, by omega, by omega, Lib.hid (by
              rw [HD.out]
              intro x hx
              rcases List.mem_append.1 hx with h | h
              · exact HA2.out x h
              · exact List.mem_singleton.1 h), HAL⟩
            case measure => simp [intOf]; omega
          case one r0 =>
            simp only [Nd.v] at hnd
            have HNA : Hid (¬ ∀ x ∈ nodes.drop S.length, x = Nd.any) := Lib.hid (fun h => by have := h _ HMEM.out; cases this)
            have HF := Lib.hid (HA.out.trans (HAL.out.mono HA.out.size))
            go_wp2
            go_ret
            refine ⟨?_, HF.out⟩
            rw [decide_eq_false HNA.out]
            rfl
        · obtain rfl : j = nodes.length := by omega
          have HAL : Hid (∀ x ∈ nodes.drop S.length, x = Nd.any) := Lib.hid (fun x hx => HA2.out x (by
            rw [List.take_of_length_le (by rw [List.length_drop]; omega)]
            exact hx))
          have HF := Lib.hid (HA.out.trans (HB2.out.mono HA.out.size))
          go_wp2
          go_ret
          refine ⟨?_, HF.out⟩
          rw [decide_eq_true HAL.out]
          rfl
    | @any m i' S' b' h1 h2 h3 =>
      have hol := off_lt T i h1
      have e1 : ((off T i : Int) == ((str T).size : Int)) = false := by rw [beq_eq_false_iff_ne]; omega
      have hSn : S.length < nodes.length := by
        rcases Nat.lt_or_ge S.length nodes.length with h | h
        · exact h
        · rw [List.getElem?_eq_none h] at h2; cases h2
      have e2 : ((S.length : Int) == (nodes.length : Int)) = false := by rw [beq_eq_false_iff_ne]; omega
      have DE := Lib.hid (fun W (hW : Below X0.heap.size X0 W) => dec_at T i W (tab_below HT.out hW) HAB.out h1)
      have hsl := str_drop T i (Nat.le_of_lt h1)
      have HOS := Lib.hid (off_succ T i h1)
      have hrune := ab_pos (HAB.out _ (List.getElem_mem h1))
      obtain ⟨bn, on, rfl, hbn, hcn⟩ := rd_one HR.out (nds_get nodes S.length hSn)
      rw [List.getElem?_eq_getElem hSn] at h2
      rw [Option.some.inj h2] at hcn
      simp only [Nd.v] at hcn
      have HCN := Lib.hid hcn
      have hTi : T[i]? = some T[i] := List.getElem?_eq_getElem h1
      have H3 := Lib.hid h3
      clear h3
      clear h2 hcn hTi
      generalize (enc T[i]).length = wd at *
      generalize T[i] = r at *
      have H1 := Lib.hid h1
      clear h1
      have hr1 : (r == 65533) = false := by rw [beq_eq_false_iff_ne]; omega
      go_upto_region 27 with (go_at_call 65; (with_reducible refine (DE.out _ HB.out).mono ?_); rintro e w1 ⟨rfl, hb1⟩; have HW1 := Lib.hid hb1; clear hb1)
      have HB1 := Lib.hid (HB.out.trans (HW1.out.mono hbs))
      obtain ⟨X, rfl⟩ : ∃ X : World, X = w1 := ⟨_, rfl⟩
      have hs2 := HB1.out.size
      refine Rv.region_goods (n := 146) (by kernel_rfl) #[106, 107, 108, 109, 110, 111, 112, 113, 114, 105, 115, 116, 13, 14] #[] (fun i v W => v = (#[.pointer (some ⟨w.heap.size, 0, none⟩), .slice (some ⟨bn, on, none⟩) nodes.length cn, .int .i64 (S.length : Nat), .pointer (some ⟨bn, on + S.length, none⟩), .iface 105 (.agg #[]), .pointer (some ⟨w.heap.size, 1, none⟩), wf, .int .i32 r, .tuple #[.bool true, .bool false], .tuple #[.bool true, .bool false], .bool true, .bool false, .bool true, .bool false] : Array Value).getD i undef) (fun i v w w' h hb => ?_) (fun i h g b hg => ?_) rfl (by kernel_rfl) (by kernel_rfl) (fun i h hr w => ?_) ?_ ?_
      · exact h
      · match i, h, hg with
        | 0, _, hg => cases hg
        | 1, _, hg => cases hg
        | 2, _, hg => cases hg
        | 3, _, hg => cases hg
        | 4, _, hg => cases hg
        | 5, _, hg => cases hg
        | 6, _, hg => cases hg
        | 7, _, hg => cases hg
        | 8, _, hg => cases hg
        | 9, _, hg => cases hg
        | 10, _, hg => cases hg
        | 11, _, hg => cases hg
        | 12, _, hg => cases hg
        | 13, _, hg => cases hg
        | m + 14, h, _ => exact absurd h (by show ¬ m + 14 < 14; omega)
      · match i, h, hr with
        | 0, _, hr => exact Bool.noConfusion (show true = false from hr)
        | 1, _, hr => exact Bool.noConfusion (show true = false from hr)
        | 2, _, hr => exact Bool.noConfusion (show true = false from hr)
        | 3, _, hr => exact Bool.noConfusion (show true = false from hr)
        | 4, _, hr => exact Bool.noConfusion (show true = false from hr)
        | 5, _, hr => exact Bool.noConfusion (show true = false from hr)
        | 6, _, hr => exact Bool.noConfusion (show true = false from hr)
        | 7, _, hr => exact Bool.noConfusion (show true = false from hr)
        | 8, _, hr => exact Bool.noConfusion (show true = false from hr)
        | 9, _, hr => exact Bool.noConfusion (show true = false from hr)
        | 10, _, hr => exact Bool.noConfusion (show true = false from hr)
        | 11, _, hr => exact Bool.noConfusion (show true = false from hr)
        | 12, _, hr => exact Bool.noConfusion (show true = false from hr)
        | 13, _, hr => exact Bool.noConfusion (show true = false from hr)
        | m + 14, h, _ => exact absurd h (by show ¬ m + 14 < 14; omega)
      · intro i h a W hrun hbase hpre hdep htr
        have HBW := HB1.out.trans (htr.mono hs2)
        have m := (HBW.block w.heap.size hX).trans HM.out
        have n0 : W.cell? ⟨w.heap.size, 0, none⟩ = some (.slice (some ⟨bn, on, none⟩) nodes.length cn) := by simp [World.cell?, m]
        have n1 : W.cell? ⟨w.heap.size, 1, none⟩ = some wf := by simp [World.cell?, m]
        have q0 : W.cell? ⟨bn, on + S.length, none⟩ = some (.iface 105 (.agg #[])) := (HBW.cell (p := ⟨bn, on + S.length, none⟩) hbn).trans HCN.out
        match i, h with
        | 0, _ =>
          obtain ⟨e2, x2⟩ := Rv.ev (show a.tmps.getD 2 undef = .pointer (some ⟨w.heap.size, 0, none⟩) from hbase 2 rfl)
          exact Rv.step_op (op := Go.Op.fieldAddr 85 (Go.Operand.tmp 2) 0) (v := .pointer (some ⟨w.heap.size, 0, none⟩)) (w1 := W) rfl rfl (fun d pos aft g => by unfold execOp; go_simp) ⟨_, rfl, rfl, Below.refl _ _⟩
        | 1, _ =>
          obtain ⟨e106, x106⟩ := Rv.ev (show a.tmps.getD 106 undef = .pointer (some ⟨w.heap.size, 0, none⟩) from hdep 0 rfl)
          exact Rv.step_op (op := Go.Op.load 83 (Go.Operand.tmp 106)) (v := .slice (some ⟨bn, on, none⟩) nodes.length cn) (w1 := W) rfl rfl (fun d pos aft g => by unfold execOp; go_simp) ⟨_, rfl, rfl, Below.refl _ _⟩
        | 2, _ =>
          obtain ⟨e6, x6⟩ := Rv.ev (show a.tmps.getD 6 undef = .int .i64 (S.length : Nat) from hbase 6 rfl)
          exact Rv.step_op (op := Go.Op.move (Go.Operand.tmp 6)) (v := .int .i64 (S.length : Nat)) (w1 := W) rfl rfl (fun d pos aft g => by unfold execOp; go_simp) ⟨_, rfl, rfl, Below.refl _ _⟩
        | 3, _ =>
          obtain ⟨e107, x107⟩ := Rv.ev (show a.tmps.getD 107 undef = .slice (some ⟨bn, on, none⟩) nodes.length cn from hdep 1 rfl)
          obtain ⟨e108, x108⟩ := Rv.ev (show a.tmps.getD 108 undef = .int .i64 (S.length : Nat) from hdep 2 rfl)
          exact Rv.step_op (op := Go.Op.indexAddr 83 (Go.Operand.tmp 107) (Go.Operand.tmp 108)) (v := .pointer (some ⟨bn, on + S.length, none⟩)) (w1 := W) rfl rfl (fun d pos aft g => by unfold execOp; go_simp) ⟨_, rfl, rfl, Below.refl _ _⟩
        | 4, _ =>
          obtain ⟨e109, x109⟩ := Rv.ev (show a.tmps.getD 109 undef = .pointer (some ⟨bn, on + S.length, none⟩) from hdep 3 rfl)
          exact Rv.step_op (op := Go.Op.load 110 (Go.Operand.tmp 109)) (v := .iface 105 (.agg #[])) (w1 := W) rfl rfl (fun d pos aft g => by unfold execOp; go_simp) ⟨_, rfl, rfl, Below.refl _ _⟩
        | 5, _ =>
          obtain ⟨e2, x2⟩ := Rv.ev (show a.tmps.getD 2 undef = .pointer (some ⟨w.heap.size, 0, none⟩) from hbase 2 rfl)
          exact Rv.step_op (op := Go.Op.fieldAddr 85 (Go.Operand.tmp 2) 1) (v := .pointer (some ⟨w.heap.size, 1, none⟩)) (w1 := W) rfl rfl (fun d pos aft g => by unfold execOp; go_simp) ⟨_, rfl, rfl, Below.refl _ _⟩
        | 6, _ =>
          obtain ⟨e111, x111⟩ := Rv.ev (show a.tmps.getD 111 undef = .pointer (some ⟨w.heap.size, 1, none⟩) from hdep 5 rfl)
          exact Rv.step_op (op := Go.Op.load 82 (Go.Operand.tmp 111)) (v := wf) (w1 := W) rfl rfl (fun d pos aft g => by unfold execOp; go_simp) ⟨_, rfl, rfl, Below.refl _ _⟩
        | 7, _ =>
          obtain ⟨e11, x11⟩ := Rv.ev (show a.tmps.getD 11 undef = .int .i32 r from hbase 11 rfl)
          exact Rv.step_op (op := Go.Op.move (Go.Operand.tmp 11)) (v := .int .i32 r) (w1 := W) rfl rfl (fun d pos aft g => by unfold execOp; go_simp) ⟨_, rfl, rfl, Below.refl _ _⟩
        | 8, _ =>
          obtain ⟨e110, x110⟩ := Rv.ev (show a.tmps.getD 110 undef = .iface 105 (.agg #[]) from hdep 4 rfl)
          obtain ⟨e112, x112⟩ := Rv.ev (show a.tmps.getD 112 undef = wf from hdep 6 rfl)
          obtain ⟨e113, x113⟩ := Rv.ev (show a.tmps.getD 113 undef = .int .i32 r from hdep 7 rfl)
          have hm : ∀ W, (Go.method 258 105 (.agg #[]) "Match").run Tryd.prog W = .ok (107, .agg #[]) W := fun _ => by kernel_rfl
          have cf : ∀ x0 x1 x2 W, (callFunc 107 #[x0, x1, x2]).run Tryd.prog W = .ok (.enter 107 #[x0, x1, x2]) W := fun _ _ _ _ => by kernel_rfl
          refine Rv.step_fn (op := Go.Op.call { callee := Go.Callee.invoke (Go.Operand.tmp 110) "Match", args := #[Go.Operand.tmp 112, Go.Operand.tmp 113], argTypes := #[82, 21] }) (ty := 35) (f := 107) (args := #[.agg #[], wf, .int .i32 r]) (R := fun v W' => v = .tuple #[.bool true, .bool false] ∧ Below W.heap.size W W') rfl rfl (fun d pos aft g => by unfold execOp; go_simp) ((anyMatch r W).mono ?_) ?_
          · (rintro e W' ⟨rfl, hb⟩; exact ⟨_, rfl, rfl, hb⟩)
          · (rintro v W' ⟨rfl, hb⟩; exact ⟨_, rfl, rfl, hb⟩)
        | 9, _ =>
          obtain ⟨e114, x114⟩ := Rv.ev (show a.tmps.getD 114 undef = .tuple #[.bool true, .bool false] from hdep 8 rfl)
          exact Rv.step_op (op := Go.Op.move (Go.Operand.tmp 114)) (v := .tuple #[.bool true, .bool false]) (w1 := W) rfl rfl (fun d pos aft g => by unfold execOp; go_simp) ⟨_, rfl, rfl, Below.refl _ _⟩
        | 10, _ =>
          obtain ⟨e105, x105⟩ := Rv.ev (show a.tmps.getD 105 undef = .tuple #[.bool true, .bool false] from hdep 9 rfl)
          exact Rv.step_op (op := Go.Op.extract (Go.Operand.tmp 105) 0) (v := .bool true) (w1 := W) rfl rfl (fun d pos aft g => by unfold execOp; go_simp) ⟨_, rfl, rfl, Below.refl _ _⟩
        | 11, _ =>
          obtain ⟨e105, x105⟩ := Rv.ev (show a.tmps.getD 105 undef = .tuple #[.bool true, .bool false] from hdep 9 rfl)
          exact Rv.step_op (op := Go.Op.extract (Go.Operand.tmp 105) 1) (v := .bool false) (w1 := W) rfl rfl (fun d pos aft g => by unfold execOp; go_simp) ⟨_, rfl, rfl, Below.refl _ _⟩
        | 12, _ =>
          obtain ⟨e115, x115⟩ := Rv.ev (show a.tmps.getD 115 undef = .bool true from hdep 10 rfl)
          exact Rv.step_op (op := Go.Op.assign (Go.Operand.tmp 115)) (v := .bool true) (w1 := W) rfl rfl (fun d pos aft g => by unfold execOp; go_simp) ⟨_, rfl, rfl, Below.refl _ _⟩
        | 13, _ =>
          obtain ⟨e116, x116⟩ := Rv.ev (show a.tmps.getD 116 undef = .bool false from hdep 11 rfl)
          exact Rv.step_op (op := Go.Op.assign (Go.Operand.tmp 116)) (v := .bool false) (w1 := W) rfl rfl (fun d pos aft g => by unfold execOp; go_simp) ⟨_, rfl, rfl, Below.refl _ _⟩
        | m + 14, h => exact absurd h (by show ¬ m + 14 < 14; omega)
      intro W f hf htr
      have f0 : f 0 = .pointer (some ⟨w.heap.size, 0, none⟩) := hf 0 (by show 0 < 14; omega)
      have f1 : f 1 = .slice (some ⟨bn, on, none⟩) nodes.length cn := hf 1 (by show 1 < 14; omega)
      have f2 : f 2 = .int .i64 (S.length : Nat) := hf 2 (by show 2 < 14; omega)
      have f3 : f 3 = .pointer (some ⟨bn, on + S.length, none⟩) := hf 3 (by show 3 < 14; omega)
      have f4 : f 4 = .iface 105 (.agg #[]) := hf 4 (by show 4 < 14; omega)
      have f5 : f 5 = .pointer (some ⟨w.heap.size, 1, none⟩) := hf 5 (by show 5 < 14; omega)
      have f6 : f 6 = wf := hf 6 (by show 6 < 14; omega)
      have f7 : f 7 = .int .i32 r := hf 7 (by show 7 < 14; omega)
      have f8 : f 8 = .tuple #[.bool true, .bool false] := hf 8 (by show 8 < 14; omega)
      have f9 : f 9 = .tuple #[.bool true, .bool false] := hf 9 (by show 9 < 14; omega)
      have f10 : f 10 = .bool true := hf 10 (by show 10 < 14; omega)
      have f11 : f 11 = .bool false := hf 11 (by show 11 < 14; omega)
      have f12 : f 12 = .bool true := hf 12 (by show 12 < 14; omega)
      have f13 : f 13 = .bool false := hf 13 (by show 13 < 14; omega)
      refine (show ∀ (a : Act) (w : World), Code.wp _ _ _ a w → _ from by assumption) _ _ ?_
      refine Rv.fin_swap (L' := [(106, f 0), (107, f 1), (108, f 2), (109, f 3), (110, f 4), (111, f 5), (112, f 6), (113, f 7), (114, f 8), (105, f 9), (115, f 10), (116, f 11), (13, f 12), (14, f 13)]) rfl ?_
      rw [f0, f1, f2, f3, f4, f5, f6, f7, f8, f9, f10, f11, f12, f13]
      clear f0 f1 f2 f3 f4 f5 f6 f7 f8 f9 f10 f11 f12 f13
      simp only [Rv.fin, List.foldl_cons, List.foldl_nil, Act.put, List.setIfInBounds_toArray, List.set_cons_succ, List.set_cons_zero]
      have HW := Lib.hid (HW1.out.trans (htr.mono HW1.out.size))
      have HBW := Lib.hid (HB1.out.trans (htr.mono hs2))
      clear htr
      go_wp2_with (at_builtin; refine app1 (w0 := X0) X0.heap.size rfl (.tmp 122) (.tmp 124) 38 3 (.int .i64 0) 1 8 rfl Tryd.underlying38 info3 rfl (by omega) (by omega) _ _ _ _ rfl rfl rfl (one1 rfl) (own_belowL HO.out HW.out) HBW.out HBW.out.size (by omega) ?_; intro v9 w9 hown9 hb9 _ _; obtain ⟨g9, c9, rfl⟩ := own_some hown9; have HO9 := Lib.hid hown9; have HB9 := Lib.hid hb9; clear hown9 hb9)
      go_roundg m
      case measure => omega
      case rel => exact ⟨i, S ++ [i], g9, c9, rfl, by rw [List.length_append]; rfl, by rw [List.length_append]; rfl, by have := H1.out; omega, by rw [List.length_append]; simp; omega, H3, Lib.hid (HI.out.push (Nat.le_refl _)), Lib.hid (by rw [offs_append, List.length_append]; exact HO9.out), HB9⟩
    | @eq m i' S' r0 b' h1 h2 h3 h4 =>
      have hol := off_lt T i h1
      have e1 : ((off T i : Int) == ((str T).size : Int)) = false := by rw [beq_eq_false_iff_ne]; omega
      have hSn : S.length < nodes.length := by
        rcases Nat.lt_or_ge S.length nodes.length with h | h
        · exact h
        · rw [List.getElem?_eq_none h] at h2; cases h2
      have e2 : ((S.length : Int) == (nodes.length : Int)) = false := by rw [beq_eq_false_iff_ne]; omega
      have DE := Lib.hid (fun W (hW : Below X0.heap.size X0 W) => dec_at T i W (tab_below HT.out hW) HAB.out h1)
      have hsl := str_drop T i (Nat.le_of_lt h1)
      have HOS := Lib.hid (off_succ T i h1)
      have hrune := ab_pos (HAB.out _ (List.getElem_mem h1))
      obtain ⟨bn, on, rfl, hbn, hcn⟩ := rd_one HR.out (nds_get nodes S.length hSn)
      rw [List.getElem?_eq_getElem hSn] at h2
      rw [Option.some.inj h2] at hcn
      simp only [Nd.v] at hcn
      have HCN := Lib.hid hcn
      have hTi : T[i]? = some T[i] := List.getElem?_eq_getElem h1
      have hmem : Nd.one r0 ∈ nodes := by rw [← Option.some.inj h2]; exact List.getElem_mem hSn
      have OM := Lib.hid (fun W => oneMatch r0 T[i] W (HNO.out _ hmem))
      rw [hTi] at h3
      rw [decide_eq_true (Option.some.inj h3)] at OM
      have H3 := Lib.hid h4
      clear h3 h4 hmem
      clear h2 hcn hTi
      generalize (enc T[i]).length = wd at *
      generalize T[i] = r at *
      have H1 := Lib.hid h1
      clear h1
      have hr1 : (r == 65533) = false := by rw [beq_eq_false_iff_ne]; omega
      go_upto_region 27 with (go_at_call 65; (with_reducible refine (DE.out _ HB.out).mono ?_); rintro e w1 ⟨rfl, hb1⟩; have HW1 := Lib.hid hb1; clear hb1)
      have HB1 := Lib.hid (HB.out.trans (HW1.out.mono hbs))
      obtain ⟨X, rfl⟩ : ∃ X : World, X = w1 := ⟨_, rfl⟩
      have hs2 := HB1.out.size
      refine Rv.region_goods (n := 146) (by kernel_rfl) #[106, 107, 108, 109, 110, 111, 112, 113, 114, 105, 115, 116, 13, 14] #[] (fun i v W => v = (#[.pointer (some ⟨w.heap.size, 0, none⟩), .slice (some ⟨bn, on, none⟩) nodes.length cn, .int .i64 (S.length : Nat), .pointer (some ⟨bn, on + S.length, none⟩), .iface 104 (.agg #[.int .i32 r0, .int .i32 r0]), .pointer (some ⟨w.heap.size, 1, none⟩), wf, .int .i32 r, .tuple #[.bool true, .bool true], .tuple #[.bool true, .bool true], .bool true, .bool true, .bool true, .bool true] : Array Value).getD i undef) (fun i v w w' h hb => ?_) (fun i h g b hg => ?_) rfl (by kernel_rfl) (by kernel_rfl) (fun i h hr w => ?_) ?_ ?_
      · exact h
      · match i, h, hg with
        | 0, _, hg => cases hg
        | 1, _, hg => cases hg
        | 2, _, hg => cases hg
        | 3, _, hg => cases hg
        | 4, _, hg => cases hg
        | 5, _, hg => cases hg
        | 6, _, hg => cases hg
        | 7, _, hg => cases hg
        | 8, _, hg => cases hg
        | 9, _, hg => cases hg
        | 10, _, hg => cases hg
        | 11, _, hg => cases hg
        | 12, _, hg => cases hg
        | 13, _, hg => cases hg
        | m + 14, h, _ => exact absurd h (by show ¬ m + 14 < 14; omega)
      · match i, h, hr with
        | 0, _, hr => exact Bool.noConfusion (show true = false from hr)
        | 1, _, hr => exact Bool.noConfusion (show true = false from hr)
        | 2, _, hr => exact Bool.noConfusion (show true = false from hr)
        | 3, _, hr => exact Bool.noConfusion (show true = false from hr)
        | 4, _, hr => exact Bool.noConfusion (show true = false from hr)
        | 5, _, hr => exact Bool.noConfusion (show true = false from hr)
        | 6, _, hr => exact Bool.noConfusion (show true = false from hr)
        | 7, _, hr => exact Bool.noConfusion (show true = false from hr)
        | 8, _, hr => exact Bool.noConfusion (show true = false from hr)
        | 9, _, hr => exact Bool.noConfusion (show true = false from hr)
        | 10, _, hr => exact Bool.noConfusion (show true = false from hr)
        | 11, _, hr => exact Bool.noConfusion (show true = false from hr)
        | 12, _, hr => exact Bool.noConfusion (show true = false from hr)
        | 13, _, hr => exact Bool.noConfusion (show true = false from hr)
        | m + 14, h, _ => exact absurd h (by show ¬ m + 14 < 14; omega)
      · intro i h a W hrun hbase hpre hdep htr
        have HBW := HB1.out.trans (htr.mono hs2)
        have m := (HBW.block w.heap.size hX).trans HM.out
        have n0 : W.cell? ⟨w.heap.size, 0, none⟩ = some (.slice (some ⟨bn, on, none⟩) nodes.length cn) := by simp [World.cell?, m]
        have n1 : W.cell? ⟨w.heap.size, 1, none⟩ = some wf := by simp [World.cell?, m]
        have q0 : W.cell? ⟨bn, on + S.length, none⟩ = some (.iface 104 (.agg #[.int .i32 r0, .int .i32 r0])) := (HBW.cell (p := ⟨bn, on + S.length, none⟩) hbn).trans HCN.out
        match i, h with
        | 0, _ =>
          obtain ⟨e2, x2⟩ := Rv.ev (show a.tmps.getD 2 undef = .pointer (some ⟨w.heap.size, 0, none⟩) from hbase 2 rfl)
          exact Rv.step_op (op := Go.Op.fieldAddr 85 (Go.Operand.tmp 2) 0) (v := .pointer (some ⟨w.heap.size, 0, none⟩)) (w1 := W) rfl rfl (fun d pos aft g => by unfold execOp; go_simp) ⟨_, rfl, rfl, Below.refl _ _⟩
        | 1, _ =>
          obtain ⟨e106, x106⟩ := Rv.ev (show a.tmps.getD 106 undef = .pointer (some ⟨w.heap.size, 0, none⟩) from hdep 0 rfl)
          exact Rv.step_op (op := Go.Op.load 83 (Go.Operand.tmp 106)) (v := .slice (some ⟨bn, on, none⟩) nodes.length cn) (w1 := W) rfl rfl (fun d pos aft g => by unfold execOp; go_simp) ⟨_, rfl, rfl, Below.refl _ _⟩
        | 2, _ =>
          obtain ⟨e6, x6⟩ := Rv.ev (show a.tmps.getD 6 undef = .int .i64 (S.length : Nat) from hbase 6 rfl)
          exact Rv.step_op (op := Go.Op.move (Go.Operand.tmp 6)) (v := .int .i64 (S.length : Nat)) (w1 := W) rfl rfl (fun d pos aft g => by unfold execOp; go_simp) ⟨_, rfl, rfl, Below.refl _ _⟩
        | 3, _ =>
          obtain ⟨e107, x107⟩ := Rv.ev (show a.tmps.getD 107 undef = .slice (some ⟨bn, on, none⟩) nodes.length cn from hdep 1 rfl)
          obtain ⟨e108, x108⟩ := Rv.ev (show a.tmps.getD 108 undef = .int .i64 (S.length : Nat) from hdep 2 rfl)
          exact Rv.step_op (op := Go.Op.indexAddr 83 (Go.Operand.tmp 107) (Go.Operand.tmp 108)) (v := .pointer (some ⟨bn, on + S.length, none⟩)) (w1 := W) rfl rfl (fun d pos aft g => by unfold execOp; go_simp) ⟨_, rfl, rfl, Below.refl _ _⟩
        | 4, _ =>
          obtain ⟨e109, x109⟩ := Rv.ev (show a.tmps.getD 109 undef = .pointer (some ⟨bn, on + S.length, none⟩) from hdep 3 rfl)
          exact Rv.step_op (op := Go.Op.load 110 (Go.Operand.tmp 109)) (v := .iface 104 (.agg #[.int .i32 r0, .int .i32 r0])) (w1 := W) rfl rfl (fun d pos aft g => by unfold execOp; go_simp) ⟨_, rfl, rfl, Below.refl _ _⟩
        | 5, _ =>
          obtain ⟨e2, x2⟩ := Rv.ev (show a.tmps.getD 2 undef = .pointer (some ⟨w.heap.size, 0, none⟩) from hbase 2 rfl)
          exact Rv.step_op (op := Go.Op.fieldAddr 85 (Go.Operand.tmp 2) 1) (v := .pointer (some ⟨w.heap.size, 1, none⟩)) (w1 := W) rfl rfl (fun d pos aft g => by unfold execOp; go_simp) ⟨_, rfl, rfl, Below.refl _ _⟩
        | 6, _ =>
          obtain ⟨e111, x111⟩ := Rv.ev (show a.tmps.getD 111 undef = .pointer (some ⟨w.heap.size, 1, none⟩) from hdep 5 rfl)
          exact Rv.step_op (op := Go.Op.load 82 (Go.Operand.tmp 111)) (v := wf) (w1 := W) rfl rfl (fun d pos aft g => by unfold execOp; go_simp) ⟨_, rfl, rfl, Below.refl _ _⟩
        | 7, _ =>
          obtain ⟨e11, x11⟩ := Rv.ev (show a.tmps.getD 11 undef = .int .i32 r from hbase 11 rfl)
          exact Rv.step_op (op := Go.Op.move (Go.Operand.tmp 11)) (v := .int .i32 r) (w1 := W) rfl rfl (fun d pos aft g => by unfold execOp; go_simp) ⟨_, rfl, rfl, Below.refl _ _⟩
        | 8, _ =>
          obtain ⟨e110, x110⟩ := Rv.ev (show a.tmps.getD 110 undef = .iface 104 (.agg #[.int .i32 r0, .int .i32 r0]) from hdep 4 rfl)
          obtain ⟨e112, x112⟩ := Rv.ev (show a.tmps.getD 112 undef = wf from hdep 6 rfl)
          obtain ⟨e113, x113⟩ := Rv.ev (show a.tmps.getD 113 undef = .int .i32 r from hdep 7 rfl)
          have hm : ∀ W, (Go.method 258 104 (.agg #[.int .i32 r0, .int .i32 r0]) "Match").run Tryd.prog W = .ok (105, .agg #[.int .i32 r0, .int .i32 r0]) W := fun _ => by kernel_rfl
          have cf : ∀ x0 x1 x2 W, (callFunc 105 #[x0, x1, x2]).run Tryd.prog W = .ok (.enter 105 #[x0, x1, x2]) W := fun _ _ _ _ => by kernel_rfl
          refine Rv.step_fn (op := Go.Op.call { callee := Go.Callee.invoke (Go.Operand.tmp 110) "Match", args := #[Go.Operand.tmp 112, Go.Operand.tmp 113], argTypes := #[82, 21] }) (ty := 35) (f := 105) (args := #[.agg #[.int .i32 r0, .int .i32 r0], wf, .int .i32 r]) (R := fun v W' => v = .tuple #[.bool true, .bool true] ∧ Below W.heap.size W W') rfl rfl (fun d pos aft g => by unfold execOp; go_simp) ((OM.out W).mono ?_) ?_
          · (rintro e W' ⟨rfl, hb⟩; exact ⟨_, rfl, rfl, hb⟩)
          · (rintro v W' ⟨rfl, hb⟩; exact ⟨_, rfl, rfl, hb⟩)
        | 9, _ =>
          obtain ⟨e114, x114⟩ := Rv.ev (show a.tmps.getD 114 undef = .tuple #[.bool true, .bool true] from hdep 8 rfl)
          exact Rv.step_op (op := Go.Op.move (Go.Operand.tmp 114)) (v := .tuple #[.bool true, .bool true]) (w1 := W) rfl rfl (fun d pos aft g => by unfold execOp; go_simp) ⟨_, rfl, rfl, Below.refl _ _⟩
        | 10, _ =>
          obtain ⟨e105, x105⟩ := Rv.ev (show a.tmps.getD 105 undef = .tuple #[.bool true, .bool true] from hdep 9 rfl)
          exact Rv.step_op (op := Go.Op.extract (Go.Operand.tmp 105) 0) (v := .bool true) (w1 := W) rfl rfl (fun d pos aft g => by unfold execOp; go_simp) ⟨_, rfl, rfl, Below.refl _ _⟩
        | 11, _ =>
          obtain ⟨e105, x105⟩ := Rv.ev (show a.tmps.getD 105 undef = .tuple #[.bool true, .bool true] from hdep 9 rfl)
          exact Rv.step_op (op := Go.Op.extract (Go.Operand.tmp 105) 1) (v := .bool true) (w1 := W) rfl rfl (fun d pos aft g => by unfold execOp; go_simp) ⟨_, rfl, rfl, Below.refl _ _⟩
        | 12, _ =>
          obtain ⟨e115, x115⟩ := Rv.ev (show a.tmps.getD 115 undef = .bool true from hdep 10 rfl)
          exact Rv.step_op (op := Go.Op.assign (Go.Operand.tmp 115)) (v := .bool true) (w1 := W) rfl rfl (fun d pos aft g => by unfold execOp; go_simp) ⟨_, rfl, rfl, Below.refl _ _⟩
        | 13, _ =>
          obtain ⟨e116, x116⟩ := Rv.ev (show a.tmps.getD 116 undef = .bool true from hdep 11 rfl)
          exact Rv.step_op (op := Go.Op.assign (Go.Operand.tmp 116)) (v := .bool true) (w1 := W) rfl rfl (fun d pos aft g => by unfold execOp; go_simp) ⟨_, rfl, rfl, Below.refl _ _⟩
        | m + 14, h => exact absurd h (by show ¬ m + 14 < 14; omega)
      intro W f hf htr
      have f0 : f 0 = .pointer (some ⟨w.heap.size, 0, none⟩) := hf 0 (by show 0 < 14; omega)
      have f1 : f 1 = .slice (some ⟨bn, on, none⟩) nodes.length cn := hf 1 (by show 1 < 14; omega)
      have f2 : f 2 = .int .i64 (S.length : Nat) := hf 2 (by show 2 < 14; omega)
      have f3 : f 3 = .pointer (some ⟨bn, on + S.length, none⟩) := hf 3 (by show 3 < 14; omega)
      have f4 : f 4 = .iface 104 (.agg #[.int .i32 r0, .int .i32 r0]) := hf 4 (by show 4 < 14; omega)
      have f5 : f 5 = .pointer (some ⟨w.heap.size, 1, none⟩) := hf 5 (by show 5 < 14; omega)
      have f6 : f 6 = wf := hf 6 (by show 6 < 14; omega)
      have f7 : f 7 = .int .i32 r := hf 7 (by show 7 < 14; omega)
      have f8 : f 8 = .tuple #[.bool true, .bool true] := hf 8 (by show 8 < 14; omega)
      have f9 : f 9 = .tuple #[.bool true, .bool true] := hf 9 (by show 9 < 14; omega)
      have f10 : f 10 = .bool true := hf 10 (by show 10 < 14; omega)
      have f11 : f 11 = .bool true := hf 11 (by show 11 < 14; omega)
      have f12 : f 12 = .bool true := hf 12 (by show 12 < 14; omega)
      have f13 : f 13 = .bool true := hf 13 (by show 13 < 14; omega)
      refine (show ∀ (a : Act) (w : World), Code.wp _ _ _ a w → _ from by assumption) _ _ ?_
      refine Rv.fin_swap (L' := [(106, f 0), (107, f 1), (108, f 2), (109, f 3), (110, f 4), (111, f 5), (112, f 6), (113, f 7), (114, f 8), (105, f 9), (115, f 10), (116, f 11), (13, f 12), (14, f 13)]) rfl ?_
      rw [f0, f1, f2, f3, f4, f5, f6, f7, f8, f9, f10, f11, f12, f13]
      clear f0 f1 f2 f3 f4 f5 f6 f7 f8 f9 f10 f11 f12 f13
      simp only [Rv.fin, List.foldl_cons, List.foldl_nil, Act.put, List.setIfInBounds_toArray, List.set_cons_succ, List.set_cons_zero]
      have HW := Lib.hid (HW1.out.trans (htr.mono HW1.out.size))
      have HBW := Lib.hid (HB1.out.trans (htr.mono hs2))
      clear htr
      have hb2 := off_le T (i + 1) H1.out
      have hb3 : ((off T (i + 1) : Nat) : Int) ≤ 400000 := by omega
      have hov : ((off T i : Nat) : Int) + ((wd : Nat) : Int) = ((off T (i + 1) : Nat) : Int) := by rw [HOS.out]; omega
      go_wp2_with (at_builtin; refine app1 (w0 := X0) X0.heap.size rfl (.tmp 122) (.tmp 124) 38 3 (.int .i64 0) 1 8 rfl Tryd.underlying38 info3 rfl (by omega) (by omega) _ _ _ _ rfl rfl rfl (one1 rfl) (own_belowL HO.out HW.out) HBW.out HBW.out.size (by omega) ?_; intro v9 w9 hown9 hb9 _ _; obtain ⟨g9, c9, rfl⟩ := own_some hown9; have HO9 := Lib.hid hown9; have HB9 := Lib.hid hb9; clear hown9 hb9)
      go_roundg m
      case measure => omega
      case rel => exact ⟨i + 1, S ++ [i + 1], g9, c9, rfl, by rw [List.length_append]; rfl, by rw [List.length_append]; rfl, by have := H1.out; omega, by rw [List.length_append]; simp; omega, H3, Lib.hid (HI.out.push (Nat.le_succ _)), Lib.hid (by rw [offs_append, List.length_append]; exact HO9.out), HB9⟩
    | @neNone i' S' r0 h1 h2 h3 h4 =>
      have hol := off_lt T i h1
      have e1 : ((off T i : Int) == ((str T).size : Int)) = false := by rw [beq_eq_false_iff_ne]; omega
      have hSn : S.length < nodes.length := by
        rcases Nat.lt_or_ge S.length nodes.length with h | h
        · exact h
        · rw [List.getElem?_eq_none h] at h2; cases h2
      have e2 : ((S.length : Int) == (nodes.length : Int)) = false := by rw [beq_eq_false_iff_ne]; omega
      have DE := Lib.hid (fun W (hW : Below X0.heap.size X0 W) => dec_at T i W (tab_below HT.out hW) HAB.out h1)
      have hsl := str_drop T i (Nat.le_of_lt h1)
      have HOS := Lib.hid (off_succ T i h1)
      have hrune := ab_pos (HAB.out _ (List.getElem_mem h1))
      obtain ⟨bn, on, rfl, hbn, hcn⟩ := rd_one HR.out (nds_get nodes S.length hSn)
      rw [List.getElem?_eq_getElem hSn] at h2
      rw [Option.some.inj h2] at hcn
      simp only [Nd.v] at hcn
      have HCN := Lib.hid hcn
      have hTi : T[i]? = some T[i] := List.getElem?_eq_getElem h1
      have hmem : Nd.one r0 ∈ nodes := by rw [← Option.some.inj h2]; exact List.getElem_mem hSn
      have OM := Lib.hid (fun W => oneMatch r0 T[i] W (HNO.out _ hmem))
      rw [hTi] at h3
      rw [decide_eq_false (fun e => h3 (by rw [e]))] at OM
      have H3 := Lib.hid h4
      clear h3 h4 hmem
      clear h2 hcn hTi
      generalize (enc T[i]).length = wd at *
      generalize T[i] = r at *
      have H1 := Lib.hid h1
      clear h1
      have hr1 : (r == 65533) = false := by rw [beq_eq_false_iff_ne]; omega
      go_upto_region 27 with (go_at_call 65; (with_reducible refine (DE.out _ HB.out).mono ?_); rintro e w1 ⟨rfl, hb1⟩; have HW1 := Lib.hid hb1; clear hb1)
      have HB1 := Lib.hid (HB.out.trans (HW1.out.mono hbs))
      obtain ⟨X, rfl⟩ : ∃ X : World, X = w1 := ⟨_, rfl⟩
      have hs2 := HB1.out.size
      refine Rv.region_goods (n := 146) (by kernel_rfl) #[106, 107, 108, 109, 110, 111, 112, 113, 114, 105, 115, 116, 13, 14] #[] (fun i v W => v = (#[.pointer (some ⟨w.heap.size, 0, none⟩), .slice (some ⟨bn, on, none⟩) nodes.length cn, .int .i64 (S.length : Nat), .pointer (some ⟨bn, on + S.length, none⟩), .iface 104 (.agg #[.int .i32 r0, .int .i32 r0]), .pointer (some ⟨w.heap.size, 1, none⟩), wf, .int .i32 r, .tuple #[.bool false, .bool false], .tuple #[.bool false, .bool false], .bool false, .bool false, .bool false, .bool false] : Array Value).getD i undef) (fun i v w w' h hb => ?_) (fun i h g b hg => ?_) rfl (by kernel_rfl) (by kernel_rfl) (fun i h hr w => ?_) ?_ ?_
      · exact h
      · match i, h, hg with
        | 0, _, hg => cases hg
        | 1, _, hg => cases hg
        | 2, _, hg => cases hg
        | 3, _, hg => cases hg
        | 4, _, hg => cases hg
        | 5, _, hg => cases hg
        | 6, _, hg => cases hg
        | 7, _, hg => cases hg
        | 8, _, hg => cases hg
        | 9, _, hg => cases hg
        | 10, _, hg => cases hg
        | 11, _, hg => cases hg
        | 12, _, hg => cases hg
        | 13, _, hg => cases hg
        | m + 14, h, _ => exact absurd h (by show ¬ m + 14 < 14; omega)
      · match i, h, hr with
        | 0, _, hr => exact Bool.noConfusion (show true = false from hr)
        | 1, _, hr => exact Bool.noConfusion (show true = false from hr)
        | 2, _, hr => exact Bool.noConfusion (show true = false from hr)
        | 3, _, hr => exact Bool.noConfusion (show true = false from hr)
        | 4, _, hr => exact Bool.noConfusion (show true = false from hr)
        | 5, _, hr => exact Bool.noConfusion (show true = false from hr)
        | 6, _, hr => exact Bool.noConfusion (show true = false from hr)
        | 7, _, hr => exact Bool.noConfusion (show true = false from hr)
        | 8, _, hr => exact Bool.noConfusion (show true = false from hr)
        | 9, _, hr => exact Bool.noConfusion (show true = false from hr)
        | 10, _, hr => exact Bool.noConfusion (show true = false from hr)
        | 11, _, hr => exact Bool.noConfusion (show true = false from hr)
        | 12, _, hr => exact Bool.noConfusion (show true = false from hr)
        | 13, _, hr => exact Bool.noConfusion (show true = false from hr)
        | m + 14, h, _ => exact absurd h (by show ¬ m + 14 < 14; omega)
      · intro i h a W hrun hbase hpre hdep htr
        have HBW := HB1.out.trans (htr.mono hs2)
        have m := (HBW.block w.heap.size hX).trans HM.out
        have n0 : W.cell? ⟨w.heap.size, 0, none⟩ = some (.slice (some ⟨bn, on, none⟩) nodes.length cn) := by simp [World.cell?, m]
        have n1 : W.cell? ⟨w.heap.size, 1, none⟩ = some wf := by simp [World.cell?, m]
        have q0 : W.cell? ⟨bn, on + S.length, none⟩ = some (.iface 104 (.agg #[.int .i32 r0, .int .i32 r0])) := (HBW.cell (p := ⟨bn, on + S.length, none⟩) hbn).trans HCN.out
        match i, h with
        | 0, _ =>
          obtain ⟨e2, x2⟩ := Rv.ev (show a.tmps.getD 2 undef = .pointer (some ⟨w.heap.size, 0, none⟩) from hbase 2 rfl)
          exact Rv.step_op (op := Go.Op.fieldAddr 85 (Go.Operand.tmp 2) 0) (v := .pointer (some ⟨w.heap.size, 0, none⟩)) (w1 := W) rfl rfl (fun d pos aft g => by unfold execOp; go_simp) ⟨_, rfl, rfl, Below.refl _ _⟩
        | 1, _ =>
          obtain ⟨e106, x106⟩ := Rv.ev (show a.tmps.getD 106 undef = .pointer (some ⟨w.heap.size, 0, none⟩) from hdep 0 rfl)
          exact Rv.step_op (op := Go.Op.load 83 (Go.Operand.tmp 106)) (v := .slice (some ⟨bn, on, none⟩) nodes.length cn) (w1 := W) rfl rfl (fun d pos aft g => by unfold execOp; go_simp) ⟨_, rfl, rfl, Below.refl _ _⟩
        | 2, _ =>
          obtain ⟨e6, x6⟩ := Rv.ev (show a.tmps.getD 6 undef = .int .i64 (S.length : Nat) from hbase 6 rfl)
          exact Rv.step_op (op := Go.Op.move (Go.Operand.tmp 6)) (v := .int .i64 (S.length : Nat)) (w1 := W) rfl rfl (fun d pos aft g => by unfold execOp; go_simp) ⟨_, rfl, rfl, Below.refl _ _⟩
        | 3, _ =>
          obtain ⟨e107, x107⟩ := Rv.ev (show a.tmps.getD 107 undef = .slice (some ⟨bn, on, none⟩) nodes.length cn from hdep 1 rfl)
          obtain ⟨e108, x108⟩ := Rv.ev (show a.tmps.getD 108 undef = .int .i64 (S.length : Nat) from hdep 2 rfl)
          exact Rv.step_op (op := Go.Op.indexAddr 83 (Go.Operand.tmp 107) (Go.Operand.tmp 108)) (v := .pointer (some ⟨bn, on + S.length, none⟩)) (w1 := W) rfl rfl (fun d pos aft g => by unfold execOp; go_simp) ⟨_, rfl, rfl, Below.refl _ _⟩
        | 4, _ =>
          obtain ⟨e109, x109⟩ := Rv.ev (show a.tmps.getD 109 undef = .pointer (some ⟨bn, on + S.length, none⟩) from hdep 3 rfl)
          exact Rv.step_op (op := Go.Op.load 110 (Go.Operand.tmp 109)) (v := .iface 104 (.agg #[.int .i32 r0, .int .i32 r0])) (w1 := W) rfl rfl (fun d pos aft g => by unfold execOp; go_simp) ⟨_, rfl, rfl, Below.refl _ _⟩
        | 5, _ =>
          obtain ⟨e2, x2⟩ := Rv.ev (show a.tmps.getD 2 undef = .pointer (some ⟨w.heap.size, 0, none⟩) from hbase 2 rfl)
          exact Rv.step_op (op := Go.Op.fieldAddr 85 (Go.Operand.tmp 2) 1) (v := .pointer (some ⟨w.heap.size, 1, none⟩)) (w1 := W) rfl rfl (fun d pos aft g => by unfold execOp; go_simp) ⟨_, rfl, rfl, Below.refl _ _⟩
        | 6, _ =>
          obtain ⟨e111, x111⟩ := Rv.ev (show a.tmps.getD 111 undef = .pointer (some ⟨w.heap.size, 1, none⟩) from hdep 5 rfl)
          exact Rv.step_op (op := Go.Op.load 82 (Go.Operand.tmp 111)) (v := wf) (w1 := W) rfl rfl (fun d pos aft g => by unfold execOp; go_simp) ⟨_, rfl, rfl, Below.refl _ _⟩
        | 7, _ =>
          obtain ⟨e11, x11⟩ := Rv.ev (show a.tmps.getD 11 undef = .int .i32 r from hbase 11 rfl)
          exact Rv.step_op (op := Go.Op.move (Go.Operand.tmp 11)) (v := .int .i32 r) (w1 := W) rfl rfl (fun d pos aft g => by unfold execOp; go_simp) ⟨_, rfl, rfl, Below.refl _ _⟩
        | 8, _ =>
          obtain ⟨e110, x110⟩ := Rv.ev (show a.tmps.getD 110 undef = .iface 104 (.agg #[.int .i32 r0, .int .i32 r0]) from hdep 4 rfl)
          obtain ⟨e112, x112⟩ := Rv.ev (show a.tmps.getD 112 undef = wf from hdep 6 rfl)
          obtain ⟨e113, x113⟩ := Rv.ev (show a.tmps.getD 113 undef = .int .i32 r from hdep 7 rfl)
          have hm : ∀ W, (Go.method 258 104 (.agg #[.int .i32 r0, .int .i32 r0]) "Match").run Tryd.prog W = .ok (105, .agg #[.int .i32 r0, .int .i32 r0]) W := fun _ => by kernel_rfl
          have cf : ∀ x0 x1 x2 W, (callFunc 105 #[x0, x1, x2]).run Tryd.prog W = .ok (.enter 105 #[x0, x1, x2]) W := fun _ _ _ _ => by kernel_rfl
          refine Rv.step_fn (op := Go.Op.call { callee := Go.Callee.invoke (Go.Operand.tmp 110) "Match", args := #[Go.Operand.tmp 112, Go.Operand.tmp 113], argTypes := #[82, 21] }) (ty := 35) (f := 105) (args := #[.agg #[.int .i32 r0, .int .i32 r0], wf, .int .i32 r]) (R := fun v W' => v = .tuple #[.bool false, .bool false] ∧ Below W.heap.size W W') rfl rfl (fun d pos aft g => by unfold execOp; go_simp) ((OM.out W).mono ?_) ?_
          · (rintro e W' ⟨rfl, hb⟩; exact ⟨_, rfl, rfl, hb⟩)
          · (rintro v W' ⟨rfl, hb⟩; exact ⟨_, rfl, rfl, hb⟩)
        | 9, _ =>
          obtain ⟨e114, x114⟩ := Rv.ev (show a.tmps.getD 114 undef = .tuple #[.bool false, .bool false] from hdep 8 rfl)
          exact Rv.step_op (op := Go.Op.move (Go.Operand.tmp 114)) (v := .tuple #[.bool false, .bool false]) (w1 := W) rfl rfl (fun d pos aft g => by unfold execOp; go_simp) ⟨_, rfl, rfl, Below.refl _ _⟩
        | 10, _ =>
          obtain ⟨e105, x105⟩ := Rv.ev (show a.tmps.getD 105 undef = .tuple #[.bool false, .bool false] from hdep 9 rfl)
          exact Rv.step_op (op := Go.Op.extract (Go.Operand.tmp 105) 0) (v := .bool false) (w1 := W) rfl rfl (fun d pos aft g => by unfold execOp; go_simp) ⟨_, rfl, rfl, Below.refl _ _⟩
        | 11, _ =>
          obtain ⟨e105, x105⟩ := Rv.ev (show a.tmps.getD 105 undef = .tuple #[.bool false, .bool false] from hdep 9 rfl)
          exact Rv.step_op (op := Go.Op.extract (Go.Operand.tmp 105) 1) (v := .bool false) (w1 := W) rfl rfl (fun d pos aft g => by unfold execOp; go_simp) ⟨_, rfl, rfl, Below.refl _ _⟩
        | 12, _ =>
          obtain ⟨e115, x115⟩ := Rv.ev (show a.tmps.getD 115 undef = .bool false from hdep 10 rfl)
          exact Rv.step_op (op := Go.Op.assign (Go.Operand.tmp 115)) (v := .bool false) (w1 := W) rfl rfl (fun d pos aft g => by unfold execOp; go_simp) ⟨_, rfl, rfl, Below.refl _ _⟩
        | 13, _ =>
          obtain ⟨e116, x116⟩ := Rv.ev (show a.tmps.getD 116 undef = .bool false from hdep 11 rfl)
          exact Rv.step_op (op := Go.Op.assign (Go.Operand.tmp 116)) (v := .bool false) (w1 := W) rfl rfl (fun d pos aft g => by unfold execOp; go_simp) ⟨_, rfl, rfl, Below.refl _ _⟩
        | m + 14, h => exact absurd h (by show ¬ m + 14 < 14; omega)
      intro W f hf htr
      have f0 : f 0 = .pointer (some ⟨w.heap.size, 0, none⟩) := hf 0 (by show 0 < 14; omega)
      have f1 : f 1 = .slice (some ⟨bn, on, none⟩) nodes.length cn := hf 1 (by show 1 < 14; omega)
      have f2 : f 2 = .int .i64 (S.length : Nat) := hf 2 (by show 2 < 14; omega)
      have f3 : f 3 = .pointer (some ⟨bn, on + S.length, none⟩) := hf 3 (by show 3 < 14; omega)
      have f4 : f 4 = .iface 104 (.agg #[.int .i32 r0, .int .i32 r0]) := hf 4 (by show 4 < 14; omega)
      have f5 : f 5 = .pointer (some ⟨w.heap.size, 1, none⟩) := hf 5 (by show 5 < 14; omega)
      have f6 : f 6 = wf := hf 6 (by show 6 < 14; omega)
      have f7 : f 7 = .int .i32 r := hf 7 (by show 7 < 14; omega)
      have f8 : f 8 = .tuple #[.bool false, .bool false] := hf 8 (by show 8 < 14; omega)
      have f9 : f 9 = .tuple #[.bool false, .bool false] := hf 9 (by show 9 < 14; omega)
      have f10 : f 10 = .bool false := hf 10 (by show 10 < 14; omega)
      have f11 : f 11 = .bool false := hf 11 (by show 11 < 14; omega)
      have f12 : f 12 = .bool false := hf 12 (by show 12 < 14; omega)
      have f13 : f 13 = .bool false := hf 13 (by show 13 < 14; omega)
      refine (show ∀ (a : Act) (w : World), Code.wp _ _ _ a w → _ from by assumption) _ _ ?_
      refine Rv.fin_swap (L' := [(106, f 0), (107, f 1), (108, f 2), (109, f 3), (110, f 4), (111, f 5), (112, f 6), (113, f 7), (114, f 8), (105, f 9), (115, f 10), (116, f 11), (13, f 12), (14, f 13)]) rfl ?_
      rw [f0, f1, f2, f3, f4, f5, f6, f7, f8, f9, f10, f11, f12, f13]
      clear f0 f1 f2 f3 f4 f5 f6 f7 f8 f9 f10 f11 f12 f13
      simp only [Rv.fin, List.foldl_cons, List.foldl_nil, Act.put, List.setIfInBounds_toArray, List.set_cons_succ, List.set_cons_zero]
      have HW := Lib.hid (HW1.out.trans (htr.mono HW1.out.size))
      have HBW := Lib.hid (HB1.out.trans (htr.mono hs2))
      clear htr
      have HBF2 := Lib.hid (HA.out.trans (HBW.out.mono HA.out.size))
      have hdd : W.cell? ⟨w.heap.size, 0, none⟩ = some (.slice (some ⟨bn, on, none⟩) nodes.length cn) ∧ W.cell? ⟨w.heap.size, 1, none⟩ = some wf ∧ W.cell? ⟨w.heap.size, 2, none⟩ = some (.int .i32 92) := by
        have m := (HBW.out.block w.heap.size hX).trans HM.out
        refine ⟨?_, ?_, ?_⟩ <;> simp [World.cell?, m]
      obtain ⟨hd0, hd1, hd2⟩ := hdd
      go_wp2_with (go_at_call 67; (with_reducible refine (BK.out _ _ HW.out (.inr rfl) H1.out).mono ?_); rintro e w1 hbp; obtain ⟨rfl, hb1⟩ := back_none hbp H3.out; have HB1 := Lib.hid (HBF2.out.trans (hb1.mono HBF2.out.size)); clear hbp hb1)
      go_ret
      exact ⟨rfl, HB1.out⟩
    | @neSome m i' S' r0 S1 x b' h1 h2 h3 h4 h5 =>
      have hol := off_lt T i h1
      have e1 : ((off T i : Int) == ((str T).size : Int)) = false := by rw [beq_eq_false_iff_ne]; omega
      have hSn : S.length < nodes.length := by
        rcases Nat.lt_or_ge S.length nodes.length with h | h
        · exact h
        · rw [List.getElem?_eq_none h] at h2; cases h2
      have e2 : ((S.length : Int) == (nodes.length : Int)) = false := by rw [beq_eq_false_iff_ne]; omega
      have DE := Lib.hid (fun W (hW : Below X0.heap.size X0 W) => dec_at T i W (tab_below HT.out hW) HAB.out h1)
      have hsl := str_drop T i (Nat.le_of_lt h1)
      have HOS := Lib.hid (off_succ T i h1)
      have hrune := ab_pos (HAB.out _ (List.getElem_mem h1))
      obtain ⟨bn, on, rfl, hbn, hcn⟩ := rd_one HR.out (nds_get nodes S.length hSn)
      rw [List.getElem?_eq_getElem hSn] at h2
      rw [Option.some.inj h2] at hcn
      simp only [Nd.v] at hcn
      have HCN := Lib.hid hcn
      have hTi : T[i]? = some T[i] := List.getElem?_eq_getElem h1
      have hmem : Nd.one r0 ∈ nodes := by rw [← Option.some.inj h2]; exact List.getElem_mem hSn
      have OM := Lib.hid (fun W => oneMatch r0 T[i] W (HNO.out _ hmem))
      rw [hTi] at h3
      rw [decide_eq_false (fun e => h3 (by rw [e]))] at OM
      have H3 := Lib.hid h4
      have H4 := Lib.hid h5
      clear h3 h4 h5 hmem
      clear h2 hcn hTi
      generalize (enc T[i]).length = wd at *
      generalize T[i] = r at *
      have H1 := Lib.hid h1
      clear h1
      have hr1 : (r == 65533) = false := by rw [beq_eq_false_iff_ne]; omega
      go_upto_region 27 with (go_at_call 65; (with_reducible refine (DE.out _ HB.out).mono ?_); rintro e w1 ⟨rfl, hb1⟩; have HW1 := Lib.hid hb1; clear hb1)
      have HB1 := Lib.hid (HB.out.trans (HW1.out.mono hbs))
      obtain ⟨X, rfl⟩ : ∃ X : World, X = w1 := ⟨_, rfl⟩
      have hs2 := HB1.out.size
      refine Rv.region_goods (n := 146) (by kernel_rfl) #[106, 107, 108, 109, 110, 111, 112, 113, 114, 105, 115, 116, 13, 14] #[] (fun i v W => v = (#[.pointer (some ⟨w.heap.size, 0, none⟩), .slice (some ⟨bn, on, none⟩) nodes.length cn, .int .i64 (S.length : Nat), .pointer (some ⟨bn, on + S.length, none⟩), .iface 104 (.agg #[.int .i32 r0, .int .i32 r0]), .pointer (some ⟨w.heap.size, 1, none⟩), wf, .int .i32 r, .tuple #[.bool false, .bool false], .tuple #[.bool false, .bool false], .bool false, .bool false, .bool false, .bool false] : Array Value).getD i undef) (fun i v w w' h hb => ?_) (fun i h g b hg => ?_) rfl (by kernel_rfl) (by kernel_rfl) (fun i h hr w => ?_) ?_ ?_
      · exact h
      · match i, h, hg with
        | 0, _, hg => cases hg
        | 1, _, hg => cases hg
        | 2, _, hg => cases hg
        | 3, _, hg => cases hg
        | 4, _, hg => cases hg
        | 5, _, hg => cases hg
        | 6, _, hg => cases hg
        | 7, _, hg => cases hg
        | 8, _, hg => cases hg
        | 9, _, hg => cases hg
        | 10, _, hg => cases hg
        | 11, _, hg => cases hg
        | 12, _, hg => cases hg
        | 13, _, hg => cases hg
        | m + 14, h, _ => exact absurd h (by show ¬ m + 14 < 14; omega)
      · match i, h, hr with
        | 0, _, hr => exact Bool.noConfusion (show true = false from hr)
        | 1, _, hr => exact Bool.noConfusion (show true = false from hr)
        | 2, _, hr => exact Bool.noConfusion (show true = false from hr)
        | 3, _, hr => exact Bool.noConfusion (show true = false from hr)
        | 4, _, hr => exact Bool.noConfusion (show true = false from hr)
        | 5, _, hr => exact Bool.noConfusion (show true = false from hr)
        | 6, _, hr => exact Bool.noConfusion (show true = false from hr)
        | 7, _, hr => exact Bool.noConfusion (show true = false from hr)
        | 8, _, hr => exact Bool.noConfusion (show true = false from hr)
        | 9, _, hr => exact Bool.noConfusion (show true = false from hr)
        | 10, _, hr => exact Bool.noConfusion (show true = false from hr)
        | 11, _, hr => exact Bool.noConfusion (show true = false from hr)
        | 12, _, hr => exact Bool.noConfusion (show true = false from hr)
        | 13, _, hr => exact Bool.noConfusion (show true = false from hr)
        | m + 14, h, _ => exact absurd h (by show ¬ m + 14 < 14; omega)
      · intro i h a W hrun hbase hpre hdep htr
        have HBW := HB1.out.trans (htr.mono hs2)
        have m := (HBW.block w.heap.size hX).trans HM.out
        have n0 : W.cell? ⟨w.heap.size, 0, none⟩ = some (.slice (some ⟨bn, on, none⟩) nodes.length cn) := by simp [World.cell?, m]
        have n1 : W.cell? ⟨w.heap.size, 1, none⟩ = some wf := by simp [World.cell?, m]
        have q0 : W.cell? ⟨bn, on + S.length, none⟩ = some (.iface 104 (.agg #[.int .i32 r0, .int .i32 r0])) := (HBW.cell (p := ⟨bn, on + S.length, none⟩) hbn).trans HCN.out
        match i, h with
        | 0, _ =>
          obtain ⟨e2, x2⟩ := Rv.ev (show a.tmps.getD 2 undef = .pointer (some ⟨w.heap.size, 0, none⟩) from hbase 2 rfl)
          exact Rv.step_op (op := Go.Op.fieldAddr 85 (Go.Operand.tmp 2) 0) (v := .pointer (some ⟨w.heap.size, 0, none⟩)) (w1 := W) rfl rfl (fun d pos aft g => by unfold execOp; go_simp) ⟨_, rfl, rfl, Below.refl _ _⟩
        | 1, _ =>
          obtain ⟨e106, x106⟩ := Rv.ev (show a.tmps.getD 106 undef = .pointer (some ⟨w.heap.size, 0, none⟩) from hdep 0 rfl)
          exact Rv.step_op (op := Go.Op.load 83 (Go.Operand.tmp 106)) (v := .slice (some ⟨bn, on, none⟩) nodes.length cn) (w1 := W) rfl rfl (fun d pos aft g => by unfold execOp; go_simp) ⟨_, rfl, rfl, Below.refl _ _⟩
        | 2, _ =>
          obtain ⟨e6, x6⟩ := Rv.ev (show a.tmps.getD 6 undef = .int .i64 (S.length : Nat) from hbase 6 rfl)
          exact Rv.step_op (op := Go.Op.move (Go.Operand.tmp 6)) (v := .int .i64 (S.length : Nat)) (w1 := W) rfl rfl (fun d pos aft g => by unfold execOp; go_simp) ⟨_, rfl, rfl, Below.refl _ _⟩
        | 3, _ =>
          obtain ⟨e107, x107⟩ := Rv.ev (show a.tmps.getD 107 undef = .slice (some ⟨bn, on, none⟩) nodes.length cn from hdep 1 rfl)
          obtain ⟨e108, x108⟩ := Rv.ev (show a.tmps.getD 108 undef = .int .i64 (S.length : Nat) from hdep 2 rfl)
          exact Rv.step_op (op := Go.Op.indexAddr 83 (Go.Operand.tmp 107) (Go.Operand.tmp 108)) (v := .pointer (some ⟨bn, on + S.length, none⟩)) (w1 := W) rfl rfl (fun d pos aft g => by unfold execOp; go_simp) ⟨_, rfl, rfl, Below.refl _ _⟩
        | 4, _ =>
          obtain ⟨e109, x109⟩ := Rv.ev (show a.tmps.getD 109 undef = .pointer (some ⟨bn, on + S.length, none⟩) from hdep 3 rfl)
          exact Rv.step_op (op := Go.Op.load 110 (Go.Operand.tmp 109)) (v := .iface 104 (.agg #[.int .i32 r0, .int .i32 r0])) (w1 := W) rfl rfl (fun d pos aft g => by unfold execOp; go_simp) ⟨_, rfl, rfl, Below.refl _ _⟩
        | 5, _ =>
          obtain ⟨e2, x2⟩ := Rv.ev (show a.tmps.getD 2 undef = .pointer (some ⟨w.heap.size, 0, none⟩) from hbase 2 rfl)
          exact Rv.step_op (op := Go.Op.fieldAddr 85 (Go.Operand.tmp 2) 1) (v := .pointer (some ⟨w.heap.size, 1, none⟩)) (w1 := W) rfl rfl (fun d pos aft g => by unfold execOp; go_simp) ⟨_, rfl, rfl, Below.refl _ _⟩
        | 6, _ =>
          obtain ⟨e111, x111⟩ := Rv.ev (show a.tmps.getD 111 undef = .pointer (some ⟨w.heap.size, 1, none⟩) from hdep 5 rfl)
          exact Rv.step_op (op := Go.Op.load 82 (Go.Operand.tmp 111)) (v := wf) (w1 := W) rfl rfl (fun d pos aft g => by unfold execOp; go_simp) ⟨_, rfl, rfl, Below.refl _ _⟩
        | 7, _ =>
          obtain ⟨e11, x11⟩ := Rv.ev (show a.tmps.getD 11 undef = .int .i32 r from hbase 11 rfl)
          exact Rv.step_op (op := Go.Op.move (Go.Operand.tmp 11)) (v := .int .i32 r) (w1 := W) rfl rfl (fun d pos aft g => by unfold execOp; go_simp) ⟨_, rfl, rfl, Below.refl _ _⟩
        | 8, _ =>
          obtain ⟨e110, x110⟩ := Rv.ev (show a.tmps.getD 110 undef = .iface 104 (.agg #[.int .i32 r0, .int .i32 r0]) from hdep 4 rfl)
          obtain ⟨e112, x112⟩ := Rv.ev (show a.tmps.getD 112 undef = wf from hdep 6 rfl)
          obtain ⟨e113, x113⟩ := Rv.ev (show a.tmps.getD 113 undef = .int .i32 r from hdep 7 rfl)
          have hm : ∀ W, (Go.method 258 104 (.agg #[.int .i32 r0, .int .i32 r0]) "Match").run Tryd.prog W = .ok (105, .agg #[.int .i32 r0, .int .i32 r0]) W := fun _ => by kernel_rfl
          have cf : ∀ x0 x1 x2 W, (callFunc 105 #[x0, x1, x2]).run Tryd.prog W = .ok (.enter 105 #[x0, x1, x2]) W := fun _ _ _ _ => by kernel_rfl
          refine Rv.step_fn (op := Go.Op.call { callee := Go.Callee.invoke (Go.Operand.tmp 110) "Match", args := #[Go.Operand.tmp 112, Go.Operand.tmp 113], argTypes := #[82, 21] }) (ty := 35) (f := 105) (args := #[.agg #[.int .i32 r0, .int .i32 r0], wf, .int .i32 r]) (R := fun v W' => v = .tuple #[.bool false, .bool false] ∧ Below W.heap.size W W') rfl rfl (fun d pos aft g => by unfold execOp; go_simp) ((OM.out W).mono ?_) ?_
          · (rintro e W' ⟨rfl, hb⟩; exact ⟨_, rfl, rfl, hb⟩)
          · (rintro v W' ⟨rfl, hb⟩; exact ⟨_, rfl, rfl, hb⟩)
        | 9, _ =>
          obtain ⟨e114, x114⟩ := Rv.ev (show a.tmps.getD 114 undef = .tuple #[.bool false, .bool false] from hdep 8 rfl)
          exact Rv.step_op (op := Go.Op.move (Go.Operand.tmp 114)) (v := .tuple #[.bool false, .bool false]) (w1 := W) rfl rfl (fun d pos aft g => by unfold execOp; go_simp) ⟨_, rfl, rfl, Below.refl _ _⟩
        | 10, _ =>
          obtain ⟨e105, x105⟩ := Rv.ev (show a.tmps.getD 105 undef = .tuple #[.bool false, .bool false] from hdep 9 rfl)
          exact Rv.step_op (op := Go.Op.extract (Go.Operand.tmp 105) 0) (v := .bool false) (w1 := W) rfl rfl (fun d pos aft g => by unfold execOp; go_simp) ⟨_, rfl, rfl, Below.refl _ _⟩
        | 11, _ =>
          obtain ⟨e105, x105⟩ := Rv.ev (show a.tmps.getD 105 undef = .tuple #[.bool false, .bool false] from hdep 9 rfl)
          exact Rv.step_op (op := Go.Op.extract (Go.Operand.tmp 105) 1) (v := .bool false) (w1 := W) rfl rfl (fun d pos aft g => by unfold execOp; go_simp) ⟨_, rfl, rfl, Below.refl _ _⟩
        | 12, _ =>
          obtain ⟨e115, x115⟩ := Rv.ev (show a.tmps.getD 115 undef = .bool false from hdep 10 rfl)
          exact Rv.step_op (op := Go.Op.assign (Go.Operand.tmp 115)) (v := .bool false) (w1 := W) rfl rfl (fun d pos aft g => by unfold execOp; go_simp) ⟨_, rfl, rfl, Below.refl _ _⟩
        | 13, _ =>
          obtain ⟨e116, x116⟩ := Rv.ev (show a.tmps.getD 116 undef = .bool false from hdep 11 rfl)
          exact Rv.step_op (op := Go.Op.assign (Go.Operand.tmp 116)) (v := .bool false) (w1 := W) rfl rfl (fun d pos aft g => by unfold execOp; go_simp) ⟨_, rfl, rfl, Below.refl _ _⟩
        | m + 14, h => exact absurd h (by show ¬ m + 14 < 14; omega)
      intro W f hf htr
      have f0 : f 0 = .pointer (some ⟨w.heap.size, 0, none⟩) := hf 0 (by show 0 < 14; omega)
      have f1 : f 1 = .slice (some ⟨bn, on, none⟩) nodes.length cn := hf 1 (by show 1 < 14; omega)
      have f2 : f 2 = .int .i64 (S.length : Nat) := hf 2 (by show 2 < 14; omega)
      have f3 : f 3 = .pointer (some ⟨bn, on + S.length, none⟩) := hf 3 (by show 3 < 14; omega)
      have f4 : f 4 = .iface 104 (.agg #[.int .i32 r0, .int .i32 r0]) := hf 4 (by show 4 < 14; omega)
      have f5 : f 5 = .pointer (some ⟨w.heap.size, 1, none⟩) := hf 5 (by show 5 < 14; omega)
      have f6 : f 6 = wf := hf 6 (by show 6 < 14; omega)
      have f7 : f 7 = .int .i32 r := hf 7 (by show 7 < 14; omega)
      have f8 : f 8 = .tuple #[.bool false, .bool false] := hf 8 (by show 8 < 14; omega)
      have f9 : f 9 = .tuple #[.bool false, .bool false] := hf 9 (by show 9 < 14; omega)
      have f10 : f 10 = .bool false := hf 10 (by show 10 < 14; omega)
      have f11 : f 11 = .bool false := hf 11 (by show 11 < 14; omega)
      have f12 : f 12 = .bool false := hf 12 (by show 12 < 14; omega)
      have f13 : f 13 = .bool false := hf 13 (by show 13 < 14; omega)
      refine (show ∀ (a : Act) (w : World), Code.wp _ _ _ a w → _ from by assumption) _ _ ?_
      refine Rv.fin_swap (L' := [(106, f 0), (107, f 1), (108, f 2), (109, f 3), (110, f 4), (111, f 5), (112, f 6), (113, f 7), (114, f 8), (105, f 9), (115, f 10), (116, f 11), (13, f 12), (14, f 13)]) rfl ?_
      rw [f0, f1, f2, f3, f4, f5, f6, f7, f8, f9, f10, f11, f12, f13]
      clear f0 f1 f2 f3 f4 f5 f6 f7 f8 f9 f10 f11 f12 f13
      simp only [Rv.fin, List.foldl_cons, List.foldl_nil, Act.put, List.setIfInBounds_toArray, List.set_cons_succ, List.set_cons_zero]
      have HW := Lib.hid (HW1.out.trans (htr.mono HW1.out.size))
      have HBW := Lib.hid (HB1.out.trans (htr.mono hs2))
      clear htr
      have hdd : W.cell? ⟨w.heap.size, 0, none⟩ = some (.slice (some ⟨bn, on, none⟩) nodes.length cn) ∧ W.cell? ⟨w.heap.size, 1, none⟩ = some wf ∧ W.cell? ⟨w.heap.size, 2, none⟩ = some (.int .i32 92) := by
        have m := (HBW.out.block w.heap.size hX).trans HM.out
        refine ⟨?_, ?_, ?_⟩ <;> simp [World.cell?, m]
      obtain ⟨hd0, hd1, hd2⟩ := hdd
      go_wp2_with (go_at_call 67; (with_reducible refine (BK.out _ _ HW.out (.inr rfl) H1.out).mono ?_); rintro e w1 hbp; obtain ⟨k, rfl, hbs1⟩ := back_some hbp H3.out; have HBS := Lib.hid hbs1; obtain ⟨hkS, -, -, -, hck, -, hkc⟩ := hbs1; have hcr := cut_run1 g S.length c k hkc; clear hbp)
      obtain ⟨_, hL, hx, ho, _, hb, _⟩ := HBS.out
      have hLlen : (S1 ++ [x]).length = k + 1 := by rw [hL, List.length_append, List.length_take]; simp; omega
      have hIB := HI.out.back hkS
      rw [← hx, ← hL] at hIB
      have hHB := (HB.out.trans (HW.out.mono hbs)).trans (hb.mono hbase)
      go_roundg m
      case measure => omega
      case rel => exact ⟨x, S1 ++ [x], g, c, rfl, by rw [hLlen]; rfl, by rw [hLlen], by have h9 := hIB.2; have h10 := H1.out; omega, by omega, H4, Lib.hid hIB.1, Lib.hid (by rw [hLlen]; exact ho), Lib.hid hHB⟩
end Go.Proofs.YtbcclblocagneaaDoor.Lk
