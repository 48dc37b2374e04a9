/- RemoveOverlap: the program's way. Conditions: those written at each lemma. -/
import Derived.Test.YtfnogpelaoofbaaGreatDoorRui
import Derived.Test.YtfnogpelaoofbaaGreatDoorRuk
set_option linter.unusedVariables false
set_option linter.unusedSimpArgs false
set_option maxRecDepth 100000
set_option maxHeartbeats 8000000
namespace Go.Proofs.YtfnogpelaoofbaaGreatDoor.Rg
open Go.RowKit Go.Proofs.YtfnogpelaoofbaaGreatDoor.B Go.Proofs.YtfnogpelaoofbaaGreatDoor.Sp

theorem ovs_cl (a b : Cl) (pa : Ful a) (pb : Ful b) (h : Ov1 a b) (W : World) : Calls Tryz.prog 51 #[a.e, b.e] W fun e w' => e = .returned (.tuple #[(mtc a b).e, .bool true, .nilIface]) ∧ Below W.heap.size W w' := by
  have h1 := overlaps_ct (ctOf a.a a.x) (ctOf a.b a.y) (ctOf b.a b.x) (ctOf b.b b.y) W
  have hy : ovY (ctOf a.a a.x) (ctOf a.b a.y) (ctOf b.a b.x) (ctOf b.b b.y) = true := by
    unfold ovY
    rw [cp_pos pa.1 pb.2.1, cp_pos pb.1 pa.2.1, ← Bool.decide_and]
    exact decide_eq_true (by rw [sg_neg, sg_neg]; exact h)
  have e1 : (if cp (ctOf a.a a.x) (ctOf b.a b.x) = -1 then ctOf b.a b.x else ctOf a.a a.x) = ctOf (mtc a b).a (mtc a b).x := by
    rw [mtc_ctlo, cp_pos pa.1 pb.1]
    by_cases h1 : b.lo > a.lo
    · rw [if_pos h1, if_pos (sg_m1.2 h1)]
    · rw [if_neg h1, if_neg (fun e => h1 (sg_m1.1 e))]
  have e2 : (if cp (ctOf a.b a.y) (ctOf b.b b.y) = 1 then ctOf b.b b.y else ctOf a.b a.y) = ctOf (mtc a b).b (mtc a b).y := by
    rw [mtc_cthi, cp_pos pa.2.1 pb.2.1]
    by_cases h1 : b.hi < a.hi
    · rw [if_pos h1, if_pos (sg_p1.2 h1)]
    · rw [if_neg h1, if_neg (fun e => h1 (sg_p1.1 e))]
  unfold ovL ovU at h1
  rw [hy, if_pos rfl, if_pos rfl, e1, e2, ex_eq, ex_eq, ex_eq] at h1
  exact h1
theorem ovs_zip {p q : List Cl} {n : Nat} (h : Two p q n) : ((p.zip q).all fun c => ovC c.1 c.2) = true ↔ Ovs p q :=
  zip_all (h.1.trans h.2.1.symm) fun j hj => by
    have fp := h.2.2.1 _ (gt_mem hj)
    have fq := h.2.2.2 _ (gt_mem (l := q) (i := j) (by have := h.1; have := h.2.1; omega))
    rw [ovT_eq ⟨fp.1, fp.2.1⟩ ⟨fq.1, fq.2.1⟩, decide_eq_true_iff]
theorem sub_e (a b : Cl) (pa : Pcl a) (pb : Pcl b) (W : World) : Calls Tryz.prog 52 #[a.e, b.e] W fun e w' => ∃ v, e = .returned (.tuple #[v, .nilIface]) ∧ w'.ownsRow 0 92 3 v (sub a b).length (exs (sub a b)) ∧ Below W.heap.size W w' := by
  have h := suo_cl a b W pa pb
  rw [ex_eq, ex_eq] at h
  exact h
/-- One range of the program's, in a row. -/
def OE (W : World) (u : Value) (l : List Cl) : Prop := ∃ A c, u = .slice A l.length c ∧ W.ownsRow 0 92 3 u l.length (exs l)
theorem OE.of {W : World} {B : Nat} {u : Value} {l : List Cl} (h : W.ownsRow B 92 3 u l.length (exs l)) : OE W u l := by
  obtain ⟨A, c, rfl, _⟩ := (Rd.of_own h).shape
  exact ⟨A, c, rfl, h.mono (Nat.zero_le _)⟩
theorem OE.below {W W1 : World} {v : Value} {l : List Cl} (h : OE W v l) (hb : Below W.heap.size W W1) : OE W1 v l := by
  obtain ⟨A, c, h1, h2⟩ := h
  exact ⟨A, c, h1, own_below h2 hb⟩
theorem OE.grown {W W1 : World} {B : Nat} {v u : Value} {l : List Cl} {n : Nat} {vs : List Value} (h : OE W v l) (hu : W.ownsRow B 63 1 u n vs) (hg : W.grownBy W1 u.ownBlock) : OE W1 v l := by
  obtain ⟨A, c, h1, h2⟩ := h
  exact ⟨A, c, h1, own_grown h2 hu (by decide) hg⟩
/-- Some ranges of the program's. -/
def EL (W : World) (B : Nat) (r : Value) (L : List (List Cl)) : Prop := ∃ vs, W.ownsRow B 63 1 r L.length vs ∧ All1 (OE W) vs L
theorem EL.below {W W1 : World} {B : Nat} {v : Value} {ls : List (List Cl)} (h : EL W B v ls) (hb : Below W.heap.size W W1) : EL W1 B v ls := by
  obtain ⟨vs, h1, h2⟩ := h
  exact ⟨vs, own_below h1 hb, h2.imp fun _ _ h => h.below hb⟩
theorem EL.mono {W : World} {B B1 : Nat} {v : Value} {ls : List (List Cl)} (h : EL W B v ls) (hb : B1 ≤ B) : EL W B1 v ls := by
  obtain ⟨vs, h1, h2⟩ := h
  exact ⟨vs, h1.mono hb, h2⟩
theorem All1.app {α : Type} {P : Value → α → Prop} {vs us : List Value} {ls ms : List α} (h : All1 P vs ls) (k : All1 P us ms) : All1 P (vs ++ us) (ls ++ ms) := by
  refine ⟨by simp [h.1, k.1], fun i h1 h2 => ?_⟩
  by_cases hi : i < vs.length
  · rw [List.getElem_append_left hi, List.getElem_append_left (by rw [← h.1]; exact hi)]
    exact h.2 i hi _
  · have hi2 : vs.length ≤ i := by omega
    rw [List.getElem_append_right hi2, List.getElem_append_right (by rw [← h.1]; exact hi2)]
    have e : i - vs.length = i - ls.length := by rw [h.1]
    simp only [e]
    exact k.2 (i - ls.length) (by simp at h1; have := h.1; omega) _
theorem OE.slice {W : World} {v : Value} {l : List Cl} (h : OE W v l) : v.oneCell' = true := by
  obtain ⟨A, c, rfl, _⟩ := h
  rfl
theorem all_slices {W : World} {vs : List Value} {L : List (List Cl)} (h : All1 (OE W) vs L) : ∀ u ∈ vs, u.oneCell' = true := by
  intro u hu
  obtain ⟨i, hi, rfl⟩ := List.mem_iff_getElem.1 hu
  exact (h.2 i hi (by rw [← h.1]; exact hi)).slice
theorem blk_grown {W W1 : World} {B g : Nat} {e t : TypeId} {s n : Nat} {u : Value} {ys : List Value} {cur : Array Value} {fz : Nat × Nat} (h : W.heap[g]? = some (.cells cur t fz)) (hu : W.ownsRow B e s u n ys) (he : t ≠ e) (hg : W.grownBy W1 u.ownBlock) : W1.heap[g]? = some (.cells cur t fz) := by
  rw [hg.block g (lt_of_block h) (fun e1 => ?_)]
  · exact h
  · rcases hu.2 with ⟨rfl, _⟩ | ⟨g2, cap2, cur2, rfl, _, h5, _⟩
    · cases e1
    · simp only [Value.ownBlock] at e1
      injection e1 with e1
      subst e1
      rw [h] at h5
      injection h5 with h5
      injection h5 with _ h5 _
      exact he h5
theorem info63 : (Tryz.prog.info? 63).map (fun i => (i.zero, i.size, i.bytes)) = some (some (.slice none 0 0), 1, 24) := by kernel_rfl
/-- The ranges that stand for parts of a column. -/
def parts (p : List Cl) (i : Nat) (S : List Cl) : List (List Cl) := S.map fun x => p.set i x
theorem parts_take (p : List Cl) (i : Nat) (S : List Cl) (k : Nat) (h : k < S.length) : parts p i (S.take (k + 1)) = parts p i (S.take k) ++ [p.set i S[k]] := by
  unfold parts
  rw [take_snocA S k h, List.map_append]
  rfl
theorem parts_len (p : List Cl) (i : Nat) (S : List Cl) : (parts p i S).length = S.length := List.length_map _
theorem not_all {p q : List Cl} (hn : ¬ Mrg p q) : ¬ ∀ j, j < p.length → Eq1 (gt p j) (gt q j) := fun h => hn (.inl fun j hj => by have := h j hj; exact ⟨by omega, by omega⟩)
theorem set_eqs {p q : List Cl} {i : Nat} {o : Cl} (h1 : i < p.length) (h2 : i < q.length) (hf : ∀ j, j < i → Eq1 (gt p j) (gt q j)) : ∀ j, j < i + 1 → Eq1 (gt (p.set i o) j) (gt (q.set i o) j) := fun j hj => by
  by_cases e : j = i
  · subst e
    rw [gt_set_self _ h1, gt_set_self _ h2]
    exact ⟨rfl, rfl⟩
  · rw [gt_set_ne _ e, gt_set_ne _ e]
    exact hf j (by omega)

/-- What RemoveOverlap answers. -/
def RoA (p q : List Cl) (w w' : World) (e : Ending) : Prop :=
  ∃ r b L, e = .returned (.tuple #[r, .bool b, .nilIface]) ∧ RO p q L b ∧ EL w' w.heap.size r L ∧ Below w.heap.size w w'
/-- Of what the recursive call answers, the ranges alone. -/
def RoR (p q : List Cl) (W : World) (B : Nat) (r : Value) : Prop := ∃ L b, RO p q L b ∧ EL W B r L
/-- The steps of RemoveOverlap, what the recursive call answers taken for granted. -/
theorem remove_step (v u : Value) (p q : List Cl) (n : Nat) (w : World) (hor : w.ownsRow 0 92 3 v p.length (exs p)) (hou : w.ownsRow 0 92 3 u q.length (exs q)) (h : Two p q n) (hn : 0 < n) (hl : n ≤ 1000)
    (IH : ∀ (i : Nat) (v' u' : Value) (W : World), i < p.length → ¬ Eq1 (gt p i) (gt q i) → (∀ j, j < i → Eq1 (gt p j) (gt q j)) → W.ownsRow 0 92 3 v' (p.set i (mtc (gt p i) (gt q i))).length (exs (p.set i (mtc (gt p i) (gt q i)))) → W.ownsRow 0 92 3 u' (q.set i (mtc (gt p i) (gt q i))).length (exs (q.set i (mtc (gt p i) (gt q i)))) →
      Two (p.set i (mtc (gt p i) (gt q i))) (q.set i (mtc (gt p i) (gt q i))) n → Calls Tryz.prog 26 #[v', u'] W fun e w' => RoA (p.set i (mtc (gt p i) (gt q i))) (q.set i (mtc (gt p i) (gt q i))) W w' e) :
    Calls Tryz.prog 26 #[v, u] w fun e w' => RoA p q w w' e := by
  have hlen : p.length = q.length := h.1.trans h.2.1.symm
  have TM := Lib.hid (trymerge_any v u p q n w hor hou h hn hl)
  have OV := Lib.hid (fun W (hb : Below w.heap.size w W) => roverlaps_any v u p q W (Rd.of_own (own_below hor hb)) (Rd.of_own (own_below hou hb)) hlen (by have := h.1; omega))
  have hr := Rd.of_own hor
  have hu := Rd.of_own hou
  have HOR := Lib.hid hor
  have HOU := Lib.hid hou
  obtain ⟨A, c, rfl, hlc, hcm⟩ := hr.shape
  obtain ⟨A2, c2, rfl, hlc2, hcm2⟩ := hu.shape
  have HR := Lib.hid hr
  have HU := Lib.hid hu
  have HT := Lib.hid h
  have HLQ := Lib.hid hlen
  have hpn : p.length ≤ 1000 := by have := h.1; omega
  have hp0 : 0 < p.length := by have := h.1; omega
  have EO := Lib.hid (ovs_zip h)
  have IH := Lib.hid IH
  clear hor hou hr hu h hlen
  generalize ((p.zip q).all fun c => ovC c.1 c.2) = ov at *
  go_enter Tryz.func26, Tryz.ntmps26
  go_wp2_with (first
    | (go_at_call 48; (with_reducible refine TM.out.mono ?_); rintro e w1 ⟨A0, n0, c0, b, rfl, hb, hy, hno⟩; have B1 := Lib.hid hb; have HY := Lib.hid hy; have HNO := Lib.hid hno; clear hb hy hno TM; cases b)
    | (go_at_call 49; (with_reducible refine (OV.out _ B1.out).mono ?_); rintro e w2 ⟨rfl, hb⟩; have B2 := Lib.hid (B1.out.trans (hb.mono B1.out.size)); have HNM := Lib.hid (HNO.out (by trivial)); clear hb OV B1 HY HNO; cases ov))
  rotate_left 2
  · obtain ⟨m, hm, ho⟩ := HY.out (by trivial)
    have HM := Lib.hid hm
    have hml := (Rd.of_own ho).len
    obtain ⟨A3, c3, e3, _⟩ := (Rd.of_own ho).shape
    injection e3 with e31 e32 e33
    subst e31 e32 e33
    have HO := Lib.hid ho
    clear hm ho
    have HN := Lib.hid (World.ownsRow_lit (base := w.heap.size) (e := 63) (size := 1) w1 #[.slice A0 m.length c0] 1 B1.out.size (by simp [maxLen]) rfl)
    have HB2 := Lib.hid ((Below.refl w1.heap.size w1).alloc (Nat.le_refl _) (.cells #[.slice A0 m.length c0] 63))
    go_ret3
    refine ⟨_, _, [m], rfl, .mrg HM.out, ⟨[.slice A0 m.length c0], HN.out, rfl, fun i h1 h2 => ?_⟩, B1.out.trans (HB2.out.mono B1.out.size)⟩
    obtain rfl : i = 0 := by simp at h1; omega
    exact ⟨A0, c0, rfl, own_below HO.out HB2.out⟩
  · have HN := Lib.hid (World.ownsRow_lit (base := w.heap.size) (e := 63) (size := 1) w2 #[.slice A p.length c, .slice A2 q.length c2] 2 B2.out.size (by simp [maxLen]) rfl)
    have HB2 := Lib.hid ((Below.refl w2.heap.size w2).alloc (Nat.le_refl _) (.cells #[.slice A p.length c, .slice A2 q.length c2] 63))
    go_ret3
    refine ⟨_, _, [p, q], rfl, .no HNM.out (fun h => by have := EO.out.2 h; cases this), ⟨[.slice A p.length c, .slice A2 q.length c2], HN.out, rfl, fun i h1 h2 => ?_⟩, B2.out.trans (HB2.out.mono B2.out.size)⟩
    match i, h1 with
    | 0, _ => exact ⟨A, c, rfl, own_below (own_below HOR.out B2.out) HB2.out⟩
    | 1, _ => exact ⟨A2, c2, rfl, own_below (own_below HOU.out B2.out) HB2.out⟩
    | i + 2, h1 => exact absurd h1 (by simp)
  · case _ =>
      have HOV := Lib.hid (EO.out.1 (by trivial))
      clear EO
      have hz2 : q.length ≤ 1000 := by rw [← HLQ.out]; exact hpn
      go_loopw [12, 58] (fun v12 v58 wr => ∃ (k : Nat), v58 = .int .i64 k ∧ v12 = .slice none 0 0 ∧ k ≤ p.length ∧ Hid (∀ j, j < k → Eq1 (gt p j) (gt q j)) ∧ Hid (Below w.heap.size w wr)) (fun _ v58 _ => (p.length - (intOf v58)).toNat)
      case atStart => exact ⟨0, rfl, rfl, Nat.zero_le _, Lib.hid (fun j hj => absurd hj (Nat.not_lt_zero j)), B2⟩
      case round =>
        obtain ⟨k, rfl, rfl, hk, HE, HB⟩ := hrel
        clear B2
        by_cases hlt : k < p.length
        · have hlt2 : k < q.length := by rw [← HLQ.out]; exact hlt
          obtain ⟨b1, o1, rfl, hb1, c0, c1, c2'⟩ := rd_ex HR.out k hlt
          obtain ⟨b2, o2, rfl, hb2, d0, d1, d2⟩ := rd_ex HU.out k hlt2
          rw [← gt_at hlt] at c0 c1
          rw [← gt_at hlt2] at d0 d1
          have fp := HT.out.2.2.1 _ (gt_mem hlt)
          have fq := HT.out.2.2.2 _ (gt_mem hlt2)
          have hov := HOV.out k hlt
          have fo := mtc_ful fp fq hov
          have SA := Lib.hid (fun W => eqs_cl (gt p k) (gt q k) (ful_pcl fp) (ful_pcl fq) W)
          have SA2 := Lib.hid (fun W => ovs_cl (gt p k) (gt q k) fp fq hov W)
          have SB1 := Lib.hid (fun W => sub_e (gt p k) (mtc (gt p k) (gt q k)) (ful_pcl fp) (ful_pcl fo) W)
          have SB2 := Lib.hid (fun W => sub_e (gt q k) (mtc (gt p k) (gt q k)) (ful_pcl fq) (ful_pcl fo) W)
          have RP := Lib.hid (fun x W (hb : Below w.heap.size w W) => replace_any _ p k x W (HR.out.below hb) hlt (by omega))
          have RQ := Lib.hid (fun x W (hb : Below w.heap.size w W) => replace_any _ q k x W (HU.out.below hb) hlt2 (by omega))
          have HTC := Lib.hid (HT.out.cut HOV.out hlt)
          have IK := Lib.hid (fun v' u' W hne => IH.out k v' u' W hlt hne HE.out)
          have CUT := Lib.hid (fun L b (hne : ¬ Eq1 (gt p k) (gt q k)) hr => RO.cut (L := L) (b := b) k HNM.out HOV.out hlt HE.out hne hr)
          have hl1 := sub_len (gt p k) (mtc (gt p k) (gt q k))
          have hl2 := sub_len (gt q k) (mtc (gt p k) (gt q k))
          obtain ⟨sm, hsm⟩ : ∃ sm, decide (Eq1 (gt p k) (gt q k)) = sm := ⟨_, rfl⟩
          rw [hsm] at SA
          have HY := Lib.hid (show (sm = true → Eq1 (gt p k) (gt q k)) ∧ (sm = false → ¬ Eq1 (gt p k) (gt q k)) from by
            rw [← hsm]
            exact ⟨fun h => of_decide_eq_true h, fun h => of_decide_eq_false h⟩)
          clear hsm fp fq hov fo
          unfold Cl.e at SA SA2 SB1 SB2
          have RP0 := Lib.hid (RP.out (mtc (gt p k) (gt q k)))
          have RQ0 := Lib.hid (RQ.out (mtc (gt p k) (gt q k)))
          obtain ⟨S1, hS1⟩ : ∃ S, sub (gt p k) (mtc (gt p k) (gt q k)) = S := ⟨_, rfl⟩
          obtain ⟨S2, hS2⟩ : ∃ S, sub (gt q k) (mtc (gt p k) (gt q k)) = S := ⟨_, rfl⟩
          rw [hS1] at SB1 hl1 CUT
          rw [hS2] at SB2 hl2 CUT
          clear hS1 hS2
          generalize (ctOf (gt p k).a (gt p k).x).tid = ta at *
          generalize (ctOf (gt p k).a (gt p k).x).inner = ai at *
          generalize (ctOf (gt p k).b (gt p k).y).tid = tb at *
          generalize (ctOf (gt p k).b (gt p k).y).inner = bi at *
          generalize (ctOf (gt q k).a (gt q k).x).tid = tc at *
          generalize (ctOf (gt q k).a (gt q k).x).inner = ci at *
          generalize (ctOf (gt q k).b (gt q k).y).tid = td at *
          generalize (ctOf (gt q k).b (gt q k).y).inner = di at *
          generalize (ctOf (mtc (gt p k) (gt q k)).a (mtc (gt p k) (gt q k)).x).tid = to at *
          generalize (ctOf (mtc (gt p k) (gt q k)).a (mtc (gt p k) (gt q k)).x).inner = oi at *
          generalize (ctOf (mtc (gt p k) (gt q k)).b (mtc (gt p k) (gt q k)).y).tid = tp at *
          generalize (ctOf (mtc (gt p k) (gt q k)).b (mtc (gt p k) (gt q k)).y).inner = pi at *
          generalize mtc (gt p k) (gt q k) = O at *
          go_upto_region 13 with fail
          obtain ⟨X, rfl⟩ : ∃ X : World, X = wr := ⟨_, rfl⟩
          refine Rv.region_goods (n := 166) (by kernel_rfl) #[62, 63, 64, 65, 66, 67, 68, 69, 70, 61, 71, 72, 14, 15] #[] (fun i v W => v = (#[.slice (some ⟨b1, o1, none⟩) p.length c, .int .i64 (k : Int), .pointer (some ⟨b1, o1 + k * 3, none⟩), exI ta ai tb bi, .slice (some ⟨b2, o2, none⟩) q.length c2, .int .i64 (k : Int), .pointer (some ⟨b2, o2 + k * 3, none⟩), exI tc ci td di, .tuple #[.bool sm, .nilIface], .tuple #[.bool sm, .nilIface], .bool sm, .nilIface, .bool sm, .nilIface] : Array Value).getD i undef) (fun i v w w' h hb => ?_) (fun i h g b hg => ?_) rfl (by kernel_rfl) (by kernel_rfl) (fun i h hr w => ?_) ?_ ?_
          · exact h
          · match i, h, hg with
            | 0, _, hg => cases hg
            | 1, _, hg => cases hg
            | 2, _, hg => cases hg
            | 3, _, hg => cases hg
            | 4, _, hg => cases hg
            | 5, _, hg => cases hg
            | 6, _, hg => cases hg
            | 7, _, hg => cases hg
            | 8, _, hg => cases hg
            | 9, _, hg => cases hg
            | 10, _, hg => cases hg
            | 11, _, hg => cases hg
            | 12, _, hg => cases hg
            | 13, _, hg => cases hg
            | m + 14, h, _ => exact absurd h (by show ¬ m + 14 < 14; omega)
          · match i, h, hr with
            | 0, _, hr => exact Bool.noConfusion (show true = false from hr)
            | 1, _, hr => exact Bool.noConfusion (show true = false from hr)
            | 2, _, hr => exact Bool.noConfusion (show true = false from hr)
            | 3, _, hr => exact Bool.noConfusion (show true = false from hr)
            | 4, _, hr => exact Bool.noConfusion (show true = false from hr)
            | 5, _, hr => exact Bool.noConfusion (show true = false from hr)
            | 6, _, hr => exact Bool.noConfusion (show true = false from hr)
            | 7, _, hr => exact Bool.noConfusion (show true = false from hr)
            | 8, _, hr => exact Bool.noConfusion (show true = false from hr)
            | 9, _, hr => exact Bool.noConfusion (show true = false from hr)
            | 10, _, hr => exact Bool.noConfusion (show true = false from hr)
            | 11, _, hr => exact Bool.noConfusion (show true = false from hr)
            | 12, _, hr => exact Bool.noConfusion (show true = false from hr)
            | 13, _, hr => exact Bool.noConfusion (show true = false from hr)
            | m + 14, h, _ => exact absurd h (by show ¬ m + 14 < 14; omega)
          · intro i h a W hrun hbase hpre hdep htr
            have HBW := HB.out.trans (htr.mono HB.out.size)
            have s0 := (HBW.cell (p := ⟨b1, o1 + k * 3, none⟩) hb1).trans c0
            have s1 := (HBW.cell (p := ⟨b1, o1 + k * 3 + 1, none⟩) hb1).trans c1
            have s2 := (HBW.cell (p := ⟨b1, o1 + k * 3 + 2, none⟩) hb1).trans c2'
            have t0 := (HBW.cell (p := ⟨b2, o2 + k * 3, none⟩) hb2).trans d0
            have t1 := (HBW.cell (p := ⟨b2, o2 + k * 3 + 1, none⟩) hb2).trans d1
            have t2 := (HBW.cell (p := ⟨b2, o2 + k * 3 + 2, none⟩) hb2).trans d2
            match i, h with
            | 0, _ =>
              obtain ⟨e0, x0⟩ := Rv.ev (show a.tmps.getD 0 undef = .slice (some ⟨b1, o1, none⟩) p.length c from hbase 0 rfl)
              exact Rv.step_op (op := Go.Op.move (Go.Operand.tmp 0)) (v := .slice (some ⟨b1, o1, none⟩) p.length c) (w1 := W) rfl rfl (fun d pos aft g => by unfold execOp; go_simp) ⟨_, rfl, rfl, Below.refl _ _⟩
            | 1, _ =>
              obtain ⟨e13, x13⟩ := Rv.ev (show a.tmps.getD 13 undef = .int .i64 (k : Int) from hbase 13 rfl)
              exact Rv.step_op (op := Go.Op.move (Go.Operand.tmp 13)) (v := .int .i64 (k : Int)) (w1 := W) rfl rfl (fun d pos aft g => by unfold execOp; go_simp) ⟨_, rfl, rfl, Below.refl _ _⟩
            | 2, _ =>
              obtain ⟨e62, x62⟩ := Rv.ev (show a.tmps.getD 62 undef = .slice (some ⟨b1, o1, none⟩) p.length c from hdep 0 rfl)
              obtain ⟨e63, x63⟩ := Rv.ev (show a.tmps.getD 63 undef = .int .i64 (k : Int) from hdep 1 rfl)
              exact Rv.step_op (op := Go.Op.indexAddr 63 (Go.Operand.tmp 62) (Go.Operand.tmp 63)) (v := .pointer (some ⟨b1, o1 + k * 3, none⟩)) (w1 := W) rfl rfl (fun d pos aft g => by unfold execOp; go_simp) ⟨_, rfl, rfl, Below.refl _ _⟩
            | 3, _ =>
              obtain ⟨e64, x64⟩ := Rv.ev (show a.tmps.getD 64 undef = .pointer (some ⟨b1, o1 + k * 3, none⟩) from hdep 2 rfl)
              exact Rv.step_op (op := Go.Op.load 92 (Go.Operand.tmp 64)) (v := exI ta ai tb bi) (w1 := W) rfl rfl (fun d pos aft g => by unfold execOp; go_simp) ⟨_, rfl, rfl, Below.refl _ _⟩
            | 4, _ =>
              obtain ⟨e1, x1⟩ := Rv.ev (show a.tmps.getD 1 undef = .slice (some ⟨b2, o2, none⟩) q.length c2 from hbase 1 rfl)
              exact Rv.step_op (op := Go.Op.move (Go.Operand.tmp 1)) (v := .slice (some ⟨b2, o2, none⟩) q.length c2) (w1 := W) rfl rfl (fun d pos aft g => by unfold execOp; go_simp) ⟨_, rfl, rfl, Below.refl _ _⟩
            | 5, _ =>
              obtain ⟨e13, x13⟩ := Rv.ev (show a.tmps.getD 13 undef = .int .i64 (k : Int) from hbase 13 rfl)
              exact Rv.step_op (op := Go.Op.move (Go.Operand.tmp 13)) (v := .int .i64 (k : Int)) (w1 := W) rfl rfl (fun d pos aft g => by unfold execOp; go_simp) ⟨_, rfl, rfl, Below.refl _ _⟩
            | 6, _ =>
              obtain ⟨e66, x66⟩ := Rv.ev (show a.tmps.getD 66 undef = .slice (some ⟨b2, o2, none⟩) q.length c2 from hdep 4 rfl)
              obtain ⟨e67, x67⟩ := Rv.ev (show a.tmps.getD 67 undef = .int .i64 (k : Int) from hdep 5 rfl)
              exact Rv.step_op (op := Go.Op.indexAddr 63 (Go.Operand.tmp 66) (Go.Operand.tmp 67)) (v := .pointer (some ⟨b2, o2 + k * 3, none⟩)) (w1 := W) rfl rfl (fun d pos aft g => by unfold execOp; go_simp) ⟨_, rfl, rfl, Below.refl _ _⟩
            | 7, _ =>
              obtain ⟨e68, x68⟩ := Rv.ev (show a.tmps.getD 68 undef = .pointer (some ⟨b2, o2 + k * 3, none⟩) from hdep 6 rfl)
              exact Rv.step_op (op := Go.Op.load 92 (Go.Operand.tmp 68)) (v := exI tc ci td di) (w1 := W) rfl rfl (fun d pos aft g => by unfold execOp; go_simp) ⟨_, rfl, rfl, Below.refl _ _⟩
            | 8, _ =>
              obtain ⟨e65, x65⟩ := Rv.ev (show a.tmps.getD 65 undef = exI ta ai tb bi from hdep 3 rfl)
              obtain ⟨e69, x69⟩ := Rv.ev (show a.tmps.getD 69 undef = exI tc ci td di from hdep 7 rfl)
              have cf : ∀ x0 x1 W, (callFunc 50 #[x0, x1]).run Tryz.prog W = .ok (.enter 50 #[x0, x1]) W := fun _ _ _ => by kernel_rfl
              refine Rv.step_fn (op := Go.Op.call { callee := Go.Callee.value (Go.Operand.func 50), args := #[Go.Operand.tmp 65, Go.Operand.tmp 69], argTypes := #[92, 92] }) (f := 50) (args := #[exI ta ai tb bi, exI tc ci td di]) (R := fun v W' => v = .tuple #[.bool sm, .nilIface] ∧ Below W.heap.size W W') rfl rfl (fun d pos aft g => by unfold execOp; go_simp) ((SA.out W).mono ?_) ?_
              · (rintro e W' ⟨rfl, hb⟩; exact ⟨_, rfl, rfl, hb⟩)
              · (rintro v W' ⟨rfl, hb⟩; exact ⟨_, rfl, rfl, hb⟩)
            | 9, _ =>
              obtain ⟨e70, x70⟩ := Rv.ev (show a.tmps.getD 70 undef = .tuple #[.bool sm, .nilIface] from hdep 8 rfl)
              exact Rv.step_op (op := Go.Op.move (Go.Operand.tmp 70)) (v := .tuple #[.bool sm, .nilIface]) (w1 := W) rfl rfl (fun d pos aft g => by unfold execOp; go_simp) ⟨_, rfl, rfl, Below.refl _ _⟩
            | 10, _ =>
              obtain ⟨e61, x61⟩ := Rv.ev (show a.tmps.getD 61 undef = .tuple #[.bool sm, .nilIface] from hdep 9 rfl)
              exact Rv.step_op (op := Go.Op.extract (Go.Operand.tmp 61) 0) (v := .bool sm) (w1 := W) rfl rfl (fun d pos aft g => by unfold execOp; go_simp) ⟨_, rfl, rfl, Below.refl _ _⟩
            | 11, _ =>
              obtain ⟨e61, x61⟩ := Rv.ev (show a.tmps.getD 61 undef = .tuple #[.bool sm, .nilIface] from hdep 9 rfl)
              exact Rv.step_op (op := Go.Op.extract (Go.Operand.tmp 61) 1) (v := .nilIface) (w1 := W) rfl rfl (fun d pos aft g => by unfold execOp; go_simp) ⟨_, rfl, rfl, Below.refl _ _⟩
            | 12, _ =>
              obtain ⟨e71, x71⟩ := Rv.ev (show a.tmps.getD 71 undef = .bool sm from hdep 10 rfl)
              exact Rv.step_op (op := Go.Op.assign (Go.Operand.tmp 71)) (v := .bool sm) (w1 := W) rfl rfl (fun d pos aft g => by unfold execOp; go_simp) ⟨_, rfl, rfl, Below.refl _ _⟩
            | 13, _ =>
              obtain ⟨e72, x72⟩ := Rv.ev (show a.tmps.getD 72 undef = .nilIface from hdep 11 rfl)
              exact Rv.step_op (op := Go.Op.assign (Go.Operand.tmp 72)) (v := .nilIface) (w1 := W) rfl rfl (fun d pos aft g => by unfold execOp; go_simp) ⟨_, rfl, rfl, Below.refl _ _⟩
            | m + 14, h => exact absurd h (by show ¬ m + 14 < 14; omega)
          intro W f hf htr
          have f0 : f 0 = .slice (some ⟨b1, o1, none⟩) p.length c := hf 0 (by show 0 < 14; omega)
          have f1 : f 1 = .int .i64 (k : Int) := hf 1 (by show 1 < 14; omega)
          have f2 : f 2 = .pointer (some ⟨b1, o1 + k * 3, none⟩) := hf 2 (by show 2 < 14; omega)
          have f3 : f 3 = exI ta ai tb bi := hf 3 (by show 3 < 14; omega)
          have f4 : f 4 = .slice (some ⟨b2, o2, none⟩) q.length c2 := hf 4 (by show 4 < 14; omega)
          have f5 : f 5 = .int .i64 (k : Int) := hf 5 (by show 5 < 14; omega)
          have f6 : f 6 = .pointer (some ⟨b2, o2 + k * 3, none⟩) := hf 6 (by show 6 < 14; omega)
          have f7 : f 7 = exI tc ci td di := hf 7 (by show 7 < 14; omega)
          have f8 : f 8 = .tuple #[.bool sm, .nilIface] := hf 8 (by show 8 < 14; omega)
          have f9 : f 9 = .tuple #[.bool sm, .nilIface] := hf 9 (by show 9 < 14; omega)
          have f10 : f 10 = .bool sm := hf 10 (by show 10 < 14; omega)
          have f11 : f 11 = .nilIface := hf 11 (by show 11 < 14; omega)
          have f12 : f 12 = .bool sm := hf 12 (by show 12 < 14; omega)
          have f13 : f 13 = .nilIface := hf 13 (by show 13 < 14; omega)
          refine (show ∀ (a : Act) (w : World), Code.wp _ _ _ a w → _ from by assumption) _ _ ?_
          refine Rv.fin_swap (L' := [(62, f 0), (63, f 1), (64, f 2), (65, f 3), (66, f 4), (67, f 5), (68, f 6), (69, f 7), (70, f 8), (61, f 9), (71, f 10), (72, f 11), (14, f 12), (15, f 13)]) rfl ?_
          rw [f0, f1, f2, f3, f4, f5, f6, f7, f8, f9, f10, f11, f12, f13]
          clear f0 f1 f2 f3 f4 f5 f6 f7 f8 f9 f10 f11 f12 f13
          simp only [Rv.fin, List.foldl_cons, List.foldl_nil, Act.put, List.setIfInBounds_toArray, List.set_cons_succ, List.set_cons_zero]
          have HB2 := Lib.hid (HB.out.trans (htr.mono HB.out.size))
          clear htr
          cases sm
          case true =>
            go_wp2
            go_roundw
            case rel => exact ⟨k + 1, by go_num, rfl, by omega, Lib.hid (fun j hj => by
              rcases Nat.lt_or_ge j k with h | h
              · exact HE.out j h
              · rw [show j = k by omega]; exact HY.out.1 rfl), HB2⟩
            case measure => simp [intOf]; omega
          case false =>
            have HNE := Lib.hid (HY.out.2 rfl)
            clear HY HB SA
            go_upto_region 17 with fail
            obtain ⟨Y, rfl⟩ : ∃ Y : World, Y = W := ⟨_, rfl⟩
            obtain ⟨X, rfl⟩ : ∃ X : World, X = Y := ⟨_, rfl⟩
            refine Rv.region_fin (n := 166) (by kernel_rfl) #[78, 79, 80, 81, 82, 83, 84, 85, 86, 77, 87, 88, 89, 16, 1014, 17, 18] #[] (fun i f W => if i = 14 then (fun f W => ∃ g, f 13 = .pointer (some ⟨g, 0, none⟩) ∧ W.heap[g]? = some (.cells #[.iface to oi, .iface tp pi, tv] 92 (0, 0))) f W else if i = 13 then (fun f W => ∃ g, f 13 = .pointer (some ⟨g, 0, none⟩) ∧ W.heap[g]? = some (.cells #[.nilIface, .nilIface, .nilIface] 92 (0, 0))) f W else f i = (#[.slice (some ⟨b1, o1, none⟩) p.length c, .int .i64 (k : Int), .pointer (some ⟨b1, o1 + k * 3, none⟩), exI ta ai tb bi, .slice (some ⟨b2, o2, none⟩) q.length c2, .int .i64 (k : Int), .pointer (some ⟨b2, o2 + k * 3, none⟩), exI tc ci td di, .tuple #[exI to oi tp pi, .bool true, .nilIface], .tuple #[exI to oi tp pi, .bool true, .nilIface], exI to oi tp pi, .bool true, .nilIface, undef, undef, .bool true, .nilIface] : Array Value).getD i undef) (fun i j => (i == 14 && (j == 13))) (fun i => i == 14) (fun i f W W' => if i = 14 then (fun f W W' => ∃ g, f 13 = .pointer (some ⟨g, 0, none⟩) ∧ Rv.But g W W') f W W' else True) (fun W => Below X.heap.size X W) (fun _ => True) (Rv.One 13 X.heap.size) (Rv.One.loc (by show 13 < 17; omega)) (fun i f f' w hi h hd hg => ?_) (fun i j f w w' hi hj hij hK hdp h hr => ?_) (fun i h g b hg => ?_) rfl (by kernel_rfl) (fun i h g b hg => ?_) ((Below.refl _ _).drew) (trivial) (fun f => Rv.One.start) (fun i h hr f w hf => ?_) (fun i h hr => absurd hr (Rv.allrun (by kernel_rfl) i h)) ?_ ?_
            · by_cases hi1014 : i = 14
              · subst hi1014
                rw [if_pos rfl] at hg ⊢
                obtain ⟨g, q1, q2⟩ := hg
                exact ⟨g, (hd 13 rfl).symm.trans q1, q2⟩
              rw [if_neg hi1014] at hg ⊢
              by_cases hi16 : i = 13
              · subst hi16
                rw [if_pos rfl] at hg ⊢
                obtain ⟨g, q1, q2⟩ := hg
                exact ⟨g, h.symm.trans q1, q2⟩
              rw [if_neg hi16] at hg ⊢
              rw [← h]; exact hg
            · by_cases hj1014 : j = 14
              · subst hj1014
                rw [if_pos rfl] at h ⊢
                rcases hr with ⟨hK1, hr⟩ | hr
                · exfalso
                  exact hij (by simpa using hK1)
                · obtain ⟨g, e, hb⟩ := h
                  exact ⟨g, e, (hr.block _ (Rv.lt_of_blk hb)).trans hb⟩
              rw [if_neg hj1014] at h ⊢
              by_cases hj16 : j = 13
              · subst hj16
                rw [if_pos rfl] at h ⊢
                rcases hr with ⟨hK1, hr⟩ | hr
                · exfalso
                  have e : i = 14 := by simpa using hK1
                  subst e
                  revert hK
                  decide
                · obtain ⟨g, e, hb⟩ := h
                  exact ⟨g, e, (hr.block _ (Rv.lt_of_blk hb)).trans hb⟩
              rw [if_neg hj16] at h ⊢
              exact h
            · match i, h, hg with
              | 0, _, hg => cases hg
              | 1, _, hg => cases hg
              | 2, _, hg => cases hg
              | 3, _, hg => cases hg
              | 4, _, hg => cases hg
              | 5, _, hg => cases hg
              | 6, _, hg => cases hg
              | 7, _, hg => cases hg
              | 8, _, hg => cases hg
              | 9, _, hg => cases hg
              | 10, _, hg => cases hg
              | 11, _, hg => cases hg
              | 12, _, hg => cases hg
              | 13, _, hg => cases hg
              | 14, _, hg => cases hg
              | 15, _, hg => cases hg
              | 16, _, hg => cases hg
              | m + 17, h, _ => exact absurd h (by show ¬ m + 17 < 17; omega)
            · match i, h, hg with
              | 0, _, hg => cases hg
              | 1, _, hg => cases hg
              | 2, _, hg => cases hg
              | 3, _, hg => cases hg
              | 4, _, hg => cases hg
              | 5, _, hg => cases hg
              | 6, _, hg => cases hg
              | 7, _, hg => cases hg
              | 8, _, hg => cases hg
              | 9, _, hg => cases hg
              | 10, _, hg => cases hg
              | 11, _, hg => cases hg
              | 12, _, hg => cases hg
              | 13, _, hg => cases hg
              | 14, _, hg => cases hg
              | 15, _, hg => cases hg
              | 16, _, hg => cases hg
              | m + 17, h, _ => exact absurd h (by show ¬ m + 17 < 17; omega)
            · match i, h, hr, hf with
              | 0, _, hr, _ => exact Bool.noConfusion (show true = false from hr)
              | 1, _, hr, _ => exact Bool.noConfusion (show true = false from hr)
              | 2, _, hr, _ => exact Bool.noConfusion (show true = false from hr)
              | 3, _, hr, _ => exact Bool.noConfusion (show true = false from hr)
              | 4, _, hr, _ => exact Bool.noConfusion (show true = false from hr)
              | 5, _, hr, _ => exact Bool.noConfusion (show true = false from hr)
              | 6, _, hr, _ => exact Bool.noConfusion (show true = false from hr)
              | 7, _, hr, _ => exact Bool.noConfusion (show true = false from hr)
              | 8, _, hr, _ => exact Bool.noConfusion (show true = false from hr)
              | 9, _, hr, _ => exact Bool.noConfusion (show true = false from hr)
              | 10, _, hr, _ => exact Bool.noConfusion (show true = false from hr)
              | 11, _, hr, _ => exact Bool.noConfusion (show true = false from hr)
              | 12, _, hr, _ => exact Bool.noConfusion (show true = false from hr)
              | 13, _, hr, _ => exact Bool.noConfusion (show true = false from hr)
              | 14, _, hr, _ => exact Bool.noConfusion (show true = false from hr)
              | 15, _, hr, _ => exact Bool.noConfusion (show true = false from hr)
              | 16, _, hr, _ => exact Bool.noConfusion (show true = false from hr)
              | m + 17, h, _, _ => exact absurd h (by show ¬ m + 17 < 17; omega)
            · intro i h a W hrun hbase hpre hdep htr hta hJ
              have HBW := HB2.out.trans (htr.mono HB2.out.size)
              have s0 := (HBW.cell (p := ⟨b1, o1 + k * 3, none⟩) hb1).trans c0
              have s1 := (HBW.cell (p := ⟨b1, o1 + k * 3 + 1, none⟩) hb1).trans c1
              have s2 := (HBW.cell (p := ⟨b1, o1 + k * 3 + 2, none⟩) hb1).trans c2'
              have t0 := (HBW.cell (p := ⟨b2, o2 + k * 3, none⟩) hb2).trans d0
              have t1 := (HBW.cell (p := ⟨b2, o2 + k * 3 + 1, none⟩) hb2).trans d1
              have t2 := (HBW.cell (p := ⟨b2, o2 + k * 3 + 2, none⟩) hb2).trans d2
              match i, h with
              | 0, _ =>
                obtain ⟨e0, x0⟩ := Rv.ev (show a.tmps.getD 0 undef = .slice (some ⟨b1, o1, none⟩) p.length c from hbase 0 rfl)
                exact Rv.step_op (op := Go.Op.move (Go.Operand.tmp 0)) (v := .slice (some ⟨b1, o1, none⟩) p.length c) (w1 := W) rfl rfl (fun d pos aft g => by unfold execOp; go_simp) ⟨_, rfl, rfl, .inr (Below.refl _ _), htr, fun _ ht => ht, fun L _ hJ => Rv.One.keep (by decide) _ (Nat.le_refl _) hJ⟩
              | 1, _ =>
                obtain ⟨e13, x13⟩ := Rv.ev (show a.tmps.getD 13 undef = .int .i64 (k : Int) from hbase 13 rfl)
                exact Rv.step_op (op := Go.Op.move (Go.Operand.tmp 13)) (v := .int .i64 (k : Int)) (w1 := W) rfl rfl (fun d pos aft g => by unfold execOp; go_simp) ⟨_, rfl, rfl, .inr (Below.refl _ _), htr, fun _ ht => ht, fun L _ hJ => Rv.One.keep (by decide) _ (Nat.le_refl _) hJ⟩
              | 2, _ =>
                obtain ⟨e78, x78⟩ := Rv.ev (show a.tmps.getD 78 undef = .slice (some ⟨b1, o1, none⟩) p.length c from hdep 0 rfl rfl)
                obtain ⟨e79, x79⟩ := Rv.ev (show a.tmps.getD 79 undef = .int .i64 (k : Int) from hdep 1 rfl rfl)
                exact Rv.step_op (op := Go.Op.indexAddr 63 (Go.Operand.tmp 78) (Go.Operand.tmp 79)) (v := .pointer (some ⟨b1, o1 + k * 3, none⟩)) (w1 := W) rfl rfl (fun d pos aft g => by unfold execOp; go_simp) ⟨_, rfl, rfl, .inr (Below.refl _ _), htr, fun _ ht => ht, fun L _ hJ => Rv.One.keep (by decide) _ (Nat.le_refl _) hJ⟩
              | 3, _ =>
                obtain ⟨e80, x80⟩ := Rv.ev (show a.tmps.getD 80 undef = .pointer (some ⟨b1, o1 + k * 3, none⟩) from hdep 2 rfl rfl)
                exact Rv.step_op (op := Go.Op.load 92 (Go.Operand.tmp 80)) (v := exI ta ai tb bi) (w1 := W) rfl rfl (fun d pos aft g => by unfold execOp; go_simp) ⟨_, rfl, rfl, .inr (Below.refl _ _), htr, fun _ ht => ht, fun L _ hJ => Rv.One.keep (by decide) _ (Nat.le_refl _) hJ⟩
              | 4, _ =>
                obtain ⟨e1, x1⟩ := Rv.ev (show a.tmps.getD 1 undef = .slice (some ⟨b2, o2, none⟩) q.length c2 from hbase 1 rfl)
                exact Rv.step_op (op := Go.Op.move (Go.Operand.tmp 1)) (v := .slice (some ⟨b2, o2, none⟩) q.length c2) (w1 := W) rfl rfl (fun d pos aft g => by unfold execOp; go_simp) ⟨_, rfl, rfl, .inr (Below.refl _ _), htr, fun _ ht => ht, fun L _ hJ => Rv.One.keep (by decide) _ (Nat.le_refl _) hJ⟩
              | 5, _ =>
                obtain ⟨e13, x13⟩ := Rv.ev (show a.tmps.getD 13 undef = .int .i64 (k : Int) from hbase 13 rfl)
                exact Rv.step_op (op := Go.Op.move (Go.Operand.tmp 13)) (v := .int .i64 (k : Int)) (w1 := W) rfl rfl (fun d pos aft g => by unfold execOp; go_simp) ⟨_, rfl, rfl, .inr (Below.refl _ _), htr, fun _ ht => ht, fun L _ hJ => Rv.One.keep (by decide) _ (Nat.le_refl _) hJ⟩
              | 6, _ =>
                obtain ⟨e82, x82⟩ := Rv.ev (show a.tmps.getD 82 undef = .slice (some ⟨b2, o2, none⟩) q.length c2 from hdep 4 rfl rfl)
                obtain ⟨e83, x83⟩ := Rv.ev (show a.tmps.getD 83 undef = .int .i64 (k : Int) from hdep 5 rfl rfl)
                exact Rv.step_op (op := Go.Op.indexAddr 63 (Go.Operand.tmp 82) (Go.Operand.tmp 83)) (v := .pointer (some ⟨b2, o2 + k * 3, none⟩)) (w1 := W) rfl rfl (fun d pos aft g => by unfold execOp; go_simp) ⟨_, rfl, rfl, .inr (Below.refl _ _), htr, fun _ ht => ht, fun L _ hJ => Rv.One.keep (by decide) _ (Nat.le_refl _) hJ⟩
              | 7, _ =>
                obtain ⟨e84, x84⟩ := Rv.ev (show a.tmps.getD 84 undef = .pointer (some ⟨b2, o2 + k * 3, none⟩) from hdep 6 rfl rfl)
                exact Rv.step_op (op := Go.Op.load 92 (Go.Operand.tmp 84)) (v := exI tc ci td di) (w1 := W) rfl rfl (fun d pos aft g => by unfold execOp; go_simp) ⟨_, rfl, rfl, .inr (Below.refl _ _), htr, fun _ ht => ht, fun L _ hJ => Rv.One.keep (by decide) _ (Nat.le_refl _) hJ⟩
              | 8, _ =>
                obtain ⟨e81, x81⟩ := Rv.ev (show a.tmps.getD 81 undef = exI ta ai tb bi from hdep 3 rfl rfl)
                obtain ⟨e85, x85⟩ := Rv.ev (show a.tmps.getD 85 undef = exI tc ci td di from hdep 7 rfl rfl)
                have cf : ∀ x0 x1 W, (callFunc 51 #[x0, x1]).run Tryz.prog W = .ok (.enter 51 #[x0, x1]) W := fun _ _ _ => by kernel_rfl
                refine Rv.step_fn (op := Go.Op.call { callee := Go.Callee.value (Go.Operand.func 51), args := #[Go.Operand.tmp 81, Go.Operand.tmp 85], argTypes := #[92, 92] }) (f := 51) (args := #[exI ta ai tb bi, exI tc ci td di]) (R := fun v W' => v = .tuple #[exI to oi tp pi, .bool true, .nilIface] ∧ Below W.heap.size W W') rfl rfl (fun d pos aft g => by unfold execOp; go_simp) ((SA2.out W).mono ?_) ?_
                · (rintro e W' ⟨rfl, hb⟩; exact ⟨_, rfl, rfl, hb⟩)
                · (rintro v W' ⟨rfl, hb⟩; exact ⟨_, rfl, rfl, .inr hb, (fun W W' ht hb => ht.trans (hb.mono ht.size)) W W' htr hb, fun _ ht => (fun _ _ _ _ => trivial) W W' ht hb, fun L _ hJ => Rv.One.keep (by decide) _ (hb.size) hJ⟩)
              | 9, _ =>
                obtain ⟨e86, x86⟩ := Rv.ev (show a.tmps.getD 86 undef = .tuple #[exI to oi tp pi, .bool true, .nilIface] from hdep 8 rfl rfl)
                exact Rv.step_op (op := Go.Op.move (Go.Operand.tmp 86)) (v := .tuple #[exI to oi tp pi, .bool true, .nilIface]) (w1 := W) rfl rfl (fun d pos aft g => by unfold execOp; go_simp) ⟨_, rfl, rfl, .inr (Below.refl _ _), htr, fun _ ht => ht, fun L _ hJ => Rv.One.keep (by decide) _ (Nat.le_refl _) hJ⟩
              | 10, _ =>
                obtain ⟨e77, x77⟩ := Rv.ev (show a.tmps.getD 77 undef = .tuple #[exI to oi tp pi, .bool true, .nilIface] from hdep 9 rfl rfl)
                exact Rv.step_op (op := Go.Op.extract (Go.Operand.tmp 77) 0) (v := exI to oi tp pi) (w1 := W) rfl rfl (fun d pos aft g => by unfold execOp; go_simp) ⟨_, rfl, rfl, .inr (Below.refl _ _), htr, fun _ ht => ht, fun L _ hJ => Rv.One.keep (by decide) _ (Nat.le_refl _) hJ⟩
              | 11, _ =>
                obtain ⟨e77, x77⟩ := Rv.ev (show a.tmps.getD 77 undef = .tuple #[exI to oi tp pi, .bool true, .nilIface] from hdep 9 rfl rfl)
                exact Rv.step_op (op := Go.Op.extract (Go.Operand.tmp 77) 1) (v := .bool true) (w1 := W) rfl rfl (fun d pos aft g => by unfold execOp; go_simp) ⟨_, rfl, rfl, .inr (Below.refl _ _), htr, fun _ ht => ht, fun L _ hJ => Rv.One.keep (by decide) _ (Nat.le_refl _) hJ⟩
              | 12, _ =>
                obtain ⟨e77, x77⟩ := Rv.ev (show a.tmps.getD 77 undef = .tuple #[exI to oi tp pi, .bool true, .nilIface] from hdep 9 rfl rfl)
                exact Rv.step_op (op := Go.Op.extract (Go.Operand.tmp 77) 2) (v := .nilIface) (w1 := W) rfl rfl (fun d pos aft g => by unfold execOp; go_simp) ⟨_, rfl, rfl, .inr (Below.refl _ _), htr, fun _ ht => ht, fun L _ hJ => Rv.One.keep (by decide) _ (Nat.le_refl _) hJ⟩
              | 13, _ =>
                have hal : Below W.heap.size W (W.alloc (.cells #[.nilIface, .nilIface, .nilIface] 92)) := (Below.refl _ _).alloc (Nat.le_refl _) _
                exact Rv.step_op (op := Go.Op.alloc 92) (ty := 0) (v := .pointer (some ⟨W.heap.size, 0, none⟩)) (w1 := W.alloc (.cells #[.nilIface, .nilIface, .nilIface] 92)) rfl rfl (fun d pos aft g => by unfold execOp; go_simp) ⟨_, rfl, ⟨W.heap.size, rfl, heap_alloc_new W _⟩, .inr hal, htr.trans (hal.mono htr.size), fun _ ht => ht, fun L _ hJ => Rv.One.new htr.size (by simp) hJ⟩
              | 14, _ =>
                obtain ⟨g16, e16', h16⟩ : ∃ g, a.tmps.getD 16 undef = .pointer (some ⟨g, 0, none⟩) ∧ W.heap[g]? = some (.cells #[.nilIface, .nilIface, .nilIface] 92 (0, 0)) := hdep 13 rfl rfl
                obtain ⟨e16, x16⟩ := Rv.ev e16'
                obtain ⟨e87, x87⟩ := Rv.ev (show a.tmps.getD 87 undef = exI to oi tp pi from hdep 10 rfl rfl)
                obtain ⟨L, _, hL, hJ2⟩ := hJ
                have hge : X.heap.size ≤ g16 := by
                  obtain ⟨g, eg, hge, _⟩ := hJ2 (hL 13 rfl)
                  have eg2 : Value.pointer (some ⟨g, 0, none⟩) = .pointer (some ⟨g16, 0, none⟩) := eg.symm.trans e16'
                  injection eg2 with eg2
                  injection eg2 with eg2
                  injection eg2 with eg2
                  omega
                obtain ⟨k0, k1, k2⟩ := Rv.cells3 h16
                obtain ⟨m0, m1, m2⟩ := Rv.frozen3 h16
                exact Rv.step_skip (op := Go.Op.store 92 (Go.Operand.tmp 16) (Go.Operand.tmp 87)) (ty := 0) (w1 := (((W.setCell ⟨g16, 0, none⟩ (.iface to oi)).setCell ⟨g16, 1, none⟩ (.iface tp pi)).setCell ⟨g16, 2, none⟩ (tv))) rfl rfl (fun d pos aft g => by unfold execOp; go_simp) ⟨undef, rfl, ⟨g16, e16', Rv.sets3 h16 _ _ _⟩, .inl ⟨rfl, g16, e16', Rv.buts3 g16 W _ _ _⟩, Rv.belows3 htr hge _ _ _, (fun h _ => by cases h), fun L _ hJ => Rv.One.keep (by decide) _ ((Rv.buts3 g16 W _ _ _).1) hJ⟩
              | 15, _ =>
                obtain ⟨e88, x88⟩ := Rv.ev (show a.tmps.getD 88 undef = .bool true from hdep 11 rfl rfl)
                exact Rv.step_op (op := Go.Op.assign (Go.Operand.tmp 88)) (v := .bool true) (w1 := W) rfl rfl (fun d pos aft g => by unfold execOp; go_simp) ⟨_, rfl, rfl, .inr (Below.refl _ _), htr, fun _ ht => ht, fun L _ hJ => Rv.One.keep (by decide) _ (Nat.le_refl _) hJ⟩
              | 16, _ =>
                obtain ⟨e89, x89⟩ := Rv.ev (show a.tmps.getD 89 undef = .nilIface from hdep 12 rfl rfl)
                exact Rv.step_op (op := Go.Op.assign (Go.Operand.tmp 89)) (v := .nilIface) (w1 := W) rfl rfl (fun d pos aft g => by unfold execOp; go_simp) ⟨_, rfl, rfl, .inr (Below.refl _ _), htr, fun _ ht => ht, fun L _ hJ => Rv.One.keep (by decide) _ (Nat.le_refl _) hJ⟩
              | m + 17, h => exact absurd h (by show ¬ m + 17 < 17; omega)
            intro W f hf htr hJ
            have f0 : f 0 = .slice (some ⟨b1, o1, none⟩) p.length c := hf 0 (by show 0 < 17; omega) rfl
            have f1 : f 1 = .int .i64 (k : Int) := hf 1 (by show 1 < 17; omega) rfl
            have f2 : f 2 = .pointer (some ⟨b1, o1 + k * 3, none⟩) := hf 2 (by show 2 < 17; omega) rfl
            have f3 : f 3 = exI ta ai tb bi := hf 3 (by show 3 < 17; omega) rfl
            have f4 : f 4 = .slice (some ⟨b2, o2, none⟩) q.length c2 := hf 4 (by show 4 < 17; omega) rfl
            have f5 : f 5 = .int .i64 (k : Int) := hf 5 (by show 5 < 17; omega) rfl
            have f6 : f 6 = .pointer (some ⟨b2, o2 + k * 3, none⟩) := hf 6 (by show 6 < 17; omega) rfl
            have f7 : f 7 = exI tc ci td di := hf 7 (by show 7 < 17; omega) rfl
            have f8 : f 8 = .tuple #[exI to oi tp pi, .bool true, .nilIface] := hf 8 (by show 8 < 17; omega) rfl
            have f9 : f 9 = .tuple #[exI to oi tp pi, .bool true, .nilIface] := hf 9 (by show 9 < 17; omega) rfl
            have f10 : f 10 = exI to oi tp pi := hf 10 (by show 10 < 17; omega) rfl
            have f11 : f 11 = .bool true := hf 11 (by show 11 < 17; omega) rfl
            have f12 : f 12 = .nilIface := hf 12 (by show 12 < 17; omega) rfl
            have HS14 := Lib.hid (show (fun f W => ∃ g, f 13 = .pointer (some ⟨g, 0, none⟩) ∧ W.heap[g]? = some (.cells #[.iface to oi, .iface tp pi, tv] 92 (0, 0))) f W from hf 14 (by show 14 < 17; omega) rfl)
            have f15 : f 15 = .bool true := hf 15 (by show 15 < 17; omega) rfl
            have f16 : f 16 = .nilIface := hf 16 (by show 16 < 17; omega) rfl
            clear hf
            refine (show ∀ (a : Act) (w : World), Code.wp _ _ _ a w → _ from by assumption) _ _ ?_
            refine Rv.fin_swap (L' := [(78, f 0), (79, f 1), (80, f 2), (81, f 3), (82, f 4), (83, f 5), (84, f 6), (85, f 7), (86, f 8), (77, f 9), (87, f 10), (88, f 11), (89, f 12), (16, f 13), (1014, f 14), (17, f 15), (18, f 16)]) rfl ?_
            rw [f0, f1, f2, f3, f4, f5, f6, f7, f8, f9, f10, f11, f12, f15, f16]
            clear f0 f1 f2 f3 f4 f5 f6 f7 f8 f9 f10 f11 f12 f15 f16
            simp only [Rv.fin, List.foldl_cons, List.foldl_nil, Act.put, List.setIfInBounds_toArray, List.set_cons_succ, List.set_cons_zero, List.set_nil]
            obtain ⟨g8, e13, hg8⟩ := HS14.out
            rw [e13]
            clear e13 HS14 hJ
            have HB3 := Lib.hid (HB2.out.trans (htr.mono HB2.out.size))
            have HG8 := Lib.hid hg8
            clear hg8 htr HB2 SA2
            generalize W = X1 at *
            go_upto_region 20 with fail
            refine Rv.region_goods (n := 166) (by kernel_rfl) #[94, 95, 96, 97, 98, 99, 93, 100, 101, 19, 18] #[] (fun i v W => if i = 9 then (fun v W => W.ownsRow 0 92 3 v S1.length (exs S1)) v W else if i = 7 then (fun v W => W.ownsRow 0 92 3 v S1.length (exs S1)) v W else if i = 6 then (fun v W => ∃ x, v = .tuple #[x, .nilIface] ∧ W.ownsRow 0 92 3 x S1.length (exs S1)) v W else if i = 5 then (fun v W => ∃ x, v = .tuple #[x, .nilIface] ∧ W.ownsRow 0 92 3 x S1.length (exs S1)) v W else v = (#[.slice (some ⟨b1, o1, none⟩) p.length c, .int .i64 (k : Int), .pointer (some ⟨b1, o1 + k * 3, none⟩), exI ta ai tb bi, exI to oi tp pi, undef, undef, undef, .nilIface, undef, .nilIface] : Array Value).getD i undef) (fun i v w w' h hb => ?_) (fun i h g b hg => ?_) rfl (by kernel_rfl) (by kernel_rfl) (fun i h hr w => ?_) ?_ ?_
            · by_cases hi19 : i = 9
              · subst hi19
                rw [if_pos rfl] at h ⊢
                exact (fun v w w' h hb => own_below h hb) v w w' h hb
              rw [if_neg hi19] at h ⊢
              by_cases hi100 : i = 7
              · subst hi100
                rw [if_pos rfl] at h ⊢
                exact (fun v w w' h hb => own_below h hb) v w w' h hb
              rw [if_neg hi100] at h ⊢
              by_cases hi93 : i = 6
              · subst hi93
                rw [if_pos rfl] at h ⊢
                exact (fun v w w' h hb => by obtain ⟨x, h1, h2⟩ := h; exact ⟨x, h1, own_below h2 hb⟩) v w w' h hb
              rw [if_neg hi93] at h ⊢
              by_cases hi99 : i = 5
              · subst hi99
                rw [if_pos rfl] at h ⊢
                exact (fun v w w' h hb => by obtain ⟨x, h1, h2⟩ := h; exact ⟨x, h1, own_below h2 hb⟩) v w w' h hb
              rw [if_neg hi99] at h ⊢
              exact h
            · match i, h, hg with
              | 0, _, hg => cases hg
              | 1, _, hg => cases hg
              | 2, _, hg => cases hg
              | 3, _, hg => cases hg
              | 4, _, hg => cases hg
              | 5, _, hg => cases hg
              | 6, _, hg => cases hg
              | 7, _, hg => cases hg
              | 8, _, hg => cases hg
              | 9, _, hg => cases hg
              | 10, _, hg => cases hg
              | m + 11, h, _ => exact absurd h (by show ¬ m + 11 < 11; omega)
            · match i, h, hr with
              | 0, _, hr => exact Bool.noConfusion (show true = false from hr)
              | 1, _, hr => exact Bool.noConfusion (show true = false from hr)
              | 2, _, hr => exact Bool.noConfusion (show true = false from hr)
              | 3, _, hr => exact Bool.noConfusion (show true = false from hr)
              | 4, _, hr => exact Bool.noConfusion (show true = false from hr)
              | 5, _, hr => exact Bool.noConfusion (show true = false from hr)
              | 6, _, hr => exact Bool.noConfusion (show true = false from hr)
              | 7, _, hr => exact Bool.noConfusion (show true = false from hr)
              | 8, _, hr => exact Bool.noConfusion (show true = false from hr)
              | 9, _, hr => exact Bool.noConfusion (show true = false from hr)
              | 10, _, hr => exact Bool.noConfusion (show true = false from hr)
              | m + 11, h, _ => exact absurd h (by show ¬ m + 11 < 11; omega)
            · intro i h a W hrun hbase hpre hdep htr
              have HBW := HB3.out.trans (htr.mono HB3.out.size)
              have s0 := (HBW.cell (p := ⟨b1, o1 + k * 3, none⟩) hb1).trans c0
              have s1 := (HBW.cell (p := ⟨b1, o1 + k * 3 + 1, none⟩) hb1).trans c1
              have s2 := (HBW.cell (p := ⟨b1, o1 + k * 3 + 2, none⟩) hb1).trans c2'
              obtain ⟨m0, m1, m2⟩ := Rv.cells3 ((htr.block g8 (Rv.lt_of_blk HG8.out)).trans HG8.out)
              match i, h with
              | 0, _ =>
                obtain ⟨e0, x0⟩ := Rv.ev (show a.tmps.getD 0 undef = .slice (some ⟨b1, o1, none⟩) p.length c from hbase 0 rfl)
                exact Rv.step_op (op := Go.Op.move (Go.Operand.tmp 0)) (v := .slice (some ⟨b1, o1, none⟩) p.length c) (w1 := W) rfl rfl (fun d pos aft g => by unfold execOp; go_simp) ⟨_, rfl, rfl, Below.refl _ _⟩
              | 1, _ =>
                obtain ⟨e13, x13⟩ := Rv.ev (show a.tmps.getD 13 undef = .int .i64 (k : Int) from hbase 13 rfl)
                exact Rv.step_op (op := Go.Op.move (Go.Operand.tmp 13)) (v := .int .i64 (k : Int)) (w1 := W) rfl rfl (fun d pos aft g => by unfold execOp; go_simp) ⟨_, rfl, rfl, Below.refl _ _⟩
              | 2, _ =>
                obtain ⟨e94, x94⟩ := Rv.ev (show a.tmps.getD 94 undef = .slice (some ⟨b1, o1, none⟩) p.length c from hdep 0 rfl)
                obtain ⟨e95, x95⟩ := Rv.ev (show a.tmps.getD 95 undef = .int .i64 (k : Int) from hdep 1 rfl)
                exact Rv.step_op (op := Go.Op.indexAddr 63 (Go.Operand.tmp 94) (Go.Operand.tmp 95)) (v := .pointer (some ⟨b1, o1 + k * 3, none⟩)) (w1 := W) rfl rfl (fun d pos aft g => by unfold execOp; go_simp) ⟨_, rfl, rfl, Below.refl _ _⟩
              | 3, _ =>
                obtain ⟨e96, x96⟩ := Rv.ev (show a.tmps.getD 96 undef = .pointer (some ⟨b1, o1 + k * 3, none⟩) from hdep 2 rfl)
                exact Rv.step_op (op := Go.Op.load 92 (Go.Operand.tmp 96)) (v := exI ta ai tb bi) (w1 := W) rfl rfl (fun d pos aft g => by unfold execOp; go_simp) ⟨_, rfl, rfl, Below.refl _ _⟩
              | 4, _ =>
                obtain ⟨e16, x16⟩ := Rv.ev (show a.tmps.getD 16 undef = .pointer (some ⟨g8, 0, none⟩) from hbase 16 rfl)
                exact Rv.step_op (op := Go.Op.load 92 (Go.Operand.tmp 16)) (v := exI to oi tp pi) (w1 := W) rfl rfl (fun d pos aft g => by unfold execOp; go_simp) ⟨_, rfl, rfl, Below.refl _ _⟩
              | 5, _ =>
                obtain ⟨e97, x97⟩ := Rv.ev (show a.tmps.getD 97 undef = exI ta ai tb bi from hdep 3 rfl)
                obtain ⟨e98, x98⟩ := Rv.ev (show a.tmps.getD 98 undef = exI to oi tp pi from hdep 4 rfl)
                have cf : ∀ x0 x1 W, (callFunc 52 #[x0, x1]).run Tryz.prog W = .ok (.enter 52 #[x0, x1]) W := fun _ _ _ => by kernel_rfl
                refine Rv.step_fn (op := Go.Op.call { callee := Go.Callee.value (Go.Operand.func 52), args := #[Go.Operand.tmp 97, Go.Operand.tmp 98], argTypes := #[92, 92] }) (ty := 102) (f := 52) (args := #[exI ta ai tb bi, exI to oi tp pi]) (R := fun v W' => (∃ x, v = .tuple #[x, .nilIface] ∧ W'.ownsRow 0 92 3 x S1.length (exs S1)) ∧ Below W.heap.size W W') rfl rfl (fun d pos aft g => by unfold execOp; go_simp) ((SB1.out W).mono ?_) ?_
                · (rintro e W' ⟨v, rfl, hr, hb⟩; exact ⟨_, rfl, ⟨v, rfl, hr⟩, hb⟩)
                · (rintro v W' ⟨hv, hb⟩; exact ⟨_, rfl, hv, hb⟩)
              | 6, _ =>
                obtain ⟨xa, qa, ra⟩ : ∃ x, a.tmps.getD 99 undef = .tuple #[x, .nilIface] ∧ W.ownsRow 0 92 3 x S1.length (exs S1) := hdep 5 rfl
                obtain ⟨e99, y99⟩ := Rv.ev qa
                exact Rv.step_op (op := Go.Op.move (Go.Operand.tmp 99)) (ty := 102) (v := .tuple #[xa, .nilIface]) (w1 := W) rfl rfl (fun d pos aft g => by unfold execOp; go_simp) ⟨_, rfl, ⟨xa, rfl, ra⟩, Below.refl _ _⟩
              | 7, _ =>
                obtain ⟨xb, qb, rb⟩ : ∃ x, a.tmps.getD 93 undef = .tuple #[x, .nilIface] ∧ W.ownsRow 0 92 3 x S1.length (exs S1) := hdep 6 rfl
                obtain ⟨e93, y93⟩ := Rv.ev qb
                exact Rv.step_op (op := Go.Op.extract (Go.Operand.tmp 93) 0) (ty := 62) (v := xb) (w1 := W) rfl rfl (fun d pos aft g => by unfold execOp; go_simp) ⟨_, rfl, rb, Below.refl _ _⟩
              | 8, _ =>
                obtain ⟨xb, qb, rb⟩ : ∃ x, a.tmps.getD 93 undef = .tuple #[x, .nilIface] ∧ W.ownsRow 0 92 3 x S1.length (exs S1) := hdep 6 rfl
                obtain ⟨e93, y93⟩ := Rv.ev qb
                exact Rv.step_op (op := Go.Op.extract (Go.Operand.tmp 93) 1) (v := .nilIface) (w1 := W) rfl rfl (fun d pos aft g => by unfold execOp; go_simp) ⟨_, rfl, rfl, Below.refl _ _⟩
              | 9, _ =>
                have rc : W.ownsRow 0 92 3 (a.tmps.getD 100 undef) S1.length (exs S1) := hdep 7 rfl
                obtain ⟨vc, qc⟩ : ∃ v, a.tmps.getD 100 undef = v := ⟨_, rfl⟩
                rw [qc] at rc
                obtain ⟨e100, y100⟩ := Rv.ev qc
                exact Rv.step_op (op := Go.Op.assign (Go.Operand.tmp 100)) (ty := 62) (v := vc) (w1 := W) rfl rfl (fun d pos aft g => by unfold execOp; go_simp) ⟨_, rfl, rc, Below.refl _ _⟩
              | 10, _ =>
                obtain ⟨e101, x101⟩ := Rv.ev (show a.tmps.getD 101 undef = .nilIface from hdep 8 rfl)
                exact Rv.step_op (op := Go.Op.assign (Go.Operand.tmp 101)) (v := .nilIface) (w1 := W) rfl rfl (fun d pos aft g => by unfold execOp; go_simp) ⟨_, rfl, rfl, Below.refl _ _⟩
              | m + 11, h => exact absurd h (by show ¬ m + 11 < 11; omega)
            intro W f hf htr
            have f0 : f 0 = .slice (some ⟨b1, o1, none⟩) p.length c := hf 0 (by show 0 < 11; omega)
            have f1 : f 1 = .int .i64 (k : Int) := hf 1 (by show 1 < 11; omega)
            have f2 : f 2 = .pointer (some ⟨b1, o1 + k * 3, none⟩) := hf 2 (by show 2 < 11; omega)
            have f3 : f 3 = exI ta ai tb bi := hf 3 (by show 3 < 11; omega)
            have f4 : f 4 = exI to oi tp pi := hf 4 (by show 4 < 11; omega)
            have f5 := hf 5 (by show 5 < 11; omega)
            have f6 := hf 6 (by show 6 < 11; omega)
            have f7 := hf 7 (by show 7 < 11; omega)
            have f8 : f 8 = .nilIface := hf 8 (by show 8 < 11; omega)
            have f9 := hf 9 (by show 9 < 11; omega)
            have f10 : f 10 = .nilIface := hf 10 (by show 10 < 11; omega)
            refine (show ∀ (a : Act) (w : World), Code.wp _ _ _ a w → _ from by assumption) _ _ ?_
            refine Rv.fin_swap (L' := [(94, f 0), (95, f 1), (96, f 2), (97, f 3), (98, f 4), (99, f 5), (93, f 6), (100, f 7), (101, f 8), (19, f 9), (18, f 10)]) rfl ?_
            rw [f0, f1, f2, f3, f4, f8, f10]
            clear f0 f1 f2 f3 f4 f8 f10
            simp only [Rv.fin, List.foldl_cons, List.foldl_nil, Act.put, List.setIfInBounds_toArray, List.set_cons_succ, List.set_cons_zero]
            have R19 := Lib.hid (show W.ownsRow 0 92 3 (f 9) S1.length (exs S1) from f9)
            have HB4 := Lib.hid (HB3.out.trans (htr.mono HB3.out.size))
            have HG9 := Lib.hid ((htr.block g8 (Rv.lt_of_blk HG8.out)).trans HG8.out)
            clear hf f5 f6 f7 f9 htr HB3 HG8 SB1
            generalize f 5 = v5 at *
            generalize f 6 = v6 at *
            generalize f 7 = v7 at *
            generalize f 9 = v9 at *
            generalize W = X2 at *
            obtain ⟨A9, c9, e9, _⟩ := (Rd.of_own R19.out).shape
            subst e9
            go_wp2
            go_loopw [12, 107] (fun v12 v107 wr => ∃ (m : Nat) (vs : List Value), v107 = .int .i64 m ∧ m ≤ S1.length ∧ Hid (wr.ownsRow w.heap.size 63 1 v12 m vs) ∧ Hid (All1 (OE wr) vs (parts p k (S1.take m))) ∧ Hid (wr.ownsRow 0 92 3 (.slice A9 S1.length c9) S1.length (exs S1)) ∧ Hid (wr.heap[g8]? = some (.cells #[.iface to oi, .iface tp pi, tv] 92 (0, 0))) ∧ Hid (Below w.heap.size w wr)) (fun _ v107 _ => (S1.length - (intOf v107)).toNat)
            case atStart => exact ⟨0, [], rfl, Nat.zero_le _, Lib.hid (World.ownsRow_nil _ _ _ _), Lib.hid (All1.nil _), R19, HG9, HB4⟩
            case round =>
              obtain ⟨m, vs, rfl, hm, HO, HA, HS, HG10, HB⟩ := hrel
              have hbs := HB.out.size
              by_cases hlm : m < S1.length
              · obtain ⟨b3, o3, e3, hb3, g0, g1, g2⟩ := rd_ex (Rd.of_own HS.out) m hlm
                subst e3
                have HM := Lib.hid (parts_take p k S1 m hlm)
                have RX := Lib.hid (RP.out S1[m])
                generalize S1[m] = Z at *
                generalize (ctOf Z.a Z.x).tid = t1 at *
                generalize (ctOf Z.a Z.x).inner = i1 at *
                generalize (ctOf Z.b Z.y).tid = t2 at *
                generalize (ctOf Z.b Z.y).inner = i2 at *
                have hA0 := (Below.refl wr.heap.size wr).alloc (Nat.le_refl _) (exC t1 i1 t2 i2)
                have HBA := Lib.hid (HB.out.trans (hA0.mono hbs))
                have HSA := Lib.hid (own_below HS.out hA0)
                have HGA := Lib.hid ((hA0.block g8 (Rv.lt_of_blk HG10.out)).trans HG10.out)
                have HOA := Lib.hid (own_below HO.out hA0)
                have HAA := Lib.hid (HA.out.imp fun _ _ h => h.below hA0)
                clear hA0
                go_wp2_with (first
                  | (go_at_call 53; (with_reducible refine (RX.out _ HBA.out).mono ?_); rintro e w4 ⟨u4, rfl, ho4, hb4⟩; obtain ⟨A4, c4, e4, O4'⟩ := OE.of (l := p.set k Z) (by rw [List.length_set]; exact ho4); have O4 := Lib.hid (show OE w4 u4 (p.set k Z) from ⟨A4, c4, e4, O4'⟩); rw [List.length_set] at e4; subst e4; have HO4 := Lib.hid (own_below HOA.out hb4); have HA4 := Lib.hid (HAA.out.imp fun _ _ h => h.below hb4); have HB4' := Lib.hid (HBA.out.trans (hb4.mono HBA.out.size)); have HS4 := Lib.hid (own_below HSA.out hb4); have HG4 := Lib.hid ((hb4.block g8 (Rv.lt_of_blk HGA.out)).trans HGA.out); clear ho4 hb4 O4')
                  | (at_builtin; go_loud (refine app1 (w0 := w) w.heap.size rfl (.tmp 111) (.tmp 116) 58 63 (.slice none 0 0) 1 24 rfl Tryz.underlying58 info63 rfl (by omega) (by omega) _ _ _ _ rfl rfl rfl (one1 rfl) HO4.out HB4'.out HB4'.out.size (by omega) ?_); intro v5 w5 hown5 hb5 hg5 hg6; have HO5 := Lib.hid hown5; have HB5 := Lib.hid hb5; have HS5 := Lib.hid (own_grown HS4.out HO4.out (by decide) hg5); have HG5' := Lib.hid (blk_grown HG4.out HO4.out (by decide) hg5); have HG5 := Lib.hid hg5; clear hown5 hb5 hg5 hg6))
                go_roundw
                case rel => exact ⟨m + 1, vs ++ [_], by go_num, by omega, Lib.hid HO5.out, Lib.hid (by rw [HM.out]; exact (HA4.out.push O4.out).imp fun _ _ h => h.grown HO4.out HG5.out), HS5, HG5', HB5⟩
                case measure => simp [intOf]; omega
              · obtain rfl : m = S1.length := by omega
                rw [List.take_length] at HA
                clear HS HG9 HB4 R19 hm
                obtain ⟨Y, rfl⟩ : ∃ Y : World, Y = wr := ⟨_, rfl⟩
                go_upto_region 28 with fail
                obtain ⟨X3, rfl⟩ : ∃ X : World, X = Y := ⟨_, rfl⟩
                refine Rv.region_goods (n := 166) (by kernel_rfl) #[120, 121, 122, 123, 124, 125, 119, 126, 127, 22, 18] #[] (fun i v W => if i = 9 then (fun v W => W.ownsRow 0 92 3 v S2.length (exs S2)) v W else if i = 7 then (fun v W => W.ownsRow 0 92 3 v S2.length (exs S2)) v W else if i = 6 then (fun v W => ∃ x, v = .tuple #[x, .nilIface] ∧ W.ownsRow 0 92 3 x S2.length (exs S2)) v W else if i = 5 then (fun v W => ∃ x, v = .tuple #[x, .nilIface] ∧ W.ownsRow 0 92 3 x S2.length (exs S2)) v W else v = (#[.slice (some ⟨b2, o2, none⟩) q.length c2, .int .i64 (k : Int), .pointer (some ⟨b2, o2 + k * 3, none⟩), exI tc ci td di, exI to oi tp pi, undef, undef, undef, .nilIface, undef, .nilIface] : Array Value).getD i undef) (fun i v w w' h hb => ?_) (fun i h g b hg => ?_) rfl (by kernel_rfl) (by kernel_rfl) (fun i h hr w => ?_) ?_ ?_
                · by_cases hi22 : i = 9
                  · subst hi22
                    rw [if_pos rfl] at h ⊢
                    exact (fun v w w' h hb => own_below h hb) v w w' h hb
                  rw [if_neg hi22] at h ⊢
                  by_cases hi126 : i = 7
                  · subst hi126
                    rw [if_pos rfl] at h ⊢
                    exact (fun v w w' h hb => own_below h hb) v w w' h hb
                  rw [if_neg hi126] at h ⊢
                  by_cases hi119 : i = 6
                  · subst hi119
                    rw [if_pos rfl] at h ⊢
                    exact (fun v w w' h hb => by obtain ⟨x, h1, h2⟩ := h; exact ⟨x, h1, own_below h2 hb⟩) v w w' h hb
                  rw [if_neg hi119] at h ⊢
                  by_cases hi125 : i = 5
                  · subst hi125
                    rw [if_pos rfl] at h ⊢
                    exact (fun v w w' h hb => by obtain ⟨x, h1, h2⟩ := h; exact ⟨x, h1, own_below h2 hb⟩) v w w' h hb
                  rw [if_neg hi125] at h ⊢
                  exact h
                · match i, h, hg with
                  | 0, _, hg => cases hg
                  | 1, _, hg => cases hg
                  | 2, _, hg => cases hg
                  | 3, _, hg => cases hg
                  | 4, _, hg => cases hg
                  | 5, _, hg => cases hg
                  | 6, _, hg => cases hg
                  | 7, _, hg => cases hg
                  | 8, _, hg => cases hg
                  | 9, _, hg => cases hg
                  | 10, _, hg => cases hg
                  | m + 11, h, _ => exact absurd h (by show ¬ m + 11 < 11; omega)
                · match i, h, hr with
                  | 0, _, hr => exact Bool.noConfusion (show true = false from hr)
                  | 1, _, hr => exact Bool.noConfusion (show true = false from hr)
                  | 2, _, hr => exact Bool.noConfusion (show true = false from hr)
                  | 3, _, hr => exact Bool.noConfusion (show true = false from hr)
                  | 4, _, hr => exact Bool.noConfusion (show true = false from hr)
                  | 5, _, hr => exact Bool.noConfusion (show true = false from hr)
                  | 6, _, hr => exact Bool.noConfusion (show true = false from hr)
                  | 7, _, hr => exact Bool.noConfusion (show true = false from hr)
                  | 8, _, hr => exact Bool.noConfusion (show true = false from hr)
                  | 9, _, hr => exact Bool.noConfusion (show true = false from hr)
                  | 10, _, hr => exact Bool.noConfusion (show true = false from hr)
                  | m + 11, h, _ => exact absurd h (by show ¬ m + 11 < 11; omega)
                · intro i h a W hrun hbase hpre hdep htr
                  have HBW := HB.out.trans (htr.mono HB.out.size)
                  have s0 := (HBW.cell (p := ⟨b2, o2 + k * 3, none⟩) hb2).trans d0
                  have s1 := (HBW.cell (p := ⟨b2, o2 + k * 3 + 1, none⟩) hb2).trans d1
                  have s2 := (HBW.cell (p := ⟨b2, o2 + k * 3 + 2, none⟩) hb2).trans d2
                  obtain ⟨m0, m1, m2⟩ := Rv.cells3 ((htr.block g8 (Rv.lt_of_blk HG10.out)).trans HG10.out)
                  match i, h with
                  | 0, _ =>
                    obtain ⟨e1, x1⟩ := Rv.ev (show a.tmps.getD 1 undef = .slice (some ⟨b2, o2, none⟩) q.length c2 from hbase 1 rfl)
                    exact Rv.step_op (op := Go.Op.move (Go.Operand.tmp 1)) (v := .slice (some ⟨b2, o2, none⟩) q.length c2) (w1 := W) rfl rfl (fun d pos aft g => by unfold execOp; go_simp) ⟨_, rfl, rfl, Below.refl _ _⟩
                  | 1, _ =>
                    obtain ⟨e13, x13⟩ := Rv.ev (show a.tmps.getD 13 undef = .int .i64 (k : Int) from hbase 13 rfl)
                    exact Rv.step_op (op := Go.Op.move (Go.Operand.tmp 13)) (v := .int .i64 (k : Int)) (w1 := W) rfl rfl (fun d pos aft g => by unfold execOp; go_simp) ⟨_, rfl, rfl, Below.refl _ _⟩
                  | 2, _ =>
                    obtain ⟨e120, x120⟩ := Rv.ev (show a.tmps.getD 120 undef = .slice (some ⟨b2, o2, none⟩) q.length c2 from hdep 0 rfl)
                    obtain ⟨e121, x121⟩ := Rv.ev (show a.tmps.getD 121 undef = .int .i64 (k : Int) from hdep 1 rfl)
                    exact Rv.step_op (op := Go.Op.indexAddr 63 (Go.Operand.tmp 120) (Go.Operand.tmp 121)) (v := .pointer (some ⟨b2, o2 + k * 3, none⟩)) (w1 := W) rfl rfl (fun d pos aft g => by unfold execOp; go_simp) ⟨_, rfl, rfl, Below.refl _ _⟩
                  | 3, _ =>
                    obtain ⟨e122, x122⟩ := Rv.ev (show a.tmps.getD 122 undef = .pointer (some ⟨b2, o2 + k * 3, none⟩) from hdep 2 rfl)
                    exact Rv.step_op (op := Go.Op.load 92 (Go.Operand.tmp 122)) (v := exI tc ci td di) (w1 := W) rfl rfl (fun d pos aft g => by unfold execOp; go_simp) ⟨_, rfl, rfl, Below.refl _ _⟩
                  | 4, _ =>
                    obtain ⟨e16, x16⟩ := Rv.ev (show a.tmps.getD 16 undef = .pointer (some ⟨g8, 0, none⟩) from hbase 16 rfl)
                    exact Rv.step_op (op := Go.Op.load 92 (Go.Operand.tmp 16)) (v := exI to oi tp pi) (w1 := W) rfl rfl (fun d pos aft g => by unfold execOp; go_simp) ⟨_, rfl, rfl, Below.refl _ _⟩
                  | 5, _ =>
                    obtain ⟨e123, x123⟩ := Rv.ev (show a.tmps.getD 123 undef = exI tc ci td di from hdep 3 rfl)
                    obtain ⟨e124, x124⟩ := Rv.ev (show a.tmps.getD 124 undef = exI to oi tp pi from hdep 4 rfl)
                    have cf : ∀ x0 x1 W, (callFunc 52 #[x0, x1]).run Tryz.prog W = .ok (.enter 52 #[x0, x1]) W := fun _ _ _ => by kernel_rfl
                    refine Rv.step_fn (op := Go.Op.call { callee := Go.Callee.value (Go.Operand.func 52), args := #[Go.Operand.tmp 123, Go.Operand.tmp 124], argTypes := #[92, 92] }) (ty := 102) (f := 52) (args := #[exI tc ci td di, exI to oi tp pi]) (R := fun v W' => (∃ x, v = .tuple #[x, .nilIface] ∧ W'.ownsRow 0 92 3 x S2.length (exs S2)) ∧ Below W.heap.size W W') rfl rfl (fun d pos aft g => by unfold execOp; go_simp) ((SB2.out W).mono ?_) ?_
                    · (rintro e W' ⟨v, rfl, hr, hb⟩; exact ⟨_, rfl, ⟨v, rfl, hr⟩, hb⟩)
                    · (rintro v W' ⟨hv, hb⟩; exact ⟨_, rfl, hv, hb⟩)
                  | 6, _ =>
                    obtain ⟨xa, qa, ra⟩ : ∃ x, a.tmps.getD 125 undef = .tuple #[x, .nilIface] ∧ W.ownsRow 0 92 3 x S2.length (exs S2) := hdep 5 rfl
                    obtain ⟨e125, y125⟩ := Rv.ev qa
                    exact Rv.step_op (op := Go.Op.move (Go.Operand.tmp 125)) (ty := 102) (v := .tuple #[xa, .nilIface]) (w1 := W) rfl rfl (fun d pos aft g => by unfold execOp; go_simp) ⟨_, rfl, ⟨xa, rfl, ra⟩, Below.refl _ _⟩
                  | 7, _ =>
                    obtain ⟨xb, qb, rb⟩ : ∃ x, a.tmps.getD 119 undef = .tuple #[x, .nilIface] ∧ W.ownsRow 0 92 3 x S2.length (exs S2) := hdep 6 rfl
                    obtain ⟨e119, y119⟩ := Rv.ev qb
                    exact Rv.step_op (op := Go.Op.extract (Go.Operand.tmp 119) 0) (ty := 62) (v := xb) (w1 := W) rfl rfl (fun d pos aft g => by unfold execOp; go_simp) ⟨_, rfl, rb, Below.refl _ _⟩
                  | 8, _ =>
                    obtain ⟨xb, qb, rb⟩ : ∃ x, a.tmps.getD 119 undef = .tuple #[x, .nilIface] ∧ W.ownsRow 0 92 3 x S2.length (exs S2) := hdep 6 rfl
                    obtain ⟨e119, y119⟩ := Rv.ev qb
                    exact Rv.step_op (op := Go.Op.extract (Go.Operand.tmp 119) 1) (v := .nilIface) (w1 := W) rfl rfl (fun d pos aft g => by unfold execOp; go_simp) ⟨_, rfl, rfl, Below.refl _ _⟩
                  | 9, _ =>
                    have rc : W.ownsRow 0 92 3 (a.tmps.getD 126 undef) S2.length (exs S2) := hdep 7 rfl
                    obtain ⟨vc, qc⟩ : ∃ v, a.tmps.getD 126 undef = v := ⟨_, rfl⟩
                    rw [qc] at rc
                    obtain ⟨e126, y126⟩ := Rv.ev qc
                    exact Rv.step_op (op := Go.Op.assign (Go.Operand.tmp 126)) (ty := 62) (v := vc) (w1 := W) rfl rfl (fun d pos aft g => by unfold execOp; go_simp) ⟨_, rfl, rc, Below.refl _ _⟩
                  | 10, _ =>
                    obtain ⟨e127, x127⟩ := Rv.ev (show a.tmps.getD 127 undef = .nilIface from hdep 8 rfl)
                    exact Rv.step_op (op := Go.Op.assign (Go.Operand.tmp 127)) (v := .nilIface) (w1 := W) rfl rfl (fun d pos aft g => by unfold execOp; go_simp) ⟨_, rfl, rfl, Below.refl _ _⟩
                  | m + 11, h => exact absurd h (by show ¬ m + 11 < 11; omega)
                intro W f hf htr
                have f0 : f 0 = .slice (some ⟨b2, o2, none⟩) q.length c2 := hf 0 (by show 0 < 11; omega)
                have f1 : f 1 = .int .i64 (k : Int) := hf 1 (by show 1 < 11; omega)
                have f2 : f 2 = .pointer (some ⟨b2, o2 + k * 3, none⟩) := hf 2 (by show 2 < 11; omega)
                have f3 : f 3 = exI tc ci td di := hf 3 (by show 3 < 11; omega)
                have f4 : f 4 = exI to oi tp pi := hf 4 (by show 4 < 11; omega)
                have f5 := hf 5 (by show 5 < 11; omega)
                have f6 := hf 6 (by show 6 < 11; omega)
                have f7 := hf 7 (by show 7 < 11; omega)
                have f8 : f 8 = .nilIface := hf 8 (by show 8 < 11; omega)
                have f9 := hf 9 (by show 9 < 11; omega)
                have f10 : f 10 = .nilIface := hf 10 (by show 10 < 11; omega)
                refine (show ∀ (a : Act) (w : World), Code.wp _ _ _ a w → _ from by assumption) _ _ ?_
                refine Rv.fin_swap (L' := [(120, f 0), (121, f 1), (122, f 2), (123, f 3), (124, f 4), (125, f 5), (119, f 6), (126, f 7), (127, f 8), (22, f 9), (18, f 10)]) rfl ?_
                rw [f0, f1, f2, f3, f4, f8, f10]
                clear f0 f1 f2 f3 f4 f8 f10
                simp only [Rv.fin, List.foldl_cons, List.foldl_nil, Act.put, List.setIfInBounds_toArray, List.set_cons_succ, List.set_cons_zero]
                have R22 := Lib.hid (show W.ownsRow 0 92 3 (f 9) S2.length (exs S2) from f9)
                have HB4 := Lib.hid (HB.out.trans (htr.mono HB.out.size))
                have HG9 := Lib.hid ((htr.block g8 (Rv.lt_of_blk HG10.out)).trans HG10.out)
                have HOW := Lib.hid (own_below HO.out htr)
                have HAW := Lib.hid (HA.out.imp fun _ _ h => h.below htr)
                clear hf f5 f6 f7 f9 htr HB HG10 SB2 HO HA
                generalize f 5 = v5' at *
                generalize f 6 = v6' at *
                generalize f 7 = v7' at *
                generalize f 9 = v9 at *
                generalize W = X4 at *
                obtain ⟨A10, c10, e9, _⟩ := (Rd.of_own R22.out).shape
                subst e9
                go_wp2
                go_loopw [12, 133] (fun v12 v133 wr => ∃ (m : Nat) (us : List Value), v133 = .int .i64 m ∧ m ≤ S2.length ∧ Hid (wr.ownsRow w.heap.size 63 1 v12 (S1.length + m) us) ∧ Hid (All1 (OE wr) us (parts p k S1 ++ parts q k (S2.take m))) ∧ Hid (wr.ownsRow 0 92 3 (.slice A10 S2.length c10) S2.length (exs S2)) ∧ Hid (wr.heap[g8]? = some (.cells #[.iface to oi, .iface tp pi, tv] 92 (0, 0))) ∧ Hid (Below w.heap.size w wr)) (fun _ v133 _ => (S2.length - (intOf v133)).toNat)
                case atStart => exact ⟨0, vs, rfl, Nat.zero_le _, HOW, Lib.hid (by rw [List.take_zero]; simpa [parts] using HAW.out), R22, HG9, HB4⟩
                case round =>
                  obtain ⟨m, us, rfl, hm, HO, HA, HS, HG10, HB⟩ := hrel
                  have hbs := HB.out.size
                  by_cases hlm : m < S2.length
                  · obtain ⟨b3, o3, e3, hb3, g0, g1, g2⟩ := rd_ex (Rd.of_own HS.out) m hlm
                    subst e3
                    have HM := Lib.hid (parts_take q k S2 m hlm)
                    have RX := Lib.hid (RQ.out S2[m])
                    generalize S2[m] = Z at *
                    generalize (ctOf Z.a Z.x).tid = t1 at *
                    generalize (ctOf Z.a Z.x).inner = i1 at *
                    generalize (ctOf Z.b Z.y).tid = t2 at *
                    generalize (ctOf Z.b Z.y).inner = i2 at *
                    have hA0 := (Below.refl wr.heap.size wr).alloc (Nat.le_refl _) (exC t1 i1 t2 i2)
                    have HBA := Lib.hid (HB.out.trans (hA0.mono hbs))
                    have HSA := Lib.hid (own_below HS.out hA0)
                    have HGA := Lib.hid ((hA0.block g8 (Rv.lt_of_blk HG10.out)).trans HG10.out)
                    have HOA := Lib.hid (own_below HO.out hA0)
                    have HAA := Lib.hid (HA.out.imp fun _ _ h => h.below hA0)
                    clear hA0
                    go_wp2_with (first
                      | (go_at_call 53; (with_reducible refine (RX.out _ HBA.out).mono ?_); rintro e w4 ⟨u4, rfl, ho4, hb4⟩; obtain ⟨A4, c4, e4, O4'⟩ := OE.of (l := q.set k Z) (by rw [List.length_set]; exact ho4); have O4 := Lib.hid (show OE w4 u4 (q.set k Z) from ⟨A4, c4, e4, O4'⟩); rw [List.length_set] at e4; subst e4; have HO4 := Lib.hid (own_below HOA.out hb4); have HA4 := Lib.hid (HAA.out.imp fun _ _ h => h.below hb4); have HB4' := Lib.hid (HBA.out.trans (hb4.mono HBA.out.size)); have HS4 := Lib.hid (own_below HSA.out hb4); have HG4 := Lib.hid ((hb4.block g8 (Rv.lt_of_blk HGA.out)).trans HGA.out); clear ho4 hb4 O4')
                      | (at_builtin; go_loud (refine app1 (w0 := w) w.heap.size rfl (.tmp 137) (.tmp 142) 58 63 (.slice none 0 0) 1 24 rfl Tryz.underlying58 info63 rfl (by omega) (by omega) _ _ _ _ rfl rfl rfl (one1 rfl) HO4.out HB4'.out HB4'.out.size (by omega) ?_); intro v5 w5 hown5 hb5 hg5 hg6; have HO5 := Lib.hid hown5; have HB5 := Lib.hid hb5; have HS5 := Lib.hid (own_grown HS4.out HO4.out (by decide) hg5); have HG5' := Lib.hid (blk_grown HG4.out HO4.out (by decide) hg5); have HG5 := Lib.hid hg5; clear hown5 hb5 hg5 hg6))
                    go_roundw
                    case rel => exact ⟨m + 1, us ++ [_], by go_num, by omega, Lib.hid HO5.out, Lib.hid (by rw [HM.out, ← List.append_assoc]; exact (HA4.out.push O4.out).imp fun _ _ h => h.grown HO4.out HG5.out), HS5, HG5', HB5⟩
                    case measure => simp [intOf]; omega
                  · obtain rfl : m = S2.length := by omega
                    rw [List.take_length] at HA
                    clear HS HG9 HB4 R22 hm HOW HAW
                    obtain ⟨Y, rfl⟩ : ∃ Y : World, Y = wr := ⟨_, rfl⟩
                    go_upto_region 36 with fail
                    obtain ⟨X5, rfl⟩ : ∃ X : World, X = Y := ⟨_, rfl⟩
                    refine Rv.region_goods (n := 166) (by kernel_rfl) #[146, 147, 148, 149, 150, 151, 152, 153, 154, 145, 155, 156, 157, 25, 26, 18] #[] (fun i v W => if i = 14 then (fun v W => ∃ b, v = .bool b) v W else if i = 11 then (fun v W => ∃ b, v = .bool b) v W else if i = 13 then (fun v W => RoR (p.set k O) (q.set k O) W X5.heap.size v) v W else if i = 10 then (fun v W => RoR (p.set k O) (q.set k O) W X5.heap.size v) v W else if i = 9 then (fun v W => ∃ r b, v = .tuple #[r, .bool b, .nilIface] ∧ RoR (p.set k O) (q.set k O) W X5.heap.size r) v W else if i = 8 then (fun v W => ∃ r b, v = .tuple #[r, .bool b, .nilIface] ∧ RoR (p.set k O) (q.set k O) W X5.heap.size r) v W else if i = 7 then (fun v W => W.ownsRow 0 92 3 (v) (q.set k O).length (exs (q.set k O))) v W else if i = 3 then (fun v W => W.ownsRow 0 92 3 (v) (p.set k O).length (exs (p.set k O))) v W else v = (#[.slice (some ⟨b1, o1, none⟩) p.length c, .int .i64 (k : Int), exI to oi tp pi, undef, .slice (some ⟨b2, o2, none⟩) q.length c2, .int .i64 (k : Int), exI to oi tp pi, undef, undef, undef, undef, undef, .nilIface, undef, undef, .nilIface] : Array Value).getD i undef) (fun i v w w' h hb => ?_) (fun i h g b hg => ?_) rfl (by kernel_rfl) (by kernel_rfl) (fun i h hr w => ?_) ?_ ?_
                    · by_cases hi26 : i = 14
                      · subst hi26
                        rw [if_pos rfl] at h ⊢
                        exact (fun v w w' h hb => h) v w w' h hb
                      rw [if_neg hi26] at h ⊢
                      by_cases hi156 : i = 11
                      · subst hi156
                        rw [if_pos rfl] at h ⊢
                        exact (fun v w w' h hb => h) v w w' h hb
                      rw [if_neg hi156] at h ⊢
                      by_cases hi25 : i = 13
                      · subst hi25
                        rw [if_pos rfl] at h ⊢
                        exact (fun v w w' h hb => by obtain ⟨L, b', h2, h3⟩ := h; exact ⟨L, b', h2, h3.below hb⟩) v w w' h hb
                      rw [if_neg hi25] at h ⊢
                      by_cases hi155 : i = 10
                      · subst hi155
                        rw [if_pos rfl] at h ⊢
                        exact (fun v w w' h hb => by obtain ⟨L, b', h2, h3⟩ := h; exact ⟨L, b', h2, h3.below hb⟩) v w w' h hb
                      rw [if_neg hi155] at h ⊢
                      by_cases hi145 : i = 9
                      · subst hi145
                        rw [if_pos rfl] at h ⊢
                        exact (fun v w w' h hb => by obtain ⟨r, b, h1, L, b', h2, h3⟩ := h; exact ⟨r, b, h1, L, b', h2, h3.below hb⟩) v w w' h hb
                      rw [if_neg hi145] at h ⊢
                      by_cases hi154 : i = 8
                      · subst hi154
                        rw [if_pos rfl] at h ⊢
                        exact (fun v w w' h hb => by obtain ⟨r, b, h1, L, b', h2, h3⟩ := h; exact ⟨r, b, h1, L, b', h2, h3.below hb⟩) v w w' h hb
                      rw [if_neg hi154] at h ⊢
                      by_cases hi153 : i = 7
                      · subst hi153
                        rw [if_pos rfl] at h ⊢
                        exact (fun v w w' h hb => own_below h hb) v w w' h hb
                      rw [if_neg hi153] at h ⊢
                      by_cases hi149 : i = 3
                      · subst hi149
                        rw [if_pos rfl] at h ⊢
                        exact (fun v w w' h hb => own_below h hb) v w w' h hb
                      rw [if_neg hi149] at h ⊢
                      exact h
                    · match i, h, hg with
                      | 0, _, hg => cases hg
                      | 1, _, hg => cases hg
                      | 2, _, hg => cases hg
                      | 3, _, hg => cases hg
                      | 4, _, hg => cases hg
                      | 5, _, hg => cases hg
                      | 6, _, hg => cases hg
                      | 7, _, hg => cases hg
                      | 8, _, hg => cases hg
                      | 9, _, hg => cases hg
                      | 10, _, hg => cases hg
                      | 11, _, hg => cases hg
                      | 12, _, hg => cases hg
                      | 13, _, hg => cases hg
                      | 14, _, hg => cases hg
                      | 15, _, hg => cases hg
                      | m + 16, h, _ => exact absurd h (by show ¬ m + 16 < 16; omega)
                    · match i, h, hr with
                      | 0, _, hr => exact Bool.noConfusion (show true = false from hr)
                      | 1, _, hr => exact Bool.noConfusion (show true = false from hr)
                      | 2, _, hr => exact Bool.noConfusion (show true = false from hr)
                      | 3, _, hr => exact Bool.noConfusion (show true = false from hr)
                      | 4, _, hr => exact Bool.noConfusion (show true = false from hr)
                      | 5, _, hr => exact Bool.noConfusion (show true = false from hr)
                      | 6, _, hr => exact Bool.noConfusion (show true = false from hr)
                      | 7, _, hr => exact Bool.noConfusion (show true = false from hr)
                      | 8, _, hr => exact Bool.noConfusion (show true = false from hr)
                      | 9, _, hr => exact Bool.noConfusion (show true = false from hr)
                      | 10, _, hr => exact Bool.noConfusion (show true = false from hr)
                      | 11, _, hr => exact Bool.noConfusion (show true = false from hr)
                      | 12, _, hr => exact Bool.noConfusion (show true = false from hr)
                      | 13, _, hr => exact Bool.noConfusion (show true = false from hr)
                      | 14, _, hr => exact Bool.noConfusion (show true = false from hr)
                      | 15, _, hr => exact Bool.noConfusion (show true = false from hr)
                      | m + 16, h, _ => exact absurd h (by show ¬ m + 16 < 16; omega)
                    · intro i h a W hrun hbase hpre hdep htr
                      have HBW := HB.out.trans (htr.mono HB.out.size)
                      obtain ⟨m0, m1, m2⟩ := Rv.cells3 ((htr.block g8 (Rv.lt_of_blk HG10.out)).trans HG10.out)
                      match i, h with
                      | 0, _ =>
                        obtain ⟨e0, x0⟩ := Rv.ev (show a.tmps.getD 0 undef = .slice (some ⟨b1, o1, none⟩) p.length c from hbase 0 rfl)
                        exact Rv.step_op (op := Go.Op.move (Go.Operand.tmp 0)) (v := .slice (some ⟨b1, o1, none⟩) p.length c) (w1 := W) rfl rfl (fun d pos aft g => by unfold execOp; go_simp) ⟨_, rfl, rfl, Below.refl _ _⟩
                      | 1, _ =>
                        obtain ⟨e13, x13⟩ := Rv.ev (show a.tmps.getD 13 undef = .int .i64 (k : Int) from hbase 13 rfl)
                        exact Rv.step_op (op := Go.Op.move (Go.Operand.tmp 13)) (v := .int .i64 (k : Int)) (w1 := W) rfl rfl (fun d pos aft g => by unfold execOp; go_simp) ⟨_, rfl, rfl, Below.refl _ _⟩
                      | 2, _ =>
                        obtain ⟨e16, x16⟩ := Rv.ev (show a.tmps.getD 16 undef = .pointer (some ⟨g8, 0, none⟩) from hbase 16 rfl)
                        exact Rv.step_op (op := Go.Op.load 92 (Go.Operand.tmp 16)) (v := exI to oi tp pi) (w1 := W) rfl rfl (fun d pos aft g => by unfold execOp; go_simp) ⟨_, rfl, rfl, Below.refl _ _⟩
                      | 3, _ =>
                        obtain ⟨e146, x146⟩ := Rv.ev (show a.tmps.getD 146 undef = .slice (some ⟨b1, o1, none⟩) p.length c from hdep 0 rfl)
                        obtain ⟨e147, x147⟩ := Rv.ev (show a.tmps.getD 147 undef = .int .i64 (k : Int) from hdep 1 rfl)
                        obtain ⟨e148, x148⟩ := Rv.ev (show a.tmps.getD 148 undef = exI to oi tp pi from hdep 2 rfl)
                        have cf : ∀ x0 x1 x2 W, (callFunc 53 #[x0, x1, x2]).run Tryz.prog W = .ok (.enter 53 #[x0, x1, x2]) W := fun _ _ _ _ => by kernel_rfl
                        refine Rv.step_fn (op := Go.Op.call { callee := Go.Callee.value (Go.Operand.func 53), args := #[Go.Operand.tmp 146, Go.Operand.tmp 147, Go.Operand.tmp 148], argTypes := #[63, 3, 92] }) (ty := 63) (f := 53) (args := #[.slice (some ⟨b1, o1, none⟩) p.length c, .int .i64 (k : Int), exI to oi tp pi]) (R := fun v W' => W'.ownsRow 0 92 3 (v) (p.set k O).length (exs (p.set k O)) ∧ Below W.heap.size W W') rfl rfl (fun d pos aft g => by unfold execOp; go_simp) ((RP0.out W HBW).mono ?_) ?_
                        · (rintro e W' ⟨v, rfl, hr, hb⟩; exact ⟨_, rfl, by rw [List.length_set]; exact hr.mono (Nat.zero_le _), hb⟩)
                        · (rintro v W' ⟨hv, hb⟩; exact ⟨_, rfl, hv, hb⟩)
                      | 4, _ =>
                        obtain ⟨e1, x1⟩ := Rv.ev (show a.tmps.getD 1 undef = .slice (some ⟨b2, o2, none⟩) q.length c2 from hbase 1 rfl)
                        exact Rv.step_op (op := Go.Op.move (Go.Operand.tmp 1)) (v := .slice (some ⟨b2, o2, none⟩) q.length c2) (w1 := W) rfl rfl (fun d pos aft g => by unfold execOp; go_simp) ⟨_, rfl, rfl, Below.refl _ _⟩
                      | 5, _ =>
                        obtain ⟨e13, x13⟩ := Rv.ev (show a.tmps.getD 13 undef = .int .i64 (k : Int) from hbase 13 rfl)
                        exact Rv.step_op (op := Go.Op.move (Go.Operand.tmp 13)) (v := .int .i64 (k : Int)) (w1 := W) rfl rfl (fun d pos aft g => by unfold execOp; go_simp) ⟨_, rfl, rfl, Below.refl _ _⟩
                      | 6, _ =>
                        obtain ⟨e16, x16⟩ := Rv.ev (show a.tmps.getD 16 undef = .pointer (some ⟨g8, 0, none⟩) from hbase 16 rfl)
                        exact Rv.step_op (op := Go.Op.load 92 (Go.Operand.tmp 16)) (v := exI to oi tp pi) (w1 := W) rfl rfl (fun d pos aft g => by unfold execOp; go_simp) ⟨_, rfl, rfl, Below.refl _ _⟩
                      | 7, _ =>
                        obtain ⟨e150, x150⟩ := Rv.ev (show a.tmps.getD 150 undef = .slice (some ⟨b2, o2, none⟩) q.length c2 from hdep 4 rfl)
                        obtain ⟨e151, x151⟩ := Rv.ev (show a.tmps.getD 151 undef = .int .i64 (k : Int) from hdep 5 rfl)
                        obtain ⟨e152, x152⟩ := Rv.ev (show a.tmps.getD 152 undef = exI to oi tp pi from hdep 6 rfl)
                        have cf : ∀ x0 x1 x2 W, (callFunc 53 #[x0, x1, x2]).run Tryz.prog W = .ok (.enter 53 #[x0, x1, x2]) W := fun _ _ _ _ => by kernel_rfl
                        refine Rv.step_fn (op := Go.Op.call { callee := Go.Callee.value (Go.Operand.func 53), args := #[Go.Operand.tmp 150, Go.Operand.tmp 151, Go.Operand.tmp 152], argTypes := #[63, 3, 92] }) (ty := 63) (f := 53) (args := #[.slice (some ⟨b2, o2, none⟩) q.length c2, .int .i64 (k : Int), exI to oi tp pi]) (R := fun v W' => W'.ownsRow 0 92 3 (v) (q.set k O).length (exs (q.set k O)) ∧ Below W.heap.size W W') rfl rfl (fun d pos aft g => by unfold execOp; go_simp) ((RQ0.out W HBW).mono ?_) ?_
                        · (rintro e W' ⟨v, rfl, hr, hb⟩; exact ⟨_, rfl, by rw [List.length_set]; exact hr.mono (Nat.zero_le _), hb⟩)
                        · (rintro v W' ⟨hv, hb⟩; exact ⟨_, rfl, hv, hb⟩)
                      | 8, _ =>
                        have r149 : W.ownsRow 0 92 3 (a.tmps.getD 149 undef) (p.set k O).length (exs (p.set k O)) := hdep 3 rfl
                        obtain ⟨v149, q149⟩ : ∃ v, a.tmps.getD 149 undef = v := ⟨_, rfl⟩
                        rw [q149] at r149
                        obtain ⟨e149, y149⟩ := Rv.ev q149
                        have r153 : W.ownsRow 0 92 3 (a.tmps.getD 153 undef) (q.set k O).length (exs (q.set k O)) := hdep 7 rfl
                        obtain ⟨v153, q153⟩ : ∃ v, a.tmps.getD 153 undef = v := ⟨_, rfl⟩
                        rw [q153] at r153
                        obtain ⟨e153, y153⟩ := Rv.ev q153
                        have cf : ∀ x0 x1 W, (callFunc 26 #[x0, x1]).run Tryz.prog W = .ok (.enter 26 #[x0, x1]) W := fun _ _ _ => by kernel_rfl
                        refine Rv.step_fn (op := Go.Op.call { callee := Go.Callee.value (Go.Operand.func 26), args := #[Go.Operand.tmp 149, Go.Operand.tmp 153], argTypes := #[63, 63] }) (ty := 61) (f := 26) (args := #[v149, v153]) (R := fun v W' => (∃ r b, v = .tuple #[r, .bool b, .nilIface] ∧ RoR (p.set k O) (q.set k O) W' X5.heap.size r) ∧ Below W.heap.size W W') rfl rfl (fun d pos aft g => by unfold execOp; go_simp) ((IK.out v149 v153 W HNE.out r149 r153 HTC.out).mono ?_) ?_
                        · (rintro e W' ⟨r, b, L, rfl, h2, h3, hb⟩; exact ⟨_, rfl, ⟨r, b, rfl, L, b, h2, h3.mono htr.size⟩, hb⟩)
                        · (rintro v W' ⟨hv, hb⟩; exact ⟨_, rfl, hv, hb⟩)
                      | 9, _ =>
                        obtain ⟨r154, b154, q154, k154⟩ : ∃ r b, a.tmps.getD 154 undef = .tuple #[r, .bool b, .nilIface] ∧ RoR (p.set k O) (q.set k O) W X5.heap.size r := hdep 8 rfl
                        obtain ⟨e154, y154⟩ := Rv.ev q154
                        exact Rv.step_op (op := Go.Op.move (Go.Operand.tmp 154)) (ty := 61) (v := .tuple #[r154, .bool b154, .nilIface]) (w1 := W) rfl rfl (fun d pos aft g => by unfold execOp; go_simp) ⟨_, rfl, ⟨r154, b154, rfl, k154⟩, Below.refl _ _⟩
                      | 10, _ =>
                        obtain ⟨r145, b145, q145, k145⟩ : ∃ r b, a.tmps.getD 145 undef = .tuple #[r, .bool b, .nilIface] ∧ RoR (p.set k O) (q.set k O) W X5.heap.size r := hdep 9 rfl
                        obtain ⟨e145, y145⟩ := Rv.ev q145
                        exact Rv.step_op (op := Go.Op.extract (Go.Operand.tmp 145) 0) (ty := 58) (v := r145) (w1 := W) rfl rfl (fun d pos aft g => by unfold execOp; go_simp) ⟨_, rfl, k145, Below.refl _ _⟩
                      | 11, _ =>
                        obtain ⟨r145, b145, q145, k145⟩ : ∃ r b, a.tmps.getD 145 undef = .tuple #[r, .bool b, .nilIface] ∧ RoR (p.set k O) (q.set k O) W X5.heap.size r := hdep 9 rfl
                        obtain ⟨e145, y145⟩ := Rv.ev q145
                        exact Rv.step_op (op := Go.Op.extract (Go.Operand.tmp 145) 1) (ty := 4) (v := .bool b145) (w1 := W) rfl rfl (fun d pos aft g => by unfold execOp; go_simp) ⟨_, rfl, ⟨b145, rfl⟩, Below.refl _ _⟩
                      | 12, _ =>
                        obtain ⟨r145, b145, q145, k145⟩ : ∃ r b, a.tmps.getD 145 undef = .tuple #[r, .bool b, .nilIface] ∧ RoR (p.set k O) (q.set k O) W X5.heap.size r := hdep 9 rfl
                        obtain ⟨e145, y145⟩ := Rv.ev q145
                        exact Rv.step_op (op := Go.Op.extract (Go.Operand.tmp 145) 2) (v := .nilIface) (w1 := W) rfl rfl (fun d pos aft g => by unfold execOp; go_simp) ⟨_, rfl, rfl, Below.refl _ _⟩
                      | 13, _ =>
                        have k155 : RoR (p.set k O) (q.set k O) W X5.heap.size (a.tmps.getD 155 undef) := hdep 10 rfl
                        obtain ⟨v155, q155⟩ : ∃ v, a.tmps.getD 155 undef = v := ⟨_, rfl⟩
                        rw [q155] at k155
                        obtain ⟨e155, y155⟩ := Rv.ev q155
                        exact Rv.step_op (op := Go.Op.assign (Go.Operand.tmp 155)) (ty := 58) (v := v155) (w1 := W) rfl rfl (fun d pos aft g => by unfold execOp; go_simp) ⟨_, rfl, k155, Below.refl _ _⟩
                      | 14, _ =>
                        obtain ⟨b156, q156⟩ : ∃ b, a.tmps.getD 156 undef = .bool b := hdep 11 rfl
                        obtain ⟨e156, y156⟩ := Rv.ev q156
                        exact Rv.step_op (op := Go.Op.assign (Go.Operand.tmp 156)) (ty := 4) (v := .bool b156) (w1 := W) rfl rfl (fun d pos aft g => by unfold execOp; go_simp) ⟨_, rfl, ⟨b156, rfl⟩, Below.refl _ _⟩
                      | 15, _ =>
                        obtain ⟨e157, x157⟩ := Rv.ev (show a.tmps.getD 157 undef = .nilIface from hdep 12 rfl)
                        exact Rv.step_op (op := Go.Op.assign (Go.Operand.tmp 157)) (v := .nilIface) (w1 := W) rfl rfl (fun d pos aft g => by unfold execOp; go_simp) ⟨_, rfl, rfl, Below.refl _ _⟩
                      | m + 16, h => exact absurd h (by show ¬ m + 16 < 16; omega)
                    intro W f hf htr
                    have f0 : f 0 = .slice (some ⟨b1, o1, none⟩) p.length c := hf 0 (by show 0 < 16; omega)
                    have f1 : f 1 = .int .i64 (k : Int) := hf 1 (by show 1 < 16; omega)
                    have f2 : f 2 = exI to oi tp pi := hf 2 (by show 2 < 16; omega)
                    have f3 := hf 3 (by show 3 < 16; omega)
                    have f4 : f 4 = .slice (some ⟨b2, o2, none⟩) q.length c2 := hf 4 (by show 4 < 16; omega)
                    have f5 : f 5 = .int .i64 (k : Int) := hf 5 (by show 5 < 16; omega)
                    have f6 : f 6 = exI to oi tp pi := hf 6 (by show 6 < 16; omega)
                    have f7 := hf 7 (by show 7 < 16; omega)
                    have f8 := hf 8 (by show 8 < 16; omega)
                    have f9 := hf 9 (by show 9 < 16; omega)
                    have f10 := hf 10 (by show 10 < 16; omega)
                    have f11 := hf 11 (by show 11 < 16; omega)
                    have f12 : f 12 = .nilIface := hf 12 (by show 12 < 16; omega)
                    have f13 := hf 13 (by show 13 < 16; omega)
                    have f14 := hf 14 (by show 14 < 16; omega)
                    have f15 : f 15 = .nilIface := hf 15 (by show 15 < 16; omega)
                    refine (show ∀ (a : Act) (w : World), Code.wp _ _ _ a w → _ from by assumption) _ _ ?_
                    refine Rv.fin_swap (L' := [(146, f 0), (147, f 1), (148, f 2), (149, f 3), (150, f 4), (151, f 5), (152, f 6), (153, f 7), (154, f 8), (145, f 9), (155, f 10), (156, f 11), (157, f 12), (25, f 13), (26, f 14), (18, f 15)]) rfl ?_
                    rw [f0, f1, f2, f4, f5, f6, f12, f15]
                    clear f0 f1 f2 f4 f5 f6 f12 f15
                    simp only [Rv.fin, List.foldl_cons, List.foldl_nil, Act.put, List.setIfInBounds_toArray, List.set_cons_succ, List.set_cons_zero]
                    obtain ⟨L, bL, hro, vl, hol, hal⟩ := f13
                    have HRO := Lib.hid hro
                    have HOL := Lib.hid (Rd.of_own hol)
                    have HAL := Lib.hid hal
                    have HB5 := Lib.hid (HB.out.trans (htr.mono HB.out.size))
                    have HOW := Lib.hid (own_below HO.out htr)
                    have HAW := Lib.hid (HA.out.imp fun _ _ h => h.below htr)
                    have hLl : L.length ≤ 10000 := by
                      have h3 := ro_len hro 0 (Nat.zero_le _) (fun j hj => absurd hj (Nat.not_lt_zero j)) (HTC.out.1.trans HTC.out.2.1.symm)
                      have h4 := HTC.out.1
                      omega
                    clear hro hol hal htr HB HG10 HO HA
                    skip
                    generalize W = X6 at *
                    go_wp2_with (at_builtin; go_loud (refine appRs (w0 := w) rfl (.tmp 161) (.tmp 162) 58 rfl w.heap.size 63 (.slice none 0 0) 1 24 Tryz.underlying58 info63 rfl (by omega) (by omega) _ _ _ rfl HOW.out HB5.out _ _ _ rfl HOL.out (all_slices HAL.out) (by omega) HB5.out.size ?_); intro A11 c11 w11 hown11 hb11 hg11; have HO11 := Lib.hid hown11; have HB11 := Lib.hid hb11; have HG11 := Lib.hid hg11; clear hown11 hb11 hg11)
                    go_ret3
                    have e2 : (parts p k S1 ++ parts q k S2 ++ L).length = S1.length + S2.length + L.length := by rw [List.length_append, List.length_append, parts_len, parts_len]
                    refine ⟨_, _, parts p k S1 ++ parts q k S2 ++ L, rfl, CUT.out L bL HNE.out HRO.out, ⟨_, by rw [e2]; exact HO11.out, ?_⟩, HB11.out⟩
                    exact (HAW.out.app HAL.out).imp fun _ _ h => h.grown HOW.out HG11.out
        · obtain rfl : k = p.length := by omega
          exact absurd HE.out (not_all HNM.out)
theorem remove_any : ∀ (N : Nat) (v u : Value) (p q : List Cl) (n k0 : Nat) (w : World), w.ownsRow 0 92 3 v p.length (exs p) → w.ownsRow 0 92 3 u q.length (exs q) → Two p q n → 0 < n → n ≤ 1000 → n ≤ N + k0 → (∀ j, j < k0 → Eq1 (gt p j) (gt q j)) →
    Calls Tryz.prog 26 #[v, u] w fun e w' => RoA p q w w' e := by
  intro N
  induction N with
  | zero =>
    intro v u p q n k0 w hor hou h hn hl hN hk0
    exact remove_step v u p q n w hor hou h hn hl fun i v' u' w' hi hne _ _ _ _ => absurd (hk0 i (by have := h.1; omega)) hne
  | succ N ih =>
    intro v u p q n k0 w hor hou h hn hl hN hk0
    exact remove_step v u p q n w hor hou h hn hl fun i v' u' w' hi hne hf h1 h2 h3 =>
      ih v' u' _ _ n (i + 1) w' h1 h2 h3 hn hl (by
        rcases Nat.lt_or_ge i k0 with hlt | hge
        · exact absurd (hk0 i hlt) hne
        · omega) (set_eqs hi (by have := h.1; have := h.2.1; omega) hf)
end Go.Proofs.YtfnogpelaoofbaaGreatDoor.Rg
