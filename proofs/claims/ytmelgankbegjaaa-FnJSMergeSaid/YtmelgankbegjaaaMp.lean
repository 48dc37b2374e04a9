/- The specification's merge of two objects; of any two values. Conditions: those written at each lemma. -/
import Derived.Test.YtmelgankbegjaaaMo
set_option linter.unusedVariables false
set_option linter.unusedSimpArgs false
set_option maxRecDepth 100000
set_option maxHeartbeats 8000000
namespace Go.Proofs.Ytmelgankbegjaaa.Js
open Go.RowKit Go.Proofs.Ytmelgankbegjaaa.B

/-- What a member that is put makes of the names and the items. -/
def AltP (ns : List ByteArray) (is : List J) (tx : J) (x : ByteArray) (ns' : List ByteArray) (is' : List J) : Prop :=
  (∃ i, ∃ hi : i < ns.length, ns[i] = x ∧ idx x ns 0 = (i : Int) ∧ ns' = ns ∧ is' = is.set i tx) ∨ (x ∉ ns ∧ ns' = ns ++ [x] ∧ is' = is ++ [tx])
theorem take_succ_iff {l : List ByteArray} {i : Nat} (hi : i < l.length) (z : ByteArray) : z ∈ l.take (i + 1) ↔ z ∈ l.take i ∨ z = l[i] := by
  rw [← List.take_append_getElem hi, List.mem_append, List.mem_singleton]
theorem not_come {l : List ByteArray} (hd : l.Nodup) {i : Nat} (hi : i < l.length) : l[i] ∉ l.take i := fun h => by
  obtain ⟨j, hj, e⟩ := List.getElem_of_mem h
  rw [List.length_take] at hj
  rw [List.getElem_take] at e
  have := nd_inj hd (by omega) hi e
  omega
theorem mi_new {a b : J} {ns ns' : List ByteArray} {is is' : List J} {i : Nat} (h : MI a b (fun z => z ∈ b.ns.take i) ns is) (hi : i < b.ns.length) (hi2 : i < b.is.length) (hx : b.ns[i] ∉ ns) (ha : AltP ns is b.is[i] b.ns[i] ns' is') : MI a b (fun z => z ∈ b.ns.take (i + 1)) ns' is' := by
  rcases ha with ⟨j, hj, e, _⟩ | ⟨_, rfl, rfl⟩
  · exact absurd (e ▸ List.getElem_mem hj) hx
  · exact (h.new hx ⟨i, hi, hi2, rfl, rfl⟩).congr (fun z _ => (take_succ_iff hi z).symm)
theorem mi_old {a b : J} {ns ns' : List ByteArray} {is is' : List J} {i j : Nat} {cc : J} (h : MI a b (fun z => z ∈ b.ns.take i) ns is) (hd : b.ns.Nodup) (hda : a.ns.Nodup) (hi : i < b.ns.length) (hi2 : i < b.is.length) (hj : j < ns.length) (hj2 : j < is.length) (hx : ns[j] = b.ns[i])
    (hm : Mg is[j] b.is[i] cc) (ha : AltP ns is cc b.ns[i] ns' is') : MI a b (fun z => z ∈ b.ns.take (i + 1)) ns' is' := by
  rcases ha with ⟨l, hl, e, _, rfl, rfl⟩ | ⟨h1, _⟩
  · have : l = j := nd_inj h.hd hl hj (e.trans hx.symm)
    subst this
    refine (h.old hd hj hj2 (yb := b.is[i]) ⟨i, hi, hi2, hx.symm, rfl⟩ (by rw [hx]; exact not_come hd hi) hm hda).congr (fun z _ => ?_)
    rw [hx]
    exact (take_succ_iff hi z).symm
  · exact absurd (hx ▸ List.getElem_mem hj) h1
theorem JN.at5 {p : Nat → Prop} {W : World} {k n : Int} {s : ByteArray} {ns : List ByteArray} {is : List J} {A A2 : Option Addr} {c c2 : Nat} (h : JN p W (.mk k n s ns is) (.agg #[.int .i64 k, .int .i64 n, .string s, .slice A ns.length c, .slice A2 is.length c2])) :
    ∃ hs, Rd W 1 (.slice A ns.length c) ns.length (strs ns) ∧ Rd W 5 (.slice A2 is.length c2) is.length (flat hs) ∧ JNs p W is hs := by
  obtain ⟨B, d, B2, d2, hs, e, h1, h2, h3⟩ := h
  injection e with e
  injection e with e
  simp only [List.cons.injEq, Value.slice.injEq, true_and, and_true] at e
  obtain ⟨⟨rfl, rfl⟩, rfl, rfl⟩ := e
  exact ⟨hs, h1.1, h2.1, h3⟩
theorem MI.len8 {a b : J} {come : ByteArray → Prop} {ns : List ByteArray} {is : List J} (h : MI a b come ns is) (wa : Wf a) (wb : Wf b) (h5 : a.k = 5) (h5' : b.k = 5) : is.length ≤ 8 := by
  obtain ⟨ka, a5⟩ := wa.kids
  obtain ⟨kb, b5⟩ := wb.kids
  have l1 := (a5 h5).1
  have l2 := (b5 h5').1
  have s1 := wa.short
  have s2 := wb.short
  have hl := h.hl
  have := nd_len ns (a.ns ++ b.ns) h.hd (fun x hx => by
    rcases (h.hn x).1 hx with h | h
    · exact List.mem_append.2 (.inl h)
    · exact List.mem_append.2 (.inr h.1))
  rw [List.length_append] at this
  omega
theorem mg_map (Pp : Nat → Prop) (na : Int) (sa : ByteArray) (nsa : List ByteArray) (isa : List J) (nb0 : Int) (sb0 : ByteArray) (nsb : List ByteArray) (isb : List J)
    (IH0 : ∀ t ∈ isa, ∀ (Pp : Nat → Prop) (t2 : J) (v1 v2 : Value) (w : World), (∀ x, Pp x → x < w.heap.size) → Wf t → Wf t2 → JN Pp w t v1 → JN Pp w t2 v2 → Calls Try.prog 13 #[v1, v2] w fun e w' => ∃ u c, e = .returned u ∧ Mg t t2 c ∧ JN (fun x => Pp x ∨ w.heap.size ≤ x) w' c u ∧ Below w.heap.size w w')
    (v1 v2 : Value) (w : World) (hP : ∀ x, Pp x → x < w.heap.size) (hwa : Wf (.mk 5 na sa nsa isa)) (hwb : Wf (.mk 5 nb0 sb0 nsb isb)) (hja : JN Pp w (.mk 5 na sa nsa isa) v1) (hjb : JN Pp w (.mk 5 nb0 sb0 nsb isb) v2) :
    Calls Try.prog 13 #[v1, v2] w fun e w' => ∃ u c, e = .returned u ∧ Mg (.mk 5 na sa nsa isa) (.mk 5 nb0 sb0 nsb isb) c ∧ JN (fun x => Pp x ∨ w.heap.size ≤ x) w' c u ∧ Below w.heap.size w w' := by
  obtain ⟨ka, ka5⟩ := hwa.kids
  obtain ⟨kb, kb5⟩ := hwb.kids
  obtain ⟨la, da⟩ : nsa.length = isa.length ∧ nsa.Nodup := ka5 rfl
  obtain ⟨lb, db⟩ : nsb.length = isb.length ∧ nsb.Nodup := kb5 rfl
  have hsb := hwb.short
  have hsl : isb.length ≤ 4 := hsb.1
  clear hsb
  have HNA := Lib.hid (show na = 0 ∧ sa = .empty from by
    rcases hwa with ⟨h, _⟩ | ⟨h, _⟩ | ⟨h, _⟩ | ⟨h, _⟩ | ⟨h, _⟩ | ⟨_, a1, b1, _⟩ <;> first | omega | exact ⟨a1, b1⟩)
  have hja0 := hja
  have hjb0 := hjb
  obtain ⟨A, c, A2, c2, hsA, rfl, _⟩ := hja0
  obtain ⟨C, d, C2, d2, hsB, rfl, hnB, hiB, hhB⟩ := hjb0
  have HA0 := Lib.hid (old_blk (o := .cells #[.int .i64 0, .int .i64 0, .string ⟨#[]⟩, .slice none 0 0, .slice none 0 0] 26) (old_blk (o := .cells #[.int .i64 5, .int .i64 nb0, .string sb0, .slice C nsb.length d, .slice C2 isb.length d2] 26) (heap_alloc_new w (.cells #[.int .i64 5, .int .i64 na, .string sa, .slice A nsa.length c, .slice A2 isa.length c2] 26))))
  have HB0 := Lib.hid (old_blk (o := .cells #[.int .i64 0, .int .i64 0, .string ⟨#[]⟩, .slice none 0 0, .slice none 0 0] 26) (show ((w.alloc (.cells #[.int .i64 5, .int .i64 na, .string sa, .slice A nsa.length c, .slice A2 isa.length c2] 26)).alloc (.cells #[.int .i64 5, .int .i64 nb0, .string sb0, .slice C nsb.length d, .slice C2 isb.length d2] 26)).heap[w.heap.size + 1]? = some (.cells #[.int .i64 5, .int .i64 nb0, .string sb0, .slice C nsb.length d, .slice C2 isb.length d2] 26 (0, 0)) from by
    have := heap_alloc_new (w.alloc (.cells #[.int .i64 5, .int .i64 na, .string sa, .slice A nsa.length c, .slice A2 isa.length c2] 26)) (.cells #[.int .i64 5, .int .i64 nb0, .string sb0, .slice C nsb.length d, .slice C2 isb.length d2] 26)
    simpa using this))
  have HZ0 := Lib.hid (show (((w.alloc (.cells #[.int .i64 5, .int .i64 na, .string sa, .slice A nsa.length c, .slice A2 isa.length c2] 26)).alloc (.cells #[.int .i64 5, .int .i64 nb0, .string sb0, .slice C nsb.length d, .slice C2 isb.length d2] 26)).alloc (.cells #[.int .i64 0, .int .i64 0, .string ⟨#[]⟩, .slice none 0 0, .slice none 0 0] 26)).heap[w.heap.size + 1 + 1]? = some (.cells #[.int .i64 0, .int .i64 0, .string ⟨#[]⟩, .slice none 0 0, .slice none 0 0] 26 (0, 0)) from by
    have := heap_alloc_new ((w.alloc (.cells #[.int .i64 5, .int .i64 na, .string sa, .slice A nsa.length c, .slice A2 isa.length c2] 26)).alloc (.cells #[.int .i64 5, .int .i64 nb0, .string sb0, .slice C nsb.length d, .slice C2 isb.length d2] 26)) (.cells #[.int .i64 0, .int .i64 0, .string ⟨#[]⟩, .slice none 0 0, .slice none 0 0] 26)
    simpa using this)
  have hX : Below w.heap.size w (((w.alloc (.cells #[.int .i64 5, .int .i64 na, .string sa, .slice A nsa.length c, .slice A2 isa.length c2] 26)).alloc (.cells #[.int .i64 5, .int .i64 nb0, .string sb0, .slice C nsb.length d, .slice C2 isb.length d2] 26)).alloc (.cells #[.int .i64 0, .int .i64 0, .string ⟨#[]⟩, .slice none 0 0, .slice none 0 0] 26)) := (((Below.refl _ _).alloc (Nat.le_refl _) _).alloc (by simp) _).alloc (by simp; omega) _
  have HX0 := Lib.hid hX
  have HP := Lib.hid hP
  have HWA := Lib.hid hwa
  have HWB := Lib.hid hwb
  have HKA := Lib.hid ka
  have HKB := Lib.hid kb
  have HDA := Lib.hid da
  have HDB := Lib.hid db
  have HLA := Lib.hid la
  have HLB := Lib.hid lb
  have HRN := Lib.hid hnB.1
  have HRI := Lib.hid hiB.1
  have HHB := Lib.hid hhB
  have IH0 := Lib.hid IH0
  obtain ⟨Qq, hQq⟩ : ∃ Q : Nat → Prop, Q = fun x => Pp x ∨ w.heap.size + 3 ≤ x := ⟨_, rfl⟩
  have HQW := Lib.hid (show ∀ x, w.heap.size + 3 ≤ x → Qq x from fun x hx => by rw [hQq]; exact .inr hx)
  have HQA := Lib.hid (show ¬ Qq w.heap.size from by rw [hQq]; rintro (h | h); have := hP _ h; omega; omega)
  have HQI := Lib.hid (show ∀ x, Pp x → Qq x from fun x hx => by rw [hQq]; exact .inl hx)
  have HQE := Lib.hid (show ∀ x, Qq x → Pp x ∨ w.heap.size + 3 ≤ x from fun x hx => by rw [hQq] at hx; exact hx)
  have HJC0 := Lib.hid ((hja.below hX).weak (q := Qq) (fun x _ hx => HQI.out x hx))
  have HMI0 := Lib.hid (show MI (.mk 5 na sa nsa isa) (.mk 5 nb0 sb0 nsb isb) (fun z => z ∈ nsb.take 0) nsa isa from MI.start la da (fun x _ h => by simp at h))
  obtain ⟨y0, y1, y2, y3, y4⟩ := Rv.cells5 HA0.out
  obtain ⟨x0, x1, x2, x3, x4⟩ := Rv.cells5 HB0.out
  clear hQq hX hwa hwb hja hjb hP ka kb ka5 kb5 la lb da db hnB hiB hhB
  go_enter Try.func13, Try.ntmps13
  go_upto_region 4 with fail
  clear y0 y1 y2 y3 y4 x0 x1 x2 x3 x4
  generalize ((w.alloc (.cells #[.int .i64 5, .int .i64 na, .string sa, .slice A nsa.length c, .slice A2 isa.length c2] 26)).alloc (.cells #[.int .i64 5, .int .i64 nb0, .string sb0, .slice C nsb.length d, .slice C2 isb.length d2] 26)).alloc (.cells #[.int .i64 0, .int .i64 0, .string ⟨#[]⟩, .slice none 0 0, .slice none 0 0] 26) = w1 at *
  go_loopw [5, 6, 7] (fun v5 v6 v7 wr => ∃ (i1 : Nat) (ns : List ByteArray) (is : List J) (A5 : Option Addr) (c5 : Nat) (A6 : Option Addr) (c6 : Nat), v5 = .int .i64 (i1 : Int) ∧ i1 ≤ isb.length ∧ Hid (MI (.mk 5 na sa nsa isa) (.mk 5 nb0 sb0 nsb isb) (fun z => z ∈ nsb.take i1) ns is) ∧ Hid (wr.heap[w.heap.size]? = some (.cells #[.int .i64 5, .int .i64 na, .string sa, .slice A5 ns.length c5, .slice A6 is.length c6] 26 (0, 0))) ∧ Hid (wr.heap[w.heap.size + 1]? = some (.cells #[.int .i64 5, .int .i64 nb0, .string sb0, .slice C nsb.length d, .slice C2 isb.length d2] 26 (0, 0))) ∧ Hid (wr.heap[w.heap.size + 1 + 1]? = some (.cells #[.int .i64 0, .int .i64 0, .string ⟨#[]⟩, .slice none 0 0, .slice none 0 0] 26 (0, 0))) ∧ Hid (JN Qq wr (.mk 5 na sa ns is) (.agg #[.int .i64 5, .int .i64 na, .string sa, .slice A5 ns.length c5, .slice A6 is.length c6])) ∧ Hid (Below w.heap.size w wr)) (fun v5 _ _ _ => (isb.length - (intOf v5)).toNat)
  case atStart => exact ⟨0, nsa, isa, A, c, A2, c2, rfl, Nat.zero_le _, HMI0, HA0, HB0, HZ0, HJC0, HX0⟩
  case round =>
    obtain ⟨i1, ns, is, A5, c5, A6, c6, rfl, hi1, HMI, HA, HB, HZ, HJC, HX⟩ := hrel
    clear HA0 HB0 HZ0 HX0 HJC0 HMI0
    obtain ⟨x0, x1, x2, x3, x4⟩ := Rv.cells5 HB.out
    by_cases hlt : i1 < isb.length
    · have hln : i1 < nsb.length := by have := HLB.out; omega
      obtain ⟨bi, oi, A1, c1, A3, c3, ea, hbi, p0, p1, p2, p3, p4, hjt⟩ := row_item HRI.out HHB.out rfl i1 hlt
      obtain ⟨bn, on, cn, hv, -, -, hbn, hcn⟩ := HRN.out.open (by omega)
      injection hv with ev1 ev2 ev3
      clear ev2 ev3
      subst ea ev1
      have xn := hcn i1 (.string nsb[i1]) (by rw [List.getElem?_map, List.getElem?_eq_getElem hln]; rfl)
      have NXW := Lib.hid (fun (W : World) (hb : Below w.heap.size w W) => (hb.cell (p := ⟨bn, on + i1, none⟩) hbn).trans xn)
      have HNL := Lib.hid hln
      have HIL := Lib.hid hlt
      have HTI0 := Lib.hid hjt
      have HWT := Lib.hid (HKB.out.get _ (List.getElem_mem hlt))
      have q0 := (HX.out.cell hbi).trans p0
      have q1 := (HX.out.cell (p := ⟨bi, oi + i1 * 5 + 1, none⟩) hbi).trans p1
      have q2 := (HX.out.cell (p := ⟨bi, oi + i1 * 5 + 2, none⟩) hbi).trans p2
      have q3 := (HX.out.cell (p := ⟨bi, oi + i1 * 5 + 3, none⟩) hbi).trans p3
      have q4 := (HX.out.cell (p := ⟨bi, oi + i1 * 5 + 4, none⟩) hbi).trans p4
      have MNEW := Lib.hid (fun (ns' : List ByteArray) (is' : List J) (hx : nsb[i1] ∉ ns) (ha : AltP ns is isb[i1] nsb[i1] ns' is') => mi_new (a := .mk 5 na sa nsa isa) (b := .mk 5 nb0 sb0 nsb isb) HMI.out hln hlt hx ha)
      have MOLD := Lib.hid (fun (j : Nat) (hj : j < ns.length) (hj2 : j < is.length) (cc : J) (ns' : List ByteArray) (is' : List J) (hx : ns[j] = nsb[i1]) (hm : Mg is[j] isb[i1] cc) (ha : AltP ns is cc nsb[i1] ns' is') => mi_old (a := .mk 5 na sa nsa isa) (b := .mk 5 nb0 sb0 nsb isb) HMI.out HDB.out HDA.out hln hlt hj hj2 hx hm ha)
      have MEM := Lib.hid (fun (j : Nat) (hj : j < ns.length) (hj2 : j < is.length) (hx : ns[j] = nsb[i1]) => show is[j] ∈ isa from (HMI.out.h1 nsb[i1] is[j] ⟨j, hj, hj2, hx, rfl⟩ (fun e => not_come HDB.out hln e.2)).item)
      clear hcn xn p0 p1 p2 p3 p4 hjt
      generalize isb[i1] = ti at *
      generalize nsb[i1] = x at *
      have HZL := Lib.hid (Rv.lt_of_blk HZ.out)
      have HTI := Lib.hid (((HTI0.out.below HX.out).weak (q := Qq) (fun z _ hz => HQI.out z hz)))
      go_upto_region 7 with fail
      clear q0 q1 q2 q3 q4 x0 x1 x2 x3 x4
      have HW6 := Lib.hid (show w.heap.size + 3 ≤ wr.heap.size from by have := HZL.out; omega)
      have hal : Below wr.heap.size wr (wr.alloc (.cells #[.int .i64 ti.k, .int .i64 ti.n, .string ti.s, .slice A1 ti.ns.length c1, .slice A3 ti.is.length c3] 26)) := (Below.refl _ _).alloc (Nat.le_refl _) _
      have HG6 := Lib.hid (heap_alloc_new wr (.cells #[.int .i64 ti.k, .int .i64 ti.n, .string ti.s, .slice A1 ti.ns.length c1, .slice A3 ti.is.length c3] 26))
      have HA := Lib.hid (old_blk (o := .cells #[.int .i64 ti.k, .int .i64 ti.n, .string ti.s, .slice A1 ti.ns.length c1, .slice A3 ti.is.length c3] 26) HA.out)
      have HB := Lib.hid (old_blk (o := .cells #[.int .i64 ti.k, .int .i64 ti.n, .string ti.s, .slice A1 ti.ns.length c1, .slice A3 ti.is.length c3] 26) HB.out)
      have HZ := Lib.hid (old_blk (o := .cells #[.int .i64 ti.k, .int .i64 ti.n, .string ti.s, .slice A1 ti.ns.length c1, .slice A3 ti.is.length c3] 26) HZ.out)
      obtain ⟨Q6, hQ6⟩ : ∃ Q : Nat → Prop, Q = fun z => Qq z ∧ z ≠ wr.heap.size := ⟨_, rfl⟩
      have HQ6 := Lib.hid (show ¬ Q6 wr.heap.size from by rw [hQ6]; exact fun h => h.2 rfl)
      have HQ6W := Lib.hid (show ∀ z, wr.heap.size < z → Q6 z from fun z hz => by rw [hQ6]; exact ⟨HQW.out z (by have := HW6.out; omega), by omega⟩)
      have HQ6Q := Lib.hid (show ∀ z, Q6 z → Qq z from fun z hz => by rw [hQ6] at hz; exact hz.1)
      have HJC := Lib.hid ((HJC.out.weak (q := Q6) (fun z hl hz => by rw [hQ6]; exact ⟨hz, by omega⟩)).below hal)
      have HTI := Lib.hid ((HTI.out.weak (q := Q6) (fun z hl hz => by rw [hQ6]; exact ⟨hz, by omega⟩)).below hal)
      have HX := Lib.hid (HX.out.trans (hal.mono HX.out.size))
      have HGS := Lib.hid (show wr.heap.size < (wr.alloc (.cells #[.int .i64 ti.k, .int .i64 ti.n, .string ti.s, .slice A1 ti.ns.length c1, .slice A3 ti.is.length c3] 26)).heap.size from by simp)
      clear hal hQ6 HTI0 HZL
      generalize wr.alloc (.cells #[.int .i64 ti.k, .int .i64 ti.n, .string ti.s, .slice A1 ti.ns.length c1, .slice A3 ti.is.length c3] 26) = X at *
      generalize hg6e : wr.heap.size = g6 at *
      clear hg6e
      obtain ⟨K, hK⟩ : ∃ K, idx x ns 0 = K := ⟨_, rfl⟩
      have AT := Lib.hid (fun (W : World) (hb : Below X.heap.size X W) => at_any (.mk 5 na sa ns is) Q6 _ x W (HJC.out.below hb) (show ns.length ≤ 1000000 by have h1 := HMI.out.len8 HWA.out HWB.out rfl rfl; have h2 := HMI.out.hl; omega))
      rw [show idx x (J.mk 5 na sa ns is).ns 0 = K from hK] at AT
      have NX := Lib.hid (fun (W : World) (hb : Below X.heap.size X W) => NXW.out W (HX.out.trans (hb.mono HX.out.size)))
      have hga := Rv.lt_of_blk HA.out
      have hgb := Rv.lt_of_blk HB.out
      refine Rv.region_goods (n := 64) (by kernel_rfl) #[34, 35, 36, 37, 38, 39, 40, 7] #[] (fun i v W => v = (#[.agg #[.int .i64 5, .int .i64 na, .string sa, .slice A5 ns.length c5, .slice A6 is.length c6], .pointer (some ⟨w.heap.size + 1, 3, none⟩), .slice (some ⟨bn, on, none⟩) nsb.length d, .int .i64 (i1 : Int), .pointer (some ⟨bn, on + i1, none⟩), .string x, .int .i64 K, .int .i64 K] : Array Value).getD i undef) (fun i v w w' h hb => ?_) (fun i h g b hg => ?_) rfl (by kernel_rfl) (by kernel_rfl) (fun i h hr w => ?_) ?_ ?_
      · exact h
      · match i, h, hg with
        | 0, _, hg => cases hg
        | 1, _, hg => cases hg
        | 2, _, hg => cases hg
        | 3, _, hg => cases hg
        | 4, _, hg => cases hg
        | 5, _, hg => cases hg
        | 6, _, hg => cases hg
        | 7, _, hg => cases hg
        | m + 8, h, _ => exact absurd h (by show ¬ m + 8 < 8; omega)
      · match i, h, hr with
        | 0, _, hr => exact Bool.noConfusion (show true = false from hr)
        | 1, _, hr => exact Bool.noConfusion (show true = false from hr)
        | 2, _, hr => exact Bool.noConfusion (show true = false from hr)
        | 3, _, hr => exact Bool.noConfusion (show true = false from hr)
        | 4, _, hr => exact Bool.noConfusion (show true = false from hr)
        | 5, _, hr => exact Bool.noConfusion (show true = false from hr)
        | 6, _, hr => exact Bool.noConfusion (show true = false from hr)
        | 7, _, hr => exact Bool.noConfusion (show true = false from hr)
        | m + 8, h, _ => exact absurd h (by show ¬ m + 8 < 8; omega)
      · intro i h a W hrun hbase hpre hdep htr
        obtain ⟨y0, y1, y2, y3, y4⟩ := Rv.cells5 ((htr.block _ hga).trans HA.out)
        obtain ⟨x0, x1, x2, x3, x4⟩ := Rv.cells5 ((htr.block _ hgb).trans HB.out)
        have l0 := NX.out W htr
        have hnl := HNL.out
        match i, h with
        | 0, _ =>
          obtain ⟨e2, x2⟩ := Rv.ev (show a.tmps.getD 2 undef = .pointer (some ⟨w.heap.size, 0, none⟩) from hbase 2 rfl)
          exact Rv.step_op (op := Go.Op.load 26 (Go.Operand.tmp 2)) (v := .agg #[.int .i64 5, .int .i64 na, .string sa, .slice A5 ns.length c5, .slice A6 is.length c6]) (w1 := W) rfl rfl (fun d pos aft g => by unfold execOp; go_simp) ⟨_, rfl, rfl, Below.refl _ _⟩
        | 1, _ =>
          obtain ⟨e3, x3⟩ := Rv.ev (show a.tmps.getD 3 undef = .pointer (some ⟨w.heap.size + 1, 0, none⟩) from hbase 3 rfl)
          exact Rv.step_op (op := Go.Op.fieldAddr 26 (Go.Operand.tmp 3) 3) (v := .pointer (some ⟨w.heap.size + 1, 3, none⟩)) (w1 := W) rfl rfl (fun d pos aft g => by unfold execOp; go_simp) ⟨_, rfl, rfl, Below.refl _ _⟩
        | 2, _ =>
          obtain ⟨e35, x35⟩ := Rv.ev (show a.tmps.getD 35 undef = .pointer (some ⟨w.heap.size + 1, 3, none⟩) from hdep 1 rfl)
          exact Rv.step_op (op := Go.Op.load 23 (Go.Operand.tmp 35)) (v := .slice (some ⟨bn, on, none⟩) nsb.length d) (w1 := W) rfl rfl (fun d pos aft g => by unfold execOp; go_simp) ⟨_, rfl, rfl, Below.refl _ _⟩
        | 3, _ =>
          obtain ⟨e5, x5⟩ := Rv.ev (show a.tmps.getD 5 undef = .int .i64 (i1 : Int) from hbase 5 rfl)
          exact Rv.step_op (op := Go.Op.move (Go.Operand.tmp 5)) (v := .int .i64 (i1 : Int)) (w1 := W) rfl rfl (fun d pos aft g => by unfold execOp; go_simp) ⟨_, rfl, rfl, Below.refl _ _⟩
        | 4, _ =>
          obtain ⟨e36, x36⟩ := Rv.ev (show a.tmps.getD 36 undef = .slice (some ⟨bn, on, none⟩) nsb.length d from hdep 2 rfl)
          obtain ⟨e37, x37⟩ := Rv.ev (show a.tmps.getD 37 undef = .int .i64 (i1 : Int) from hdep 3 rfl)
          exact Rv.step_op (op := Go.Op.indexAddr 23 (Go.Operand.tmp 36) (Go.Operand.tmp 37)) (v := .pointer (some ⟨bn, on + i1, none⟩)) (w1 := W) rfl rfl (fun d pos aft g => by unfold execOp; go_simp) ⟨_, rfl, rfl, Below.refl _ _⟩
        | 5, _ =>
          obtain ⟨e38, x38⟩ := Rv.ev (show a.tmps.getD 38 undef = .pointer (some ⟨bn, on + i1, none⟩) from hdep 4 rfl)
          exact Rv.step_op (op := Go.Op.load 9 (Go.Operand.tmp 38)) (v := .string x) (w1 := W) rfl rfl (fun d pos aft g => by unfold execOp; go_simp) ⟨_, rfl, rfl, Below.refl _ _⟩
        | 6, _ =>
          obtain ⟨e34, x34⟩ := Rv.ev (show a.tmps.getD 34 undef = .agg #[.int .i64 5, .int .i64 na, .string sa, .slice A5 ns.length c5, .slice A6 is.length c6] from hdep 0 rfl)
          obtain ⟨e39, x39⟩ := Rv.ev (show a.tmps.getD 39 undef = .string x from hdep 5 rfl)
          have cf : ∀ x0 x1 W, (callFunc 20 #[x0, x1]).run Try.prog W = .ok (.enter 20 #[x0, x1]) W := fun _ _ _ => by kernel_rfl
          refine Rv.step_fn (op := Go.Op.call { callee := Go.Callee.value (Go.Operand.func 20), args := #[Go.Operand.tmp 34, Go.Operand.tmp 39], argTypes := #[26, 9] }) (f := 20) (args := #[.agg #[.int .i64 5, .int .i64 na, .string sa, .slice A5 ns.length c5, .slice A6 is.length c6], .string x]) (R := fun v W' => v = .int .i64 K ∧ Below W.heap.size W W') rfl rfl (fun d pos aft g => by unfold execOp; go_simp) ((AT.out W htr).mono ?_) ?_
          · (rintro e W' ⟨rfl, hb⟩; exact ⟨_, rfl, rfl, hb⟩)
          · (rintro v W' ⟨rfl, hb⟩; exact ⟨_, rfl, rfl, hb⟩)
        | 7, _ =>
          obtain ⟨e40, x40⟩ := Rv.ev (show a.tmps.getD 40 undef = .int .i64 K from hdep 6 rfl)
          exact Rv.step_op (op := Go.Op.assign (Go.Operand.tmp 40)) (v := .int .i64 K) (w1 := W) rfl rfl (fun d pos aft g => by unfold execOp; go_simp) ⟨_, rfl, rfl, Below.refl _ _⟩
        | m + 8, h => exact absurd h (by show ¬ m + 8 < 8; omega)
      intro W f hf htr
      have f0 : f 0 = .agg #[.int .i64 5, .int .i64 na, .string sa, .slice A5 ns.length c5, .slice A6 is.length c6] := hf 0 (by show 0 < 8; omega)
      have f1 : f 1 = .pointer (some ⟨w.heap.size + 1, 3, none⟩) := hf 1 (by show 1 < 8; omega)
      have f2 : f 2 = .slice (some ⟨bn, on, none⟩) nsb.length d := hf 2 (by show 2 < 8; omega)
      have f3 : f 3 = .int .i64 (i1 : Int) := hf 3 (by show 3 < 8; omega)
      have f4 : f 4 = .pointer (some ⟨bn, on + i1, none⟩) := hf 4 (by show 4 < 8; omega)
      have f5 : f 5 = .string x := hf 5 (by show 5 < 8; omega)
      have f6 : f 6 = .int .i64 K := hf 6 (by show 6 < 8; omega)
      have f7 : f 7 = .int .i64 K := hf 7 (by show 7 < 8; omega)
      refine (show ∀ (a : Act) (w : World), Code.wp _ _ _ a w → _ from by assumption) _ _ ?_
      refine Rv.fin_swap (L' := [(34, f 0), (35, f 1), (36, f 2), (37, f 3), (38, f 4), (39, f 5), (40, f 6), (7, f 7)]) rfl ?_
      rw [f0, f1, f2, f3, f4, f5, f6, f7]
      clear f0 f1 f2 f3 f4 f5 f6 f7
      simp only [Rv.fin, List.foldl_cons, List.foldl_nil, Act.put, List.setIfInBounds_toArray, List.set_cons_succ, List.set_cons_zero]
      have HA := Lib.hid ((htr.block _ hga).trans HA.out)
      have HB := Lib.hid ((htr.block _ hgb).trans HB.out)
      have HZ := Lib.hid ((htr.block _ (Rv.lt_of_blk HZ.out)).trans HZ.out)
      have HG6 := Lib.hid ((htr.block _ (Rv.lt_of_blk HG6.out)).trans HG6.out)
      have HX := Lib.hid (HX.out.trans (htr.mono HX.out.size))
      have HJC := Lib.hid (HJC.out.below htr)
      have HTI := Lib.hid (HTI.out.below htr)
      have HGS := Lib.hid (Nat.lt_of_lt_of_le HGS.out htr.size)
      clear hf htr NX AT hga hgb
      generalize W = X at *
      have HR := Lib.hid (idx_range (x := x) (l := ns) (i := 0) (Int.le_refl 0))
      rw [hK] at HR
      rcases HR.out with ⟨ez, hz⟩ | ⟨j1, ez, hz, _⟩
      · subst ez
        clear HR hK
        go_upto_region 10 with fail
        have HTX := HTI
        have MN := Lib.hid (fun (ns' : List ByteArray) (is' : List J) (ha : AltP ns is ti x ns' is') => MNEW.out ns' is' hz ha)
        clear HTI MNEW MOLD MEM hz
        generalize ti = tx at *
        generalize A1 = X1 at *
        generalize c1 = e1 at *
        generalize A3 = X2 at *
        generalize c3 = e2 at *
        have HX3 := Lib.hid (show w.heap.size + 3 ≤ X.heap.size from by have := HGS.out; have := HW6.out; omega)
        have HJC := Lib.hid (HJC.out.weak (q := Qq) (fun z _ hz => HQ6Q.out z hz))
        have HTX := Lib.hid (HTX.out.weak (q := Qq) (fun z _ hz => HQ6Q.out z hz))
        have hg6 := Rv.lt_of_blk HG6.out
        have hga := Rv.lt_of_blk HA.out
        have hgb := Rv.lt_of_blk HB.out
        have NX := Lib.hid (fun (W : World) (hb : Below X.heap.size X W) => NXW.out W (HX.out.trans (hb.mono HX.out.size)))
        have PU := Lib.hid (fun (W : World) (hb : Below X.heap.size X W) (gl : Nat) (hgl : gl < W.heap.size) (hl : W.cell? ⟨gl, 0, none⟩ = some (.string x) ∧ W.cell? ⟨gl, 1, none⟩ = some (.int .i64 0) ∧ W.cell? ⟨gl, 2, none⟩ = some (.bool false)) => show Calls Try.prog 25 #[.agg #[.int .i64 5, .int .i64 na, .string sa, .slice A5 ns.length c5, .slice A6 is.length c6], .slice (some ⟨gl, 0, none⟩) 1 1, .agg #[.int .i64 tx.k, .int .i64 tx.n, .string tx.s, .slice X1 tx.ns.length e1, .slice X2 tx.is.length e2], .bool true, .bool true] W fun e w' => ∃ u ns' is', e = .returned (.tuple #[u, .bool true]) ∧ JN Qq w' (.mk 5 na sa ns' is') u ∧ AltP ns is tx x ns' is' ∧ Below W.heap.size W w' from by
          refine (put_any (fun x => Qq x ∧ x < W.heap.size) na sa ns is tx _ _ x gl 0 W (fun x hx => hx.2) ((HJC.out.below hb).weak (fun x hl hx => ⟨hx, hl⟩)) ((HTX.out.below hb).weak (fun x hl hx => ⟨hx, hl⟩)) (HMI.out.len8 HWA.out HWB.out rfl rfl) HMI.out.hl hgl hl).mono ?_
          rintro e w' ⟨u, ns', is', he, hu, hb', ha⟩
          exact ⟨u, ns', is', he, hu.weak (fun x _ hx => hx.elim (fun h => h.1) (fun h => HQW.out x (Nat.le_trans (Nat.le_trans HX3.out hb.size) h))), ha, hb'⟩)
        refine Rv.region_fin2 (n := 64) (by kernel_rfl) #[51, 52, 53, 54, 55, 56, 57, 58, 59, 60, 50, 61, 62, 1013] #[] (fun i f W => if i = 13 then (fun f W => ∃ (ns' : List ByteArray) (is' : List J) (X3 : Option Addr) (e3 : Nat) (X4 : Option Addr) (e4 : Nat), W.heap[w.heap.size]? = some (.cells #[.int .i64 5, .int .i64 na, .string sa, .slice X3 ns'.length e3, .slice X4 is'.length e4] 26 (0, 0)) ∧ JN Qq W (.mk 5 na sa ns' is') (.agg #[.int .i64 5, .int .i64 na, .string sa, .slice X3 ns'.length e3, .slice X4 is'.length e4]) ∧ AltP ns is tx x ns' is') f W else if i = 11 then (fun f W => ∃ (ns' : List ByteArray) (is' : List J), JN Qq W (.mk 5 na sa ns' is') (f 11) ∧ AltP ns is tx x ns' is') f W else if i = 10 then (fun f W => ∃ (u : Value) (ns' : List ByteArray) (is' : List J), f 10 = .tuple #[u, .bool true] ∧ JN Qq W (.mk 5 na sa ns' is') u ∧ AltP ns is tx x ns' is') f W else if i = 9 then (fun f W => ∃ (u : Value) (ns' : List ByteArray) (is' : List J), f 9 = .tuple #[u, .bool true] ∧ JN Qq W (.mk 5 na sa ns' is') u ∧ AltP ns is tx x ns' is') f W else if i = 7 then (fun f W => ∃ (gl : Nat), f 7 = .slice (some ⟨gl, 0, none⟩) 1 1 ∧ W.heap[gl]? = some (.cells #[.string x, .int .i64 0, .bool false] 59 (0, 0))) f W else f i = (#[.agg #[.int .i64 5, .int .i64 na, .string sa, .slice A5 ns.length c5, .slice A6 is.length c6], .pointer (some ⟨w.heap.size + 1, 3, none⟩), .slice (some ⟨bn, on, none⟩) nsb.length d, .int .i64 (i1 : Int), .pointer (some ⟨bn, on + i1, none⟩), .string x, .agg #[.string x, .int .i64 0, .bool false], undef, .agg #[.int .i64 tx.k, .int .i64 tx.n, .string tx.s, .slice X1 tx.ns.length e1, .slice X2 tx.is.length e2], undef, undef, undef, .bool true, undef] : Array Value).getD i undef) (fun i j => (i == 13 && (j == 7 || j == 11))) (fun i => i == 13) (fun i => i == 13) (fun i f W W' => if i = 13 then (fun f W W' => W.grownBy W' (some w.heap.size)) f W W' else True) (fun W => Below w.heap.size w W ∧ Same (fun b => b ≠ w.heap.size) X W) (fun W => Below X.heap.size X W) (fun _ _ _ => True) (fun _ _ _ _ _ _ _ _ => trivial) (fun i f f' w hi h hd hg => ?_) (fun i j f w w' hi hj hij hK hdp h hr => ?_) (fun i h g b hg => ?_) rfl (by kernel_rfl) (fun i h g b hg => ?_) (⟨HX.out.drew, Nat.le_refl _, fun _ _ _ => rfl⟩) ((Below.refl _ _).drew) (fun _ => trivial) (fun i h hr f w hf => ?_) (fun _ _ _ _ _ _ _ _ => trivial) ?_ ?_
        · by_cases hi1013 : i = 13
          · subst hi1013
            rw [if_pos rfl] at hg ⊢
            exact hg
          rw [if_neg hi1013] at hg ⊢
          by_cases hi61 : i = 11
          · subst hi61
            rw [if_pos rfl] at hg ⊢
            obtain ⟨ns', is', q1, q2⟩ := hg
            rw [h] at q1
            exact ⟨ns', is', q1, q2⟩
          rw [if_neg hi61] at hg ⊢
          by_cases hi50 : i = 10
          · subst hi50
            rw [if_pos rfl] at hg ⊢
            obtain ⟨u, ns', is', q1, q2⟩ := hg
            exact ⟨u, ns', is', h.symm.trans q1, q2⟩
          rw [if_neg hi50] at hg ⊢
          by_cases hi60 : i = 9
          · subst hi60
            rw [if_pos rfl] at hg ⊢
            obtain ⟨u, ns', is', q1, q2⟩ := hg
            exact ⟨u, ns', is', h.symm.trans q1, q2⟩
          rw [if_neg hi60] at hg ⊢
          by_cases hi58 : i = 7
          · subst hi58
            rw [if_pos rfl] at hg ⊢
            obtain ⟨gl, q1, q2⟩ := hg
            exact ⟨gl, h.symm.trans q1, q2⟩
          rw [if_neg hi58] at hg ⊢
          rw [← h]; exact hg
        · by_cases hj1013 : j = 13
          · subst hj1013
            rw [if_pos rfl] at h ⊢
            rcases hr with ⟨hK1, hr⟩ | hr
            · have e : i = 13 := by simpa using hK1
              exact absurd e hij
            · obtain ⟨ns', is', X3, e3, X4, e4, h1, h2, h3⟩ := h
              exact ⟨ns', is', X3, e3, X4, e4, (hr.block _ (Rv.lt_of_blk h1)).trans h1, h2.below hr, h3⟩
          rw [if_neg hj1013] at h ⊢
          by_cases hj61 : j = 11
          · subst hj61
            rw [if_pos rfl] at h ⊢
            rcases hr with ⟨hK1, hr⟩ | hr
            · have e : i = 13 := by simpa using hK1
              subst e; exfalso; revert hK; decide
            · obtain ⟨ns', is', h1, h2⟩ := h
              exact ⟨ns', is', h1.below hr, h2⟩
          rw [if_neg hj61] at h ⊢
          by_cases hj50 : j = 10
          · subst hj50
            rw [if_pos rfl] at h ⊢
            rcases hr with ⟨hK1, hr⟩ | hr
            · have e : i = 13 := by simpa using hK1
              (subst e; rw [if_pos rfl] at hr; obtain ⟨u, ns', is', e, h1, h2⟩ := h; exact ⟨u, ns', is', e, h1.grown hr (fun x hx e => by injection e with e; exact HQA.out (e ▸ hx)), h2⟩)
            · obtain ⟨u, ns', is', e, h1, h2⟩ := h
              exact ⟨u, ns', is', e, h1.below hr, h2⟩
          rw [if_neg hj50] at h ⊢
          by_cases hj60 : j = 9
          · subst hj60
            rw [if_pos rfl] at h ⊢
            rcases hr with ⟨hK1, hr⟩ | hr
            · have e : i = 13 := by simpa using hK1
              (subst e; rw [if_pos rfl] at hr; obtain ⟨u, ns', is', e, h1, h2⟩ := h; exact ⟨u, ns', is', e, h1.grown hr (fun x hx e => by injection e with e; exact HQA.out (e ▸ hx)), h2⟩)
            · obtain ⟨u, ns', is', e, h1, h2⟩ := h
              exact ⟨u, ns', is', e, h1.below hr, h2⟩
          rw [if_neg hj60] at h ⊢
          by_cases hj58 : j = 7
          · subst hj58
            rw [if_pos rfl] at h ⊢
            rcases hr with ⟨hK1, hr⟩ | hr
            · have e : i = 13 := by simpa using hK1
              subst e; exfalso; revert hK; decide
            · obtain ⟨gl, e, h1⟩ := h
              exact ⟨gl, e, (hr.block _ (Rv.lt_of_blk h1)).trans h1⟩
          rw [if_neg hj58] at h ⊢
          exact h
        · match i, h, hg with
          | 0, _, hg => cases hg
          | 1, _, hg => cases hg
          | 2, _, hg => cases hg
          | 3, _, hg => cases hg
          | 4, _, hg => cases hg
          | 5, _, hg => cases hg
          | 6, _, hg => cases hg
          | 7, _, hg => cases hg
          | 8, _, hg => cases hg
          | 9, _, hg => cases hg
          | 10, _, hg => cases hg
          | 11, _, hg => cases hg
          | 12, _, hg => cases hg
          | 13, _, hg => cases hg
          | m + 14, h, _ => exact absurd h (by show ¬ m + 14 < 14; omega)
        · match i, h, hg with
          | 0, _, hg => cases hg
          | 1, _, hg => cases hg
          | 2, _, hg => cases hg
          | 3, _, hg => cases hg
          | 4, _, hg => cases hg
          | 5, _, hg => cases hg
          | 6, _, hg => cases hg
          | 7, _, hg => cases hg
          | 8, _, hg => cases hg
          | 9, _, hg => cases hg
          | 10, _, hg => cases hg
          | 11, _, hg => cases hg
          | 12, _, hg => cases hg
          | 13, _, hg => cases hg
          | m + 14, h, _ => exact absurd h (by show ¬ m + 14 < 14; omega)
        · match i, h, hr, hf with
          | 0, _, hr, _ => exact Bool.noConfusion (show true = false from hr)
          | 1, _, hr, _ => exact Bool.noConfusion (show true = false from hr)
          | 2, _, hr, _ => exact Bool.noConfusion (show true = false from hr)
          | 3, _, hr, _ => exact Bool.noConfusion (show true = false from hr)
          | 4, _, hr, _ => exact Bool.noConfusion (show true = false from hr)
          | 5, _, hr, _ => exact Bool.noConfusion (show true = false from hr)
          | 6, _, hr, _ => exact Bool.noConfusion (show true = false from hr)
          | 7, _, hr, _ => exact Bool.noConfusion (show true = false from hr)
          | 8, _, hr, _ => exact Bool.noConfusion (show true = false from hr)
          | 9, _, hr, _ => exact Bool.noConfusion (show true = false from hr)
          | 10, _, hr, _ => exact Bool.noConfusion (show true = false from hr)
          | 11, _, hr, _ => exact Bool.noConfusion (show true = false from hr)
          | 12, _, hr, _ => exact Bool.noConfusion (show true = false from hr)
          | 13, _, hr, _ => exact Bool.noConfusion (show true = false from hr)
          | m + 14, h, _, _ => exact absurd h (by show ¬ m + 14 < 14; omega)
        · intro i h a W hrun hbase hpre hdep htr hta hJ
          have hnl := HNL.out
          match i, h with
          | 0, _ =>
            obtain ⟨e2, x2⟩ := Rv.ev (show a.tmps.getD 2 undef = .pointer (some ⟨w.heap.size, 0, none⟩) from hbase 2 rfl)
            obtain ⟨y0, y1, y2, y3, y4⟩ := Rv.cells5 (((hta (by decide)).block _ hga).trans HA.out)
            exact Rv.step_op (op := Go.Op.load 26 (Go.Operand.tmp 2)) (v := .agg #[.int .i64 5, .int .i64 na, .string sa, .slice A5 ns.length c5, .slice A6 is.length c6]) (w1 := W) rfl rfl (fun d pos aft g => by unfold execOp; go_simp) ⟨_, rfl, rfl, .inr (Below.refl _ _), htr, fun _ ht => ht, fun _ _ _ => trivial⟩
          | 1, _ =>
            obtain ⟨e3, x3⟩ := Rv.ev (show a.tmps.getD 3 undef = .pointer (some ⟨w.heap.size + 1, 0, none⟩) from hbase 3 rfl)
            exact Rv.step_op (op := Go.Op.fieldAddr 26 (Go.Operand.tmp 3) 3) (v := .pointer (some ⟨w.heap.size + 1, 3, none⟩)) (w1 := W) rfl rfl (fun d pos aft g => by unfold execOp; go_simp) ⟨_, rfl, rfl, .inr (Below.refl _ _), htr, fun _ ht => ht, fun _ _ _ => trivial⟩
          | 2, _ =>
            obtain ⟨e52, x52⟩ := Rv.ev (show a.tmps.getD 52 undef = .pointer (some ⟨w.heap.size + 1, 3, none⟩) from hdep 1 rfl rfl)
            obtain ⟨x0, x1, x2, x3, x4⟩ := Rv.cells5 (((hta (by decide)).block _ hgb).trans HB.out)
            exact Rv.step_op (op := Go.Op.load 23 (Go.Operand.tmp 52)) (v := .slice (some ⟨bn, on, none⟩) nsb.length d) (w1 := W) rfl rfl (fun d pos aft g => by unfold execOp; go_simp) ⟨_, rfl, rfl, .inr (Below.refl _ _), htr, fun _ ht => ht, fun _ _ _ => trivial⟩
          | 3, _ =>
            obtain ⟨e5, x5⟩ := Rv.ev (show a.tmps.getD 5 undef = .int .i64 (i1 : Int) from hbase 5 rfl)
            exact Rv.step_op (op := Go.Op.move (Go.Operand.tmp 5)) (v := .int .i64 (i1 : Int)) (w1 := W) rfl rfl (fun d pos aft g => by unfold execOp; go_simp) ⟨_, rfl, rfl, .inr (Below.refl _ _), htr, fun _ ht => ht, fun _ _ _ => trivial⟩
          | 4, _ =>
            obtain ⟨e53, x53⟩ := Rv.ev (show a.tmps.getD 53 undef = .slice (some ⟨bn, on, none⟩) nsb.length d from hdep 2 rfl rfl)
            obtain ⟨e54, x54⟩ := Rv.ev (show a.tmps.getD 54 undef = .int .i64 (i1 : Int) from hdep 3 rfl rfl)
            exact Rv.step_op (op := Go.Op.indexAddr 23 (Go.Operand.tmp 53) (Go.Operand.tmp 54)) (v := .pointer (some ⟨bn, on + i1, none⟩)) (w1 := W) rfl rfl (fun d pos aft g => by unfold execOp; go_simp) ⟨_, rfl, rfl, .inr (Below.refl _ _), htr, fun _ ht => ht, fun _ _ _ => trivial⟩
          | 5, _ =>
            obtain ⟨e55, x55⟩ := Rv.ev (show a.tmps.getD 55 undef = .pointer (some ⟨bn, on + i1, none⟩) from hdep 4 rfl rfl)
            have l0 := NX.out W (hta (by decide))
            exact Rv.step_op (op := Go.Op.load 9 (Go.Operand.tmp 55)) (v := .string x) (w1 := W) rfl rfl (fun d pos aft g => by unfold execOp; go_simp) ⟨_, rfl, rfl, .inr (Below.refl _ _), htr, fun _ ht => ht, fun _ _ _ => trivial⟩
          | 6, _ =>
            obtain ⟨e56, x56⟩ := Rv.ev (show a.tmps.getD 56 undef = .string x from hdep 5 rfl rfl)
            exact Rv.step_op (op := Go.Op.build 59 #[(0, Go.Operand.tmp 56)]) (v := .agg #[.string x, .int .i64 0, .bool false]) (w1 := W) rfl rfl (fun d pos aft g => by unfold execOp; go_simp) ⟨_, rfl, rfl, .inr (Below.refl _ _), htr, fun _ ht => ht, fun _ _ _ => trivial⟩
          | 7, _ =>
            obtain ⟨e57, x57⟩ := Rv.ev (show a.tmps.getD 57 undef = .agg #[.string x, .int .i64 0, .bool false] from hdep 6 rfl rfl)
            have hal : Below W.heap.size W (W.alloc (.cells #[.string x, .int .i64 0, .bool false] 59)) := (Below.refl _ _).alloc (Nat.le_refl _) _
            exact Rv.step_op (op := Go.Op.buildSlice 60 1 #[(0, Go.Operand.tmp 57)]) (ty := 60) (v := .slice (some ⟨W.heap.size, 0, none⟩) 1 1) (w1 := W.alloc (.cells #[.string x, .int .i64 0, .bool false] 59)) rfl rfl (fun d pos aft g => by unfold execOp; go_simp) ⟨_, rfl, ⟨W.heap.size, rfl, heap_alloc_new W _⟩, .inr hal, ⟨htr.1.trans (hal.mono htr.1.size), htr.2.trans (Same.below hal)⟩, (fun _ ht => ht.trans (hal.mono ht.size)), fun _ _ _ => trivial⟩
          | 8, _ =>
            obtain ⟨e6, x6⟩ := Rv.ev (show a.tmps.getD 6 undef = .pointer (some ⟨g6, 0, none⟩) from hbase 6 rfl)
            obtain ⟨u0, u1, u2, u3, u4⟩ := Rv.cells5 (((hta (by decide)).block _ hg6).trans HG6.out)
            exact Rv.step_op (op := Go.Op.load 26 (Go.Operand.tmp 6)) (v := .agg #[.int .i64 tx.k, .int .i64 tx.n, .string tx.s, .slice X1 tx.ns.length e1, .slice X2 tx.is.length e2]) (w1 := W) rfl rfl (fun d pos aft g => by unfold execOp; go_simp) ⟨_, rfl, rfl, .inr (Below.refl _ _), htr, fun _ ht => ht, fun _ _ _ => trivial⟩
          | 9, _ =>
            obtain ⟨e51, x51⟩ := Rv.ev (show a.tmps.getD 51 undef = .agg #[.int .i64 5, .int .i64 na, .string sa, .slice A5 ns.length c5, .slice A6 is.length c6] from hdep 0 rfl rfl)
            obtain ⟨gl, eA, k58⟩ : ∃ (gl : Nat), a.tmps.getD 58 undef = .slice (some ⟨gl, 0, none⟩) 1 1 ∧ W.heap[gl]? = some (.cells #[.string x, .int .i64 0, .bool false] 59 (0, 0)) := hdep 7 rfl rfl
            obtain ⟨e58, x58⟩ := Rv.ev eA
            obtain ⟨e59, x59⟩ := Rv.ev (show a.tmps.getD 59 undef = .agg #[.int .i64 tx.k, .int .i64 tx.n, .string tx.s, .slice X1 tx.ns.length e1, .slice X2 tx.is.length e2] from hdep 8 rfl rfl)
            have cf : ∀ x0 x1 x2 x3 x4 W, (callFunc 25 #[x0, x1, x2, x3, x4]).run Try.prog W = .ok (.enter 25 #[x0, x1, x2, x3, x4]) W := fun _ _ _ _ _ _ => by kernel_rfl
            have hta1 := hta (by decide)
            obtain ⟨l0, l1, l2⟩ := Rv.cells3 k58
            refine Rv.step_fn (op := Go.Op.call { callee := Go.Callee.value (Go.Operand.func 25), args := #[Go.Operand.tmp 51, Go.Operand.tmp 58, Go.Operand.tmp 59, Go.Operand.const (Go.Value.bool true), Go.Operand.const (Go.Value.bool true)], argTypes := #[26, 60, 26, 4, 4] }) (ty := 56) (f := 25) (args := #[.agg #[.int .i64 5, .int .i64 na, .string sa, .slice A5 ns.length c5, .slice A6 is.length c6], .slice (some ⟨gl, 0, none⟩) 1 1, .agg #[.int .i64 tx.k, .int .i64 tx.n, .string tx.s, .slice X1 tx.ns.length e1, .slice X2 tx.is.length e2], .bool true, .bool true]) (R := fun v W' => (∃ (u : Value) (ns' : List ByteArray) (is' : List J), v = .tuple #[u, .bool true] ∧ JN Qq W' (.mk 5 na sa ns' is') u ∧ AltP ns is tx x ns' is') ∧ Below W.heap.size W W') rfl rfl (fun d pos aft g => by unfold execOp; go_simp) ((PU.out W hta1 gl (Rv.lt_of_blk k58) ⟨l0, l1, l2⟩).mono ?_) ?_
            · (rintro e W' ⟨u, ns', is', rfl, h1, h2, hb⟩; exact ⟨_, rfl, ⟨u, ns', is', rfl, h1, h2⟩, hb⟩)
            · (rintro v W' ⟨hv, hb⟩; exact ⟨_, rfl, hv, .inr hb, ⟨htr.1.trans (hb.mono htr.1.size), htr.2.trans (Same.below hb)⟩, (fun _ ht => ht.trans (hb.mono ht.size)), fun _ _ _ => trivial⟩)
          | 10, _ =>
            obtain ⟨u, ns', is', eB, n60, a60⟩ : ∃ (u : Value) (ns' : List ByteArray) (is' : List J), a.tmps.getD 60 undef = .tuple #[u, .bool true] ∧ JN Qq W (.mk 5 na sa ns' is') u ∧ AltP ns is tx x ns' is' := hdep 9 rfl rfl
            obtain ⟨e60, x60⟩ := Rv.ev eB
            exact Rv.step_op (op := Go.Op.move (Go.Operand.tmp 60)) (ty := 56) (v := .tuple #[u, .bool true]) (w1 := W) rfl rfl (fun d pos aft g => by unfold execOp; go_simp) ⟨_, rfl, ⟨u, ns', is', rfl, n60, a60⟩, .inr (Below.refl _ _), htr, (fun _ ht => ht), fun _ _ _ => trivial⟩
          | 11, _ =>
            obtain ⟨u, ns', is', eB, n60, a60⟩ : ∃ (u : Value) (ns' : List ByteArray) (is' : List J), a.tmps.getD 50 undef = .tuple #[u, .bool true] ∧ JN Qq W (.mk 5 na sa ns' is') u ∧ AltP ns is tx x ns' is' := hdep 10 rfl rfl
            obtain ⟨e50, x50⟩ := Rv.ev eB
            exact Rv.step_op (op := Go.Op.extract (Go.Operand.tmp 50) 0) (ty := 26) (v := u) (w1 := W) rfl rfl (fun d pos aft g => by unfold execOp; go_simp) ⟨_, rfl, ⟨ns', is', n60, a60⟩, .inr (Below.refl _ _), htr, (fun _ ht => ht), fun _ _ _ => trivial⟩
          | 12, _ =>
            obtain ⟨u, ns', is', eB, n60, a60⟩ : ∃ (u : Value) (ns' : List ByteArray) (is' : List J), a.tmps.getD 50 undef = .tuple #[u, .bool true] ∧ JN Qq W (.mk 5 na sa ns' is') u ∧ AltP ns is tx x ns' is' := hdep 10 rfl rfl
            obtain ⟨e50, x50⟩ := Rv.ev eB
            exact Rv.step_op (op := Go.Op.extract (Go.Operand.tmp 50) 1) (v := .bool true) (w1 := W) rfl rfl (fun d pos aft g => by unfold execOp; go_simp) ⟨_, rfl, rfl, .inr (Below.refl _ _), htr, fun _ ht => ht, fun _ _ _ => trivial⟩
          | 13, _ =>
            obtain ⟨e2, x2⟩ := Rv.ev (show a.tmps.getD 2 undef = .pointer (some ⟨w.heap.size, 0, none⟩) from hbase 2 rfl)
            obtain ⟨ns', is', n61, a61⟩ : ∃ (ns' : List ByteArray) (is' : List J), JN Qq W (.mk 5 na sa ns' is') (a.tmps.getD 61 undef) ∧ AltP ns is tx x ns' is' := hdep 11 rfl rfl
            obtain ⟨v61, q61⟩ : ∃ v, a.tmps.getD 61 undef = v := ⟨_, rfl⟩
            rw [q61] at n61
            have n61' := n61
            obtain ⟨X3, e3, X4, e4, hs3, ez, _⟩ := n61'
            subst ez
            obtain ⟨e61, x61⟩ := Rv.ev q61
            have hq := ((hta (by decide)).block _ hga).trans HA.out
            obtain ⟨s0, s1, s2, s3, s4⟩ := Rv.cells5 hq
            obtain ⟨z0, z1, z2, z3, z4⟩ := Rv.frozen5 hq
            have gs' := fun (V : World) j u => grown_set (Below.refl _ V) w.heap.size j u
            have hgg := (grown_then (grown_then (grown_then (grown_then (gs' W 0 (.int .i64 5)) (gs' _ 1 (.int .i64 na))) (gs' _ 2 (.string sa))) (gs' _ 3 (.slice X3 ns'.length e3))) (gs' _ 4 (.slice X4 is'.length e4)))
            have hqa := HQA.out
            exact Rv.step_skip (op := Go.Op.store 26 (Go.Operand.tmp 2) (Go.Operand.tmp 61)) (ty := 0) (w1 := (((((W.setCell ⟨w.heap.size, 0, none⟩ (.int .i64 5)).setCell ⟨w.heap.size, 1, none⟩ (.int .i64 na)).setCell ⟨w.heap.size, 2, none⟩ (.string sa)).setCell ⟨w.heap.size, 3, none⟩ (.slice X3 ns'.length e3)).setCell ⟨w.heap.size, 4, none⟩ (.slice X4 is'.length e4))) rfl rfl (fun d pos aft g => by unfold execOp; go_simp) ⟨undef, rfl, ⟨ns', is', X3, e3, X4, e4, Rv.sets5 hq _ _ _ _ _, n61.grown hgg (fun x hx e => by injection e with e; exact hqa (e ▸ hx)), a61⟩, .inl ⟨rfl, (by rw [if_pos rfl]; exact hgg)⟩, ⟨htr.1.grown hgg htr.1.size (fun k hk => by injection hk with hk; omega), htr.2.trans (.grown hgg (fun b hb e => by injection e with e; exact hb e))⟩, (fun h _ => by cases h), fun _ _ _ => trivial⟩
          | m + 14, h => exact absurd h (by show ¬ m + 14 < 14; omega)
        intro W f hf htr hJ
        have f0 : f 0 = .agg #[.int .i64 5, .int .i64 na, .string sa, .slice A5 ns.length c5, .slice A6 is.length c6] := hf 0 (by show 0 < 14; omega) rfl
        have f1 : f 1 = .pointer (some ⟨w.heap.size + 1, 3, none⟩) := hf 1 (by show 1 < 14; omega) rfl
        have f2 : f 2 = .slice (some ⟨bn, on, none⟩) nsb.length d := hf 2 (by show 2 < 14; omega) rfl
        have f3 : f 3 = .int .i64 (i1 : Int) := hf 3 (by show 3 < 14; omega) rfl
        have f4 : f 4 = .pointer (some ⟨bn, on + i1, none⟩) := hf 4 (by show 4 < 14; omega) rfl
        have f5 : f 5 = .string x := hf 5 (by show 5 < 14; omega) rfl
        have f6 : f 6 = .agg #[.string x, .int .i64 0, .bool false] := hf 6 (by show 6 < 14; omega) rfl
        have f8 : f 8 = .agg #[.int .i64 tx.k, .int .i64 tx.n, .string tx.s, .slice X1 tx.ns.length e1, .slice X2 tx.is.length e2] := hf 8 (by show 8 < 14; omega) rfl
        have HS9 := Lib.hid (show (fun f W => ∃ (u : Value) (ns' : List ByteArray) (is' : List J), f 9 = .tuple #[u, .bool true] ∧ JN Qq W (.mk 5 na sa ns' is') u ∧ AltP ns is tx x ns' is') f W from hf 9 (by show 9 < 14; omega) rfl)
        have HS10 := Lib.hid (show (fun f W => ∃ (u : Value) (ns' : List ByteArray) (is' : List J), f 10 = .tuple #[u, .bool true] ∧ JN Qq W (.mk 5 na sa ns' is') u ∧ AltP ns is tx x ns' is') f W from hf 10 (by show 10 < 14; omega) rfl)
        have f12 : f 12 = .bool true := hf 12 (by show 12 < 14; omega) rfl
        have HS13 := Lib.hid (show (fun f W => ∃ (ns' : List ByteArray) (is' : List J) (X3 : Option Addr) (e3 : Nat) (X4 : Option Addr) (e4 : Nat), W.heap[w.heap.size]? = some (.cells #[.int .i64 5, .int .i64 na, .string sa, .slice X3 ns'.length e3, .slice X4 is'.length e4] 26 (0, 0)) ∧ JN Qq W (.mk 5 na sa ns' is') (.agg #[.int .i64 5, .int .i64 na, .string sa, .slice X3 ns'.length e3, .slice X4 is'.length e4]) ∧ AltP ns is tx x ns' is') f W from hf 13 (by show 13 < 14; omega) rfl)
        clear hf
        refine (show ∀ (a : Act) (w : World), Code.wp _ _ _ a w → _ from by assumption) _ _ ?_
        refine Rv.fin_swap (L' := [(51, f 0), (52, f 1), (53, f 2), (54, f 3), (55, f 4), (56, f 5), (57, f 6), (58, f 7), (59, f 8), (60, f 9), (50, f 10), (61, f 11), (62, f 12), (1013, f 13)]) rfl ?_
        rw [f0, f1, f2, f3, f4, f5, f6, f8, f12]
        clear f0 f1 f2 f3 f4 f5 f6 f8 f12
        simp only [Rv.fin, List.foldl_cons, List.foldl_nil, Act.put, List.setIfInBounds_toArray, List.set_cons_succ, List.set_cons_zero, List.set_nil]
        obtain ⟨ns', is', X3, e3, X4, e4, hb13, hj13, ha13⟩ := HS13.out
        have HX := Lib.hid htr.1
        have HA := Lib.hid hb13
        have HB := Lib.hid ((htr.2.2 _ hgb (by omega)).trans HB.out)
        have HZ := Lib.hid ((htr.2.2 _ (Rv.lt_of_blk HZ.out) (by omega)).trans HZ.out)
        have HJC := Lib.hid hj13
        have HM2 := Lib.hid (show MI _ _ (fun z => z ∈ nsb.take (i1 + 1)) ns' is' from MN.out ns' is' ha13)
        clear htr HS13 hb13 hj13 ha13 hga hgb hg6 NX PU
        generalize f 7 = u7
        generalize f 9 = u9
        generalize f 10 = u10
        generalize f 11 = u11
        go_wp2
        go_roundw
        case rel => exact ⟨i1 + 1, ns', is', X3, e3, X4, e4, by go_num, by omega, HM2, HA, HB, HZ, HJC, HX⟩
        case measure => simp [intOf]; omega
      · have ez2 : K = (j1 : Int) := by rw [ez]; omega
        subst ez2
        clear ez HR hK
        obtain ⟨hjl, hjx⟩ := List.getElem?_eq_some_iff.1 hz
        have hjl2 : j1 < is.length := by have := HMI.out.hl; omega
        go_upto_region 9 with fail
        obtain ⟨hsJ, -, hiJ, hhJ⟩ := HJC.out.at5
        obtain ⟨bj, oj, J1, m1, J2, m2, eb, hbj, p0, p1, p2, p3, p4, hjj⟩ := row_item hiJ hhJ rfl j1 hjl2
        subst eb
        have HJL := Lib.hid hjl2
        have hmem := MEM.out j1 hjl hjl2 hjx
        have IJ := Lib.hid (fun (W : World) (hb : Below X.heap.size X W) => And.intro ((hb.cell (p := ⟨bj, oj + j1 * 5, none⟩) hbj).trans p0) (And.intro ((hb.cell (p := ⟨bj, oj + j1 * 5 + 1, none⟩) hbj).trans p1) (And.intro ((hb.cell (p := ⟨bj, oj + j1 * 5 + 2, none⟩) hbj).trans p2) (And.intro ((hb.cell (p := ⟨bj, oj + j1 * 5 + 3, none⟩) hbj).trans p3) ((hb.cell (p := ⟨bj, oj + j1 * 5 + 4, none⟩) hbj).trans p4)))))
        have MN := Lib.hid (fun (cc : J) (ns' : List ByteArray) (is' : List J) (hm : Mg is[j1] ti cc) (ha : AltP ns is cc x ns' is') => MOLD.out j1 hjl hjl2 cc ns' is' hjx hm ha)
        have IH := Lib.hid (fun (W : World) (hb : Below X.heap.size X W) => show Calls Try.prog 13 #[.agg #[.int .i64 is[j1].k, .int .i64 is[j1].n, .string is[j1].s, .slice J1 is[j1].ns.length m1, .slice J2 is[j1].is.length m2], .agg #[.int .i64 ti.k, .int .i64 ti.n, .string ti.s, .slice A1 ti.ns.length c1, .slice A3 ti.is.length c3]] W fun e W' => ∃ u cc, e = .returned u ∧ Mg is[j1] ti cc ∧ JN Q6 W' cc u ∧ Below W.heap.size W W' from by
          refine (IH0.out is[j1] hmem (fun z => Q6 z ∧ z < W.heap.size) ti _ _ W (fun z hz => hz.2) (HKA.out.get _ hmem) HWT.out ((hjj.below hb).weak (fun z hl hz => ⟨hz, hl⟩)) ((HTI.out.below hb).weak (fun z hl hz => ⟨hz, hl⟩))).mono ?_
          rintro e W' ⟨u, cc, he, hm, hj, hb'⟩
          exact ⟨u, cc, he, hm, hj.weak (fun z _ hz => hz.elim (fun h => h.1) (fun h => HQ6W.out z (by have := HGS.out; have := hb.size; omega))), hb'⟩)
        clear p0 p1 p2 p3 p4 hjj hiJ hhJ hmem hbj hjx MOLD MEM MNEW hsJ
        generalize is[j1] = tj at *
        clear hjl2 hz hjl
        have hg6 := Rv.lt_of_blk HG6.out
        have hga := Rv.lt_of_blk HA.out
        have hgb := Rv.lt_of_blk HB.out
        refine Rv.region_fin2 (n := 64) (by kernel_rfl) #[43, 44, 45, 46, 47, 48, 49, 1007] #[] (fun i f W => if i = 7 then (fun f W => ∃ (cc : J) (X1 : Option Addr) (e1 : Nat) (X2 : Option Addr) (e2 : Nat), Mg tj ti cc ∧ JN Q6 W cc (.agg #[.int .i64 cc.k, .int .i64 cc.n, .string cc.s, .slice X1 cc.ns.length e1, .slice X2 cc.is.length e2]) ∧ W.heap[g6]? = some (.cells #[.int .i64 cc.k, .int .i64 cc.n, .string cc.s, .slice X1 cc.ns.length e1, .slice X2 cc.is.length e2] 26 (0, 0)) ∧ JN Q6 W (.mk 5 na sa ns is) (.agg #[.int .i64 5, .int .i64 na, .string sa, .slice A5 ns.length c5, .slice (some ⟨bj, oj, none⟩) is.length c6])) f W else if i = 6 then (fun f W => ∃ cc : J, Mg tj ti cc ∧ JN Q6 W cc (f 6)) f W else f i = (#[.pointer (some ⟨w.heap.size, 4, none⟩), .slice (some ⟨bj, oj, none⟩) is.length c6, .int .i64 (j1 : Int), .pointer (some ⟨bj, oj + j1 * 5, none⟩), .agg #[.int .i64 tj.k, .int .i64 tj.n, .string tj.s, .slice J1 tj.ns.length m1, .slice J2 tj.is.length m2], .agg #[.int .i64 ti.k, .int .i64 ti.n, .string ti.s, .slice A1 ti.ns.length c1, .slice A3 ti.is.length c3], undef, undef] : Array Value).getD i undef) (fun i j => (i == 7 && (j == 6))) (fun i => i == 7) (fun i => i == 7) (fun i f W W' => True) (fun W => Below w.heap.size w W ∧ Same (fun b => b ≠ g6) X W) (fun W => Below X.heap.size X W) (fun _ _ _ => True) (fun _ _ _ _ _ _ _ _ => trivial) (fun i f f' w hi h hd hg => ?_) (fun i j f w w' hi hj hij hK hdp h hr => ?_) (fun i h g b hg => ?_) rfl (by kernel_rfl) (fun i h g b hg => ?_) (⟨HX.out.drew, Nat.le_refl _, fun _ _ _ => rfl⟩) ((Below.refl _ _).drew) (fun _ => trivial) (fun i h hr f w hf => ?_) (fun _ _ _ _ _ _ _ _ => trivial) ?_ ?_
        · by_cases hi1007 : i = 7
          · subst hi1007
            rw [if_pos rfl] at hg ⊢
            exact hg
          rw [if_neg hi1007] at hg ⊢
          by_cases hi49 : i = 6
          · subst hi49
            rw [if_pos rfl] at hg ⊢
            obtain ⟨cc, q1, q2⟩ := hg
            rw [h] at q2
            exact ⟨cc, q1, q2⟩
          rw [if_neg hi49] at hg ⊢
          rw [← h]; exact hg
        · by_cases hj1007 : j = 7
          · subst hj1007
            rw [if_pos rfl] at h ⊢
            rcases hr with ⟨hK1, hr⟩ | hr
            · have e : i = 7 := by simpa using hK1
              exact absurd e hij
            · obtain ⟨cc, X1, e1, X2, e2, h1, h2, h3, h4⟩ := h
              exact ⟨cc, X1, e1, X2, e2, h1, h2.below hr, (hr.block _ (Rv.lt_of_blk h3)).trans h3, h4.below hr⟩
          rw [if_neg hj1007] at h ⊢
          by_cases hj49 : j = 6
          · subst hj49
            rw [if_pos rfl] at h ⊢
            rcases hr with ⟨hK1, hr⟩ | hr
            · have e : i = 7 := by simpa using hK1
              subst e; exfalso; revert hK; decide
            · obtain ⟨cc, h1, h2⟩ := h
              exact ⟨cc, h1, h2.below hr⟩
          rw [if_neg hj49] at h ⊢
          exact h
        · match i, h, hg with
          | 0, _, hg => cases hg
          | 1, _, hg => cases hg
          | 2, _, hg => cases hg
          | 3, _, hg => cases hg
          | 4, _, hg => cases hg
          | 5, _, hg => cases hg
          | 6, _, hg => cases hg
          | 7, _, hg => cases hg
          | m + 8, h, _ => exact absurd h (by show ¬ m + 8 < 8; omega)
        · match i, h, hg with
          | 0, _, hg => cases hg
          | 1, _, hg => cases hg
          | 2, _, hg => cases hg
          | 3, _, hg => cases hg
          | 4, _, hg => cases hg
          | 5, _, hg => cases hg
          | 6, _, hg => cases hg
          | 7, _, hg => cases hg
          | m + 8, h, _ => exact absurd h (by show ¬ m + 8 < 8; omega)
        · match i, h, hr, hf with
          | 0, _, hr, _ => exact Bool.noConfusion (show true = false from hr)
          | 1, _, hr, _ => exact Bool.noConfusion (show true = false from hr)
          | 2, _, hr, _ => exact Bool.noConfusion (show true = false from hr)
          | 3, _, hr, _ => exact Bool.noConfusion (show true = false from hr)
          | 4, _, hr, _ => exact Bool.noConfusion (show true = false from hr)
          | 5, _, hr, _ => exact Bool.noConfusion (show true = false from hr)
          | 6, _, hr, _ => exact Bool.noConfusion (show true = false from hr)
          | 7, _, hr, _ => exact Bool.noConfusion (show true = false from hr)
          | m + 8, h, _, _ => exact absurd h (by show ¬ m + 8 < 8; omega)
        · intro i h a W hrun hbase hpre hdep htr hta hJ
          match i, h with
          | 0, _ =>
            obtain ⟨e2, x2⟩ := Rv.ev (show a.tmps.getD 2 undef = .pointer (some ⟨w.heap.size, 0, none⟩) from hbase 2 rfl)
            exact Rv.step_op (op := Go.Op.fieldAddr 26 (Go.Operand.tmp 2) 4) (v := .pointer (some ⟨w.heap.size, 4, none⟩)) (w1 := W) rfl rfl (fun d pos aft g => by unfold execOp; go_simp) ⟨_, rfl, rfl, .inr (Below.refl _ _), htr, fun _ ht => ht, fun _ _ _ => trivial⟩
          | 1, _ =>
            obtain ⟨e43, x43⟩ := Rv.ev (show a.tmps.getD 43 undef = .pointer (some ⟨w.heap.size, 4, none⟩) from hdep 0 rfl rfl)
            obtain ⟨y0, y1, y2, y3, y4⟩ := Rv.cells5 (((hta (by decide)).block _ hga).trans HA.out)
            exact Rv.step_op (op := Go.Op.load 24 (Go.Operand.tmp 43)) (v := .slice (some ⟨bj, oj, none⟩) is.length c6) (w1 := W) rfl rfl (fun d pos aft g => by unfold execOp; go_simp) ⟨_, rfl, rfl, .inr (Below.refl _ _), htr, fun _ ht => ht, fun _ _ _ => trivial⟩
          | 2, _ =>
            obtain ⟨e7, x7⟩ := Rv.ev (show a.tmps.getD 7 undef = .int .i64 (j1 : Int) from hbase 7 rfl)
            exact Rv.step_op (op := Go.Op.move (Go.Operand.tmp 7)) (v := .int .i64 (j1 : Int)) (w1 := W) rfl rfl (fun d pos aft g => by unfold execOp; go_simp) ⟨_, rfl, rfl, .inr (Below.refl _ _), htr, fun _ ht => ht, fun _ _ _ => trivial⟩
          | 3, _ =>
            obtain ⟨e44, x44⟩ := Rv.ev (show a.tmps.getD 44 undef = .slice (some ⟨bj, oj, none⟩) is.length c6 from hdep 1 rfl rfl)
            obtain ⟨e45, x45⟩ := Rv.ev (show a.tmps.getD 45 undef = .int .i64 (j1 : Int) from hdep 2 rfl rfl)
            have hjl := HJL.out
            exact Rv.step_op (op := Go.Op.indexAddr 24 (Go.Operand.tmp 44) (Go.Operand.tmp 45)) (v := .pointer (some ⟨bj, oj + j1 * 5, none⟩)) (w1 := W) rfl rfl (fun d pos aft g => by unfold execOp; go_simp) ⟨_, rfl, rfl, .inr (Below.refl _ _), htr, fun _ ht => ht, fun _ _ _ => trivial⟩
          | 4, _ =>
            obtain ⟨e46, x46⟩ := Rv.ev (show a.tmps.getD 46 undef = .pointer (some ⟨bj, oj + j1 * 5, none⟩) from hdep 3 rfl rfl)
            obtain ⟨j0, j1', j2, j3, j4⟩ := IJ.out W (hta (by decide))
            exact Rv.step_op (op := Go.Op.load 26 (Go.Operand.tmp 46)) (v := .agg #[.int .i64 tj.k, .int .i64 tj.n, .string tj.s, .slice J1 tj.ns.length m1, .slice J2 tj.is.length m2]) (w1 := W) rfl rfl (fun d pos aft g => by unfold execOp; go_simp) ⟨_, rfl, rfl, .inr (Below.refl _ _), htr, fun _ ht => ht, fun _ _ _ => trivial⟩
          | 5, _ =>
            obtain ⟨e6, x6⟩ := Rv.ev (show a.tmps.getD 6 undef = .pointer (some ⟨g6, 0, none⟩) from hbase 6 rfl)
            obtain ⟨u0, u1, u2, u3, u4⟩ := Rv.cells5 (((hta (by decide)).block _ hg6).trans HG6.out)
            exact Rv.step_op (op := Go.Op.load 26 (Go.Operand.tmp 6)) (v := .agg #[.int .i64 ti.k, .int .i64 ti.n, .string ti.s, .slice A1 ti.ns.length c1, .slice A3 ti.is.length c3]) (w1 := W) rfl rfl (fun d pos aft g => by unfold execOp; go_simp) ⟨_, rfl, rfl, .inr (Below.refl _ _), htr, fun _ ht => ht, fun _ _ _ => trivial⟩
          | 6, _ =>
            obtain ⟨e47, x47⟩ := Rv.ev (show a.tmps.getD 47 undef = .agg #[.int .i64 tj.k, .int .i64 tj.n, .string tj.s, .slice J1 tj.ns.length m1, .slice J2 tj.is.length m2] from hdep 4 rfl rfl)
            obtain ⟨e48, x48⟩ := Rv.ev (show a.tmps.getD 48 undef = .agg #[.int .i64 ti.k, .int .i64 ti.n, .string ti.s, .slice A1 ti.ns.length c1, .slice A3 ti.is.length c3] from hdep 5 rfl rfl)
            have cf : ∀ x0 x1 W, (callFunc 13 #[x0, x1]).run Try.prog W = .ok (.enter 13 #[x0, x1]) W := fun _ _ _ => by kernel_rfl
            refine Rv.step_fn (op := Go.Op.call { callee := Go.Callee.value (Go.Operand.func 13), args := #[Go.Operand.tmp 47, Go.Operand.tmp 48], argTypes := #[26, 26] }) (ty := 26) (f := 13) (args := #[.agg #[.int .i64 tj.k, .int .i64 tj.n, .string tj.s, .slice J1 tj.ns.length m1, .slice J2 tj.is.length m2], .agg #[.int .i64 ti.k, .int .i64 ti.n, .string ti.s, .slice A1 ti.ns.length c1, .slice A3 ti.is.length c3]]) (R := fun v W' => (∃ cc : J, Mg tj ti cc ∧ JN Q6 W' cc v) ∧ Below W.heap.size W W') rfl rfl (fun d pos aft g => by unfold execOp; go_simp) ((IH.out W (hta (by decide))).mono ?_) ?_
            · (rintro e W' ⟨u, cc, rfl, h1, h2, hb⟩; exact ⟨_, rfl, ⟨cc, h1, h2⟩, hb⟩)
            · (rintro v W' ⟨hv, hb⟩; exact ⟨_, rfl, hv, .inr hb, ⟨htr.1.trans (hb.mono htr.1.size), htr.2.trans (Same.below hb)⟩, (fun _ ht => ht.trans (hb.mono ht.size)), fun _ _ _ => trivial⟩)
          | 7, _ =>
            obtain ⟨e6, x6⟩ := Rv.ev (show a.tmps.getD 6 undef = .pointer (some ⟨g6, 0, none⟩) from hbase 6 rfl)
            obtain ⟨cc, g49, n49⟩ : ∃ cc : J, Mg tj ti cc ∧ JN Q6 W cc (a.tmps.getD 49 undef) := hdep 6 rfl rfl
            obtain ⟨v49, q49⟩ : ∃ v, a.tmps.getD 49 undef = v := ⟨_, rfl⟩
            rw [q49] at n49
            have n49' := n49
            obtain ⟨X1, e1, X2, e2, ez, _⟩ := n49'.five
            subst ez
            obtain ⟨e49, x49⟩ := Rv.ev q49
            have hq := ((hta (by decide)).block _ hg6).trans HG6.out
            obtain ⟨s0, s1, s2, s3, s4⟩ := Rv.cells5 hq
            obtain ⟨z0, z1, z2, z3, z4⟩ := Rv.frozen5 hq
            have gs' := fun (V : World) j u => grown_set (Below.refl _ V) g6 j u
            have hgg := (grown_then (grown_then (grown_then (grown_then (gs' W 0 (.int .i64 cc.k)) (gs' _ 1 (.int .i64 cc.n))) (gs' _ 2 (.string cc.s))) (gs' _ 3 (.slice X1 cc.ns.length e1))) (gs' _ 4 (.slice X2 cc.is.length e2)))
            have hq6 := HQ6.out
            have hw6 := HW6.out
            exact Rv.step_skip (op := Go.Op.store 26 (Go.Operand.tmp 6) (Go.Operand.tmp 49)) (ty := 0) (w1 := (((((W.setCell ⟨g6, 0, none⟩ (.int .i64 cc.k)).setCell ⟨g6, 1, none⟩ (.int .i64 cc.n)).setCell ⟨g6, 2, none⟩ (.string cc.s)).setCell ⟨g6, 3, none⟩ (.slice X1 cc.ns.length e1)).setCell ⟨g6, 4, none⟩ (.slice X2 cc.is.length e2))) rfl rfl (fun d pos aft g => by unfold execOp; go_simp) ⟨undef, rfl, ⟨cc, X1, e1, X2, e2, g49, n49.grown hgg (fun x hx e => by injection e with e; exact hq6 (e ▸ hx)), Rv.sets5 hq _ _ _ _ _, (HJC.out.below (hta (by decide))).grown hgg (fun x hx e => by injection e with e; exact hq6 (e ▸ hx))⟩, .inl ⟨rfl, trivial⟩, ⟨htr.1.grown hgg htr.1.size (fun k hk => by injection hk with hk; omega), htr.2.trans (.grown hgg (fun b hb e => by injection e with e; exact hb e))⟩, (fun h _ => by cases h), fun _ _ _ => trivial⟩
          | m + 8, h => exact absurd h (by show ¬ m + 8 < 8; omega)
        intro W f hf htr hJ
        have f0 : f 0 = .pointer (some ⟨w.heap.size, 4, none⟩) := hf 0 (by show 0 < 8; omega) rfl
        have f1 : f 1 = .slice (some ⟨bj, oj, none⟩) is.length c6 := hf 1 (by show 1 < 8; omega) rfl
        have f2 : f 2 = .int .i64 (j1 : Int) := hf 2 (by show 2 < 8; omega) rfl
        have f3 : f 3 = .pointer (some ⟨bj, oj + j1 * 5, none⟩) := hf 3 (by show 3 < 8; omega) rfl
        have f4 : f 4 = .agg #[.int .i64 tj.k, .int .i64 tj.n, .string tj.s, .slice J1 tj.ns.length m1, .slice J2 tj.is.length m2] := hf 4 (by show 4 < 8; omega) rfl
        have f5 : f 5 = .agg #[.int .i64 ti.k, .int .i64 ti.n, .string ti.s, .slice A1 ti.ns.length c1, .slice A3 ti.is.length c3] := hf 5 (by show 5 < 8; omega) rfl
        have HS7 := Lib.hid (show (fun f W => ∃ (cc : J) (X1 : Option Addr) (e1 : Nat) (X2 : Option Addr) (e2 : Nat), Mg tj ti cc ∧ JN Q6 W cc (.agg #[.int .i64 cc.k, .int .i64 cc.n, .string cc.s, .slice X1 cc.ns.length e1, .slice X2 cc.is.length e2]) ∧ W.heap[g6]? = some (.cells #[.int .i64 cc.k, .int .i64 cc.n, .string cc.s, .slice X1 cc.ns.length e1, .slice X2 cc.is.length e2] 26 (0, 0)) ∧ JN Q6 W (.mk 5 na sa ns is) (.agg #[.int .i64 5, .int .i64 na, .string sa, .slice A5 ns.length c5, .slice (some ⟨bj, oj, none⟩) is.length c6])) f W from hf 7 (by show 7 < 8; omega) rfl)
        clear hf
        refine (show ∀ (a : Act) (w : World), Code.wp _ _ _ a w → _ from by assumption) _ _ ?_
        refine Rv.fin_swap (L' := [(43, f 0), (44, f 1), (45, f 2), (46, f 3), (47, f 4), (48, f 5), (49, f 6), (1007, f 7)]) rfl ?_
        rw [f0, f1, f2, f3, f4, f5]
        clear f0 f1 f2 f3 f4 f5
        simp only [Rv.fin, List.foldl_cons, List.foldl_nil, Act.put, List.setIfInBounds_toArray, List.set_cons_succ, List.set_cons_zero, List.set_nil]
        obtain ⟨tx, X1, e1, X2, e2, hm9, hj9, hb9, hjc9⟩ := HS7.out
        have HX := Lib.hid htr.1
        have HA := Lib.hid ((htr.2.2 _ hga (by have := HW6.out; omega)).trans HA.out)
        have HB := Lib.hid ((htr.2.2 _ hgb (by have := HW6.out; omega)).trans HB.out)
        have HZ := Lib.hid ((htr.2.2 _ (Rv.lt_of_blk HZ.out) (by have := HW6.out; omega)).trans HZ.out)
        have HG6 := Lib.hid hb9
        have HJC := Lib.hid hjc9
        have HTX := Lib.hid hj9
        have HMG := Lib.hid hm9
        have HGS := Lib.hid (Nat.lt_of_lt_of_le HGS.out htr.2.1)
        clear htr HS7 hm9 hj9 hb9 hjc9 hg6 hga hgb IH IJ HTI
        generalize W = X at *
        go_upto_region 10 with fail
        have HX3 := Lib.hid (show w.heap.size + 3 ≤ X.heap.size from by have := HGS.out; have := HW6.out; omega)
        have HJC := Lib.hid (HJC.out.weak (q := Qq) (fun z _ hz => HQ6Q.out z hz))
        have HTX := Lib.hid (HTX.out.weak (q := Qq) (fun z _ hz => HQ6Q.out z hz))
        have hg6 := Rv.lt_of_blk HG6.out
        have hga := Rv.lt_of_blk HA.out
        have hgb := Rv.lt_of_blk HB.out
        have NX := Lib.hid (fun (W : World) (hb : Below X.heap.size X W) => NXW.out W (HX.out.trans (hb.mono HX.out.size)))
        have PU := Lib.hid (fun (W : World) (hb : Below X.heap.size X W) (gl : Nat) (hgl : gl < W.heap.size) (hl : W.cell? ⟨gl, 0, none⟩ = some (.string x) ∧ W.cell? ⟨gl, 1, none⟩ = some (.int .i64 0) ∧ W.cell? ⟨gl, 2, none⟩ = some (.bool false)) => show Calls Try.prog 25 #[.agg #[.int .i64 5, .int .i64 na, .string sa, .slice A5 ns.length c5, .slice (some ⟨bj, oj, none⟩) is.length c6], .slice (some ⟨gl, 0, none⟩) 1 1, .agg #[.int .i64 tx.k, .int .i64 tx.n, .string tx.s, .slice X1 tx.ns.length e1, .slice X2 tx.is.length e2], .bool true, .bool true] W fun e w' => ∃ u ns' is', e = .returned (.tuple #[u, .bool true]) ∧ JN Qq w' (.mk 5 na sa ns' is') u ∧ AltP ns is tx x ns' is' ∧ Below W.heap.size W w' from by
          refine (put_any (fun x => Qq x ∧ x < W.heap.size) na sa ns is tx _ _ x gl 0 W (fun x hx => hx.2) ((HJC.out.below hb).weak (fun x hl hx => ⟨hx, hl⟩)) ((HTX.out.below hb).weak (fun x hl hx => ⟨hx, hl⟩)) (HMI.out.len8 HWA.out HWB.out rfl rfl) HMI.out.hl hgl hl).mono ?_
          rintro e w' ⟨u, ns', is', he, hu, hb', ha⟩
          exact ⟨u, ns', is', he, hu.weak (fun x _ hx => hx.elim (fun h => h.1) (fun h => HQW.out x (Nat.le_trans (Nat.le_trans HX3.out hb.size) h))), ha, hb'⟩)
        refine Rv.region_fin2 (n := 64) (by kernel_rfl) #[51, 52, 53, 54, 55, 56, 57, 58, 59, 60, 50, 61, 62, 1013] #[] (fun i f W => if i = 13 then (fun f W => ∃ (ns' : List ByteArray) (is' : List J) (X3 : Option Addr) (e3 : Nat) (X4 : Option Addr) (e4 : Nat), W.heap[w.heap.size]? = some (.cells #[.int .i64 5, .int .i64 na, .string sa, .slice X3 ns'.length e3, .slice X4 is'.length e4] 26 (0, 0)) ∧ JN Qq W (.mk 5 na sa ns' is') (.agg #[.int .i64 5, .int .i64 na, .string sa, .slice X3 ns'.length e3, .slice X4 is'.length e4]) ∧ AltP ns is tx x ns' is') f W else if i = 11 then (fun f W => ∃ (ns' : List ByteArray) (is' : List J), JN Qq W (.mk 5 na sa ns' is') (f 11) ∧ AltP ns is tx x ns' is') f W else if i = 10 then (fun f W => ∃ (u : Value) (ns' : List ByteArray) (is' : List J), f 10 = .tuple #[u, .bool true] ∧ JN Qq W (.mk 5 na sa ns' is') u ∧ AltP ns is tx x ns' is') f W else if i = 9 then (fun f W => ∃ (u : Value) (ns' : List ByteArray) (is' : List J), f 9 = .tuple #[u, .bool true] ∧ JN Qq W (.mk 5 na sa ns' is') u ∧ AltP ns is tx x ns' is') f W else if i = 7 then (fun f W => ∃ (gl : Nat), f 7 = .slice (some ⟨gl, 0, none⟩) 1 1 ∧ W.heap[gl]? = some (.cells #[.string x, .int .i64 0, .bool false] 59 (0, 0))) f W else f i = (#[.agg #[.int .i64 5, .int .i64 na, .string sa, .slice A5 ns.length c5, .slice (some ⟨bj, oj, none⟩) is.length c6], .pointer (some ⟨w.heap.size + 1, 3, none⟩), .slice (some ⟨bn, on, none⟩) nsb.length d, .int .i64 (i1 : Int), .pointer (some ⟨bn, on + i1, none⟩), .string x, .agg #[.string x, .int .i64 0, .bool false], undef, .agg #[.int .i64 tx.k, .int .i64 tx.n, .string tx.s, .slice X1 tx.ns.length e1, .slice X2 tx.is.length e2], undef, undef, undef, .bool true, undef] : Array Value).getD i undef) (fun i j => (i == 13 && (j == 7 || j == 11))) (fun i => i == 13) (fun i => i == 13) (fun i f W W' => if i = 13 then (fun f W W' => W.grownBy W' (some w.heap.size)) f W W' else True) (fun W => Below w.heap.size w W ∧ Same (fun b => b ≠ w.heap.size) X W) (fun W => Below X.heap.size X W) (fun _ _ _ => True) (fun _ _ _ _ _ _ _ _ => trivial) (fun i f f' w hi h hd hg => ?_) (fun i j f w w' hi hj hij hK hdp h hr => ?_) (fun i h g b hg => ?_) rfl (by kernel_rfl) (fun i h g b hg => ?_) (⟨HX.out.drew, Nat.le_refl _, fun _ _ _ => rfl⟩) ((Below.refl _ _).drew) (fun _ => trivial) (fun i h hr f w hf => ?_) (fun _ _ _ _ _ _ _ _ => trivial) ?_ ?_
        · by_cases hi1013 : i = 13
          · subst hi1013
            rw [if_pos rfl] at hg ⊢
            exact hg
          rw [if_neg hi1013] at hg ⊢
          by_cases hi61 : i = 11
          · subst hi61
            rw [if_pos rfl] at hg ⊢
            obtain ⟨ns', is', q1, q2⟩ := hg
            rw [h] at q1
            exact ⟨ns', is', q1, q2⟩
          rw [if_neg hi61] at hg ⊢
          by_cases hi50 : i = 10
          · subst hi50
            rw [if_pos rfl] at hg ⊢
            obtain ⟨u, ns', is', q1, q2⟩ := hg
            exact ⟨u, ns', is', h.symm.trans q1, q2⟩
          rw [if_neg hi50] at hg ⊢
          by_cases hi60 : i = 9
          · subst hi60
            rw [if_pos rfl] at hg ⊢
            obtain ⟨u, ns', is', q1, q2⟩ := hg
            exact ⟨u, ns', is', h.symm.trans q1, q2⟩
          rw [if_neg hi60] at hg ⊢
          by_cases hi58 : i = 7
          · subst hi58
            rw [if_pos rfl] at hg ⊢
            obtain ⟨gl, q1, q2⟩ := hg
            exact ⟨gl, h.symm.trans q1, q2⟩
          rw [if_neg hi58] at hg ⊢
          rw [← h]; exact hg
        · by_cases hj1013 : j = 13
          · subst hj1013
            rw [if_pos rfl] at h ⊢
            rcases hr with ⟨hK1, hr⟩ | hr
            · have e : i = 13 := by simpa using hK1
              exact absurd e hij
            · obtain ⟨ns', is', X3, e3, X4, e4, h1, h2, h3⟩ := h
              exact ⟨ns', is', X3, e3, X4, e4, (hr.block _ (Rv.lt_of_blk h1)).trans h1, h2.below hr, h3⟩
          rw [if_neg hj1013] at h ⊢
          by_cases hj61 : j = 11
          · subst hj61
            rw [if_pos rfl] at h ⊢
            rcases hr with ⟨hK1, hr⟩ | hr
            · have e : i = 13 := by simpa using hK1
              subst e; exfalso; revert hK; decide
            · obtain ⟨ns', is', h1, h2⟩ := h
              exact ⟨ns', is', h1.below hr, h2⟩
          rw [if_neg hj61] at h ⊢
          by_cases hj50 : j = 10
          · subst hj50
            rw [if_pos rfl] at h ⊢
            rcases hr with ⟨hK1, hr⟩ | hr
            · have e : i = 13 := by simpa using hK1
              (subst e; rw [if_pos rfl] at hr; obtain ⟨u, ns', is', e, h1, h2⟩ := h; exact ⟨u, ns', is', e, h1.grown hr (fun x hx e => by injection e with e; exact HQA.out (e ▸ hx)), h2⟩)
            · obtain ⟨u, ns', is', e, h1, h2⟩ := h
              exact ⟨u, ns', is', e, h1.below hr, h2⟩
          rw [if_neg hj50] at h ⊢
          by_cases hj60 : j = 9
          · subst hj60
            rw [if_pos rfl] at h ⊢
            rcases hr with ⟨hK1, hr⟩ | hr
            · have e : i = 13 := by simpa using hK1
              (subst e; rw [if_pos rfl] at hr; obtain ⟨u, ns', is', e, h1, h2⟩ := h; exact ⟨u, ns', is', e, h1.grown hr (fun x hx e => by injection e with e; exact HQA.out (e ▸ hx)), h2⟩)
            · obtain ⟨u, ns', is', e, h1, h2⟩ := h
              exact ⟨u, ns', is', e, h1.below hr, h2⟩
          rw [if_neg hj60] at h ⊢
          by_cases hj58 : j = 7
          · subst hj58
            rw [if_pos rfl] at h ⊢
            rcases hr with ⟨hK1, hr⟩ | hr
            · have e : i = 13 := by simpa using hK1
              subst e; exfalso; revert hK; decide
            · obtain ⟨gl, e, h1⟩ := h
              exact ⟨gl, e, (hr.block _ (Rv.lt_of_blk h1)).trans h1⟩
          rw [if_neg hj58] at h ⊢
          exact h
        · match i, h, hg with
          | 0, _, hg => cases hg
          | 1, _, hg => cases hg
          | 2, _, hg => cases hg
          | 3, _, hg => cases hg
          | 4, _, hg => cases hg
          | 5, _, hg => cases hg
          | 6, _, hg => cases hg
          | 7, _, hg => cases hg
          | 8, _, hg => cases hg
          | 9, _, hg => cases hg
          | 10, _, hg => cases hg
          | 11, _, hg => cases hg
          | 12, _, hg => cases hg
          | 13, _, hg => cases hg
          | m + 14, h, _ => exact absurd h (by show ¬ m + 14 < 14; omega)
        · match i, h, hg with
          | 0, _, hg => cases hg
          | 1, _, hg => cases hg
          | 2, _, hg => cases hg
          | 3, _, hg => cases hg
          | 4, _, hg => cases hg
          | 5, _, hg => cases hg
          | 6, _, hg => cases hg
          | 7, _, hg => cases hg
          | 8, _, hg => cases hg
          | 9, _, hg => cases hg
          | 10, _, hg => cases hg
          | 11, _, hg => cases hg
          | 12, _, hg => cases hg
          | 13, _, hg => cases hg
          | m + 14, h, _ => exact absurd h (by show ¬ m + 14 < 14; omega)
        · match i, h, hr, hf with
          | 0, _, hr, _ => exact Bool.noConfusion (show true = false from hr)
          | 1, _, hr, _ => exact Bool.noConfusion (show true = false from hr)
          | 2, _, hr, _ => exact Bool.noConfusion (show true = false from hr)
          | 3, _, hr, _ => exact Bool.noConfusion (show true = false from hr)
          | 4, _, hr, _ => exact Bool.noConfusion (show true = false from hr)
          | 5, _, hr, _ => exact Bool.noConfusion (show true = false from hr)
          | 6, _, hr, _ => exact Bool.noConfusion (show true = false from hr)
          | 7, _, hr, _ => exact Bool.noConfusion (show true = false from hr)
          | 8, _, hr, _ => exact Bool.noConfusion (show true = false from hr)
          | 9, _, hr, _ => exact Bool.noConfusion (show true = false from hr)
          | 10, _, hr, _ => exact Bool.noConfusion (show true = false from hr)
          | 11, _, hr, _ => exact Bool.noConfusion (show true = false from hr)
          | 12, _, hr, _ => exact Bool.noConfusion (show true = false from hr)
          | 13, _, hr, _ => exact Bool.noConfusion (show true = false from hr)
          | m + 14, h, _, _ => exact absurd h (by show ¬ m + 14 < 14; omega)
        · intro i h a W hrun hbase hpre hdep htr hta hJ
          have hnl := HNL.out
          match i, h with
          | 0, _ =>
            obtain ⟨e2, x2⟩ := Rv.ev (show a.tmps.getD 2 undef = .pointer (some ⟨w.heap.size, 0, none⟩) from hbase 2 rfl)
            obtain ⟨y0, y1, y2, y3, y4⟩ := Rv.cells5 (((hta (by decide)).block _ hga).trans HA.out)
            exact Rv.step_op (op := Go.Op.load 26 (Go.Operand.tmp 2)) (v := .agg #[.int .i64 5, .int .i64 na, .string sa, .slice A5 ns.length c5, .slice (some ⟨bj, oj, none⟩) is.length c6]) (w1 := W) rfl rfl (fun d pos aft g => by unfold execOp; go_simp) ⟨_, rfl, rfl, .inr (Below.refl _ _), htr, fun _ ht => ht, fun _ _ _ => trivial⟩
          | 1, _ =>
            obtain ⟨e3, x3⟩ := Rv.ev (show a.tmps.getD 3 undef = .pointer (some ⟨w.heap.size + 1, 0, none⟩) from hbase 3 rfl)
            exact Rv.step_op (op := Go.Op.fieldAddr 26 (Go.Operand.tmp 3) 3) (v := .pointer (some ⟨w.heap.size + 1, 3, none⟩)) (w1 := W) rfl rfl (fun d pos aft g => by unfold execOp; go_simp) ⟨_, rfl, rfl, .inr (Below.refl _ _), htr, fun _ ht => ht, fun _ _ _ => trivial⟩
          | 2, _ =>
            obtain ⟨e52, x52⟩ := Rv.ev (show a.tmps.getD 52 undef = .pointer (some ⟨w.heap.size + 1, 3, none⟩) from hdep 1 rfl rfl)
            obtain ⟨x0, x1, x2, x3, x4⟩ := Rv.cells5 (((hta (by decide)).block _ hgb).trans HB.out)
            exact Rv.step_op (op := Go.Op.load 23 (Go.Operand.tmp 52)) (v := .slice (some ⟨bn, on, none⟩) nsb.length d) (w1 := W) rfl rfl (fun d pos aft g => by unfold execOp; go_simp) ⟨_, rfl, rfl, .inr (Below.refl _ _), htr, fun _ ht => ht, fun _ _ _ => trivial⟩
          | 3, _ =>
            obtain ⟨e5, x5⟩ := Rv.ev (show a.tmps.getD 5 undef = .int .i64 (i1 : Int) from hbase 5 rfl)
            exact Rv.step_op (op := Go.Op.move (Go.Operand.tmp 5)) (v := .int .i64 (i1 : Int)) (w1 := W) rfl rfl (fun d pos aft g => by unfold execOp; go_simp) ⟨_, rfl, rfl, .inr (Below.refl _ _), htr, fun _ ht => ht, fun _ _ _ => trivial⟩
          | 4, _ =>
            obtain ⟨e53, x53⟩ := Rv.ev (show a.tmps.getD 53 undef = .slice (some ⟨bn, on, none⟩) nsb.length d from hdep 2 rfl rfl)
            obtain ⟨e54, x54⟩ := Rv.ev (show a.tmps.getD 54 undef = .int .i64 (i1 : Int) from hdep 3 rfl rfl)
            exact Rv.step_op (op := Go.Op.indexAddr 23 (Go.Operand.tmp 53) (Go.Operand.tmp 54)) (v := .pointer (some ⟨bn, on + i1, none⟩)) (w1 := W) rfl rfl (fun d pos aft g => by unfold execOp; go_simp) ⟨_, rfl, rfl, .inr (Below.refl _ _), htr, fun _ ht => ht, fun _ _ _ => trivial⟩
          | 5, _ =>
            obtain ⟨e55, x55⟩ := Rv.ev (show a.tmps.getD 55 undef = .pointer (some ⟨bn, on + i1, none⟩) from hdep 4 rfl rfl)
            have l0 := NX.out W (hta (by decide))
            exact Rv.step_op (op := Go.Op.load 9 (Go.Operand.tmp 55)) (v := .string x) (w1 := W) rfl rfl (fun d pos aft g => by unfold execOp; go_simp) ⟨_, rfl, rfl, .inr (Below.refl _ _), htr, fun _ ht => ht, fun _ _ _ => trivial⟩
          | 6, _ =>
            obtain ⟨e56, x56⟩ := Rv.ev (show a.tmps.getD 56 undef = .string x from hdep 5 rfl rfl)
            exact Rv.step_op (op := Go.Op.build 59 #[(0, Go.Operand.tmp 56)]) (v := .agg #[.string x, .int .i64 0, .bool false]) (w1 := W) rfl rfl (fun d pos aft g => by unfold execOp; go_simp) ⟨_, rfl, rfl, .inr (Below.refl _ _), htr, fun _ ht => ht, fun _ _ _ => trivial⟩
          | 7, _ =>
            obtain ⟨e57, x57⟩ := Rv.ev (show a.tmps.getD 57 undef = .agg #[.string x, .int .i64 0, .bool false] from hdep 6 rfl rfl)
            have hal : Below W.heap.size W (W.alloc (.cells #[.string x, .int .i64 0, .bool false] 59)) := (Below.refl _ _).alloc (Nat.le_refl _) _
            exact Rv.step_op (op := Go.Op.buildSlice 60 1 #[(0, Go.Operand.tmp 57)]) (ty := 60) (v := .slice (some ⟨W.heap.size, 0, none⟩) 1 1) (w1 := W.alloc (.cells #[.string x, .int .i64 0, .bool false] 59)) rfl rfl (fun d pos aft g => by unfold execOp; go_simp) ⟨_, rfl, ⟨W.heap.size, rfl, heap_alloc_new W _⟩, .inr hal, ⟨htr.1.trans (hal.mono htr.1.size), htr.2.trans (Same.below hal)⟩, (fun _ ht => ht.trans (hal.mono ht.size)), fun _ _ _ => trivial⟩
          | 8, _ =>
            obtain ⟨e6, x6⟩ := Rv.ev (show a.tmps.getD 6 undef = .pointer (some ⟨g6, 0, none⟩) from hbase 6 rfl)
            obtain ⟨u0, u1, u2, u3, u4⟩ := Rv.cells5 (((hta (by decide)).block _ hg6).trans HG6.out)
            exact Rv.step_op (op := Go.Op.load 26 (Go.Operand.tmp 6)) (v := .agg #[.int .i64 tx.k, .int .i64 tx.n, .string tx.s, .slice X1 tx.ns.length e1, .slice X2 tx.is.length e2]) (w1 := W) rfl rfl (fun d pos aft g => by unfold execOp; go_simp) ⟨_, rfl, rfl, .inr (Below.refl _ _), htr, fun _ ht => ht, fun _ _ _ => trivial⟩
          | 9, _ =>
            obtain ⟨e51, x51⟩ := Rv.ev (show a.tmps.getD 51 undef = .agg #[.int .i64 5, .int .i64 na, .string sa, .slice A5 ns.length c5, .slice (some ⟨bj, oj, none⟩) is.length c6] from hdep 0 rfl rfl)
            obtain ⟨gl, eA, k58⟩ : ∃ (gl : Nat), a.tmps.getD 58 undef = .slice (some ⟨gl, 0, none⟩) 1 1 ∧ W.heap[gl]? = some (.cells #[.string x, .int .i64 0, .bool false] 59 (0, 0)) := hdep 7 rfl rfl
            obtain ⟨e58, x58⟩ := Rv.ev eA
            obtain ⟨e59, x59⟩ := Rv.ev (show a.tmps.getD 59 undef = .agg #[.int .i64 tx.k, .int .i64 tx.n, .string tx.s, .slice X1 tx.ns.length e1, .slice X2 tx.is.length e2] from hdep 8 rfl rfl)
            have cf : ∀ x0 x1 x2 x3 x4 W, (callFunc 25 #[x0, x1, x2, x3, x4]).run Try.prog W = .ok (.enter 25 #[x0, x1, x2, x3, x4]) W := fun _ _ _ _ _ _ => by kernel_rfl
            have hta1 := hta (by decide)
            obtain ⟨l0, l1, l2⟩ := Rv.cells3 k58
            refine Rv.step_fn (op := Go.Op.call { callee := Go.Callee.value (Go.Operand.func 25), args := #[Go.Operand.tmp 51, Go.Operand.tmp 58, Go.Operand.tmp 59, Go.Operand.const (Go.Value.bool true), Go.Operand.const (Go.Value.bool true)], argTypes := #[26, 60, 26, 4, 4] }) (ty := 56) (f := 25) (args := #[.agg #[.int .i64 5, .int .i64 na, .string sa, .slice A5 ns.length c5, .slice (some ⟨bj, oj, none⟩) is.length c6], .slice (some ⟨gl, 0, none⟩) 1 1, .agg #[.int .i64 tx.k, .int .i64 tx.n, .string tx.s, .slice X1 tx.ns.length e1, .slice X2 tx.is.length e2], .bool true, .bool true]) (R := fun v W' => (∃ (u : Value) (ns' : List ByteArray) (is' : List J), v = .tuple #[u, .bool true] ∧ JN Qq W' (.mk 5 na sa ns' is') u ∧ AltP ns is tx x ns' is') ∧ Below W.heap.size W W') rfl rfl (fun d pos aft g => by unfold execOp; go_simp) ((PU.out W hta1 gl (Rv.lt_of_blk k58) ⟨l0, l1, l2⟩).mono ?_) ?_
            · (rintro e W' ⟨u, ns', is', rfl, h1, h2, hb⟩; exact ⟨_, rfl, ⟨u, ns', is', rfl, h1, h2⟩, hb⟩)
            · (rintro v W' ⟨hv, hb⟩; exact ⟨_, rfl, hv, .inr hb, ⟨htr.1.trans (hb.mono htr.1.size), htr.2.trans (Same.below hb)⟩, (fun _ ht => ht.trans (hb.mono ht.size)), fun _ _ _ => trivial⟩)
          | 10, _ =>
            obtain ⟨u, ns', is', eB, n60, a60⟩ : ∃ (u : Value) (ns' : List ByteArray) (is' : List J), a.tmps.getD 60 undef = .tuple #[u, .bool true] ∧ JN Qq W (.mk 5 na sa ns' is') u ∧ AltP ns is tx x ns' is' := hdep 9 rfl rfl
            obtain ⟨e60, x60⟩ := Rv.ev eB
            exact Rv.step_op (op := Go.Op.move (Go.Operand.tmp 60)) (ty := 56) (v := .tuple #[u, .bool true]) (w1 := W) rfl rfl (fun d pos aft g => by unfold execOp; go_simp) ⟨_, rfl, ⟨u, ns', is', rfl, n60, a60⟩, .inr (Below.refl _ _), htr, (fun _ ht => ht), fun _ _ _ => trivial⟩
          | 11, _ =>
            obtain ⟨u, ns', is', eB, n60, a60⟩ : ∃ (u : Value) (ns' : List ByteArray) (is' : List J), a.tmps.getD 50 undef = .tuple #[u, .bool true] ∧ JN Qq W (.mk 5 na sa ns' is') u ∧ AltP ns is tx x ns' is' := hdep 10 rfl rfl
            obtain ⟨e50, x50⟩ := Rv.ev eB
            exact Rv.step_op (op := Go.Op.extract (Go.Operand.tmp 50) 0) (ty := 26) (v := u) (w1 := W) rfl rfl (fun d pos aft g => by unfold execOp; go_simp) ⟨_, rfl, ⟨ns', is', n60, a60⟩, .inr (Below.refl _ _), htr, (fun _ ht => ht), fun _ _ _ => trivial⟩
          | 12, _ =>
            obtain ⟨u, ns', is', eB, n60, a60⟩ : ∃ (u : Value) (ns' : List ByteArray) (is' : List J), a.tmps.getD 50 undef = .tuple #[u, .bool true] ∧ JN Qq W (.mk 5 na sa ns' is') u ∧ AltP ns is tx x ns' is' := hdep 10 rfl rfl
            obtain ⟨e50, x50⟩ := Rv.ev eB
            exact Rv.step_op (op := Go.Op.extract (Go.Operand.tmp 50) 1) (v := .bool true) (w1 := W) rfl rfl (fun d pos aft g => by unfold execOp; go_simp) ⟨_, rfl, rfl, .inr (Below.refl _ _), htr, fun _ ht => ht, fun _ _ _ => trivial⟩
          | 13, _ =>
            obtain ⟨e2, x2⟩ := Rv.ev (show a.tmps.getD 2 undef = .pointer (some ⟨w.heap.size, 0, none⟩) from hbase 2 rfl)
            obtain ⟨ns', is', n61, a61⟩ : ∃ (ns' : List ByteArray) (is' : List J), JN Qq W (.mk 5 na sa ns' is') (a.tmps.getD 61 undef) ∧ AltP ns is tx x ns' is' := hdep 11 rfl rfl
            obtain ⟨v61, q61⟩ : ∃ v, a.tmps.getD 61 undef = v := ⟨_, rfl⟩
            rw [q61] at n61
            have n61' := n61
            obtain ⟨X3, e3, X4, e4, hs3, ez, _⟩ := n61'
            subst ez
            obtain ⟨e61, x61⟩ := Rv.ev q61
            have hq := ((hta (by decide)).block _ hga).trans HA.out
            obtain ⟨s0, s1, s2, s3, s4⟩ := Rv.cells5 hq
            obtain ⟨z0, z1, z2, z3, z4⟩ := Rv.frozen5 hq
            have gs' := fun (V : World) j u => grown_set (Below.refl _ V) w.heap.size j u
            have hgg := (grown_then (grown_then (grown_then (grown_then (gs' W 0 (.int .i64 5)) (gs' _ 1 (.int .i64 na))) (gs' _ 2 (.string sa))) (gs' _ 3 (.slice X3 ns'.length e3))) (gs' _ 4 (.slice X4 is'.length e4)))
            have hqa := HQA.out
            exact Rv.step_skip (op := Go.Op.store 26 (Go.Operand.tmp 2) (Go.Operand.tmp 61)) (ty := 0) (w1 := (((((W.setCell ⟨w.heap.size, 0, none⟩ (.int .i64 5)).setCell ⟨w.heap.size, 1, none⟩ (.int .i64 na)).setCell ⟨w.heap.size, 2, none⟩ (.string sa)).setCell ⟨w.heap.size, 3, none⟩ (.slice X3 ns'.length e3)).setCell ⟨w.heap.size, 4, none⟩ (.slice X4 is'.length e4))) rfl rfl (fun d pos aft g => by unfold execOp; go_simp) ⟨undef, rfl, ⟨ns', is', X3, e3, X4, e4, Rv.sets5 hq _ _ _ _ _, n61.grown hgg (fun x hx e => by injection e with e; exact hqa (e ▸ hx)), a61⟩, .inl ⟨rfl, (by rw [if_pos rfl]; exact hgg)⟩, ⟨htr.1.grown hgg htr.1.size (fun k hk => by injection hk with hk; omega), htr.2.trans (.grown hgg (fun b hb e => by injection e with e; exact hb e))⟩, (fun h _ => by cases h), fun _ _ _ => trivial⟩
          | m + 14, h => exact absurd h (by show ¬ m + 14 < 14; omega)
        intro W f hf htr hJ
        have f0 : f 0 = .agg #[.int .i64 5, .int .i64 na, .string sa, .slice A5 ns.length c5, .slice (some ⟨bj, oj, none⟩) is.length c6] := hf 0 (by show 0 < 14; omega) rfl
        have f1 : f 1 = .pointer (some ⟨w.heap.size + 1, 3, none⟩) := hf 1 (by show 1 < 14; omega) rfl
        have f2 : f 2 = .slice (some ⟨bn, on, none⟩) nsb.length d := hf 2 (by show 2 < 14; omega) rfl
        have f3 : f 3 = .int .i64 (i1 : Int) := hf 3 (by show 3 < 14; omega) rfl
        have f4 : f 4 = .pointer (some ⟨bn, on + i1, none⟩) := hf 4 (by show 4 < 14; omega) rfl
        have f5 : f 5 = .string x := hf 5 (by show 5 < 14; omega) rfl
        have f6 : f 6 = .agg #[.string x, .int .i64 0, .bool false] := hf 6 (by show 6 < 14; omega) rfl
        have f8 : f 8 = .agg #[.int .i64 tx.k, .int .i64 tx.n, .string tx.s, .slice X1 tx.ns.length e1, .slice X2 tx.is.length e2] := hf 8 (by show 8 < 14; omega) rfl
        have HS9 := Lib.hid (show (fun f W => ∃ (u : Value) (ns' : List ByteArray) (is' : List J), f 9 = .tuple #[u, .bool true] ∧ JN Qq W (.mk 5 na sa ns' is') u ∧ AltP ns is tx x ns' is') f W from hf 9 (by show 9 < 14; omega) rfl)
        have HS10 := Lib.hid (show (fun f W => ∃ (u : Value) (ns' : List ByteArray) (is' : List J), f 10 = .tuple #[u, .bool true] ∧ JN Qq W (.mk 5 na sa ns' is') u ∧ AltP ns is tx x ns' is') f W from hf 10 (by show 10 < 14; omega) rfl)
        have f12 : f 12 = .bool true := hf 12 (by show 12 < 14; omega) rfl
        have HS13 := Lib.hid (show (fun f W => ∃ (ns' : List ByteArray) (is' : List J) (X3 : Option Addr) (e3 : Nat) (X4 : Option Addr) (e4 : Nat), W.heap[w.heap.size]? = some (.cells #[.int .i64 5, .int .i64 na, .string sa, .slice X3 ns'.length e3, .slice X4 is'.length e4] 26 (0, 0)) ∧ JN Qq W (.mk 5 na sa ns' is') (.agg #[.int .i64 5, .int .i64 na, .string sa, .slice X3 ns'.length e3, .slice X4 is'.length e4]) ∧ AltP ns is tx x ns' is') f W from hf 13 (by show 13 < 14; omega) rfl)
        clear hf
        refine (show ∀ (a : Act) (w : World), Code.wp _ _ _ a w → _ from by assumption) _ _ ?_
        refine Rv.fin_swap (L' := [(51, f 0), (52, f 1), (53, f 2), (54, f 3), (55, f 4), (56, f 5), (57, f 6), (58, f 7), (59, f 8), (60, f 9), (50, f 10), (61, f 11), (62, f 12), (1013, f 13)]) rfl ?_
        rw [f0, f1, f2, f3, f4, f5, f6, f8, f12]
        clear f0 f1 f2 f3 f4 f5 f6 f8 f12
        simp only [Rv.fin, List.foldl_cons, List.foldl_nil, Act.put, List.setIfInBounds_toArray, List.set_cons_succ, List.set_cons_zero, List.set_nil]
        obtain ⟨ns', is', X3, e3, X4, e4, hb13, hj13, ha13⟩ := HS13.out
        have HX := Lib.hid htr.1
        have HA := Lib.hid hb13
        have HB := Lib.hid ((htr.2.2 _ hgb (by omega)).trans HB.out)
        have HZ := Lib.hid ((htr.2.2 _ (Rv.lt_of_blk HZ.out) (by omega)).trans HZ.out)
        have HJC := Lib.hid hj13
        have HM2 := Lib.hid (show MI _ _ (fun z => z ∈ nsb.take (i1 + 1)) ns' is' from MN.out tx ns' is' HMG.out ha13)
        clear htr HS13 hb13 hj13 ha13 hga hgb hg6 NX PU
        generalize f 7 = u7
        generalize f 9 = u9
        generalize f 10 = u10
        generalize f 11 = u11
        go_wp2
        go_roundw
        case rel => exact ⟨i1 + 1, ns', is', X3, e3, X4, e4, by go_num, by omega, HM2, HA, HB, HZ, HJC, HX⟩
        case measure => simp [intOf]; omega
    · clear x0 x1 x2 x3 x4
      have hi5 : i1 = isb.length := by omega
      subst hi5
      have HDN := Lib.hid (HMI.out.done rfl rfl HLA.out HLB.out (fun z hz => by rw [← HLB.out, List.take_length]; exact hz))
      obtain ⟨x0, x1, x2, x3, x4⟩ := Rv.cells5 HB.out
      obtain ⟨y0, y1, y2, y3, y4⟩ := Rv.cells5 HA.out
      obtain ⟨s0, s1, s2, s3, s4⟩ := Rv.cells5 HZ.out
      obtain ⟨z0, z1, z2, z3, z4⟩ := Rv.frozen5 HZ.out
      have gs := fun (W : World) j u => grown_set (Below.refl _ W) (w.heap.size + 1 + 1) j u
      have hgg := (grown_then (grown_then (grown_then (grown_then (gs wr 0 (.int .i64 5)) (gs _ 1 (.int .i64 na))) (gs _ 2 (.string sa))) (gs _ 3 (.slice A5 ns.length c5))) (gs _ 4 (.slice A6 is.length c6)))
      have HBF := Lib.hid (HX.out.grown hgg HX.out.size (fun k hk => by injection hk with hk; omega))
      have HJF := Lib.hid ((HJC.out.grown hgg (fun z hz e => by
        injection e with e
        rcases HQE.out z hz with h | h
        · have := HP.out z h; omega
        · omega)).weak (q := fun x => Pp x ∨ w.heap.size ≤ x) (fun z _ hz => (HQE.out z hz).imp id (fun h => by omega)))
      have HDF := Lib.hid (show Mg (.mk 5 na sa nsa isa) (.mk 5 nb0 sb0 nsb isb) (.mk 5 na sa ns is) from by
        have h := HDN.out
        have e : J.mk 5 0 .empty ns is = J.mk 5 na sa ns is := by rw [HNA.out.1, HNA.out.2]
        rw [e] at h
        exact h)
      obtain ⟨q0, q1, q2, q3, q4⟩ := Rv.cells5 (Rv.sets5 HZ.out (.int .i64 5) (.int .i64 na) (.string sa) (.slice A5 ns.length c5) (.slice A6 is.length c6))
      clear gs hgg
      go_wp2
      clear x0 x1 x2 x3 x4 y0 y1 y2 y3 y4 s0 s1 s2 s3 s4 z0 z1 z2 z3 z4
      refine bodyPost_ret (v := .agg #[.int .i64 5, .int .i64 na, .string sa, .slice A5 ns.length c5, .slice A6 is.length c6]) ?_ rfl ⟨_, _, rfl, HDF.out, HJF.out, HBF.out⟩
      simp only [results, show Try.f13.results = #[.cell 4 26] by kernel_rfl]
      go_simp
theorem merged_any : ∀ (N : Nat) (ta : J), SizeOf.sizeOf ta ≤ N → ∀ (Pp : Nat → Prop) (tb : J) (v1 v2 : Value) (w : World), (∀ x, Pp x → x < w.heap.size) → Wf ta → Wf tb → JN Pp w ta v1 → JN Pp w tb v2 →
    Calls Try.prog 13 #[v1, v2] w fun e w' => ∃ u c, e = .returned u ∧ Mg ta tb c ∧ JN (fun x => Pp x ∨ w.heap.size ≤ x) w' c u ∧ Below w.heap.size w w' := by
  intro N
  induction N with
  | zero => intro a h; obtain ⟨k, n, s, ns, is⟩ := a; simp only [J.mk.sizeOf_spec] at h; omega
  | succ N ih =>
    intro ta hN Pp tb v1 v2 w hP hwa hwb hja hjb
    by_cases hk : ta.k = 5 ∧ tb.k = 5
    · obtain ⟨ka, na, sa, nsa, isa⟩ := ta
      obtain ⟨kb, nb0, sb0, nsb, isb⟩ := tb
      obtain ⟨h1, h2⟩ := hk
      have h1 : ka = 5 := h1
      have h2 : kb = 5 := h2
      subst h1 h2
      refine mg_map Pp na sa nsa isa nb0 sb0 nsb isb (fun t ht Pp t2 v1 v2 w hP h1 h2 h3 h4 => ?_) v1 v2 w hP hwa hwb hja hjb
      obtain ⟨i, hi, rfl⟩ := List.getElem_of_mem ht
      exact ih _ (by have := size_item (.mk 5 na sa nsa isa) i hi; exact (show SizeOf.sizeOf isa[i] ≤ N from by have h : SizeOf.sizeOf isa[i] < _ := this; omega)) Pp t2 v1 v2 w hP h1 h2 h3 h4
    · refine (mg_flat Pp ta tb v1 v2 w hP hwa hwb hja hjb hk).mono ?_
      rintro e w' ⟨u, he, hj, hb⟩
      exact ⟨u, _, he, .flat ta tb hk, hj, hb⟩
end Go.Proofs.Ytmelgankbegjaaa.Js
