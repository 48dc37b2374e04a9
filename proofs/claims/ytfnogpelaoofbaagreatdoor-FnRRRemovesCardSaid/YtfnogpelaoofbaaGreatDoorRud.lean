/- replace: a range with one column's range in the place of another. Conditions: those written at each lemma. -/
import Derived.Test.YtfnogpelaoofbaaGreatDoorRuc
set_option linter.unusedVariables false
set_option linter.unusedSimpArgs false
set_option maxRecDepth 100000
set_option maxHeartbeats 4000000
namespace Go.Proofs.YtfnogpelaoofbaaGreatDoor.Rg
open Go.RowKit Go.Proofs.YtfnogpelaoofbaaGreatDoor.B Go.Proofs.YtfnogpelaoofbaaGreatDoor.Sp

theorem exs_one1 : ∀ (cs : List Cl), ∀ u ∈ exs cs, u.oneCell' = true
  | [], _, h => by cases h
  | c :: r, u, h => by
    rw [exs, List.mem_append] at h
    rcases h with h | h
    · simp only [List.mem_cons, List.not_mem_nil, or_false] at h
      rcases h with rfl | rfl | rfl <;> rfl
    · exact exs_one1 r u h
theorem exs_set : ∀ (cs : List Cl) (i : Nat) (x : Cl), i < cs.length →
    (((exs cs).set (i * 3) (.iface (ctOf x.a x.x).tid (ctOf x.a x.x).inner)).set (i * 3 + 1) (.iface (ctOf x.b x.y).tid (ctOf x.b x.y).inner)).set (i * 3 + 2) tv = exs (cs.set i x)
  | c :: r, 0, x, _ => rfl
  | c :: r, i + 1, x, h => by
    have ih := exs_set r i x (by simpa using h)
    have e0 : (i + 1) * 3 = i * 3 + 1 + 1 + 1 := by omega
    rw [List.set_cons_succ, exs, exs, ← ih, e0]
    rfl
theorem replace_any (v : Value) (cs : List Cl) (i : Nat) (x : Cl) (w : World) (hr : Rd w 3 v cs.length (exs cs)) (hi : i < cs.length) (hl : cs.length ≤ 100000) :
    Calls Tryz.prog 53 #[v, .int .i64 (i : Int), exI (ctOf x.a x.x).tid (ctOf x.a x.x).inner (ctOf x.b x.y).tid (ctOf x.b x.y).inner] w
      fun e w' => ∃ u, e = .returned u ∧ w'.ownsRow w.heap.size 92 3 u cs.length (exs (cs.set i x)) ∧ Below w.heap.size w w' := by
  have hA : Below w.heap.size w (w.alloc (exC (ctOf x.a x.x).tid (ctOf x.a x.x).inner (ctOf x.b x.y).tid (ctOf x.b x.y).inner)) := (Below.refl _ _).alloc (Nat.le_refl _) _
  have hst := exs_set cs i x hi
  have hg := exs_get cs i hi
  have HST := Lib.hid hst
  have HG := Lib.hid hg
  clear hst hg
  generalize hta : (ctOf x.a x.x).tid = ta at *
  generalize hai : (ctOf x.a x.x).inner = ai at *
  generalize htb : (ctOf x.b x.y).tid = tb at *
  generalize hbi : (ctOf x.b x.y).inner = bi at *
  clear hta hai htb hbi
  have CP := Lib.hid (copy_any v cs.length (exs cs) _ (hr.below hA) (exs_one1 cs) (by omega) hl)
  have hsA : (w.alloc (exC ta ai tb bi)).heap.size = w.heap.size + 1 := by simp
  have HBX := Lib.hid (heap_alloc_new w (exC ta ai tb bi))
  have HA := Lib.hid hA
  obtain ⟨A, c, rfl, hlc, hcm⟩ := hr.shape
  clear hr hA
  go_enter Tryz.func53, Tryz.ntmps53
  go_wp2_with (go_at_call 72; (with_reducible refine CP.out.mono ?_); rintro e w1 ⟨u, rfl, ho, hb⟩; obtain ⟨g, c1, hu, hgB⟩ : ∃ g c1, u = .slice (some ⟨g, 0, none⟩) cs.length c1 ∧ w.heap.size ≤ g := (by
      rcases ho.2 with ⟨_, h2⟩ | ⟨g, c1, _, h2, h3, _⟩
      · omega
      · exact ⟨g, c1, h2, by omega⟩); subst hu; have HO := Lib.hid ho; have HB := Lib.hid (HA.out.trans (hb.mono HA.out.size)); have hbx := (hb.block w.heap.size (by omega)).trans HBX.out; have q0 : w1.cell? ⟨w.heap.size, 0, none⟩ = some (.iface ta ai) := (by simp [World.cell?, hbx]); have q1 : w1.cell? ⟨w.heap.size, 1, none⟩ = some (.iface tb bi) := (by simp [World.cell?, hbx]); have q2 : w1.cell? ⟨w.heap.size, 2, none⟩ = some tv := (by simp [World.cell?, hbx]); obtain ⟨s0, t0⟩ := own_cell (j := i * 3) HO.out HG.out.1; obtain ⟨s1, t1⟩ := own_cell (j := i * 3 + 1) HO.out HG.out.2.1; obtain ⟨s2, t2⟩ := own_cell (j := i * 3 + 2) HO.out HG.out.2.2; clear ho hb hbx)
  have HO2 := Lib.hid (own_store3 HO.out (i * 3) (i * 3 + 1) (i * 3 + 2) (.iface ta ai) (.iface tb bi) tv)
  rw [HST.out] at HO2
  have HB2 := Lib.hid (((HB.out.setCell (p := ⟨g, i * 3, none⟩) hgB (.iface ta ai)).setCell (p := ⟨g, i * 3 + 1, none⟩) hgB (.iface tb bi)).setCell (p := ⟨g, i * 3 + 2, none⟩) hgB tv)
  go_ret
  exact ⟨_, rfl, HO2.out.mono (by omega), HB2.out⟩
end Go.Proofs.YtfnogpelaoofbaaGreatDoor.Rg
