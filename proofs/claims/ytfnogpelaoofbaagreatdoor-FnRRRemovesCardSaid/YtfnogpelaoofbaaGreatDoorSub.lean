/- The places of ranges; ranges turned one by one; lists of lists of ranges. Conditions: those written at each lemma. -/
import Derived.Test.YtfnogpelaoofbaaGreatDoorSua
set_option linter.unusedVariables false
set_option linter.unusedSimpArgs false
set_option maxRecDepth 100000
set_option maxHeartbeats 4000000
namespace Go.Proofs.YtfnogpelaoofbaaGreatDoor.Rg
open Go.RowKit Go.Proofs.YtfnogpelaoofbaaGreatDoor.B Go.Proofs.YtfnogpelaoofbaaGreatDoor.Sp

theorem ends_cl (c : Cl) (w : World) (p : Pcl c) : Calls Tryz.prog 56 #[c.v] w fun e w' => e = .returned (.tuple #[.int .i64 c.lo, .int .i64 c.hi]) ∧ Below w.heap.size w w' := ends_any c.a c.x c.b c.y w (ok_cl p)
/-- Has a range the values at a place? -/
def inB (c : Cl) (p : Int) : Bool := decide (c.lo ≤ p) && decide (p < c.hi)
theorem in_gen (c : Cl) (p lo hi : Int) (w : World) (EN : Hid (∀ W, Calls Tryz.prog 56 #[c.v] W fun e w' => e = .returned (.tuple #[.int .i64 lo, .int .i64 hi]) ∧ Below W.heap.size W w')) :
    Calls Tryz.prog 39 #[c.v, .int .i64 p] w fun e w' => e = .returned (.bool (decide (lo ≤ p) && decide (p < hi))) ∧ Below w.heap.size w w' := by
  have HX : Hid (Below w.heap.size w (w.alloc (cl4 c))) := Lib.hid (by go_grown)
  obtain ⟨y, hy⟩ : ∃ y, (decide (lo ≤ p) && decide (p < hi)) = y := ⟨_, rfl⟩
  rw [hy]
  have HY := Lib.hid hy
  clear hy
  by_cases h1 : lo ≤ p <;> by_cases h2 : p < hi
  all_goals
    go_enter Tryz.func39, Tryz.ntmps39
    go_wp2_with (go_at_call 56; (with_reducible refine (EN.out _).mono ?_); rintro e w2 ⟨rfl, hb⟩; have HX2 := Lib.hid (HX.out.trans (hb.mono HX.out.size)); clear hb)
    go_ret
    refine ⟨?_, HX2.out⟩
    rw [← HY.out]
    simp [h1, h2]
theorem in_cl (c : Cl) (p : Int) (w : World) (pc : Pcl c) : Calls Tryz.prog 39 #[c.v, .int .i64 p] w fun e w' => e = .returned (.bool (inB c p)) ∧ Below w.heap.size w w' :=
  in_gen c p c.lo c.hi w (Lib.hid (fun W => ends_cl c W pc))
theorem places_any (v : Value) (cs : List Cl) (w : World) (hr : Rd w 4 v cs.length (clc cs)) (hp : ∀ c ∈ cs, Pcl c) (hl : cs.length ≤ 1000) :
    Calls Tryz.prog 37 #[v] w fun e w' => ∃ A c r, e = .returned (.slice A r.length c) ∧ Rd w' 1 (.slice A r.length c) r.length (nums r) ∧ r.length ≤ 1 + 2 * cs.length ∧ Below w.heap.size w w' := by
  obtain ⟨A, c, rfl, hlc, hcm⟩ := hr.shape
  have HR := Lib.hid hr
  have HP := Lib.hid hp
  clear hr hp
  go_enter Tryz.func37, Tryz.ntmps37
  go_wp2
  go_loopw [3, 4, 5, 6] (fun v3 v4 v5 v6 wr => ∃ (k : Nat) (r : List Int), v4 = .int .i64 k ∧ k ≤ cs.length ∧ r.length ≤ 1 + 2 * k ∧ Hid (Rd wr 1 v3 r.length (nums r)) ∧ Below w.heap.size w wr) (fun _ v4 _ _ _ => (cs.length - (intOf v4)).toNat)
  case atStart => exact ⟨0, [0], rfl, Nat.zero_le _, by simp, Lib.hid ⟨rfl, _, _, rfl, by simp, by simp, fun _ => ⟨_, 0, rfl, by simp, fun j u hu => by
    match j, hu with
    | 0, hu => simp at hu; subst hu; go_simp
    | j + 1, hu => simp at hu⟩⟩, by go_grown⟩
  case round =>
    obtain ⟨k, r, rfl, hk, hrl, HO, hbel⟩ := hrel
    have hbs := hbel.size
    by_cases hlt : k < cs.length
    · obtain ⟨b, o, rfl, hb, c0, c1, c2, c3⟩ := rd_cl HR.out k hlt
      have d0 := (hbel.cell (p := ⟨b, o + k * 4, none⟩) hb).trans c0
      have d1 := (hbel.cell (p := ⟨b, o + k * 4 + 1, none⟩) hb).trans c1
      have d2 := (hbel.cell (p := ⟨b, o + k * 4 + 2, none⟩) hb).trans c2
      have d3 := (hbel.cell (p := ⟨b, o + k * 4 + 3, none⟩) hb).trans c3
      have EN := Lib.hid (fun W => ends_cl cs[k] W (HP.out _ (List.getElem_mem hlt)))
      clear c0 c1 c2 c3
      generalize cs[k] = C at *
      simp only [Cl.lo, Cl.hi] at EN
      generalize plc C.a C.x = lo at *
      generalize plc C.b C.y = hi at *
      go_wp2_with (first
        | (go_at_call 56; (with_reducible refine (EN.out _).mono ?_); rintro e w1 ⟨rfl, hb1⟩; have HO1 := Lib.hid (HO.out.below hb1); have hbel1 := hbel.trans (hb1.mono hbs); clear hb1)
        | (go_at_call 62; (with_reducible refine (isPut_any u3 r lo _ HO1.out (by omega)).mono ?_); rintro e w2 ⟨A2, c2, r2, rfl, hr2, hl2, hb2⟩; have HO2 := Lib.hid hr2; have hbel2 := hbel1.trans (hb2.mono hbel1.size); clear hr2 hb2)
        | (go_at_call 62; (with_reducible refine (isPut_any (.slice A2 r2.length c2) r2 hi _ HO2.out (by omega)).mono ?_); rintro e w3 ⟨A3, c3, r3, rfl, hr3, hl3, hb3⟩; have HO3 := Lib.hid hr3; have hbel3 := hbel2.trans (hb3.mono hbel2.size); clear hr3 hb3))
      go_roundw
      case rel => exact ⟨k + 1, r3, by go_num, by omega, by omega, HO3, hbel3⟩
      case measure => simp [intOf]; omega
    · obtain rfl : k = cs.length := by omega
      obtain ⟨A3, c3, rfl, _⟩ := HO.out.shape
      go_wp2
      go_ret
      exact ⟨A3, c3, r, rfl, HO.out, hrl, hbel⟩

/-- The cells of a list of the program's ranges. -/
def exs : List Cl → List Value
  | [] => []
  | c :: r => [.iface (ctOf c.a c.x).tid (ctOf c.a c.x).inner, .iface (ctOf c.b c.y).tid (ctOf c.b c.y).inner, tv] ++ exs r
theorem exs_len : ∀ cs : List Cl, (exs cs).length = cs.length * 3
  | [] => rfl
  | c :: r => by rw [exs, List.length_append, exs_len r]; simp; omega
theorem exs_append : ∀ (cs ds : List Cl), exs (cs ++ ds) = exs cs ++ exs ds
  | [], _ => rfl
  | c :: r, ds => by rw [List.cons_append, exs, exs_append r ds, exs, List.append_assoc]
theorem exs_get : ∀ (cs : List Cl) (k : Nat) (h : k < cs.length), (exs cs)[k * 3]? = some (.iface (ctOf cs[k].a cs[k].x).tid (ctOf cs[k].a cs[k].x).inner) ∧ (exs cs)[k * 3 + 1]? = some (.iface (ctOf cs[k].b cs[k].y).tid (ctOf cs[k].b cs[k].y).inner) ∧ (exs cs)[k * 3 + 2]? = some tv
  | c :: r, 0, _ => ⟨rfl, rfl, rfl⟩
  | c :: r, k + 1, h => by
    have ih := exs_get r k (by simpa using h)
    have e : (k + 1) * 3 = k * 3 + 1 + 1 + 1 := by omega
    rw [exs, e]
    exact ih
theorem rd_ex {w : World} {A : Option Addr} {n c : Nat} {l : List Cl} (h : Rd w 3 (.slice A n c) n (exs l)) (k : Nat) (hk : k < l.length) :
    ∃ b o, A = some ⟨b, o, none⟩ ∧ b < w.heap.size ∧ w.cell? ⟨b, o + k * 3, none⟩ = some (.iface (ctOf l[k].a l[k].x).tid (ctOf l[k].a l[k].x).inner) ∧ w.cell? ⟨b, o + k * 3 + 1, none⟩ = some (.iface (ctOf l[k].b l[k].y).tid (ctOf l[k].b l[k].y).inner) ∧ w.cell? ⟨b, o + k * 3 + 2, none⟩ = some tv := by
  have hn : n = l.length := by have := h.len; rw [exs_len] at this; omega
  obtain ⟨b, o, c', hv, _, _, hb, hc⟩ := h.open (by omega)
  injection hv with e1 _ _
  obtain ⟨g0, g1, g2⟩ := exs_get l k hk
  exact ⟨b, o, e1, hb, hc _ _ g0, hc _ _ g1, hc _ _ g2⟩
theorem col_cl (c : Cl) (w : World) (p : Pcl c) : Calls Tryz.prog 55 #[exI (ctOf c.a c.x).tid (ctOf c.a c.x).inner (ctOf c.b c.y).tid (ctOf c.b c.y).inner] w fun e w' => e = .returned c.v ∧ Below w.heap.size w w' := by
  have h := col_any (ctOf c.a c.x) (ctOf c.b c.y) w
  rw [ex_eq] at h
  refine h.mono fun e w' ⟨he, hb⟩ => ⟨he.trans ?_, hb⟩
  rw [(ct_kind p.1).1, (ct_kind p.1).2, (ct_kind p.2).1, (ct_kind p.2).2]
theorem turned_cols (v : Value) (cs : List Cl) (w : World) (hr : Rd w 3 v cs.length (exs cs)) (hp : ∀ c ∈ cs, Pcl c) (hl : cs.length ≤ 100000) :
    Calls Tryz.prog 54 #[v, .func (.func 55) #[] #[]] w fun e w' => ∃ v', e = .returned v' ∧ w'.ownsRow w.heap.size 54 4 v' cs.length (clc cs) ∧ Below w.heap.size w w' := by
  obtain ⟨A, c, rfl, hlc, hcm⟩ := hr.shape
  have HR := Lib.hid hr
  have HP := Lib.hid hp
  clear hr hp
  go_enter Tryz.func54, Tryz.ntmps54
  go_wp2
  go_loopw [5, 10] (fun v5 v10 wr => ∃ (k : Nat), v10 = .int .i64 k ∧ k ≤ cs.length ∧ Hid (wr.ownsRow w.heap.size 54 4 v5 k (clc (cs.take k))) ∧ Hid (Below w.heap.size w wr)) (fun _ v10 _ => (cs.length - (intOf v10)).toNat)
  case atStart => exact ⟨0, rfl, Nat.zero_le _, Lib.hid (World.ownsRow_nil _ _ _ _), Lib.hid (Below.refl _ _)⟩
  case round =>
    obtain ⟨k, rfl, hk, HO, HB⟩ := hrel
    have hbs := HB.out.size
    by_cases hlt : k < cs.length
    · obtain ⟨b, o, rfl, hb, c0, c1, c2⟩ := rd_ex HR.out k hlt
      have d0 := (HB.out.cell (p := ⟨b, o + k * 3, none⟩) hb).trans c0
      have d1 := (HB.out.cell (p := ⟨b, o + k * 3 + 1, none⟩) hb).trans c1
      have d2 := (HB.out.cell (p := ⟨b, o + k * 3 + 2, none⟩) hb).trans c2
      have CO := Lib.hid (fun W => col_cl cs[k] W (HP.out _ (List.getElem_mem hlt)))
      have HM := Lib.hid (show clc (cs.take (k + 1)) = clc (cs.take k) ++ clc [cs[k]] from by rw [take_snocA cs k hlt, clc_append])
      clear c0 c1 c2
      generalize cs[k] = C at *
      rw [clc_one] at HM
      generalize (ctOf C.a C.x).tid = t1 at *
      generalize (ctOf C.a C.x).inner = i1 at *
      generalize (ctOf C.b C.y).tid = t2 at *
      generalize (ctOf C.b C.y).inner = i2 at *
      have HBA := Lib.hid (HB.out.alloc hbs (exC t1 i1 t2 i2))
      have HOA := Lib.hid (own_below HO.out ((Below.refl _ _).alloc (Nat.le_refl _) (exC t1 i1 t2 i2)))
      go_wp2_with (first
        | (go_at_call 55; go_loud (with_reducible refine (CO.out _).mono ?_); rintro e w1 ⟨rfl, hb1⟩; have HB1 := Lib.hid (HBA.out.trans (hb1.mono HBA.out.size)); have HO1 := Lib.hid (own_below HOA.out hb1); clear hb1)
        | (at_builtin; refine app1 (w0 := w) w.heap.size rfl (.tmp 14) (.tmp 18) 22 54 (.agg #[.int .i64 0, .int .i64 0, .int .i64 0, .int .i64 0]) 4 32 rfl Tryz.underlying22 info27 rfl (by omega) (by omega) u5 _ _ #[.int .i64 C.a, .int .i64 C.x, .int .i64 C.b, .int .i64 C.y] rfl rfl rfl (clc_one_cell [C]) HO1.out HB1.out HB1.out.size (by omega) ?_; intro v3 w3 hown3 hb3 hg3 _; have HO3 := Lib.hid hown3; have HB3 := Lib.hid hb3; clear hown3 hb3 hg3))
      go_roundw
      case rel => exact ⟨k + 1, by go_num, by omega, Lib.hid (by rw [HM.out]; exact HO3.out), HB3⟩
      case measure => simp [intOf]; omega
    · obtain rfl : k = cs.length := by omega
      rw [List.take_length] at HO
      go_wp2
      go_ret
      exact ⟨_, rfl, HO.out, HB.out⟩
end Go.Proofs.YtfnogpelaoofbaaGreatDoor.Rg
