/- lkText: bytes become characters of a small alphabet. Conditions: those written at each lemma. -/
import Derived.Test.YtbcclblocagneaaDoorLma
set_option linter.unusedVariables false
set_option linter.unusedSimpArgs false
set_option maxRecDepth 100000
set_option maxHeartbeats 8000000
namespace Go.Proofs.YtbcclblocagneaaDoor.Lk
open Go.RowKit Go.Proofs.YtbcclblocagneaaDoor.B

def AL : List Int := [97, 65, 98, 37, 95, 92, 66, 233, 29483, 37, 95, 97, 120]
def ch (x : Int) : Int := AL.getD (x % 13).toNat 0
theorem ch_ab (x : Int) : ch x ∈ AB := by
  have h : ∀ d : Fin 13, AL.getD d.val 0 ∈ AB := by decide
  exact h ⟨(x % 13).toNat, by omega⟩
def tx (l : List Int) (m : Nat) : List Int := (l.take m).map ch
theorem tx_ab (l : List Int) (m : Nat) : ∀ r ∈ tx l m, r ∈ AB := fun r hr => by
  obtain ⟨x, _, rfl⟩ := List.mem_map.1 hr
  exact ch_ab x
theorem tx_len (l : List Int) (m : Nat) : (tx l m).length ≤ m := by unfold tx; rw [List.length_map, List.length_take]; omega
def rs (T : List Int) : List Value := T.map (Value.int .i32)
abbrev z13 : Array Value := #[.int .i32 97, .int .i32 65, .int .i32 98, .int .i32 37, .int .i32 95, .int .i32 92, .int .i32 66, .int .i32 233, .int .i32 29483, .int .i32 37, .int .i32 95, .int .i32 97, .int .i32 120]
theorem z13_at : ∀ d, d < 13 → z13[d]? = some (.int .i32 (AL.getD d 0))
  | 0, _ => rfl | 1, _ => rfl | 2, _ => rfl | 3, _ => rfl | 4, _ => rfl | 5, _ => rfl | 6, _ => rfl | 7, _ => rfl | 8, _ => rfl | 9, _ => rfl | 10, _ => rfl | 11, _ => rfl | 12, _ => rfl
  | n + 13, h => absurd h (by omega)
theorem z13_cell (W : World) (d : Nat) (h : d < 13) : (W.alloc (.cells z13 21)).cell? ⟨W.heap.size, d, none⟩ = some (.int .i32 (AL.getD d 0)) := by
  have h1 := heap_alloc_new W (.cells z13 21)
  have h2 := z13_at d h
  simp only [World.cell?, h1, h2]
  rfl
theorem info21 : (Tryd.prog.info? 21).map (fun i => (i.zero, i.size, i.bytes)) = some (some (.int .i32 0), 1, 4) := by kernel_rfl
theorem take_snocA {α : Type} (l : List α) (k : Nat) (h : k < l.length) : l.take (k + 1) = l.take k ++ [l[k]] := by
  rw [List.take_succ_eq_append_getElem h]

section
variable {P : Program} {ops : Array Oper} {rest : List Oper} {o : Oper} {a : Act} {Q : Exit → Act → World → Prop}
theorem app1b {w0 W : World} (base : Nat) (hgd : o.guard = none) (s x : Operand) (t e : TypeId) (z : Value) (size bytes bx : Nat)
    (ho : o.op = .call { callee := .builtin .append, args := #[s, x], argTypes := #[t, t] })
    (ht : P.underlying t = some (.slice e)) (hinfo : (P.info? e).map (fun i => (i.zero, i.size, i.bytes)) = some (some z, size, bytes)) (hz : z.cells.size = size) (hsz : 0 < size) (hb0 : 0 < bytes)
    (v : Value) (n : Nat) (xs : List Value) (us : Array Value) (hs : a.eval s = v) (hx : a.eval x = .slice (some ⟨bx, 0, none⟩) 1 1) (hbx : bx = W.heap.size) (hus : us.size = size) (h1 : ∀ u ∈ us.toList, u.oneCell' = true)
    (HO : W.ownsRow base e size v n xs) (HB : Below base w0 W) (hbase : base ≤ W.heap.size) (hl : (n + 1) * bytes ≤ 140737488355328)
    (h : ∀ v1 w1, w1.ownsRow base e size v1 (n + 1) (xs ++ us.toList) → Below base w0 w1 → W.grownBy w1 v.ownBlock → (v1.ownBlock = v.ownBlock ∨ ∃ b, v1.ownBlock = some b ∧ W.heap.size ≤ b) → wpList P ops Q rest (a.put o.dst v1) w1) :
    wpList P ops Q (o :: rest) a (W.alloc (.cells us e)) := by
  subst hbx
  exact app1 base hgd s x t e z size bytes ho ht hinfo hz hsz hb0 v n xs us hs hx hus h1 HO HB hbase hl h
end
theorem text_any (l : List Int) (A : Option Addr) (cap m : Nat) (w : World) (hr : Rd w 1 (.slice A l.length cap) l.length (l.map (Value.int .u8))) (hb : ∀ x ∈ l, 0 ≤ x ∧ x ≤ 255) (hl : l.length ≤ 2147483647) (hm : m ≤ 100) :
    Calls Tryd.prog 14 #[.slice A l.length cap, .int .i64 m] w fun e w' => ∃ A' c, e = .returned (.slice A' (tx l m).length c) ∧ Rd w' 1 (.slice A' (tx l m).length c) (tx l m).length (rs (tx l m)) ∧ Below w.heap.size w w' := by
  have HR := Lib.hid hr
  have HBB := Lib.hid hb
  clear hr hb
  go_enter Tryd.func14, Tryd.ntmps14
  go_wp2
  go_loopw [5, 6] (fun v5 v6 wr => ∃ (k : Nat), v6 = .int .i64 k ∧ k ≤ l.length ∧ k ≤ m ∧ Hid (wr.ownsRow w.heap.size 21 1 v5 k (rs ((l.take k).map ch))) ∧ Hid (Below w.heap.size w wr)) (fun _ v6 _ => (l.length - (intOf v6)).toNat)
  case atStart => exact ⟨0, rfl, Nat.zero_le _, Nat.zero_le _, Lib.hid (World.ownsRow_nil _ _ _ _), Lib.hid (Below.refl _ _)⟩
  case round =>
    obtain ⟨k, rfl, hk, hkm, HO, HB⟩ := hrel
    have hbs := HB.out.size
    by_cases hgo : k < l.length ∧ k < m
    · obtain ⟨hlt, hltm⟩ := hgo
      obtain ⟨b, o, rfl, hbl, hc⟩ := rd_one HR.out (j := k) (u := .int .u8 l[k]) (by rw [List.getElem?_map, List.getElem?_eq_getElem hlt]; rfl)
      have hcw := (HB.out.cell (p := ⟨b, o + k, none⟩) hbl).trans hc
      obtain ⟨hx0, hx1⟩ := HBB.out l[k] (List.getElem_mem hlt)
      have HM := Lib.hid (show rs ((l.take (k + 1)).map ch) = rs ((l.take k).map ch) ++ [.int .i32 (ch l[k])] from by rw [take_snocA l k hlt]; unfold rs; rw [List.map_append, List.map_append]; rfl)
      generalize l[k] = x at *
      clear hc
      obtain ⟨d, hd13, hdx⟩ : ∃ d : Nat, d < 13 ∧ x % 13 = (d : Int) := ⟨(x % 13).toNat, by omega, by omega⟩
      have hch : ch x = AL.getD d 0 := by unfold ch; rw [hdx]; rfl
      rw [hch] at HM
      have htm : Int.tmod x 13 = (d : Int) := by rw [Int.tmod_eq_emod_of_nonneg hx0]; exact hdx
      have HA1 := Lib.hid ((Below.refl wr.heap.size wr).alloc (Nat.le_refl _) (.cells z13 21))
      have hz := z13_cell wr d hd13
      generalize AL.getD d 0 = y at *
      have hcw2 := (HA1.out.cell (p := ⟨b, o + k, none⟩) (show b < wr.heap.size by omega)).trans hcw
      have HO1 := Lib.hid (own_below HO.out HA1.out)
      have HB1 := Lib.hid (HB.out.trans (HA1.out.mono hbs))
      clear hch
      go_wp2_with (at_builtin; go_loud (refine app1b (w0 := w) w.heap.size rfl (.tmp 18) (.tmp 27) 33 21 (.int .i32 0) 1 4 _ rfl Tryd.underlying33 info21 rfl (by omega) (by omega) u5 _ _ _ rfl rfl (by simp) rfl (one1 rfl) HO1.out HB1.out HB1.out.size (by omega) ?_); intro v5 w5 hown5 hb5 _ _; have HO5 := Lib.hid hown5; have HB5 := Lib.hid hb5; clear hown5 hb5)
      go_roundw
      case rel => exact ⟨k + 1, by go_num, by omega, by omega, Lib.hid (by rw [HM.out]; exact HO5.out), HB5⟩
      case measure => simp [intOf]; omega
    · have hend : (l.take k).map ch = tx l m := by
        unfold tx
        rcases Nat.lt_or_ge k l.length with h | h
        · rw [show k = m by omega]
        · rw [List.take_of_length_le h, List.take_of_length_le (by omega)]
      have hlen : (tx l m).length = k := by rw [← hend, List.length_map, List.length_take]; omega
      rw [hend, ← hlen] at HO
      obtain ⟨A5, c5, e5, _⟩ := (Rd.of_own HO.out).shape
      subst e5
      rcases Nat.lt_or_ge k l.length with hlt | hlt
      all_goals
        try (have hkm2 : ¬ k < m := fun h => hgo ⟨hlt, h⟩)
        clear hgo hend hlen
        go_wp2
        go_ret
        exact ⟨A5, c5, rfl, Rd.of_own HO.out, HB.out⟩
end Go.Proofs.YtbcclblocagneaaDoor.Lk
