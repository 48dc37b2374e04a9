/- Two values are merged into one array. Conditions: those written at each lemma. -/
import Derived.Test.YtmelgankbegjaaaMb
import Derived.Test.YtmelgankbegjaaaMc
set_option linter.unusedVariables false
set_option linter.unusedSimpArgs false
set_option maxRecDepth 100000
set_option maxHeartbeats 8000000
namespace Go.Proofs.Ytmelgankbegjaaa.Js
open Go.RowKit Go.Proofs.Ytmelgankbegjaaa.B

attribute [local go_sem] as4_67 as65_67 as9_67 as67_67 as68_67 atn_67
theorem IO.cell {p : Nat → Prop} {W : World} {t : J} {v : Value} (h : IO p W t v) : v.cells = #[v] ∧ v.oneCell' = true := by
  obtain ⟨k, n, s, ns, is⟩ := t
  rcases h with ⟨_, rfl⟩ | ⟨_, rfl⟩ | ⟨_, rfl⟩ | ⟨_, rfl⟩ | ⟨_, A, c, vs, rfl, _⟩ | ⟨_, b, vs, rfl, _⟩ <;> exact ⟨rfl, rfl⟩
theorem IOs.cells {W : World} : ∀ {p : Nat → Prop} {ts : List J} {vs : List Value}, IOs p W ts vs → ∀ u ∈ vs, u.oneCell' = true
  | p, [], vs, h, u, hu => by
    rw [show vs = [] from h] at hu
    cases hu
  | p, t :: r, vs, h, u, hu => by
    obtain ⟨x, vs', q, rfl, h1, h2⟩ := h
    rcases List.mem_cons.1 hu with rfl | hu
    · exact h1.cell.2
    · exact IOs.cells h2 u hu
theorem IO.arr {p : Nat → Prop} {w : World} {t : J} {u : Value} (h : IO p w t u) (hk : t.k = 4) : ∃ A c vs, u = .iface 67 (.slice A t.is.length c) ∧ w.ownsRow 0 20 1 (.slice A t.is.length c) t.is.length vs ∧ (∀ b, (Value.slice A t.is.length c).ownBlock = some b → p b) ∧ IOs (fun x => p x ∧ some x ≠ (Value.slice A t.is.length c).ownBlock) w t.is vs := by
  obtain ⟨k2, n2, s2, ns2, is2⟩ := t
  have hk2 : k2 = 4 := hk
  subst hk2
  rcases h with ⟨h, _⟩ | ⟨h, _⟩ | ⟨h, _⟩ | ⟨h, _⟩ | ⟨_, h⟩ | ⟨h, _⟩
  · omega
  · omega
  · omega
  · omega
  · exact h
  · omega
theorem IO.map {p : Nat → Prop} {w : World} {t : J} {u : Value} (h : IO p w t u) (hk : t.k = 5) : ∃ b vs, u = .iface 68 (.map (some b)) ∧ p b ∧ w.ownsMap Try.prog 9 RH b t.ns.length (dat t.ns vs) ∧ IOs (fun x => p x ∧ x ≠ b) w t.is vs := by
  obtain ⟨k2, n2, s2, ns2, is2⟩ := t
  have hk2 : k2 = 5 := hk
  subst hk2
  rcases h with ⟨h, _⟩ | ⟨h, _⟩ | ⟨h, _⟩ | ⟨h, _⟩ | ⟨h, _⟩ | ⟨_, h⟩
  · omega
  · omega
  · omega
  · omega
  · omega
  · exact h
theorem not_arr {p : Nat → Prop} {w : World} {t : J} {u : Value} (h : IO p w t u) (hk : t.k ≠ 4) (W : World) : (Instr.typeAssert u 20 67 true).run Try.prog W = .ok (.tuple #[.slice none 0 0, .bool false]) W := by
  obtain ⟨k, n, s, ns, is⟩ := t
  have hk : k ≠ 4 := hk
  rcases h with ⟨_, rfl⟩ | ⟨_, rfl⟩ | ⟨_, rfl⟩ | ⟨_, rfl⟩ | ⟨h, _⟩ | ⟨_, b, vs, rfl, _⟩
  · exact atn_67 W
  · exact as4_67 _ W
  · exact as65_67 _ W
  · exact as9_67 _ W
  · exact absurd h hk
  · exact as68_67 _ W
theorem not_map {p : Nat → Prop} {w : World} {t : J} {u : Value} (h : IO p w t u) (hk : t.k ≠ 5) (W : World) : (Instr.typeAssert u 20 68 true).run Try.prog W = .ok (.tuple #[.map none, .bool false]) W := by
  obtain ⟨k, n, s, ns, is⟩ := t
  have hk : k ≠ 5 := hk
  rcases h with ⟨_, rfl⟩ | ⟨_, rfl⟩ | ⟨_, rfl⟩ | ⟨_, rfl⟩ | ⟨_, A, c, vs, rfl, _⟩ | ⟨h, _⟩
  · exact atn_68 W
  · exact as4_68 _ W
  · exact as65_68 _ W
  · exact as9_68 _ W
  · exact as67_68 _ W
  · exact absurd h hk
theorem mia_fin {p q P : Nat → Prop} {w W W' : World} {ts us : List J} {v5 : Value} {A : Option Addr} {c : Nat} {vs ws : List Value} (hd : ∀ x, p x → ¬ q x)
    (hS : Same (fun x => ¬ p x ∧ ¬ q x) w W) (hP : IOs P W ts vs) (hPp : ∀ x, P x → p x ∧ some x ≠ v5.ownBlock) (hq : IOs q W us ws) (hown : ∀ k, v5.ownBlock = some k → ¬ q k ∧ (p k ∨ w.heap.size ≤ k))
    (hg : W.grownBy W' v5.ownBlock) (hr : W'.ownsRow 0 20 1 (.slice A (ts ++ us).length c) (ts ++ us).length (vs ++ ws)) (hat : (Value.slice A (ts ++ us).length c).ownBlock = v5.ownBlock ∨ ∃ k, (Value.slice A (ts ++ us).length c).ownBlock = some k ∧ W.heap.size ≤ k) :
    IO (fun x => p x ∨ q x ∨ w.heap.size ≤ x) W' (.mk 4 0 .empty [] (ts ++ us)) (.iface 67 (.slice A (ts ++ us).length c)) ∧ Same (fun x => ¬ p x ∧ ¬ q x) w W' := by
  have hs1 := hS.1
  have hs2 := hg.size
  generalize hv : Value.slice A (ts ++ us).length c = v' at *
  refine ⟨.inr (.inr (.inr (.inr (.inl ⟨rfl, A, c, vs ++ ws, by rw [← hv], by rw [hv]; exact hr, fun b hb => ?_, ?_⟩)))), ⟨Nat.le_trans hs1 hs2, fun b hb hp => ?_⟩⟩
  · rw [hv] at hb
    rcases hat with h | ⟨k, h1, h2⟩
    · exact (hown b (h.symm.trans hb)).2.elim .inl (fun e => .inr (.inr e))
    · rw [h1] at hb
      injection hb with hb
      exact .inr (.inr (by omega))
  · rw [hv]
    have h1 := ((hP.append hq (fun x hx => hd x (hPp x hx).1)).bound).keep (.grown hg (fun x hx e => by
      rcases hx.1 with h | h
      · exact (hPp x h).2 e
      · exact (hown x e.symm).1 h))
    refine h1.mono (fun x hx => ⟨hx.1.elim (fun h => .inl (hPp x h).1) (fun h => .inr (.inl h)), fun e => ?_⟩)
    rcases hat with h | ⟨k, h1, h2⟩
    · rcases hx.1 with h3 | h3
      · exact (hPp x h3).2 (e.trans h)
      · exact (hown x (h.symm.trans e.symm)).1 h3
    · rw [h1] at e
      injection e with e
      have := hx.2
      omega
  · refine (hg.block b (Nat.lt_of_lt_of_le hb hs1) (fun e => ?_)).trans (hS.2 b hb hp)
    rcases (hown b e.symm).2 with h | h
    · exact hp.1 h
    · omega
theorem io_one {p : Nat → Prop} {W : World} {t : J} {u : Value} (h : IO p W t u) : IOs p W [t] [u] := ⟨u, [], fun _ => True, rfl, h.mono (fun x hx => ⟨hx, trivial⟩), rfl⟩
theorem same_all {p : Nat → Prop} {w : World} : Same p w w := ⟨Nat.le_refl _, fun _ _ _ => rfl⟩
theorem mia_any (t1 t2 : J) (p q : Nat → Prop) (u1 u2 : Value) (w : World) (B : Nat) (hw1 : Wf t1) (hw2 : Wf t2) (h1 : IO p w t1 u1) (h2 : IO q w t2 u2) (hd : ∀ x, p x → ¬ q x) (hq : ∀ x, q x → x < w.heap.size) (hB : ∀ x, p x → B ≤ x) (hBw : B ≤ w.heap.size) :
    Calls Try.prog 41 #[u1, u2] w fun e w' => ∃ u, e = .returned u ∧ IO (fun x => p x ∨ q x ∨ w.heap.size ≤ x) w' (.mk 4 0 .empty [] (lsJ t1 ++ lsJ t2)) u ∧ Same (fun x => ¬ p x ∧ ¬ q x) w w' ∧ Below B w w' := by
  have l1 := ls_len hw1
  have l2 := ls_len hw2
  by_cases k1 : t1.k = 4
  · obtain ⟨A1, c1, vs1, rfl, r1, b1, i1⟩ := h1.arr k1
    have e1 : lsJ t1 = t1.is := by unfold lsJ; rw [if_pos k1]
    rw [e1] at l1 ⊢
    clear e1 h1 hw1
    generalize t1.is = ts at *
    have R1 := Lib.hid r1
    have B1 := Lib.hid b1
    have I1 := Lib.hid i1
    have HQ := Lib.hid hq
    have HD := Lib.hid hd
    have HBP := Lib.hid hB
    clear r1 b1 i1 hq hd hB
    by_cases k2 : t2.k = 4
    · obtain ⟨A2, c2, vs2, rfl, r2, b2, i2⟩ := h2.arr k2
      have e2 : lsJ t2 = t2.is := by unfold lsJ; rw [if_pos k2]
      rw [e2] at l2 ⊢
      clear e2 h2 hw2
      generalize t2.is = us at *
      have R2 := Lib.hid r2
      have I2 := Lib.hid i2
      have C2 := Lib.hid i2.cells
      clear r2 b2 i2
      go_enter Try.func41, Try.ntmps41
      go_wp2_with (at_builtin; (refine appRd (w := w) (w0 := w) rfl (.tmp 27) (.tmp 28) 67 rfl 0 20 .nilIface 1 16 Try.underlying67 info20 rfl (by omega) (by omega) _ _ _ rfl R1.out ((Below.refl w.heap.size w).mono (Nat.zero_le _)) _ _ _ rfl (Rd.of_own R2.out) C2.out (by omega) (Nat.zero_le _) ?_; intro v7 w7 ho7 _ hg7 hat7; have O7 := Lib.hid ho7; have G7 := Lib.hid hg7; have T7 := Lib.hid hat7; clear ho7 hg7 hat7))
      go_ret
      obtain ⟨A7, c7, hv7, _⟩ := (Rd.of_own O7.out).shape
      subst hv7
      rw [← List.length_append] at O7 T7 ⊢
      obtain ⟨f1, f2⟩ := mia_fin (v5 := .slice A1 ts.length c1) HD.out same_all I1.out (fun x hx => hx) (I2.out.mono (fun x hx => hx.1)) (fun k hk => ⟨HD.out k (B1.out k hk), .inl (B1.out k hk)⟩) G7.out O7.out (T7.out.imp id (fun e => ⟨_, e, Nat.le_refl _⟩))
      exact ⟨_, rfl, f1, f2, (Below.refl B w).grown G7.out hBw (fun k hk => HBP.out k (B1.out k hk))⟩
    · obtain ⟨x2, y2⟩ := h2.cell
      have z2 := x2
      unfold Value.cells at z2
      have f2 := not_arr h2 k2 w
      have e2 : lsJ t2 = [t2] := by unfold lsJ; rw [if_neg k2]
      rw [e2] at l2 ⊢
      have H2 := Lib.hid h2
      clear e2 h2 hw2
      go_enter Try.func41, Try.ntmps41
      go_wp2_with (at_builtin; (refine app1 (W := w) (w0 := w) 0 rfl (.tmp 31) (.tmp 33) 67 20 .nilIface 1 16 rfl Try.underlying67 info20 rfl (by omega) (by omega) _ _ _ _ rfl rfl rfl (by intro x hx; rw [List.mem_singleton.1 hx]; exact y2) R1.out ((Below.refl w.heap.size w).mono (Nat.zero_le _)) (Nat.zero_le _) (by omega) ?_; intro v7 w7 ho7 _ hg7 hat7; have O7 := Lib.hid ho7; have G7 := Lib.hid hg7; have T7 := Lib.hid hat7; clear ho7 hg7 hat7))
      go_ret
      obtain ⟨A7, c7, hv7, _⟩ := (Rd.of_own O7.out).shape
      subst hv7
      have hlen : (ts ++ [t2]).length = ts.length + 1 := by simp
      rw [← hlen] at O7 T7 ⊢
      obtain ⟨f1, f3⟩ := mia_fin (v5 := .slice A1 ts.length c1) HD.out same_all I1.out (fun x hx => hx) (io_one H2.out) (fun k hk => ⟨HD.out k (B1.out k hk), .inl (B1.out k hk)⟩) G7.out O7.out T7.out
      exact ⟨_, rfl, f1, f3, (Below.refl B w).grown G7.out hBw (fun k hk => HBP.out k (B1.out k hk))⟩
  · obtain ⟨x1, y1⟩ := h1.cell
    have z1 := x1
    unfold Value.cells at z1
    have f1 := not_arr h1 k1 w
    have e1 : lsJ t1 = [t1] := by unfold lsJ; rw [if_neg k1]
    rw [e1] at l1 ⊢
    have H1 := Lib.hid h1
    have HQ := Lib.hid hq
    have HD := Lib.hid hd
    have HBP := Lib.hid hB
    clear e1 h1 hw1 hq hd hB
    by_cases k2 : t2.k = 4
    · obtain ⟨A2, c2, vs2, rfl, r2, b2, i2⟩ := h2.arr k2
      have e2 : lsJ t2 = t2.is := by unfold lsJ; rw [if_pos k2]
      rw [e2] at l2 ⊢
      clear e2 h2 hw2
      generalize t2.is = us at *
      have R2 := Lib.hid r2
      have I2 := Lib.hid i2
      have C2 := Lib.hid i2.cells
      have B2 := Lib.hid b2
      clear r2 b2 i2
      go_enter Try.func41, Try.ntmps41
      go_wp2_with (first
        | (at_builtin; (refine app1 (W := w) (w0 := w) w.heap.size rfl (.tmp 17) (.tmp 19) 67 20 .nilIface 1 16 rfl Try.underlying67 info20 rfl (by omega) (by omega) _ _ _ _ rfl rfl rfl (by intro x hx; rw [List.mem_singleton.1 hx]; exact y1) (World.ownsRow_nil _ _ _ _) (Below.refl _ _) (Nat.le_refl _) (by omega) ?_; intro v5 w5 ho5 _ hg5 _; obtain ⟨A5, c5, hv5, _⟩ := (Rd.of_own ho5).shape; subst hv5; have O5 := Lib.hid ho5; have G5 := Lib.hid hg5; have S5 := Lib.hid (show Same (fun _ => True) w w5 from .grown hg5 (fun b _ e => by cases e)); have R5 := Lib.hid (row_base ho5 0 (fun k _ => Nat.zero_le _)); have R2' := Lib.hid (Rd.of_own (row_same R2.out B2.out (S5.out.mono fun _ _ => trivial))); clear ho5 hg5))
        | (at_builtin; (refine appRd (w := w5) (w0 := w5) rfl (.tmp 27) (.tmp 28) 67 rfl 0 20 .nilIface 1 16 Try.underlying67 info20 rfl (by omega) (by omega) _ _ _ rfl R5.out ((Below.refl w5.heap.size w5).mono (Nat.zero_le _)) _ _ _ rfl R2'.out C2.out (by omega) (Nat.zero_le _) ?_; intro v7 w7 ho7 _ hg7 hat7; have O7 := Lib.hid ho7; have G7 := Lib.hid hg7; have T7 := Lib.hid hat7; clear ho7 hg7 hat7)))
      go_ret
      obtain ⟨A7, c7, hv7, _⟩ := (Rd.of_own O7.out).shape
      subst hv7
      have hlen : ([t1] ++ us).length = 1 + us.length := by simp; omega
      rw [← hlen] at O7 T7 ⊢
      obtain ⟨f2, f3⟩ := mia_fin (p := p) (q := q) (v5 := .slice A5 1 c5) HD.out (S5.out.mono fun _ _ => trivial) ((io_one H1.out).bound.keep (S5.out.mono fun _ _ => trivial)) (fun x hx => ⟨hx.1, fun e => by have := (O5.out.lt x e.symm).1; have := hx.2; omega⟩) ((I2.out.mono (fun x hx => hx.1)).keep (S5.out.mono fun _ _ => trivial)) (fun k hk => ⟨fun e => by have := (O5.out.lt k hk).1; have := HQ.out k e; omega, .inr (O5.out.lt k hk).1⟩) G7.out O7.out (T7.out.imp id (fun e => ⟨_, e, Nat.le_refl _⟩))
      exact ⟨_, rfl, f2, f3, ((Below.refl B w).grown G5.out hBw (fun k hk => by cases hk)).grown G7.out (Nat.le_trans hBw S5.out.1) (fun k hk => Nat.le_trans hBw (O5.out.lt k hk).1)⟩
    · obtain ⟨x2, y2⟩ := h2.cell
      have z2 := x2
      unfold Value.cells at z2
      have F2 := Lib.hid (fun W => not_arr h2 k2 W)
      have e2 : lsJ t2 = [t2] := by unfold lsJ; rw [if_neg k2]
      rw [e2] at l2 ⊢
      have H2 := Lib.hid h2
      clear e2 h2 hw2
      go_enter Try.func41, Try.ntmps41
      go_wp2_with (first
        | (at_builtin; (refine app1 (W := w) (w0 := w) w.heap.size rfl (.tmp 17) (.tmp 19) 67 20 .nilIface 1 16 rfl Try.underlying67 info20 rfl (by omega) (by omega) _ _ _ _ rfl rfl rfl (by intro x hx; rw [List.mem_singleton.1 hx]; exact y1) (World.ownsRow_nil _ _ _ _) (Below.refl _ _) (Nat.le_refl _) (by omega) ?_; intro v5 w5 ho5 _ hg5 _; obtain ⟨A5, c5, hv5, _⟩ := (Rd.of_own ho5).shape; subst hv5; have O5 := Lib.hid ho5; have G5 := Lib.hid hg5; have S5 := Lib.hid (show Same (fun _ => True) w w5 from .grown hg5 (fun b _ e => by cases e)); have R5 := Lib.hid (row_base ho5 0 (fun k _ => Nat.zero_le _)); have f2 := F2.out w5; clear ho5 hg5))
        | (at_builtin; (refine app1 (W := w5) (w0 := w5) 0 rfl (.tmp 31) (.tmp 33) 67 20 .nilIface 1 16 rfl Try.underlying67 info20 rfl (by omega) (by omega) _ _ _ _ rfl rfl rfl (by intro x hx; rw [List.mem_singleton.1 hx]; exact y2) R5.out ((Below.refl w5.heap.size w5).mono (Nat.zero_le _)) (Nat.zero_le _) (by omega) ?_; intro v7 w7 ho7 _ hg7 hat7; have O7 := Lib.hid ho7; have G7 := Lib.hid hg7; have T7 := Lib.hid hat7; clear ho7 hg7 hat7)))
      go_ret
      obtain ⟨A7, c7, hv7, _⟩ := (Rd.of_own O7.out).shape
      subst hv7
      obtain ⟨g2, f3⟩ := mia_fin (p := p) (q := q) (ts := [t1]) (us := [t2]) (v5 := .slice A5 1 c5) HD.out (S5.out.mono fun _ _ => trivial) ((io_one H1.out).bound.keep (S5.out.mono fun _ _ => trivial)) (fun x hx => ⟨hx.1, fun e => by have := (O5.out.lt x e.symm).1; have := hx.2; omega⟩) ((io_one H2.out).keep (S5.out.mono fun _ _ => trivial)) (fun k hk => ⟨fun e => by have := (O5.out.lt k hk).1; have := HQ.out k e; omega, .inr (O5.out.lt k hk).1⟩) G7.out O7.out T7.out
      exact ⟨_, rfl, g2, f3, ((Below.refl B w).grown G5.out hBw (fun k hk => by cases hk)).grown G7.out (Nat.le_trans hBw S5.out.1) (fun k hk => Nat.le_trans hBw (O5.out.lt k hk).1)⟩
end Go.Proofs.Ytmelgankbegjaaa.Js

