/- The law's own reader of bytes: any value. Conditions: those written at each lemma. -/
import Derived.Test.YtmelgankbegjaaaJc
set_option linter.unusedVariables false
set_option linter.unusedSimpArgs false
set_option maxRecDepth 100000
set_option maxHeartbeats 8000000
namespace Go.Proofs.Ytmelgankbegjaaa.Js
open Go.RowKit Go.Proofs.Ytmelgankbegjaaa.B

theorem own_other {W W1 : World} {B B2 : Nat} {e e2 : TypeId} {s s2 n n2 : Nat} {v u : Value} {xs ys : List Value} (h : W.ownsRow B e s v n xs) (hu : W.ownsRow B2 e2 s2 u n2 ys) (he : e ≠ e2) (hg : W.grownBy W1 u.ownBlock) : W1.ownsRow B e s v n xs := by
  refine ⟨h.1, ?_⟩
  rcases h.2 with h2 | ⟨g, cap, cur, h1, h2, h3, h4⟩
  · exact .inl h2
  · refine .inr ⟨g, cap, cur, h1, h2, ?_, h4⟩
    rw [hg.block g (Rv.lt_of_blk h3) (fun e1 => ?_)]
    · exact h3
    · rcases hu.2 with ⟨rfl, _⟩ | ⟨g2, cap2, cur2, rfl, _, h5, _⟩
      · cases e1
      · simp only [Value.ownBlock] at e1
        injection e1 with e1
        subst e1
        rw [h3] at h5
        injection h5 with h5
        injection h5 with _ h5 _
        exact he h5
theorem own_kept {W W1 : World} {B : Nat} {e : TypeId} {s n : Nat} {v : Value} {xs : List Value} {r : Option Nat} (h : W.ownsRow B e s v n xs) (hg : W.grownBy W1 r) (hr : ∀ k, v.ownBlock = some k → some k ≠ r) : W1.ownsRow B e s v n xs := by
  refine ⟨h.1, ?_⟩
  rcases h.2 with h2 | ⟨g, cap, cur, h1, h2, h3, h4⟩
  · exact .inl h2
  · exact .inr ⟨g, cap, cur, h1, h2, (hg.block g (Rv.lt_of_blk h3) (hr g (by rw [h1]; rfl))).trans h3, h4⟩
/-- Where the rows of the items lie. -/
def Fr (B g : Nat) (vN vI : Value) (x : Nat) : Prop := B ≤ x ∧ x ≠ g ∧ some x ≠ vN.ownBlock ∧ some x ≠ vI.ownBlock
/-- A value in the making: its variable in block g, its rows, its items. -/
def St (w0 : World) (b B g : Nat) (kk : Int) (ns : List ByteArray) (vN vH vI : Value) (ts : List J) (hs : List Value) (W : World) : Prop :=
  Mst w0 W b ∧ W.heap[g]? = some (.cells #[.int .i64 kk, .int .i64 0, .string ⟨#[]⟩, vN, vH] 26 (0, 0)) ∧ W.ownsRow B 9 1 vN ns.length (strs ns) ∧ W.ownsRow B 26 5 vI ts.length (flat hs) ∧ JNs (Fr B g vN vI) W ts hs ∧
    some g ≠ vN.ownBlock ∧ some g ≠ vI.ownBlock ∧ B ≤ g ∧ b < B ∧ w0.heap.size ≤ b
section
variable {w0 W W' : World} {b B g E : Nat} {kk : Int} {ns : List ByteArray} {vN vH vI v' v : Value} {ts : List J} {hs : List Value} {t : J}
theorem St.below (h : St w0 b B g kk ns vN vH vI ts hs W) (hb : Below W.heap.size W W') : St w0 b B g kk ns vN vH vI ts hs W' := by
  obtain ⟨h1, h2, h3, h4, h5, h6⟩ := h
  exact ⟨h1.below hb, (hb.block g (Rv.lt_of_blk h2)).trans h2, own_below h3 hb, own_below h4 hb, h5.below hb, h6⟩
theorem St.call (h : St w0 b B g kk ns vN vH vI ts hs W) (hg : W.grownBy W' (some b)) (hm : Mst w0 W' b) : St w0 b B g kk ns vN vH vI ts hs W' := by
  obtain ⟨h1, h2, h3, h4, h5, h6, h7, h8, h9, h10⟩ := h
  exact ⟨hm, blk_grown h2 hg (fun e => by injection e with e; omega), own_kept h3 hg (fun k hk e => by have := (h3.lt k hk).1; injection e with e; omega), own_kept h4 hg (fun k hk e => by have := (h4.lt k hk).1; injection e with e; omega),
    h5.grown hg (fun x hx e => by have := hx.1; injection e with e; omega), h6, h7, h8, h9, h10⟩
theorem St.mst (h : St w0 b B g kk ns vN vH vI ts hs W) : Mst w0 W b := h.1
theorem St.blk (h : St w0 b B g kk ns vN vH vI ts hs W) : W.heap[g]? = some (.cells #[.int .i64 kk, .int .i64 0, .string ⟨#[]⟩, vN, vH] 26 (0, 0)) := h.2.1
theorem St.rowN (h : St w0 b B g kk ns vN vH vI ts hs W) : W.ownsRow B 9 1 vN ns.length (strs ns) := h.2.2.1
theorem St.rowI (h : St w0 b B g kk ns vN vH vI ts hs W) : W.ownsRow B 26 5 vI ts.length (flat hs) := h.2.2.2.1
theorem St.geB (h : St w0 b B g kk ns vN vH vI ts hs W) : B ≤ g := h.2.2.2.2.2.2.2.1
theorem St.lt (h : St w0 b B g kk ns vN vH vI ts hs W) : g < W.heap.size := Rv.lt_of_blk h.2.1
theorem St.push (h : St w0 b B g kk ns vN vH vI ts hs W) {five : List Value} (hown : W'.ownsRow B 26 5 v' (ts.length + 1) (flat hs ++ five)) (hg : W.grownBy W' vI.ownBlock) (hat : v'.ownBlock = vI.ownBlock ∨ ∃ k, v'.ownBlock = some k ∧ W.heap.size ≤ k)
    (hj : JN (fun x => E ≤ x) W t v) (hf : v.cells.toList = five) (hE : g < E) (hN : ∀ k, vN.ownBlock = some k → k < E) (hI : ∀ k, vI.ownBlock = some k → k < E) (hBE : B ≤ E) : St w0 b B g kk ns vN vH v' (ts ++ [t]) (hs ++ [v]) W' := by
  obtain ⟨h1, h2, h3, h4, h5, h6, h7, h8, h9, h10⟩ := h
  have hlt := Rv.lt_of_blk h2
  have new : ∀ x, Fr B g vN vI x → x < W.heap.size → Fr B g vN v' x := fun x hx hl => ⟨hx.1, hx.2.1, hx.2.2.1, fun e => by
    rcases hat with ha | ⟨k, hk, hk2⟩
    · exact hx.2.2.2 (e.trans ha)
    · rw [hk] at e; injection e with e; omega⟩
  have key : ∀ {p : Nat → Prop} {t : J} {v : Value}, JN p W t v → (∀ x, x < W.heap.size → p x → Fr B g vN vI x) → JN (Fr B g vN v') W' t v := fun {p t v} hj hp =>
    ((hj.weak (q := fun x => Fr B g vN vI x ∧ x < W.heap.size) (fun x hl hx => ⟨hp x hl hx, hl⟩)).grown hg (fun x hx => hx.1.2.2.2)).weak (fun x _ hx => new x hx.1 hx.2)
  have hjs : JNs (Fr B g vN v') W' ts hs := ((h5.weak (q := fun x => Fr B g vN vI x ∧ x < W.heap.size) (fun x hl hx => ⟨hx, hl⟩)).grown hg (fun x hx => hx.1.2.2.2)).weak (fun x _ hx => new x hx.1 hx.2)
  refine ⟨h1.grown hg (fun k hk => ?_), blk_grown h2 hg h7, own_other h3 h4 (by decide) hg, ?_, hjs.push (key hj fun x hl hx => ⟨Nat.le_trans hBE hx, fun e => by have hx : E ≤ x := hx; omega, fun e => by have := hN x e.symm; have hx : E ≤ x := hx; omega, fun e => by have := hI x e.symm; have hx : E ≤ x := hx; omega⟩), h6, ?_, h8, h9, h10⟩
  · have := (h4.lt k hk).1
    exact ⟨by omega, by omega⟩
  · have e : flat [v] = five := by rw [← hf]; simp
    rw [List.length_append, flat_app, e]
    exact hown
  · intro e
    rcases hat with ha | ⟨k, hk, hk2⟩
    · exact h7 (e.trans ha)
    · rw [hk] at e; injection e with e; omega
theorem St.keepg (h : St w0 b B g kk ns vN vH vI ts hs W) (j : Nat) (u : Value) : Mst w0 (W.setCell ⟨g, j, none⟩ u) b ∧ (W.setCell ⟨g, j, none⟩ u).ownsRow B 9 1 vN ns.length (strs ns) ∧ (W.setCell ⟨g, j, none⟩ u).ownsRow B 26 5 vI ts.length (flat hs) ∧ JNs (Fr B g vN vI) (W.setCell ⟨g, j, none⟩ u) ts hs := by
  obtain ⟨h1, h2, h3, h4, h5, h6, h7, h8, h9, h10⟩ := h
  have hg := grown_set (Below.refl _ W) g j u
  exact ⟨h1.grown hg (fun k hk => by injection hk with hk; omega), own_kept h3 hg (fun k hk e => h6 (by rw [← e, hk])), own_kept h4 hg (fun k hk e => h7 (by rw [← e, hk])), h5.grown hg (fun x hx e => by injection e with e; exact hx.2.1 e)⟩
theorem St.store4 (h : St w0 b B g kk ns vN vH vI ts hs W) : St w0 b B g kk ns vN vI vI ts hs (W.setCell ⟨g, 4, none⟩ vI) := by
  obtain ⟨k1, k2, k3, k4⟩ := h.keepg 4 vI
  obtain ⟨h1, h2, h3, h4, h5, h6⟩ := h
  exact ⟨k1, Rv.set_cell1 4 vI h2, k2, k3, k4, h6⟩
theorem St.name (h : St w0 b B g kk ns vN vI vI ts hs W) {x : ByteArray} (hown : W'.ownsRow B 9 1 v' (ns.length + 1) (strs ns ++ [.string x])) (hg : W.grownBy W' vN.ownBlock) (hat : v'.ownBlock = vN.ownBlock ∨ ∃ k, v'.ownBlock = some k ∧ W.heap.size ≤ k) :
    W'.heap[g]? = some (.cells #[.int .i64 kk, .int .i64 0, .string ⟨#[]⟩, vN, vI] 26 (0, 0)) ∧ St w0 b B g kk (ns ++ [x]) v' vI vI ts hs (W'.setCell ⟨g, 3, none⟩ v') := by
  obtain ⟨h1, h2, h3, h4, h5, h6, h7, h8, h9, h10⟩ := h
  have hlt := Rv.lt_of_blk h2
  have h2' := blk_grown h2 hg h6
  refine ⟨h2', ?_⟩
  have new : ∀ x, Fr B g vN vI x → x < W.heap.size → Fr B g v' vI x := fun x hx hl => ⟨hx.1, hx.2.1, fun e => by
    rcases hat with ha | ⟨k, hk, hk2⟩
    · exact hx.2.2.1 (e.trans ha)
    · rw [hk] at e; injection e with e; omega, hx.2.2.2⟩
  have hne : some g ≠ v'.ownBlock := fun e => by
    rcases hat with ha | ⟨k, hk, hk2⟩
    · exact h6 (e.trans ha)
    · rw [hk] at e; injection e with e; omega
  have hjs : JNs (Fr B g v' vI) W' ts hs := ((h5.weak (q := fun x => Fr B g vN vI x ∧ x < W.heap.size) (fun x hl hx => ⟨hx, hl⟩)).grown hg (fun x hx => hx.1.2.2.1)).weak (fun x _ hx => new x hx.1 hx.2)
  have hs2 := grown_set (Below.refl _ W') g 3 v'
  refine ⟨(h1.grown hg (fun k hk => by have := (h3.lt k hk).1; exact ⟨by omega, by omega⟩)).grown hs2 (fun k hk => by injection hk with hk; omega), Rv.set_cell1 3 v' h2', ?_, own_kept (own_other h4 h3 (by decide) hg) hs2 (fun k hk e => h7 (by rw [← e, hk])), hjs.grown hs2 (fun x hx e => by injection e with e; exact hx.2.1 e), hne, h7, h8, h9, h10⟩
  refine own_kept (v := v') ?_ hs2 (fun k hk e => hne (by rw [← e, hk]))
  rw [List.length_append]
  simpa [strs] using hown
/-- As a value that is done. -/
theorem St.done {A A2 : Option Addr} {c c2 : Nat} (h : St w0 b B g kk ns (.slice A ns.length c) vH (.slice A2 ts.length c2) ts hs W) : JN (fun x => B ≤ x) W (.mk kk 0 ⟨#[]⟩ ns ts) (.agg #[.int .i64 kk, .int .i64 0, .string ⟨#[]⟩, .slice A ns.length c, .slice A2 ts.length c2]) := by
  obtain ⟨h1, h2, h3, h4, h5, h6, h7, h8, h9, h10⟩ := h
  exact ⟨A, c, A2, c2, hs, rfl, (Rp.own h3).weak (fun x _ hx => hx.1), (Rp.own h4).weak (fun x _ hx => hx.1), h5.weak (fun x _ hx => hx.1)⟩
end
/-- The ghost of a region whose operation N alone turns what Pr speaks of. -/
def Jp (N : Nat) (Pr : World → Prop) (L : Nat → Bool) (f : Nat → Value) (w : World) : Prop := L N = false → Pr w
theorem Jp.loc {N s : Nat} (hN : N < s) {Pr : World → Prop} : ∀ (L L' : Nat → Bool) (f f' : Nat → Value) (w : World), (∀ k, k < s → L k = L' k) → (∀ k, k < s → f k = f' k) → Jp N Pr L f w → Jp N Pr L' f' w :=
  fun L L' f f' w h _ k h2 => k (by rw [h N hN]; exact h2)
theorem Jp.keep {N i : Nat} (hi : i ≠ N) {Pr : World → Prop} {w w' : World} {L : Nat → Bool} {f f' : Nat → Value} (h : Jp N Pr L f w) (hp : Pr w → Pr w') : Jp N Pr (Rv.put L i) f' w' := fun h2 =>
  hp (h (by unfold Rv.put at h2; rwa [if_neg (fun e => hi e.symm)] at h2))
theorem Jp.last {N : Nat} {Pr : World → Prop} {w : World} {L : Nat → Bool} {f : Nat → Value} : Jp N Pr (Rv.put L N) f w := fun h2 => by
  unfold Rv.put at h2
  rw [if_pos rfl] at h2
  cases h2
theorem info26 : (Try.prog.info? 26).map (fun i => (i.zero, i.size, i.bytes)) = some (some (.agg #[.int .i64 0, .int .i64 0, .string ⟨#[]⟩, .slice none 0 0, .slice none 0 0]), 5, 80) := by kernel_rfl
theorem info9 : (Try.prog.info? 9).map (fun i => (i.zero, i.size, i.bytes)) = some (some (.string ⟨#[]⟩), 1, 16) := by kernel_rfl
/-- A new node. -/
def Nd (E : Nat) (W : World) (t : J) (v : Value) : Prop := Wf t ∧ JN (fun x => E ≤ x) W t v
theorem Nd.below {E : Nat} {W W' : World} {t : J} {v : Value} (h : Nd E W t v) (hb : Below W.heap.size W W') : Nd E W' t v := ⟨h.1, h.2.below hb⟩
theorem five_cells {p : Nat → Prop} {W : World} {t : J} {v : Value} (h : JN p W t v) : ∃ a c d e f, v = .agg #[a, c, d, e, f] ∧ ∀ u ∈ [a, c, d, e, f], u.oneCell' = true := by
  obtain ⟨A, c, A2, c2, e, _⟩ := h.five
  exact ⟨_, _, _, _, _, e, by simp [Value.oneCell']⟩
end Go.Proofs.Ytmelgankbegjaaa.Js
