/- The reference: all lists of places, one for each column. Conditions: those written at each lemma. -/
import Derived.Test.YtfnogpelaoofbaaGreatDoorRul
import Derived.Deep.Upon
set_option linter.unusedVariables false
set_option linter.unusedSimpArgs false
set_option maxRecDepth 100000
set_option maxHeartbeats 8000000
namespace Go.Proofs.YtfnogpelaoofbaaGreatDoor.Rg
open Go.RowKit Go.Proofs.YtfnogpelaoofbaaGreatDoor.B Go.Proofs.YtfnogpelaoofbaaGreatDoor.Sp

/-- append to an empty literal: a new row, nothing that was there turns. -/
theorem app_empty {P : Program} (w : World) (t ty e : TypeId) (z : Value) (size bytes : Nat) (ht : P.underlying t = some (.slice e)) (hinfo : (P.info? e).map (fun i => (i.zero, i.size, i.bytes)) = some (some z, size, bytes)) (hzs : z.cells.size = size)
    (hb0 : 0 < bytes) (g B : Nat) (hg : w.heap[g]? = some (.cells #[] e (0, 0))) (hB : B ≤ g) (hB2 : B ≤ w.heap.size) (u : Value) (m : Nat) (news : List Value) (hr : Rd w size u m news) (h1 : ∀ u ∈ news, u.oneCell' = true) (hbytes : m * bytes ≤ 140737488355328) :
    ∃ A c w', (Builtin.append_ #[t, t] ty #[.slice (some ⟨g, 0, none⟩) 0 0, u]).run P w = .ok (.slice A m c) w' ∧ w'.ownsRow B e size (.slice A m c) m news ∧ Below w.heap.size w w' := by
  obtain ⟨i, hi, hz, hsize, hby⟩ := info_parts hinfo
  have hlen : m ≤ 140737488355328 := Nat.le_trans (Nat.le_mul_of_pos_right _ hb0) hbytes
  rcases Nat.eq_zero_or_pos m with h0 | h0
  · subst h0
    obtain rfl : news = [] := List.eq_nil_of_length_eq_zero (by simpa using hr.len)
    have hrun : (Builtin.append_ #[t, t] ty #[.slice (some ⟨g, 0, none⟩) 0 0, u]).run P w = .ok (.slice (some ⟨g, 0, none⟩) 0 0) w := by
      obtain ⟨A, c, rfl, _⟩ := hr.shape
      cases A with
      | none => exact run_append_nothing w t t ty e i ht hi (some ⟨g, 0, none⟩) 0 0 (Nat.le_refl _) _ (Go.Src.ofNil w ht c)
      | some a => exact run_append_nothing w t t ty e i ht hi (some ⟨g, 0, none⟩) 0 0 (Nat.le_refl _) _ (Go.Src.ofSlice w ht a 0 c [] (by simp) (fun j u h => by simp at h) (fun u h => by cases h))
    exact ⟨_, _, _, hrun, ⟨by simp, .inr ⟨g, 0, #[], rfl, hB, hg, Nat.le_refl _, by simp [maxLen], by simp, by simp⟩⟩, Below.refl _ _⟩
  · obtain ⟨b, o, c, rfl, h2, h3, h4, h5⟩ := hr.open h0
    have hl : news.length = m * i.size := by rw [hsize]; exact hr.len
    have hrun := run_append_grow (P := P) w t ty e i z ht hi hz ⟨g, 0, none⟩ 0 0 [] (by simp) (fun j v h => by simp at h) ⟨b, o, none⟩ m c news hl (fun j v h => by rw [add_at]; exact h5 j v h) (by omega) (by omega) (by
      rw [Nat.zero_add, nextslicecap_zero h0, hby]; omega)
    simp only [Nat.zero_add, List.toArray, Array.empty_append] at hrun
    have hge := grownCap_ge w m 0 e
    have hcm : grownCap w m 0 e ≤ maxLen := grownCap_le_maxLen w m 0 e (by simp only [maxLen]; omega)
    refine ⟨_, _, _, hrun, ⟨hr.len, .inr ⟨w.heap.size, _, _, rfl, hB2, heap_alloc_new w.drew _, hge, hcm, ?_, ?_⟩⟩, (Below.refl _ _).drew.alloc (by simp) _⟩
    · have e1 := hr.len
      simp only [Array.size_append, List.size_toArray, size_zeroCells, hzs, e1, ← Nat.add_mul]
      congr 1
      omega
    · simp only [Array.toList_append]
      rw [← hr.len]
      exact List.take_left
/-- A list of numbers, in a row. -/
def OI (W : World) (u : Value) (l : List Int) : Prop := ∃ A c, u = .slice A l.length c ∧ W.ownsRow 0 3 1 u l.length (nums l)
theorem OI.below {W W1 : World} {v : Value} {l : List Int} (h : OI W v l) (hb : Below W.heap.size W W1) : OI W1 v l := by
  obtain ⟨A, c, h1, h2⟩ := h
  exact ⟨A, c, h1, own_below h2 hb⟩
theorem OI.of {W : World} {B : Nat} {A : Option Addr} {n c : Nat} {l : List Int} (h : W.ownsRow B 3 1 (.slice A n c) n (nums l)) (hn : n = l.length) : OI W (.slice A n c) l := by
  subst hn
  exact ⟨A, c, rfl, h.mono (Nat.zero_le _)⟩
theorem OI.grown {W W1 : World} {B : Nat} {v u : Value} {l : List Int} {n : Nat} {vs : List Value} (h : OI W v l) (hu : W.ownsRow B 41 1 u n vs) (hg : W.grownBy W1 u.ownBlock) : OI W1 v l := by
  obtain ⟨A, c, h1, h2⟩ := h
  exact ⟨A, c, h1, own_grown h2 hu (by decide) hg⟩
/-- The ghost of a region whose operation N is the only one that turns what was there ahead of it. -/
def Jn (N : Nat) (X : World) (L : Nat → Bool) (f : Nat → Value) (w : World) : Prop := L N = false → Below X.heap.size X w
theorem Jn.loc {N s : Nat} (hN : N < s) {X : World} : ∀ (L L' : Nat → Bool) (f f' : Nat → Value) (w : World), (∀ k, k < s → L k = L' k) → (∀ k, k < s → f k = f' k) → Jn N X L f w → Jn N X L' f' w :=
  fun L L' f f' w h _ k h2 => k (by rw [h N hN]; exact h2)
theorem Jn.keepX {N i : Nat} (hi : i ≠ N) {X w w' : World} {L : Nat → Bool} {f f' : Nat → Value} (h : Jn N X L f w) (hb : Below X.heap.size w w') : Jn N X (Rv.put L i) f' w' := fun h2 =>
  (h (by unfold Rv.put at h2; rwa [if_neg (fun e => hi e.symm)] at h2)).trans hb
theorem Jn.keep {N i : Nat} (hi : i ≠ N) {X w w' : World} {L : Nat → Bool} {f f' : Nat → Value} (hs : X.heap.size ≤ w.heap.size) (h : Jn N X L f w) (hb : Below w.heap.size w w') : Jn N X (Rv.put L i) f' w' := h.keepX hi (hb.mono hs)
theorem Jn.last {N : Nat} {X w : World} {L : Nat → Bool} {f : Nat → Value} : Jn N X (Rv.put L N) f w := fun h2 => by
  unfold Rv.put at h2
  rw [if_pos rfl] at h2
  cases h2
theorem grown_above {X W W' : World} {r s : Option Nat} (h : X.grownBy W r) (hg : W.grownBy W' s) (hs : ∀ k, s = some k → X.heap.size ≤ k) : X.grownBy W' r :=
  ⟨hg.os.trans h.os, hg.tape.trans h.tape, hg.output.trans h.output, Nat.le_trans h.size hg.size, fun k hk hn => (hg.block k (Nat.lt_of_lt_of_le hk h.size) (fun e => by have := hs k e.symm; omega)).trans (h.block k hk hn)⟩
theorem grown_then {X W W' : World} {r : Option Nat} (h : X.grownBy W r) (hg : W.grownBy W' r) : X.grownBy W' r :=
  ⟨hg.os.trans h.os, hg.tape.trans h.tape, hg.output.trans h.output, Nat.le_trans h.size hg.size, fun k hk hn => (hg.block k (Nat.lt_of_lt_of_le hk h.size) hn).trans (h.block k hk hn)⟩
theorem blkX {B g : Nat} {V : Value} {W W' : World} {o : Obj} (h : W.heap[g]? = some o) (hg : B ≤ g) (hl : ∀ k, V.ownBlock = some k → k < B) (hr : W.grownBy W' V.ownBlock) : W'.heap[g]? = some o :=
  (hr.block g (Rv.lt_of_blk h) (fun e => by have := hl g e.symm; omega)).trans h
theorem ownX {B s n : Nat} {e : TypeId} {V v : Value} {xs : List Value} {W W' : World} (h : W.ownsRow B e s v n xs) (hl : ∀ k, V.ownBlock = some k → k < B) (hr : W.grownBy W' V.ownBlock) : W'.ownsRow B e s v n xs := own_grown_lt h hl hr
theorem rdX {B g : Nat} {V : Value} {xs : List Value} {W W' : World} (h : Rd W 1 (.slice (some ⟨g, 0, none⟩) 1 1) 1 xs) (hg : B ≤ g) (hl : ∀ k, V.ownBlock = some k → k < B) (hr : W.grownBy W' V.ownBlock) : Rd W' 1 (.slice (some ⟨g, 0, none⟩) 1 1) 1 xs := by
  obtain ⟨h1, A, c, e, h2, h3, h4⟩ := h
  refine ⟨h1, A, c, e, h2, h3, fun hn => ?_⟩
  obtain ⟨b, o, hA, hb, hc⟩ := h4 hn
  injection e with e1 _ e3
  rw [hA] at e1
  injection e1 with e1
  injection e1 with e1 e2 _
  subst e1
  exact ⟨_, o, hA, Nat.lt_of_lt_of_le hb hr.size, fun j u hu => (World.cell?_of_block (w := W) (hr.block g hb (fun e => absurd (hl g e.symm) (by omega)))).trans (hc j u hu)⟩
theorem nums_one {l : List Int} : ∀ u ∈ nums l, u.oneCell' = true := one_map (fun _ => rfl) l
theorem info41 : (Tryz.prog.info? 41).map (fun i => (i.zero, i.size, i.bytes)) = some (some (.slice none 0 0), 1, 24) := by kernel_rfl
/-- The row that the region leaves: one list more. -/
def Rw (Y W : World) (m : Nat) (vs : List Value) (os : List Int) (x : Int) (v : Value) : Prop :=
  ∃ A9 c9 A10 c10, v = .slice A10 (m + 1) c10 ∧ W.ownsRow Y.heap.size 41 1 v (m + 1) (vs ++ [.slice A9 (os.length + 1) c9]) ∧ W.ownsRow 0 3 1 (.slice A9 (os.length + 1) c9) (os.length + 1) (nums (os ++ [x]))
theorem Rw.below {Y W W1 : World} {m : Nat} {vs : List Value} {os : List Int} {x : Int} {v : Value} (h : Rw Y W m vs os x v) (hb : Below W.heap.size W W1) : Rw Y W1 m vs os x v := by
  obtain ⟨A9, c9, A10, c10, e, h1, h2⟩ := h
  exact ⟨A9, c9, A10, c10, e, own_below h1 hb, own_below h2 hb⟩
theorem pow_step {k m P : Nat} (h : m ≤ 201 ^ k) (hP : P ≤ 201) : m * P ≤ 201 ^ (k + 1) := by
  rw [Nat.pow_succ]
  exact Nat.mul_le_mul h hP
theorem pow_max {k m : Nat} (h : m ≤ 201 ^ k) (hk : k ≤ 3) : m ≤ 8120601 := Nat.le_trans h (Nat.pow_le_pow_right (by omega) hk)

theorem all_any (v : Value) (ls : List (List Cl)) (n : Nat) (w : World) (hr : RL w v ls) (hp : ∀ l ∈ ls, ∀ c ∈ l, Pcl c) (hn : n ≤ 3) (hl : ls.length ≤ 100) :
    Calls Tryz.prog 17 #[v, .int .i64 (n : Int)] w fun e w' => ∃ A c vs ats, e = .returned (.slice A ats.length c) ∧ w'.ownsRow w.heap.size 41 1 (.slice A ats.length c) ats.length vs ∧ All1 (OI w') vs ats ∧ (∀ a ∈ ats, a.length = n) ∧ Below w.heap.size w w' := by
  have CO := Lib.hid (fun k (hk : k ≤ 1000) W (hb : Below w.heap.size w W) => column_any v ls k W (hr.below hb) hk (by omega))
  have PL := Lib.hid (fun k u W (h : W.ownsRow w.heap.size 54 4 u (colL ls k).length (clc (colL ls k))) => places_any u (colL ls k) W (Rd.of_own h) (fun c hc => by
    obtain ⟨l, h1, h2⟩ := colL_mem hc
    exact hp l h1 c h2) (by have := colL_len ls k; omega))
  have HL := Lib.hid (fun k => colL_len ls k)
  have HN := Lib.hid (World.ownsRow_lit (base := w.heap.size) (e := 41) (size := 1) w #[.slice none 0 0] 1 (Nat.le_refl _) (by simp [maxLen]) rfl)
  have HB0 := Lib.hid ((Below.refl w.heap.size w).alloc (Nat.le_refl _) (.cells #[.slice none 0 0] 41))
  clear hr hp
  go_enter Tryz.func17, Tryz.ntmps17
  go_wp2
  go_loopw [5, 6] (fun v5 v6 wr => ∃ (k : Nat) (os : List (List Int)) (vs : List Value), v6 = .int .i64 k ∧ k ≤ n ∧ os.length ≤ 201 ^ k ∧ Hid (∀ a ∈ os, a.length = k) ∧ Hid (wr.ownsRow w.heap.size 41 1 v5 os.length vs) ∧ Hid (All1 (OI wr) vs os) ∧ Hid (Below w.heap.size w wr)) (fun _ v6 _ => (n - (intOf v6)).toNat)
  case atStart =>
    refine ⟨0, [[]], [.slice none 0 0], rfl, Nat.zero_le _, by simp, Lib.hid (fun a ha => by rw [List.mem_singleton.1 ha]; rfl), HN, Lib.hid ⟨rfl, fun i h1 h2 => ?_⟩, HB0⟩
    obtain rfl : i = 0 := by simp at h1; omega
    exact ⟨none, 0, rfl, World.ownsRow_nil _ _ _ _⟩
  case round =>
    obtain ⟨k, os, vs, rfl, hk, hos, HK, HO, HA, HB⟩ := hrel
    clear HN HB0
    by_cases hlt : k < n
    · have hk3 : k ≤ 1000 := by omega
      go_wp2_with (first
        | (go_at_call 38; (with_reducible refine (CO.out k hk3 _ HB.out).mono ?_); rintro e w1 ⟨u1, rfl, ho1, hb1⟩; have B1 := Lib.hid (HB.out.trans (hb1.mono HB.out.size)); have O1' := Lib.hid (own_below HO.out hb1); have A1' := Lib.hid (HA.out.imp fun _ _ h => h.below hb1); have U1 := Lib.hid (ho1.mono HB.out.size); clear ho1 hb1)
        | (go_at_call 37; (with_reducible refine (PL.out k u1 _ U1.out).mono ?_); rintro e w2 ⟨A7, c7, ps, rfl, hr7, hps, hb2⟩; have B2 := Lib.hid (B1.out.trans (hb2.mono B1.out.size)); have O2 := Lib.hid (own_below O1'.out hb2); have A2 := Lib.hid (A1'.out.imp fun _ _ h => h.below hb2); have R7 := Lib.hid hr7; clear hr7 hb2))
      have hP : ps.length ≤ 201 := by have := HL.out k; omega
      have hT := pow_step hos hP
      have hTm := pow_max hT (by omega)
      have hom := pow_max hos (by omega)
      obtain ⟨A5, c5, e5, _⟩ := (Rd.of_own O2.out).shape
      subst e5
      have hvl : vs.length = os.length := by have := O2.out.1; omega
      clear HB HO HA O1' A1' U1 B1
      generalize hTT : os.length * ps.length = T at *
      have HTT := Lib.hid hTT
      clear hTT
      obtain ⟨Y, rfl⟩ : ∃ Y : World, Y = w2 := ⟨_, rfl⟩
      go_loopw [8, 9, 10] (fun v8 v9 v10 wr => ∃ (i m : Nat) (L : List (List Int)) (us : List Value), v9 = .int .i64 i ∧ i ≤ os.length ∧ m = i * ps.length ∧ L.length = m ∧ Hid (∀ a ∈ L, a.length = k + 1) ∧ Hid (wr.ownsRow Y.heap.size 41 1 v8 m us) ∧ Hid (All1 (OI wr) us L) ∧ Hid (Below Y.heap.size Y wr)) (fun _ v9 _ _ => (os.length - (intOf v9)).toNat)
      case atStart => exact ⟨0, 0, [], [], rfl, Nat.zero_le _, by simp, rfl, Lib.hid (fun a ha => by cases ha), Lib.hid (World.ownsRow_nil _ _ _ _), Lib.hid (All1.nil _), Lib.hid (Below.refl _ _)⟩
      case round =>
        obtain ⟨i1, m, L, us, rfl, hi, hm, hLm, HLk, HO, HA, HB⟩ := hrel
        by_cases hli : i1 < os.length
        · have hsucc : (i1 + 1) * ps.length = i1 * ps.length + ps.length := Nat.succ_mul _ _
          have hle : (i1 + 1) * ps.length ≤ T := by rw [← HTT.out]; exact Nat.mul_le_mul_right _ hli
          go_wp2
          go_loopw [8, 10] (fun v8 v10 wr => ∃ (j m' : Nat) (L : List (List Int)) (us : List Value), v10 = .int .i64 j ∧ j ≤ ps.length ∧ m' = m + j ∧ L.length = m' ∧ Hid (∀ a ∈ L, a.length = k + 1) ∧ Hid (wr.ownsRow Y.heap.size 41 1 v8 m' us) ∧ Hid (All1 (OI wr) us L) ∧ Hid (Below Y.heap.size Y wr)) (fun _ v10 _ => (ps.length - (intOf v10)).toNat)
          case atStart => exact ⟨0, m, L, us, rfl, Nat.zero_le _, rfl, hLm, HLk, HO, HA, HB⟩
          case round =>
            clear HLk HO HA HB hLm
            obtain ⟨j1, m', L, us, rfl, hj, hm', hLm, HLk, HO, HA, HB⟩ := hrel
            by_cases hlj : j1 < ps.length
            · obtain ⟨b5, o5, c5', e5, _, _, hb5, hc5⟩ := (Rd.of_own O2.out).open (by omega)
              injection e5 with e51 e52 e53
              subst e51 e53
              obtain ⟨b7, o7, e7, hb7, hc7⟩ := rd_num R7.out j1 hlj
              subst e7
              obtain ⟨A3, c3, e3, ho3⟩ := A2.out.2 i1 (by omega) hli
              have hcell := hc5 i1 _ (List.getElem?_eq_getElem (show i1 < vs.length by omega))
              rw [e3] at hcell ho3
              have R3 := Lib.hid (Rd.of_own ho3)
              have HIK := HK.out _ (List.getElem_mem hli)
              have C5 := Lib.hid hcell
              have C7 := Lib.hid hc7
              clear hcell hc5 hc7 ho3 e3
              generalize os[i1] = o at *
              generalize ps[j1] = x at *
              have hol : o.length ≤ 3 := by omega
              have hul : us.length = m' := by have := HO.out.1; omega
              have hm8 : m' + 1 ≤ 10000000 := by omega
              obtain ⟨V8, hV8⟩ : ∃ V, u8 = V := ⟨_, rfl⟩
              rw [hV8] at HO
              have HLT := Lib.hid HO.out.lt
              go_upto_region 13 with fail
              rw [hV8]
              obtain ⟨X, rfl⟩ : ∃ X : World, X = wr := ⟨_, rfl⟩
              have HLX := Lib.hid (fun k hk => (HLT.out k hk).2)
              refine Rv.region_fin (n := 50) (by kernel_rfl) #[33, 34, 35, 36, 37, 38, 39, 40, 41, 42, 43, 44, 45, 46, 47, 8] #[] (fun i f W => if i = 15 then (fun f W => Rw Y W m' us o x (f 15)) f W else if i = 14 then (fun f W => Rw Y W m' us o x (f 14)) f W else if i = 13 then (fun f W => ∃ g A9 c9, f 13 = .slice (some ⟨g, 0, none⟩) 1 1 ∧ X.heap.size ≤ g ∧ Rd W 1 (.slice (some ⟨g, 0, none⟩) 1 1) 1 [.slice A9 (o.length + 1) c9] ∧ W.ownsRow X.heap.size 3 1 (.slice A9 (o.length + 1) c9) (o.length + 1) (nums (o ++ [x]))) f W else if i = 12 then (fun f W => ∃ A9 c9, f 12 = .slice A9 (o.length + 1) c9 ∧ W.ownsRow X.heap.size 3 1 (.slice A9 (o.length + 1) c9) (o.length + 1) (nums (o ++ [x]))) f W else if i = 11 then (fun f W => ∃ g, f 11 = .slice (some ⟨g, 0, none⟩) 1 1 ∧ X.heap.size ≤ g ∧ Rd W 1 (.slice (some ⟨g, 0, none⟩) 1 1) 1 [.int .i64 x]) f W else if i = 6 then (fun f W => ∃ A9 c9, f 6 = .slice A9 o.length c9 ∧ W.ownsRow X.heap.size 3 1 (.slice A9 o.length c9) o.length (nums o)) f W else if i = 1 then (fun f W => ∃ g, f 1 = .slice (some ⟨g, 0, none⟩) 0 0 ∧ X.heap.size ≤ g ∧ W.heap[g]? = some (.cells #[] 3 (0, 0))) f W else f i = (#[V8, undef, .slice (some ⟨b5, o5, none⟩) os.length c5, .int .i64 (i1 : Int), .pointer (some ⟨b5, o5 + i1, none⟩), .slice A3 o.length c3, undef, .slice (some ⟨b7, o7, none⟩) ps.length c7, .int .i64 (j1 : Int), .pointer (some ⟨b7, o7 + j1, none⟩), .int .i64 x, undef, undef, undef, undef, undef] : Array Value).getD i undef) (fun i j => (i == 12 && (j == 1 || j == 6 || j == 11))) (fun i => i == 12 || i == 14) (fun i f W W' => if i = 14 then (fun f W W' => W.grownBy W' V8.ownBlock) f W W' else if i = 12 then (fun f W W' => Below X.heap.size W W') f W W' else True) (fun W => X.grownBy W V8.ownBlock ∧ Below Y.heap.size Y W) (fun _ => True) (Jn 14 X) (Jn.loc (by show 14 < 16; omega)) (fun i f f' w hi h hd hg => ?_) (fun i j f w w' hi hj hij hK hdp h hr => ?_) (fun i h g b hg => ?_) rfl (by kernel_rfl) (fun i h g b hg => ?_) (⟨grown_of_below ((Below.refl _ _).drew) _, HB.out.drew⟩) (trivial) (fun f _ => (Below.refl _ _).drew) (fun i h hr f w hf => ?_) (fun i h hr => absurd hr (Rv.allrun (by kernel_rfl) i h)) ?_ ?_
              · by_cases hi8 : i = 15
                · subst hi8
                  rw [if_pos rfl] at hg ⊢
                  show Rw Y w m' us o x (f' 15)
                  rw [← h]
                  exact hg
                rw [if_neg hi8] at hg ⊢
                by_cases hi47 : i = 14
                · subst hi47
                  rw [if_pos rfl] at hg ⊢
                  show Rw Y w m' us o x (f' 14)
                  rw [← h]
                  exact hg
                rw [if_neg hi47] at hg ⊢
                by_cases hi46 : i = 13
                · subst hi46
                  rw [if_pos rfl] at hg ⊢
                  obtain ⟨g, A9, c9, q1, q2⟩ := hg
                  exact ⟨g, A9, c9, h.symm.trans q1, q2⟩
                rw [if_neg hi46] at hg ⊢
                by_cases hi45 : i = 12
                · subst hi45
                  rw [if_pos rfl] at hg ⊢
                  obtain ⟨A9, c9, q1, q2⟩ := hg
                  exact ⟨A9, c9, h.symm.trans q1, q2⟩
                rw [if_neg hi45] at hg ⊢
                by_cases hi44 : i = 11
                · subst hi44
                  rw [if_pos rfl] at hg ⊢
                  obtain ⟨g, q1, q2⟩ := hg
                  exact ⟨g, h.symm.trans q1, q2⟩
                rw [if_neg hi44] at hg ⊢
                by_cases hi39 : i = 6
                · subst hi39
                  rw [if_pos rfl] at hg ⊢
                  obtain ⟨A9, c9, q1, q2⟩ := hg
                  exact ⟨A9, c9, h.symm.trans q1, q2⟩
                rw [if_neg hi39] at hg ⊢
                by_cases hi34 : i = 1
                · subst hi34
                  rw [if_pos rfl] at hg ⊢
                  obtain ⟨g, q1, q2⟩ := hg
                  exact ⟨g, h.symm.trans q1, q2⟩
                rw [if_neg hi34] at hg ⊢
                rw [← h]; exact hg
              · by_cases hj8 : j = 15
                · subst hj8
                  rw [if_pos rfl] at h ⊢
                  rcases hr with ⟨hK1, hr⟩ | hr
                  · have hi2 : i = 12 ∨ i = 14 := by simpa using hK1
                    rcases hi2 with e | e
                    · subst e; exfalso; revert hdp; decide
                    · subst e; exfalso; revert hdp; decide
                  · exact h.below hr
                rw [if_neg hj8] at h ⊢
                by_cases hj47 : j = 14
                · subst hj47
                  rw [if_pos rfl] at h ⊢
                  rcases hr with ⟨hK1, hr⟩ | hr
                  · have hi2 : i = 12 ∨ i = 14 := by simpa using hK1
                    rcases hi2 with e | e
                    · subst e; exfalso; revert hdp; decide
                    · exact absurd e hij
                  · exact h.below hr
                rw [if_neg hj47] at h ⊢
                by_cases hj46 : j = 13
                · subst hj46
                  rw [if_pos rfl] at h ⊢
                  rcases hr with ⟨hK1, hr⟩ | hr
                  · have hi2 : i = 12 ∨ i = 14 := by simpa using hK1
                    rcases hi2 with e | e
                    · subst e; exfalso; revert hdp; decide
                    · subst e
                      have hr2 : w.grownBy w' V8.ownBlock := hr
                      obtain ⟨g, A9, c9, e, h1, h2, h3⟩ := h
                      exact ⟨g, A9, c9, e, h1, rdX h2 h1 HLX.out hr2, ownX h3 HLX.out hr2⟩
                  · obtain ⟨g, A9, c9, e, h1, h2, h3⟩ := h
                    exact ⟨g, A9, c9, e, h1, h2.below hr, own_below h3 hr⟩
                rw [if_neg hj46] at h ⊢
                by_cases hj45 : j = 12
                · subst hj45
                  rw [if_pos rfl] at h ⊢
                  rcases hr with ⟨hK1, hr⟩ | hr
                  · have hi2 : i = 12 ∨ i = 14 := by simpa using hK1
                    rcases hi2 with e | e
                    · exact absurd e hij
                    · subst e
                      have hr2 : w.grownBy w' V8.ownBlock := hr
                      obtain ⟨A9, c9, e, h2⟩ := h
                      exact ⟨A9, c9, e, ownX h2 HLX.out hr2⟩
                  · obtain ⟨A9, c9, e, h2⟩ := h
                    exact ⟨A9, c9, e, own_below h2 hr⟩
                rw [if_neg hj45] at h ⊢
                by_cases hj44 : j = 11
                · subst hj44
                  rw [if_pos rfl] at h ⊢
                  rcases hr with ⟨hK1, hr⟩ | hr
                  · have hi2 : i = 12 ∨ i = 14 := by simpa using hK1
                    rcases hi2 with e | e
                    · subst e; exfalso; revert hK; decide
                    · subst e
                      have hr2 : w.grownBy w' V8.ownBlock := hr
                      obtain ⟨g, e, h1, h2⟩ := h
                      exact ⟨g, e, h1, rdX h2 h1 HLX.out hr2⟩
                  · obtain ⟨g, e, h1, h2⟩ := h
                    exact ⟨g, e, h1, h2.below hr⟩
                rw [if_neg hj44] at h ⊢
                by_cases hj39 : j = 6
                · subst hj39
                  rw [if_pos rfl] at h ⊢
                  rcases hr with ⟨hK1, hr⟩ | hr
                  · have hi2 : i = 12 ∨ i = 14 := by simpa using hK1
                    rcases hi2 with e | e
                    · subst e; exfalso; revert hK; decide
                    · subst e
                      have hr2 : w.grownBy w' V8.ownBlock := hr
                      obtain ⟨A9, c9, e, h2⟩ := h
                      exact ⟨A9, c9, e, ownX h2 HLX.out hr2⟩
                  · obtain ⟨A9, c9, e, h2⟩ := h
                    exact ⟨A9, c9, e, own_below h2 hr⟩
                rw [if_neg hj39] at h ⊢
                by_cases hj34 : j = 1
                · subst hj34
                  rw [if_pos rfl] at h ⊢
                  rcases hr with ⟨hK1, hr⟩ | hr
                  · have hi2 : i = 12 ∨ i = 14 := by simpa using hK1
                    rcases hi2 with e | e
                    · subst e; exfalso; revert hK; decide
                    · subst e
                      have hr2 : w.grownBy w' V8.ownBlock := hr
                      obtain ⟨g, e, h2, h3⟩ := h
                      exact ⟨g, e, h2, blkX h3 h2 HLX.out hr2⟩
                  · obtain ⟨g, e, h2, h3⟩ := h
                    exact ⟨g, e, h2, (hr.block _ (Rv.lt_of_blk h3)).trans h3⟩
                rw [if_neg hj34] at h ⊢
                exact h
              · match i, h, hg with
                | 0, _, hg => cases hg
                | 1, _, hg => cases hg
                | 2, _, hg => cases hg
                | 3, _, hg => cases hg
                | 4, _, hg => cases hg
                | 5, _, hg => cases hg
                | 6, _, hg => cases hg
                | 7, _, hg => cases hg
                | 8, _, hg => cases hg
                | 9, _, hg => cases hg
                | 10, _, hg => cases hg
                | 11, _, hg => cases hg
                | 12, _, hg => cases hg
                | 13, _, hg => cases hg
                | 14, _, hg => cases hg
                | 15, _, hg => cases hg
                | m + 16, h, _ => exact absurd h (by show ¬ m + 16 < 16; omega)
              · match i, h, hg with
                | 0, _, hg => cases hg
                | 1, _, hg => cases hg
                | 2, _, hg => cases hg
                | 3, _, hg => cases hg
                | 4, _, hg => cases hg
                | 5, _, hg => cases hg
                | 6, _, hg => cases hg
                | 7, _, hg => cases hg
                | 8, _, hg => cases hg
                | 9, _, hg => cases hg
                | 10, _, hg => cases hg
                | 11, _, hg => cases hg
                | 12, _, hg => cases hg
                | 13, _, hg => cases hg
                | 14, _, hg => cases hg
                | 15, _, hg => cases hg
                | m + 16, h, _ => exact absurd h (by show ¬ m + 16 < 16; omega)
              · match i, h, hr, hf with
                | 0, _, hr, _ => exact Bool.noConfusion (show true = false from hr)
                | 1, _, hr, _ => exact Bool.noConfusion (show true = false from hr)
                | 2, _, hr, _ => exact Bool.noConfusion (show true = false from hr)
                | 3, _, hr, _ => exact Bool.noConfusion (show true = false from hr)
                | 4, _, hr, _ => exact Bool.noConfusion (show true = false from hr)
                | 5, _, hr, _ => exact Bool.noConfusion (show true = false from hr)
                | 6, _, hr, _ => exact Bool.noConfusion (show true = false from hr)
                | 7, _, hr, _ => exact Bool.noConfusion (show true = false from hr)
                | 8, _, hr, _ => exact Bool.noConfusion (show true = false from hr)
                | 9, _, hr, _ => exact Bool.noConfusion (show true = false from hr)
                | 10, _, hr, _ => exact Bool.noConfusion (show true = false from hr)
                | 11, _, hr, _ => exact Bool.noConfusion (show true = false from hr)
                | 12, _, hr, _ => exact Bool.noConfusion (show true = false from hr)
                | 13, _, hr, _ => exact Bool.noConfusion (show true = false from hr)
                | 14, _, hr, _ => exact Bool.noConfusion (show true = false from hr)
                | 15, _, hr, _ => exact Bool.noConfusion (show true = false from hr)
                | m + 16, h, _, _ => exact absurd h (by show ¬ m + 16 < 16; omega)
              · intro i h a W hrun hbase hpre hdep htr hta hJ
                have q5 := (htr.2.cell (p := ⟨b5, o5 + i1, none⟩) hb5).trans C5.out
                have q7 := (htr.2.cell (p := ⟨b7, o7 + j1, none⟩) hb7).trans C7.out
                have hXW := htr.1.size
                match i, h with
                | 0, _ =>
                  obtain ⟨e8, x8⟩ := Rv.ev (show a.tmps.getD 8 undef = V8 from hpre 15 (by show 15 < 16; omega) rfl)
                  exact Rv.step_op (op := Go.Op.move (Go.Operand.tmp 8)) (v := V8) (w1 := W) rfl rfl (fun d pos aft g => by unfold execOp; go_simp) ⟨_, rfl, rfl, .inr (Below.refl _ _), htr, fun _ ht => ht, fun L _ hJ => Jn.keep (by decide) htr.1.size hJ (Below.refl _ _)⟩
                | 1, _ =>
                  have hal : Below W.heap.size W (W.alloc (.cells #[] 3)) := (Below.refl _ _).alloc (Nat.le_refl _) _
                  exact Rv.step_op (op := Go.Op.buildSlice 41 0 #[]) (ty := 41) (v := .slice (some ⟨W.heap.size, 0, none⟩) 0 0) (w1 := W.alloc (.cells #[] 3)) rfl rfl (fun d pos aft g => by unfold execOp; go_simp) ⟨_, rfl, ⟨W.heap.size, rfl, htr.1.size, heap_alloc_new W _⟩, .inr hal, ⟨htr.1.trans (grown_of_below hal _), htr.2.trans (hal.mono htr.2.size)⟩, fun _ ht => ht, fun L _ hJ => Jn.keep (by decide) htr.1.size hJ hal⟩
                | 2, _ =>
                  obtain ⟨e5, x5⟩ := Rv.ev (show a.tmps.getD 5 undef = .slice (some ⟨b5, o5, none⟩) os.length c5 from hbase 5 rfl)
                  exact Rv.step_op (op := Go.Op.move (Go.Operand.tmp 5)) (v := .slice (some ⟨b5, o5, none⟩) os.length c5) (w1 := W) rfl rfl (fun d pos aft g => by unfold execOp; go_simp) ⟨_, rfl, rfl, .inr (Below.refl _ _), htr, fun _ ht => ht, fun L _ hJ => Jn.keep (by decide) htr.1.size hJ (Below.refl _ _)⟩
                | 3, _ =>
                  obtain ⟨e9, x9⟩ := Rv.ev (show a.tmps.getD 9 undef = .int .i64 (i1 : Int) from hbase 9 rfl)
                  exact Rv.step_op (op := Go.Op.move (Go.Operand.tmp 9)) (v := .int .i64 (i1 : Int)) (w1 := W) rfl rfl (fun d pos aft g => by unfold execOp; go_simp) ⟨_, rfl, rfl, .inr (Below.refl _ _), htr, fun _ ht => ht, fun L _ hJ => Jn.keep (by decide) htr.1.size hJ (Below.refl _ _)⟩
                | 4, _ =>
                  obtain ⟨e35, x35⟩ := Rv.ev (show a.tmps.getD 35 undef = .slice (some ⟨b5, o5, none⟩) os.length c5 from hdep 2 rfl rfl)
                  obtain ⟨e36, x36⟩ := Rv.ev (show a.tmps.getD 36 undef = .int .i64 (i1 : Int) from hdep 3 rfl rfl)
                  exact Rv.step_op (op := Go.Op.indexAddr 38 (Go.Operand.tmp 35) (Go.Operand.tmp 36)) (v := .pointer (some ⟨b5, o5 + i1, none⟩)) (w1 := W) rfl rfl (fun d pos aft g => by unfold execOp; go_simp) ⟨_, rfl, rfl, .inr (Below.refl _ _), htr, fun _ ht => ht, fun L _ hJ => Jn.keep (by decide) htr.1.size hJ (Below.refl _ _)⟩
                | 5, _ =>
                  obtain ⟨e37, x37⟩ := Rv.ev (show a.tmps.getD 37 undef = .pointer (some ⟨b5, o5 + i1, none⟩) from hdep 4 rfl rfl)
                  exact Rv.step_op (op := Go.Op.load 41 (Go.Operand.tmp 37)) (v := .slice A3 o.length c3) (w1 := W) rfl rfl (fun d pos aft g => by unfold execOp; go_simp) ⟨_, rfl, rfl, .inr (Below.refl _ _), htr, fun _ ht => ht, fun L _ hJ => Jn.keep (by decide) htr.1.size hJ (Below.refl _ _)⟩
                | 6, _ =>
                  obtain ⟨g4, e34', h34, k34⟩ : ∃ g, a.tmps.getD 34 undef = .slice (some ⟨g, 0, none⟩) 0 0 ∧ X.heap.size ≤ g ∧ W.heap[g]? = some (.cells #[] 3 (0, 0)) := hdep 1 rfl rfl
                  obtain ⟨e34, x34⟩ := Rv.ev e34'
                  obtain ⟨e38, x38⟩ := Rv.ev (show a.tmps.getD 38 undef = .slice A3 o.length c3 from hdep 5 rfl rfl)
                  have r38 := (R3.out.below htr.2)
                  obtain ⟨A9, c9, w9, hrun, ho9, hb9⟩ := app_empty (P := Tryz.prog) W 41 41 3 (.int .i64 0) 1 8 Tryz.underlying41 info3 rfl (by omega) g4 X.heap.size k34 h34 hXW _ _ _ r38 nums_one (by omega)
                  exact Rv.step_op (op := Go.Op.call { callee := Go.Callee.builtin Go.Builtin.append, args := #[Go.Operand.tmp 34, Go.Operand.tmp 38], argTypes := #[41, 41] }) (ty := 41) (v := .slice A9 o.length c9) (w1 := w9) rfl rfl (fun d pos aft g => by unfold execOp; simp only [resolve, invoke, builtin, Sem.run_bind, Sem.run_pure, Result.andThen_ok, List.map_toArray, List.map_cons, List.map_nil, e34, e38, hrun]) ⟨_, rfl, ⟨A9, c9, rfl, ho9⟩, .inr hb9, ⟨htr.1.trans (grown_of_below hb9 _), htr.2.trans (hb9.mono htr.2.size)⟩, fun _ ht => ht, fun L _ hJ => Jn.keep (by decide) htr.1.size hJ hb9⟩
                | 7, _ =>
                  obtain ⟨e7, x7⟩ := Rv.ev (show a.tmps.getD 7 undef = .slice (some ⟨b7, o7, none⟩) ps.length c7 from hbase 7 rfl)
                  exact Rv.step_op (op := Go.Op.move (Go.Operand.tmp 7)) (v := .slice (some ⟨b7, o7, none⟩) ps.length c7) (w1 := W) rfl rfl (fun d pos aft g => by unfold execOp; go_simp) ⟨_, rfl, rfl, .inr (Below.refl _ _), htr, fun _ ht => ht, fun L _ hJ => Jn.keep (by decide) htr.1.size hJ (Below.refl _ _)⟩
                | 8, _ =>
                  obtain ⟨e10, x10⟩ := Rv.ev (show a.tmps.getD 10 undef = .int .i64 (j1 : Int) from hbase 10 rfl)
                  exact Rv.step_op (op := Go.Op.move (Go.Operand.tmp 10)) (v := .int .i64 (j1 : Int)) (w1 := W) rfl rfl (fun d pos aft g => by unfold execOp; go_simp) ⟨_, rfl, rfl, .inr (Below.refl _ _), htr, fun _ ht => ht, fun L _ hJ => Jn.keep (by decide) htr.1.size hJ (Below.refl _ _)⟩
                | 9, _ =>
                  obtain ⟨e40, x40⟩ := Rv.ev (show a.tmps.getD 40 undef = .slice (some ⟨b7, o7, none⟩) ps.length c7 from hdep 7 rfl rfl)
                  obtain ⟨e41, x41⟩ := Rv.ev (show a.tmps.getD 41 undef = .int .i64 (j1 : Int) from hdep 8 rfl rfl)
                  exact Rv.step_op (op := Go.Op.indexAddr 41 (Go.Operand.tmp 40) (Go.Operand.tmp 41)) (v := .pointer (some ⟨b7, o7 + j1, none⟩)) (w1 := W) rfl rfl (fun d pos aft g => by unfold execOp; go_simp) ⟨_, rfl, rfl, .inr (Below.refl _ _), htr, fun _ ht => ht, fun L _ hJ => Jn.keep (by decide) htr.1.size hJ (Below.refl _ _)⟩
                | 10, _ =>
                  obtain ⟨e42, x42⟩ := Rv.ev (show a.tmps.getD 42 undef = .pointer (some ⟨b7, o7 + j1, none⟩) from hdep 9 rfl rfl)
                  exact Rv.step_op (op := Go.Op.load 3 (Go.Operand.tmp 42)) (v := .int .i64 x) (w1 := W) rfl rfl (fun d pos aft g => by unfold execOp; go_simp) ⟨_, rfl, rfl, .inr (Below.refl _ _), htr, fun _ ht => ht, fun L _ hJ => Jn.keep (by decide) htr.1.size hJ (Below.refl _ _)⟩
                | 11, _ =>
                  obtain ⟨e43, x43⟩ := Rv.ev (show a.tmps.getD 43 undef = .int .i64 x from hdep 10 rfl rfl)
                  have hal : Below W.heap.size W (W.alloc (.cells #[.int .i64 x] 3)) := (Below.refl _ _).alloc (Nat.le_refl _) _
                  exact Rv.step_op (op := Go.Op.buildSlice 41 1 #[(0, Go.Operand.tmp 43)]) (ty := 41) (v := .slice (some ⟨W.heap.size, 0, none⟩) 1 1) (w1 := W.alloc (.cells #[.int .i64 x] 3)) rfl rfl (fun d pos aft g => by unfold execOp; go_simp) ⟨_, rfl, ⟨W.heap.size, rfl, htr.1.size, Rd.of_own (World.ownsRow_lit (base := W.heap.size) (e := 3) (size := 1) W #[.int .i64 x] 1 (Nat.le_refl _) (by simp [maxLen]) rfl)⟩, .inr hal, ⟨htr.1.trans (grown_of_below hal _), htr.2.trans (hal.mono htr.2.size)⟩, fun _ ht => ht, fun L _ hJ => Jn.keep (by decide) htr.1.size hJ hal⟩
                | 12, _ =>
                  obtain ⟨A9, c9, e39', h39⟩ : ∃ A9 c9, a.tmps.getD 39 undef = .slice A9 o.length c9 ∧ W.ownsRow X.heap.size 3 1 (.slice A9 o.length c9) o.length (nums o) := hdep 6 rfl rfl
                  obtain ⟨e39, x39⟩ := Rv.ev e39'
                  obtain ⟨g5, e44', k44, h44⟩ : ∃ g, a.tmps.getD 44 undef = .slice (some ⟨g, 0, none⟩) 1 1 ∧ X.heap.size ≤ g ∧ Rd W 1 (.slice (some ⟨g, 0, none⟩) 1 1) 1 [.int .i64 x] := hdep 11 rfl rfl
                  obtain ⟨e44, x44⟩ := Rv.ev e44'
                  obtain ⟨v', w', hrun, h2, h3, _⟩ := run_append_rd (P := Tryz.prog) W X.heap.size 41 41 3 (.int .i64 0) 1 8 Tryz.underlying41 info3 rfl (by omega) (by omega) _ _ _ h39 _ _ _ h44 (by simp [Value.oneCell']) (by omega) hXW
                  obtain ⟨A9', c9', rfl, _⟩ := (Rd.of_own h2).shape
                  have hbx : Below X.heap.size W w' := (Below.refl _ W).grown h3 hXW (own_base h39)
                  have e1 : nums o ++ [.int .i64 x] = nums (o ++ [x]) := by simp
                  rw [e1] at h2
                  exact Rv.step_op (op := Go.Op.call { callee := Go.Callee.builtin Go.Builtin.append, args := #[Go.Operand.tmp 39, Go.Operand.tmp 44], argTypes := #[41, 41] }) (ty := 41) (v := .slice A9' (o.length + 1) c9') (w1 := w') rfl rfl (fun d pos aft g => by unfold execOp; simp only [resolve, invoke, builtin, Sem.run_bind, Sem.run_pure, Result.andThen_ok, List.map_toArray, List.map_cons, List.map_nil, e39, e44, hrun]) ⟨_, rfl, ⟨A9', c9', rfl, h2⟩, .inl ⟨rfl, hbx⟩, ⟨grown_above htr.1 h3 (own_base h39), htr.2.trans (hbx.mono HB.out.size)⟩, (fun h _ => by cases h), fun L _ hJ => Jn.keepX (by decide) hJ hbx⟩
                | 13, _ =>
                  obtain ⟨A9, c9, e45', h45⟩ : ∃ A9 c9, a.tmps.getD 45 undef = .slice A9 (o.length + 1) c9 ∧ W.ownsRow X.heap.size 3 1 (.slice A9 (o.length + 1) c9) (o.length + 1) (nums (o ++ [x])) := hdep 12 rfl rfl
                  obtain ⟨e45, x45⟩ := Rv.ev e45'
                  have hal : Below W.heap.size W (W.alloc (.cells #[.slice A9 (o.length + 1) c9] 41)) := (Below.refl _ _).alloc (Nat.le_refl _) _
                  exact Rv.step_op (op := Go.Op.buildSlice 38 1 #[(0, Go.Operand.tmp 45)]) (ty := 38) (v := .slice (some ⟨W.heap.size, 0, none⟩) 1 1) (w1 := W.alloc (.cells #[.slice A9 (o.length + 1) c9] 41)) rfl rfl (fun d pos aft g => by unfold execOp; go_simp) ⟨_, rfl, ⟨W.heap.size, A9, c9, rfl, htr.1.size, Rd.of_own (World.ownsRow_lit (base := W.heap.size) (e := 41) (size := 1) W #[.slice A9 (o.length + 1) c9] 1 (Nat.le_refl _) (by simp [maxLen]) rfl), own_below h45 hal⟩, .inr hal, ⟨htr.1.trans (grown_of_below hal _), htr.2.trans (hal.mono htr.2.size)⟩, fun _ ht => ht, fun L _ hJ => Jn.keep (by decide) htr.1.size hJ hal⟩
                | 14, _ =>
                  obtain ⟨e33, x33⟩ := Rv.ev (show a.tmps.getD 33 undef = V8 from hdep 0 rfl rfl)
                  obtain ⟨g6, A9, c9, e46', l46, h46, k46⟩ : ∃ g A9 c9, a.tmps.getD 46 undef = .slice (some ⟨g, 0, none⟩) 1 1 ∧ X.heap.size ≤ g ∧ Rd W 1 (.slice (some ⟨g, 0, none⟩) 1 1) 1 [.slice A9 (o.length + 1) c9] ∧ W.ownsRow X.heap.size 3 1 (.slice A9 (o.length + 1) c9) (o.length + 1) (nums (o ++ [x])) := hdep 13 rfl rfl
                  obtain ⟨e46, x46⟩ := Rv.ev e46'
                  have hown : W.ownsRow Y.heap.size 41 1 V8 m' us := by
                    obtain ⟨LL, hL14, _, hJ2⟩ := hJ
                    exact own_below HO.out (hJ2 hL14)
                  obtain ⟨v', w', hrun, h2, h3, _⟩ := run_append_rd (P := Tryz.prog) W Y.heap.size 38 38 41 (.slice none 0 0) 1 24 Tryz.underlying38 info41 rfl (by omega) (by omega) _ _ _ hown _ _ _ h46 (by simp [Value.oneCell']) (by omega) (Nat.le_trans HB.out.size hXW)
                  obtain ⟨A10, c10, rfl, _⟩ := (Rd.of_own h2).shape
                  exact Rv.step_op (op := Go.Op.call { callee := Go.Callee.builtin Go.Builtin.append, args := #[Go.Operand.tmp 33, Go.Operand.tmp 46], argTypes := #[38, 38] }) (ty := 38) (v := .slice A10 (m' + 1) c10) (w1 := w') rfl rfl (fun d pos aft g => by unfold execOp; simp only [resolve, invoke, builtin, Sem.run_bind, Sem.run_pure, Result.andThen_ok, List.map_toArray, List.map_cons, List.map_nil, e33, e46, hrun]) ⟨_, rfl, ⟨A9, c9, A10, c10, rfl, h2, (own_grown k46 hown (by decide) h3).mono (Nat.zero_le _)⟩, .inl ⟨rfl, h3⟩, ⟨grown_then htr.1 h3, htr.2.grown h3 (Nat.le_trans HB.out.size hXW) (own_base hown)⟩, (fun h _ => by cases h), fun L _ _ => Jn.last⟩
                | 15, _ =>
                  have k47 : Rw Y W m' us o x (a.tmps.getD 47 undef) := hdep 14 rfl rfl
                  obtain ⟨v47, q47⟩ : ∃ v, a.tmps.getD 47 undef = v := ⟨_, rfl⟩
                  rw [q47] at k47
                  obtain ⟨e47, y47⟩ := Rv.ev q47
                  exact Rv.step_op (op := Go.Op.assign (Go.Operand.tmp 47)) (ty := 38) (v := v47) (w1 := W) rfl rfl (fun d pos aft g => by unfold execOp; go_simp) ⟨_, rfl, k47, .inr (Below.refl _ _), htr, (fun _ ht => ht), fun L _ hJ => Jn.keep (by decide) htr.1.size hJ (Below.refl _ _)⟩
                | m + 16, h => exact absurd h (by show ¬ m + 16 < 16; omega)
              intro W f hf htr hJ
              have f0 : f 0 = V8 := hf 0 (by show 0 < 16; omega) rfl
              have f2 : f 2 = .slice (some ⟨b5, o5, none⟩) os.length c5 := hf 2 (by show 2 < 16; omega) rfl
              have f3 : f 3 = .int .i64 (i1 : Int) := hf 3 (by show 3 < 16; omega) rfl
              have f4 : f 4 = .pointer (some ⟨b5, o5 + i1, none⟩) := hf 4 (by show 4 < 16; omega) rfl
              have f5 : f 5 = .slice A3 o.length c3 := hf 5 (by show 5 < 16; omega) rfl
              have f7 : f 7 = .slice (some ⟨b7, o7, none⟩) ps.length c7 := hf 7 (by show 7 < 16; omega) rfl
              have f8 : f 8 = .int .i64 (j1 : Int) := hf 8 (by show 8 < 16; omega) rfl
              have f9 : f 9 = .pointer (some ⟨b7, o7 + j1, none⟩) := hf 9 (by show 9 < 16; omega) rfl
              have f10 : f 10 = .int .i64 x := hf 10 (by show 10 < 16; omega) rfl
              have HS12 := Lib.hid (show (fun f W => ∃ A9 c9, f 12 = .slice A9 (o.length + 1) c9 ∧ W.ownsRow X.heap.size 3 1 (.slice A9 (o.length + 1) c9) (o.length + 1) (nums (o ++ [x]))) f W from hf 12 (by show 12 < 16; omega) rfl)
              have HS13 := Lib.hid (show (fun f W => ∃ g A9 c9, f 13 = .slice (some ⟨g, 0, none⟩) 1 1 ∧ X.heap.size ≤ g ∧ Rd W 1 (.slice (some ⟨g, 0, none⟩) 1 1) 1 [.slice A9 (o.length + 1) c9] ∧ W.ownsRow X.heap.size 3 1 (.slice A9 (o.length + 1) c9) (o.length + 1) (nums (o ++ [x]))) f W from hf 13 (by show 13 < 16; omega) rfl)
              have HS14 := Lib.hid (show (fun f W => Rw Y W m' us o x (f 14)) f W from hf 14 (by show 14 < 16; omega) rfl)
              have HS15 := Lib.hid (show (fun f W => Rw Y W m' us o x (f 15)) f W from hf 15 (by show 15 < 16; omega) rfl)
              clear hf
              refine (show ∀ (a : Act) (w : World), Code.wp _ _ _ a w → _ from by assumption) _ _ ?_
              refine Rv.fin_swap (L' := [(33, f 0), (34, f 1), (35, f 2), (36, f 3), (37, f 4), (38, f 5), (39, f 6), (40, f 7), (41, f 8), (42, f 9), (43, f 10), (44, f 11), (45, f 12), (46, f 13), (47, f 14), (8, f 15)]) rfl ?_
              rw [f0, f2, f3, f4, f5, f7, f8, f9, f10]
              clear f0 f2 f3 f4 f5 f7 f8 f9 f10
              simp only [Rv.fin, List.foldl_cons, List.foldl_nil, Act.put, List.setIfInBounds_toArray, List.set_cons_succ, List.set_cons_zero, List.set_nil]
              obtain ⟨A9, c9, A10, c10, e15, ho15, ho16⟩ := HS15.out
              rw [e15] at ho15 ⊢
              have HO15 := Lib.hid ho15
              have HX15 := Lib.hid ho16
              have HG15 := Lib.hid htr.1
              have HB15 := Lib.hid htr.2
              clear ho15 ho16 htr hJ HS15 HS14 e15
              generalize f 1 = x1 at *
              generalize f 6 = x6 at *
              generalize f 11 = x11 at *
              generalize f 12 = x12 at *
              generalize f 13 = x13 at *
              generalize f 14 = x14 at *
              generalize W = W2 at *
              go_wp2
              go_roundw
              case rel => exact ⟨j1 + 1, m' + 1, L ++ [o ++ [x]], us ++ [.slice A9 (o.length + 1) c9], by go_num, by omega, by omega, by simp [hLm], Lib.hid (fun a ha => by
                rcases List.mem_append.1 ha with h | h
                · exact HLk.out a h
                · rw [List.mem_singleton.1 h]; simp [HIK]), HO15, Lib.hid ((HA.out.imp fun _ _ h => h.grown HO.out HG15.out).push (OI.of HX15.out (by simp))), HB15⟩
              case measure => simp [intOf]; omega
            · obtain rfl : j1 = ps.length := by omega
              go_wp2
              go_roundw
              case rel => exact ⟨i1 + 1, m', L, us, by go_num, by omega, by omega, hLm, HLk, HO, HA, HB⟩
              case measure => simp [intOf]; omega
        · obtain rfl : i1 = os.length := by omega
          go_wp2
          go_roundw
          case rel => exact ⟨k + 1, L, us, by go_num, by omega, by rw [hLm, hm, HTT.out]; exact hT, HLk, Lib.hid (by rw [hLm]; exact HO.out.mono B2.out.size), HA, Lib.hid (B2.out.trans (HB.out.mono B2.out.size))⟩
          case measure => simp [intOf]; omega
    · obtain rfl : k = n := by omega
      obtain ⟨A5, c5, e5, _⟩ := (Rd.of_own HO.out).shape
      subst e5
      go_wp2
      go_ret
      exact ⟨A5, c5, vs, os, rfl, HO.out, HA.out, HK.out, HB.out⟩
end Go.Proofs.YtfnogpelaoofbaaGreatDoor.Rg
