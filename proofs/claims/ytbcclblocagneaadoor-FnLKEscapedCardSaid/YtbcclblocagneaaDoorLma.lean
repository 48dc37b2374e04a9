/- LKMatch: the matcher is made and asked. Conditions: the listed tables of unicode/utf8 read as listed; those written at each lemma. -/
import Derived.Test.YtbcclblocagneaaDoorLkz
import Derived.Defers
import Derived.Recover
set_option linter.unusedVariables false
set_option linter.unusedSimpArgs false
set_option maxRecDepth 100000
set_option maxHeartbeats 8000000
namespace Go.Proofs.YtbcclblocagneaaDoor.Lk
open Go.RowKit Go.Proofs.YtbcclblocagneaaDoor.B

theorem caught_idle (p : Addr) (w : World) :
    CallsD Tryd.prog 52 #[.pointer (some p)] .returning w fun e u' w' => e = .returned (.tuple #[]) ∧ u' = .returning ∧ w' = w := by
  refine callsD_of_wpS Tryd.func52 rfl fun c₀ cs hu => ?_
  apply wpS_seq
  apply wpS_region
  simp [wpOpsS, go_sem, recoverD, hu, Tryd.ntmps52, Exit.thenS]
  refine wpS_cond (t := false) (by simp [Act.eval, Array.replicate]) ?_
  simp only [Bool.false_eq_true, if_false]
  refine wpS_of_wp (wp_skip ?_)
  cases c₀
  simp_all [bodyPostS, results, Tryd.results52]

theorem match_zero (T : List Int) (An : Option Addr) (cn : Nat) (w : World) :
    Calls Tryd.prog 56 #[mtV (.slice An 0 cn), .string (str T)] w fun e w' => e = .returned (.bool (decide (T.length = 0))) ∧ Below w.heap.size w w' := by
  have HA : Hid (Below w.heap.size w (w.alloc (mt (.slice An 0 cn)))) := Lib.hid ((Below.refl _ _).alloc (Nat.le_refl _) _)
  cases T with
  | nil =>
    have hz : (((str []).size : Nat) : Int) = 0 := by rw [str_nil]; rfl
    have hd : decide (([] : List Int).length = 0) = true := rfl
    rw [hd]
    clear hd
    generalize str [] = S at *
    go_enter Tryd.func56, Tryd.ntmps56
    go_wp2
    go_ret
    exact ⟨rfl, HA.out⟩
  | cons r T =>
    have hz : (((str (r :: T)).size : Nat) : Int) ≠ 0 := by have := str_pos r T; omega
    have hz2 : ((((str (r :: T)).size : Nat) : Int) == 0) = false := by rw [beq_eq_false_iff_ne]; exact hz
    have hd : decide ((r :: T).length = 0) = false := by simp
    rw [hd]
    clear hd
    generalize str (r :: T) = S at *
    go_enter Tryd.func56, Tryd.ntmps56
    go_wp2
    go_ret
    exact ⟨rfl, HA.out⟩

theorem runs_nil {T : List Int} {n i : Nat} {S : List Nat} {b : Bool} (h : Runs [] T n i S b) (hS : S = []) (hi : i = 0) : b = decide (T.length = 0) := by
  subst hS
  subst hi
  cases h with
  | done h1 h2 => simp [← h1]
  | fullNone h1 h2 h3 => have : T.length ≠ 0 := by omega
                         simp [this]
  | fullSome h1 h2 h3 _ => cases h3
  | rest h1 h2 => cases h2
  | any h1 h2 _ => cases h2
  | eq h1 h2 _ _ => cases h2
  | neNone h1 h2 _ _ => cases h2
  | neSome h1 h2 _ _ _ => cases h2

theorem match_all (nodes : List Nd) (T : List Int) (An : Option Addr) (cn n : Nat) (b : Bool) (w : World) (hT : Tab w) (hab : ∀ r ∈ T, r ∈ AB) (hr : Rd w 1 (.slice An nodes.length cn) nodes.length (nodes.map Nd.v))
    (hno : ∀ r, .one r ∈ nodes → 0 < r) (hR : Runs nodes T n 0 [] b) (hTl : T.length ≤ 100000) (hNl : nodes.length ≤ 100000) :
    Calls Tryd.prog 56 #[mtV (.slice An nodes.length cn), .string (str T)] w fun e w' => e = .returned (.bool b) ∧ Below w.heap.size w w' := by
  cases nodes with
  | nil => rw [runs_nil hR rfl rfl]; exact match_zero T An cn w
  | cons x l => exact match_any (x :: l) T An cn n b w hT hab hr (Nat.succ_pos _) hno hR hTl hNl

abbrev fb (b : Bool) : Obj := .cells #[.bool b] 4
theorem blk_keep {W W1 : World} {g : Nat} {o : Obj} (h : W.heap[g]? = some o) (hb : Below W.heap.size W W1) : W1.heap[g]? = some o := (hb.block _ (lt_blk h)).trans h
theorem fb_cells {W : World} {g : Nat} {b : Bool} (h : W.heap[g]? = some (fb b)) : W.cell? ⟨g, 0, none⟩ = some (.bool b) ∧ W.frozen? ⟨g, 0, none⟩ = false := by
  refine ⟨?_, ?_⟩
  · simp [World.cell?, h]
  · simp [World.frozen?, h]

theorem lkm_any (ts : List Tok) (T : List Int) (n : Nat) (b : Bool) (w : World) (hT : Tab w) (hok : ∀ t ∈ ts, t.ok) (hab : ∀ r ∈ T, r ∈ AB) (hR : Runs (ts.map Tok.nd) T n 0 [] b)
    (hl : (toksR ts).length ≤ 100000) (hl2 : ts.length ≤ 100000) (hTl : T.length ≤ 100000) :
    Calls Tryd.prog 15 #[.bool false, .string (str (toksR ts)), .int .i32 92, .string (str T)] w fun e w' => e = .returned (.tuple #[.bool b, .bool true]) ∧ Below w.heap.size w w' := by
  have hA : Below w.heap.size w (w.alloc (fb false)) := (Below.refl _ _).alloc (Nat.le_refl _) _
  have HA := Lib.hid hA
  have HT := Lib.hid (tab_below hT hA)
  have H0 := Lib.hid (heap_alloc_new w (fb false))
  have HNO : Hid (∀ r, Nd.one r ∈ ts.map Tok.nd → 0 < r) := Lib.hid (fun r hr => by
    obtain ⟨t, ht, e⟩ := List.mem_map.1 hr
    have ho := hok t ht
    cases t with
    | pl x => injection e with e; subst e; exact (ab_pos ho.1).1
    | es x => injection e with e; subst e; exact (ab_pos ho).1
    | pc => cases e)
  have MK := Lib.hid (fun W (hW : Tab W) => make_any ts W hW hok hl hl2)
  have MT := Lib.hid (fun (A : Option Addr) (c : Nat) (W : World) (hW : Tab W) (hr : Rd W 1 (.slice A ts.length c) ts.length ((ts.map Tok.nd).map Nd.v)) => match_all (ts.map Tok.nd) T A c n b W hW hab (by rw [List.length_map]; exact hr) HNO.out hR hTl (by rw [List.length_map]; exact hl2))
  simp only [List.length_map] at MT
  generalize hL : ts.length = L at *
  generalize str (toksR ts) = P at *
  generalize str T = S at *
  generalize (ts.map Tok.nd).map Nd.v = NS at *
  clear hT hA hok hab hR hl hTl HNO hL
  go_enter_defers Tryd.func15, Tryd.ntmps15
  go_wp2_with (first
    | (go_at_call 55; (with_reducible refine (MK.out _ HT.out).mono ?_); rintro e w1 ⟨A1, c1, rfl, hr1, hb1⟩; have B1 := Lib.hid (HA.out.trans (hb1.mono HA.out.size)); have H1 := Lib.hid (blk_keep H0.out hb1); have T1 := Lib.hid (tab_below HT.out hb1); have A2 := Lib.hid ((Below.refl w1.heap.size w1).alloc (Nat.le_refl _) (mt (.slice A1 L c1))); have R2 := Lib.hid (hr1.below A2.out); have T2 := Lib.hid (tab_below T1.out A2.out); have H2 := Lib.hid (blk_keep H1.out A2.out); have B2 := Lib.hid (B1.out.trans (A2.out.mono B1.out.size)); clear hr1 hb1)
    | (go_at_call 56; (with_reducible refine (MT.out A1 c1 _ T2.out R2.out).mono ?_); rintro e w3 ⟨rfl, hb3⟩; have B3 := Lib.hid (B2.out.trans (hb3.mono B2.out.size)); have H3 := Lib.hid (blk_keep H2.out hb3); obtain ⟨s0, t0⟩ := fb_cells H3.out; clear hb3))
  refine leaves_cons (f := 52) (args := #[.pointer (some ⟨w.heap.size, 0, none⟩)]) (by simp) (by simp [go_sem]) ?_
  refine (caught_idle ⟨w.heap.size, 0, none⟩ _).mono ?_
  rintro e u' w'' ⟨rfl, rfl, rfl⟩
  have q4 : (w3.setCell ⟨w.heap.size, 0, none⟩ (.bool true)).cell? ⟨w.heap.size, 0, none⟩ = some (.bool true) := by go_simp
  have BF := Lib.hid (B3.out.setCell (p := ⟨w.heap.size, 0, none⟩) (Nat.le_refl _) (.bool true))
  simp [Leaves, settle, results, go_sem, q4]
  exact BF.out
end Go.Proofs.YtbcclblocagneaaDoor.Lk
