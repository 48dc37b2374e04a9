/- The builtin copy of rows whose elements take several cells (the kit has it for one cell alone). Conditions: those written at each lemma. -/
import Derived.Test.YtfnogpelaoofbaaGreatDoorRub
import Derived.Laws.CopyOwn
import Derived.Deep.WholeRow
set_option linter.unusedVariables false
set_option linter.unusedSimpArgs false
set_option maxRecDepth 100000
namespace Go.Proofs.YtfnogpelaoofbaaGreatDoor.Rg
open Go.RowKit Go.Proofs.YtfnogpelaoofbaaGreatDoor.B

theorem run_copy_rows {P : Program} (w : World) (dT sT ty elem : TypeId) (g o dLen dCap sz : Nat) (a : Addr) (sLen sCap : Nat) (cur : Array Value) (t : TypeId) (cs : List Value)
    (hu : P.underlying dT = some (.slice elem)) (hs : (P.info? elem).map (·.size) = some sz)
    (hg : w.heap[g]? = some (.cells cur t (0, 0))) (hn : cs.length = Nat.min sLen dLen * sz)
    (hsrc : ∀ j v, cs[j]? = some v → w.cell? (a.add j) = some v) (hfit : o + cs.length ≤ cur.size) (h1 : ∀ v ∈ cs, v.oneCell' = true) :
    (Builtin.copy_ #[dT, sT] ty #[.slice (some ⟨g, o, none⟩) dLen dCap, .slice (some a) sLen sCap]).run P w =
      .ok (goInt (Nat.min sLen dLen)) (w.setRow g (cur.toList.take o ++ cs ++ cur.toList.drop (o + cs.length)).toArray) := by
  have hl := run_loadCells_list (P := P) w a cs hsrc
  have hst := run_storeCells_at P g o t cs 0 cur w hg (by simpa using hfit) h1
  cases hq : P.info? elem with
  | none => simp [hq] at hs
  | some i =>
    have hi : i.size = sz := by simpa [hq] using hs
    rw [hn] at hl
    simp [Builtin.copy_, run_underlying hu, Builtin.lenOf, Builtin.firstCells, sizeOf, typeInfo, hq, hi, hl, hst]

/-- Copy of a range: a new row with the same cells. -/
theorem copy_any (v : Value) (n : Nat) (xs : List Value) (w : World) (hr : Rd w 3 v n xs) (h1 : ∀ u ∈ xs, u.oneCell' = true) (hpos : 0 < n) (hl : n ≤ 100000) :
    Calls Tryz.prog 72 #[v] w fun e w' => ∃ u, e = .returned u ∧ w'.ownsRow w.heap.size 92 3 u n xs ∧ Below w.heap.size w w' := by
  have hlen := hr.len
  obtain ⟨b, o, c, rfl, hlc, hcm, hb, hc⟩ := hr.open hpos
  obtain ⟨i0, hi, hz0, hz1, hz2⟩ := info_parts info64
  have hmk : ∀ W, (Instr.makeSlice 63 (.int .i64 (n : Int)) (.int .i64 (n : Int))).run Tryz.prog W = .ok (.slice (some ⟨W.heap.size, 0, none⟩) n n) (W.alloc (.cells (madeCells #[.nilIface, .nilIface, .nilIface] (n * 3)) 92)) := fun W => by
    have h := run_make (P := Tryz.prog) W 63 92 i0 (.agg #[.nilIface, .nilIface, .nilIface]) Tryz.underlying63 hi hz0 .i64 .i64 n n (by omega) (Int.le_refl _) (by rw [hz2]; omega) (by omega)
    rw [hz1, Int.toNat_natCast] at h
    exact h
  have hA : Below w.heap.size w (w.alloc (.cells (madeCells #[.nilIface, .nilIface, .nilIface] (n * 3)) 92)) := (Below.refl _ _).alloc (Nat.le_refl _) _
  have hcp : (Builtin.copy_ #[63, 63] 3 #[.slice (some ⟨w.heap.size, 0, none⟩) n n, .slice (some ⟨b, o, none⟩) n c]).run Tryz.prog (w.alloc (.cells (madeCells #[.nilIface, .nilIface, .nilIface] (n * 3)) 92)) = .ok (goInt n) (w.alloc (.cells xs.toArray 92)) := by
    have hmin : Nat.min n n = n := Nat.min_self n
    have h := run_copy_rows (P := Tryz.prog) (w.alloc (.cells (madeCells #[.nilIface, .nilIface, .nilIface] (n * 3)) 92)) 63 63 3 92 w.heap.size 0 n n 3 ⟨b, o, none⟩ n c (madeCells #[.nilIface, .nilIface, .nilIface] (n * 3)) 92 xs Tryz.underlying63 (by rw [hi]; exact congrArg some hz1) (heap_alloc_new w _) (by rw [hlen, hmin])
      (fun j u hu => by rw [show (⟨b, o, none⟩ : Addr).add j = ⟨b, o + j, none⟩ from by simp [Addr.add]]; exact (hA.cell (p := ⟨b, o + j, none⟩) hb).trans (hc j u hu)) (by rw [size_madeCells, hlen]; simp) h1
    rw [h, hmin, World.setRow_alloc_new]
    congr 2
    rw [Nat.zero_add, hlen, List.take_zero, List.nil_append, List.drop_of_length_le (by rw [Array.length_toList, size_madeCells]; simp), List.append_nil]
  have HB := Lib.hid (show Below w.heap.size w (w.alloc (.cells xs.toArray 92)) from (Below.refl _ _).alloc (Nat.le_refl _) _)
  have HO := Lib.hid (show (w.alloc (.cells xs.toArray 92)).ownsRow w.heap.size 92 3 (.slice (some ⟨w.heap.size, 0, none⟩) n n) n xs from by
    have h := World.ownsRow_lit (base := w.heap.size) (e := 92) (size := 3) w xs.toArray n (Nat.le_refl _) (by simp [maxLen]; omega) (by simpa using hlen)
    simpa using h)
  clear hr h1 hc hi hz0 hz1 hz2 hA hlen hb
  go_enter Tryz.func72, Tryz.ntmps72
  go_wp2
  go_ret
  exact ⟨_, rfl, HO.out, HB.out⟩
end Go.Proofs.YtfnogpelaoofbaaGreatDoor.Rg
