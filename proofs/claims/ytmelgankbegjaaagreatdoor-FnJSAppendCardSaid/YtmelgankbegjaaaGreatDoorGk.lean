/- Part k of the chain. Conditions: those written at each lemma. -/
import Derived.Shelf.Small.Bits
import Derived.Shelf.Strconv.Itoa0
import Derived.Shelf.Sort.Plain
import Derived.Shelf.Slices.In.SortNone
import Derived.Shelf.Slices.In.SortNone2
import Derived.Test.YtmelgankbegjaaaGreatDoorProg
import Derived.Test.YtmelgankbegjaaaGreatDoorGj
import Derived.Sort.OwnSorted
import Derived.Deep.Cut
import Derived.Deep.Onto
import Derived.Handy
import Derived.Laws.Rows
namespace Go.Proofs
open Go.Shelf
def Tryz.lays128_ren : Go.Shelf.Ren := ⟨fun | 128 => 57 | n => n, fun | 51 => 114 | 3 => 3 | 4 => 4 | 46 => 67 | 5 => 5 | 9 => 9 | n => n, fun | n => n⟩
theorem Tryz.lays128 : Go.Proofs.Lays.n128 Tryz.prog Tryz.lays128_ren := {
  mixed := by kernel_rfl
  f128 := Tryz.func57.trans (congrArg some (by kernel_rfl))
  t3 := Tryz.underlying3
  a3 := Tryz.isAgg3
  z3 := Tryz.sizeOf3
  v3 := Tryz.zeroValue3
  t4 := Tryz.underlying4
  a4 := Tryz.isAgg4
  z4 := Tryz.sizeOf4
  v4 := Tryz.zeroValue4
  t5 := Tryz.underlying5
  a5 := Tryz.isAgg5
  z5 := Tryz.sizeOf5
  v5 := Tryz.zeroValue5
  t9 := Tryz.underlying9
  a9 := Tryz.isAgg9
  z9 := Tryz.sizeOf9
  v9 := Tryz.zeroValue9
  t46 := Tryz.underlying67
  a46 := Tryz.isAgg67
  z46 := Tryz.sizeOf67
  v46 := Tryz.zeroValue67
  t51 := Tryz.underlying114
  a51 := Tryz.isAgg114
  z51 := Tryz.sizeOf114
  v51 := Tryz.zeroValue114 }
/-- bits.Len32: "Len32 returns the minimum number of bits required to represent x; the result is 0 for x == 0.": IT RETURNS 'Lib.bitLen x'; the world is as it was. ('h0', 'h1': x is a uint32.) (LAID: no walk: one application.) -/
theorem Tryz.bits_Len32 (x : Int) (w : World) (h0 : 0 ≤ x) (h1 : x ≤ 4294967295) :
    Calls Tryz.prog 57 #[.int .u32 x] w fun e w' => e = .returned (.int .i64 (Lib.bitLen x.toNat)) ∧ w' = w := Any.bits_Len32 Tryz.lays128 x w h0 h1
def Tryz.lays125_ren : Go.Shelf.Ren := ⟨fun | 125 => 41 | 128 => 57 | 129 => 58 | n => n, fun | 46 => 67 | 3 => 3 | 51 => 114 | 53 => 31 | 4 => 4 | 5 => 5 | 9 => 9 | n => n, fun | n => n⟩
theorem Tryz.lays125 : Go.Proofs.Lays.n125 Tryz.prog Tryz.lays125_ren := {
  mixed := by kernel_rfl
  f125 := Tryz.func41.trans (congrArg some (by kernel_rfl))
  f128 := Tryz.func57.trans (congrArg some (by kernel_rfl))
  f129 := Tryz.func58.trans (congrArg some (by kernel_rfl))
  t3 := Tryz.underlying3
  a3 := Tryz.isAgg3
  z3 := Tryz.sizeOf3
  v3 := Tryz.zeroValue3
  t4 := Tryz.underlying4
  a4 := Tryz.isAgg4
  z4 := Tryz.sizeOf4
  v4 := Tryz.zeroValue4
  t5 := Tryz.underlying5
  a5 := Tryz.isAgg5
  z5 := Tryz.sizeOf5
  v5 := Tryz.zeroValue5
  t9 := Tryz.underlying9
  a9 := Tryz.isAgg9
  z9 := Tryz.sizeOf9
  v9 := Tryz.zeroValue9
  t46 := Tryz.underlying67
  a46 := Tryz.isAgg67
  z46 := Tryz.sizeOf67
  v46 := Tryz.zeroValue67
  t51 := Tryz.underlying114
  a51 := Tryz.isAgg114
  z51 := Tryz.sizeOf114
  v51 := Tryz.zeroValue114
  t53 := Tryz.underlying31
  a53 := Tryz.isAgg31
  z53 := Tryz.sizeOf31
  v53 := Tryz.zeroValue31 }
/-- bits.Len: "Len returns the minimum number of bits required to represent x; the result is 0 for x == 0.": IT RETURNS 'Lib.bitLen x'; the world is as it was. (A uint has 64 bits in the model.) ITS CALLEE bits.Len64 IS MET BY ITS OWN CONTRACT OFF THE SHELF (lay that first). (LAID: no walk: one application.) -/
theorem Tryz.bits_Len (x : Int) (w : World) (h0 : 0 ≤ x) (h1 : x ≤ 18446744073709551615) :
    Calls Tryz.prog 41 #[.int .u64 x] w fun e w' => e = .returned (.int .i64 (Lib.bitLen x.toNat)) ∧ w' = w := Any.bits_Len Tryz.lays125 x w h0 h1
def Tryz.lays129_ren : Go.Shelf.Ren := ⟨fun | 129 => 58 | n => n, fun | 53 => 31 | 3 => 3 | 4 => 4 | 46 => 67 | 5 => 5 | 9 => 9 | n => n, fun | n => n⟩
theorem Tryz.lays129 : Go.Proofs.Lays.n129 Tryz.prog Tryz.lays129_ren := {
  mixed := by kernel_rfl
  f129 := Tryz.func58.trans (congrArg some (by kernel_rfl))
  t3 := Tryz.underlying3
  a3 := Tryz.isAgg3
  z3 := Tryz.sizeOf3
  v3 := Tryz.zeroValue3
  t4 := Tryz.underlying4
  a4 := Tryz.isAgg4
  z4 := Tryz.sizeOf4
  v4 := Tryz.zeroValue4
  t5 := Tryz.underlying5
  a5 := Tryz.isAgg5
  z5 := Tryz.sizeOf5
  v5 := Tryz.zeroValue5
  t9 := Tryz.underlying9
  a9 := Tryz.isAgg9
  z9 := Tryz.sizeOf9
  v9 := Tryz.zeroValue9
  t46 := Tryz.underlying67
  a46 := Tryz.isAgg67
  z46 := Tryz.sizeOf67
  v46 := Tryz.zeroValue67
  t53 := Tryz.underlying31
  a53 := Tryz.isAgg31
  z53 := Tryz.sizeOf31
  v53 := Tryz.zeroValue31 }
/-- bits.Len64: "Len64 returns the minimum number of bits required to represent x; the result is 0 for x == 0.": IT RETURNS 'Lib.bitLen x'; the world is as it was. ('h0', 'h1': x is a uint64.) (LAID: no walk: one application.) -/
theorem Tryz.bits_Len64 (x : Int) (w : World) (h0 : 0 ≤ x) (h1 : x ≤ 18446744073709551615) :
    Calls Tryz.prog 58 #[.int .u64 x] w fun e w' => e = .returned (.int .i64 (Lib.bitLen x.toNat)) ∧ w' = w := Any.bits_Len64 Tryz.lays129 x w h0 h1
def Tryz.lays190_ren : Go.Shelf.Ren := ⟨fun | 190 => 37 | 125 => 41 | 258 => 40 | 128 => 57 | 129 => 58 | 302 => 48 | 303 => 49 | 304 => 50 | 305 => 51 | 306 => 52 | 307 => 53 | 308 => 54 | 309 => 55 | 310 => 56 | 333 => 64 | 329 => 65 | 330 => 66 | 334 => 67 | 335 => 68 | 336 => 69 | 344 => 79 | n => n, fun | 31 => 23 | 9 => 9 | 3 => 3 | 46 => 67 | 0 => 0 | 51 => 114 | 53 => 31 | 4 => 4 | 183 => 106 | 182 => 105 | 131 => 111 | 5 => 5 | 218 => 120 | 222 => 71 | 228 => 137 | 229 => 138 | n => n, fun | n => n⟩
theorem Tryz.lays190 : Go.Proofs.Lays.n190 Tryz.prog Tryz.lays190_ren := {
  mixed := by kernel_rfl
  f125 := Tryz.func41.trans (congrArg some (by kernel_rfl))
  f128 := Tryz.func57.trans (congrArg some (by kernel_rfl))
  f129 := Tryz.func58.trans (congrArg some (by kernel_rfl))
  f190 := Tryz.func37.trans (congrArg some (by kernel_rfl))
  f258 := Tryz.func40.trans (congrArg some (by kernel_rfl))
  f302 := Tryz.func48.trans (congrArg some (by kernel_rfl))
  f303 := Tryz.func49.trans (congrArg some (by kernel_rfl))
  f304 := Tryz.func50.trans (congrArg some (by kernel_rfl))
  f305 := Tryz.func51.trans (congrArg some (by kernel_rfl))
  f306 := Tryz.func52.trans (congrArg some (by kernel_rfl))
  f307 := Tryz.func53.trans (congrArg some (by kernel_rfl))
  f308 := Tryz.func54.trans (congrArg some (by kernel_rfl))
  f309 := Tryz.func55.trans (congrArg some (by kernel_rfl))
  f310 := Tryz.func56.trans (congrArg some (by kernel_rfl))
  f329 := Tryz.func65.trans (congrArg some (by kernel_rfl))
  f330 := Tryz.func66.trans (congrArg some (by kernel_rfl))
  f333 := Tryz.func64.trans (congrArg some (by kernel_rfl))
  f334 := Tryz.func67.trans (congrArg some (by kernel_rfl))
  f335 := Tryz.func68.trans (congrArg some (by kernel_rfl))
  f336 := Tryz.func69.trans (congrArg some (by kernel_rfl))
  f344 := Tryz.func79.trans (congrArg some (by kernel_rfl))
  t0 := Tryz.underlying0
  a0 := Tryz.isAgg0
  z0 := Tryz.sizeOf0
  v0 := Tryz.zeroValue0
  t3 := Tryz.underlying3
  a3 := Tryz.isAgg3
  z3 := Tryz.sizeOf3
  v3 := Tryz.zeroValue3
  t4 := Tryz.underlying4
  a4 := Tryz.isAgg4
  z4 := Tryz.sizeOf4
  v4 := Tryz.zeroValue4
  t5 := Tryz.underlying5
  a5 := Tryz.isAgg5
  z5 := Tryz.sizeOf5
  v5 := Tryz.zeroValue5
  t9 := Tryz.underlying9
  a9 := Tryz.isAgg9
  z9 := Tryz.sizeOf9
  v9 := Tryz.zeroValue9
  t31 := Tryz.underlying23
  a31 := Tryz.isAgg23
  z31 := Tryz.sizeOf23
  v31 := Tryz.zeroValue23
  t46 := Tryz.underlying67
  a46 := Tryz.isAgg67
  z46 := Tryz.sizeOf67
  v46 := Tryz.zeroValue67
  t51 := Tryz.underlying114
  a51 := Tryz.isAgg114
  z51 := Tryz.sizeOf114
  v51 := Tryz.zeroValue114
  t53 := Tryz.underlying31
  a53 := Tryz.isAgg31
  z53 := Tryz.sizeOf31
  v53 := Tryz.zeroValue31
  t131 := Tryz.underlying111
  a131 := Tryz.isAgg111
  z131 := Tryz.sizeOf111
  v131 := Tryz.zeroValue111
  t182 := Tryz.underlying105
  a182 := Tryz.isAgg105
  z182 := Tryz.sizeOf105
  v182 := Tryz.zeroValue105
  t183 := Tryz.underlying106
  a183 := Tryz.isAgg106
  z183 := Tryz.sizeOf106
  v183 := Tryz.zeroValue106
  t218 := Tryz.underlying120
  a218 := Tryz.isAgg120
  z218 := Tryz.sizeOf120
  v218 := Tryz.zeroValue120
  t222 := Tryz.underlying71
  a222 := Tryz.isAgg71
  z222 := Tryz.sizeOf71
  v222 := Tryz.zeroValue71
  t228 := Tryz.underlying137
  a228 := Tryz.isAgg137
  z228 := Tryz.sizeOf137
  v228 := Tryz.zeroValue137
  t229 := Tryz.underlying138
  a229 := Tryz.isAgg138
  z229 := Tryz.sizeOf138
  v229 := Tryz.zeroValue138 }
open Go.Sort Go.RowKit in
theorem Tryz.slices_Sort_string (blk off cap : Nat) (ss : List (List UInt8)) (w : World) (hH : Holds encStr w blk off ss.toArray) (hblk : blk < w.heap.size) (hsz : ss.length < 4611686018427387904) :
    Calls Tryz.prog 37 #[.slice (some ⟨blk, off, none⟩) ss.length cap] w fun e w' =>
      e = .returned (.tuple #[]) ∧ ∃ n os, w' = grow (putRow encStr (Sort.ahead w n) blk off (ss.mergeSort fun x y => decide (x ≤ y)).toArray) os := Any.slices_Sort_string Tryz.lays190 blk off cap ss w hH hblk hsz
def Tryz.lays192_ren : Go.Shelf.Ren := ⟨fun | 192 => 32 | 190 => 37 | 125 => 41 | 258 => 40 | 128 => 57 | 129 => 58 | 302 => 48 | 303 => 49 | 304 => 50 | 305 => 51 | 306 => 52 | 307 => 53 | 308 => 54 | 309 => 55 | 310 => 56 | 333 => 64 | 329 => 65 | 330 => 66 | 334 => 67 | 335 => 68 | 336 => 69 | 344 => 79 | n => n, fun | 31 => 23 | 0 => 0 | 9 => 9 | 3 => 3 | 46 => 67 | 51 => 114 | 53 => 31 | 4 => 4 | 183 => 106 | 182 => 105 | 131 => 111 | 5 => 5 | 218 => 120 | 222 => 71 | 228 => 137 | 229 => 138 | n => n, fun | n => n⟩
theorem Tryz.lays192 : Go.Proofs.Lays.n192 Tryz.prog Tryz.lays192_ren := {
  mixed := by kernel_rfl
  f125 := Tryz.func41.trans (congrArg some (by kernel_rfl))
  f128 := Tryz.func57.trans (congrArg some (by kernel_rfl))
  f129 := Tryz.func58.trans (congrArg some (by kernel_rfl))
  f190 := Tryz.func37.trans (congrArg some (by kernel_rfl))
  f192 := Tryz.func32.trans (congrArg some (by kernel_rfl))
  f258 := Tryz.func40.trans (congrArg some (by kernel_rfl))
  f302 := Tryz.func48.trans (congrArg some (by kernel_rfl))
  f303 := Tryz.func49.trans (congrArg some (by kernel_rfl))
  f304 := Tryz.func50.trans (congrArg some (by kernel_rfl))
  f305 := Tryz.func51.trans (congrArg some (by kernel_rfl))
  f306 := Tryz.func52.trans (congrArg some (by kernel_rfl))
  f307 := Tryz.func53.trans (congrArg some (by kernel_rfl))
  f308 := Tryz.func54.trans (congrArg some (by kernel_rfl))
  f309 := Tryz.func55.trans (congrArg some (by kernel_rfl))
  f310 := Tryz.func56.trans (congrArg some (by kernel_rfl))
  f329 := Tryz.func65.trans (congrArg some (by kernel_rfl))
  f330 := Tryz.func66.trans (congrArg some (by kernel_rfl))
  f333 := Tryz.func64.trans (congrArg some (by kernel_rfl))
  f334 := Tryz.func67.trans (congrArg some (by kernel_rfl))
  f335 := Tryz.func68.trans (congrArg some (by kernel_rfl))
  f336 := Tryz.func69.trans (congrArg some (by kernel_rfl))
  f344 := Tryz.func79.trans (congrArg some (by kernel_rfl))
  t0 := Tryz.underlying0
  a0 := Tryz.isAgg0
  z0 := Tryz.sizeOf0
  v0 := Tryz.zeroValue0
  t3 := Tryz.underlying3
  a3 := Tryz.isAgg3
  z3 := Tryz.sizeOf3
  v3 := Tryz.zeroValue3
  t4 := Tryz.underlying4
  a4 := Tryz.isAgg4
  z4 := Tryz.sizeOf4
  v4 := Tryz.zeroValue4
  t5 := Tryz.underlying5
  a5 := Tryz.isAgg5
  z5 := Tryz.sizeOf5
  v5 := Tryz.zeroValue5
  t9 := Tryz.underlying9
  a9 := Tryz.isAgg9
  z9 := Tryz.sizeOf9
  v9 := Tryz.zeroValue9
  t31 := Tryz.underlying23
  a31 := Tryz.isAgg23
  z31 := Tryz.sizeOf23
  v31 := Tryz.zeroValue23
  t46 := Tryz.underlying67
  a46 := Tryz.isAgg67
  z46 := Tryz.sizeOf67
  v46 := Tryz.zeroValue67
  t51 := Tryz.underlying114
  a51 := Tryz.isAgg114
  z51 := Tryz.sizeOf114
  v51 := Tryz.zeroValue114
  t53 := Tryz.underlying31
  a53 := Tryz.isAgg31
  z53 := Tryz.sizeOf31
  v53 := Tryz.zeroValue31
  t131 := Tryz.underlying111
  a131 := Tryz.isAgg111
  z131 := Tryz.sizeOf111
  v131 := Tryz.zeroValue111
  t182 := Tryz.underlying105
  a182 := Tryz.isAgg105
  z182 := Tryz.sizeOf105
  v182 := Tryz.zeroValue105
  t183 := Tryz.underlying106
  a183 := Tryz.isAgg106
  z183 := Tryz.sizeOf106
  v183 := Tryz.zeroValue106
  t218 := Tryz.underlying120
  a218 := Tryz.isAgg120
  z218 := Tryz.sizeOf120
  v218 := Tryz.zeroValue120
  t222 := Tryz.underlying71
  a222 := Tryz.isAgg71
  z222 := Tryz.sizeOf71
  v222 := Tryz.zeroValue71
  t228 := Tryz.underlying137
  a228 := Tryz.isAgg137
  z228 := Tryz.sizeOf137
  v228 := Tryz.zeroValue137
  t229 := Tryz.underlying138
  a229 := Tryz.isAgg138
  z229 := Tryz.sizeOf138
  v229 := Tryz.zeroValue138 }
open Go.Sort Go.RowKit in
theorem Tryz.sort_Strings (blk off cap : Nat) (ss : List (List UInt8)) (w : World) (hH : Holds encStr w blk off ss.toArray) (hblk : blk < w.heap.size) (hsz : ss.length < 4611686018427387904) :
    Calls Tryz.prog 32 #[.slice (some ⟨blk, off, none⟩) ss.length cap] w fun e w' =>
      e = .returned (.tuple #[]) ∧ ∃ n os, w' = grow (putRow encStr (Sort.ahead w n) blk off (ss.mergeSort fun x y => decide (x ≤ y)).toArray) os := Any.sort_Strings Tryz.lays192 blk off cap ss w hH hblk hsz
open Go.RowKit Go.Sort in
/-- .. and plain. (LAID: no walk: one application.) -/
theorem Tryz.slices_Sort_string_none (p : Option Addr) (cap : Nat) (w : World) :
    Calls Tryz.prog 37 #[.slice p 0 cap] w fun e w' => e = .returned (.tuple #[]) ∧ w' = w := Any.slices_Sort_string_none Tryz.lays190 p cap w
open Go.RowKit Go.Sort in
/-- .. and plain. (LAID: no walk: one application.) -/
theorem Tryz.sort_Strings_none (p : Option Addr) (cap : Nat) (w : World) :
    Calls Tryz.prog 32 #[.slice p 0 cap] w fun e w' => e = .returned (.tuple #[]) ∧ w' = w := Any.sort_Strings_none Tryz.lays192 p cap w
end Go.Proofs

set_option linter.unusedVariables false
set_option linter.unusedSimpArgs false
set_option maxRecDepth 100000
set_option maxHeartbeats 8000000
namespace Go.Proofs.YtmelgankbegjaaaGreatDoor.Js
open Go.RowKit Go.Proofs.YtmelgankbegjaaaGreatDoor.B Go.Sort

theorem same_key {x y : ByteArray} {left : Lit → Bool} : ((left (kl y) && !(kl y).sameKey (kl x)) = false) ↔ (left (kl y) = false ∨ y = x) := by
  rw [Bool.and_eq_false_iff]
  constructor
  · rintro (h | h)
    · exact .inl h
    · refine .inr (kl_inj (WideAt.sameKey_eq ?_))
      cases hh : (kl y).sameKey (kl x)
      · rw [hh] at h; cases h
      · rfl
  · rintro (h | rfl)
    · exact .inl h
    · exact .inr (by rw [WideAt.sameKey_self (kl_key y)]; rfl)
theorem strs_enc (ss : List ByteArray) : (ss.map fun x => x.data.toList).map encStr = strs ss := by
  rw [List.map_map]
  exact List.map_congr_left fun x _ => by simp [encStr]
theorem sort_any (B : Nat) (A : Option Addr) (c : Nat) (ss : List ByteArray) (w : World) (ho : w.ownsRow B 9 1 (.slice A ss.length c) ss.length (strs ss)) (h8 : ss.length ≤ 8) :
    Calls Tryz.prog 32 #[.slice A ss.length c] w fun e w' => ∃ ss2 : List ByteArray, e = .returned (.tuple #[]) ∧ ss2.Perm ss ∧ w'.ownsRow B 9 1 (.slice A ss.length c) ss.length (strs ss2) ∧ w.grownBy w' (Value.slice A ss.length c).ownBlock := by
  rcases ho.2 with ⟨hv, hn⟩ | ⟨g, cap, cur, hv, hbase, hb, h1, h2, h3, h4⟩
  · obtain rfl := List.eq_nil_of_length_eq_zero hn
    injection hv with ha _ hc
    subst ha hc
    refine (Tryz.sort_Strings_none none 0 w).mono ?_
    rintro e w' ⟨rfl, rfl⟩
    exact ⟨[], rfl, .refl _, ho, rfl, rfl, rfl, Nat.le_refl _, fun _ _ _ => rfl⟩
  · injection hv with ha _ hc
    subst ha hc
    have hl : (ss.map fun x => x.data.toList).length = ss.length := by simp
    have hc := Tryz.sort_Strings g 0 c (ss.map fun x => x.data.toList) w (holds_of_block hb (by rw [strs_enc, hl]; simpa using h4)) (Array.getElem?_eq_some_iff.1 hb).1 (by rw [hl]; omega)
    rw [hl] at hc
    refine hc.mono ?_
    rintro e w' ⟨rfl, n, os, rfl⟩
    have hp := (List.mergeSort_perm (ss.map fun x => x.data.toList) fun x y => decide (x ≤ y))
    have ho2 := ownsRow_sorted (n := n) (os := os) (ss := ss.map fun x => x.data.toList) (ts := (ss.map fun x => x.data.toList).mergeSort fun x y => decide (x ≤ y)) (by simp) hbase hb (by rw [hl]; exact h1) h2 h3
    have hg : w.grownBy _ (some g) := grownBy_sorted (w := w) (g := g) (n := n) (os := os) ((ss.map fun x => x.data.toList).mergeSort fun x y => decide (x ≤ y)).toArray
    generalize (ss.map fun x => x.data.toList).mergeSort (fun x y => decide (x ≤ y)) = ts at *
    rw [hl] at ho2
    have e1 : strs (ts.map fun l => (⟨l.toArray⟩ : ByteArray)) = ts.map encStr := by
      show (ts.map _).map _ = _
      rw [List.map_map]
      exact List.map_congr_left fun x _ => rfl
    refine ⟨ts.map fun l => ⟨l.toArray⟩, rfl, ?_, by rw [e1]; exact ho2, hg⟩
    have := hp.map (fun l => (⟨l.toArray⟩ : ByteArray))
    rw [List.map_map] at this
    refine this.trans (List.Perm.of_eq ?_)
    conv => rhs; rw [← List.map_id ss]
    exact List.map_congr_left fun x _ => by simp
/-- The names of a map that have come. -/
def Keys (ns : List ByteArray) (vs : List Value) (left : Lit → Bool) (ss : List ByteArray) : Prop := ss.Nodup ∧ (∀ x, x ∈ ss ↔ x ∈ ns ∧ left (kl x) = false) ∧ ∀ z, left z = true → Maps.has (dat ns vs) z = true
theorem Keys.start {ns : List ByteArray} {vs : List Value} (hl : vs.length = ns.length) (hd : ns.Nodup) : Keys ns vs (Maps.has (dat ns vs)) [] := by
  refine ⟨List.nodup_nil, fun x => ⟨(fun h => by cases h), fun h => ?_⟩, fun z h => h⟩
  rw [((dat_facts _ ns vs rfl hl hd).2.2.1 x).2 h.1] at h
  cases h.2
theorem Keys.step {ns : List ByteArray} {vs : List Value} {left : Lit → Bool} {ss : List ByteArray} {x : ByteArray} (h : Keys ns vs left ss) (hx : left (kl x) = true) (hm : x ∈ ns) : Keys ns vs (fun z => left z && !z.sameKey (kl x)) (ss ++ [x]) := by
  have hn : x ∉ ss := fun e => by rw [((h.2.1 x).1 e).2] at hx; cases hx
  refine ⟨List.nodup_append.2 ⟨h.1, by simp, fun u hu v hv e => hn (by rw [← List.mem_singleton.1 hv, ← e]; exact hu)⟩, fun z => ?_, fun z hz => h.2.2 z (by rw [Bool.and_eq_true] at hz; exact hz.1)⟩
  rw [List.mem_append, h.2.1 z, List.mem_singleton, same_key]
  constructor
  · rintro (⟨a, b⟩ | rfl)
    · exact ⟨a, .inl b⟩
    · exact ⟨hm, .inr rfl⟩
  · rintro ⟨a, b | rfl⟩
    · exact .inl ⟨a, b⟩
    · exact .inr rfl
theorem Keys.len {ns : List ByteArray} {vs : List Value} {left : Lit → Bool} {ss : List ByteArray} (h : Keys ns vs left ss) : ss.length ≤ ns.length := nd_len ss ns h.1 (fun x hx => ((h.2.1 x).1 hx).1)
theorem Keys.done {ns : List ByteArray} {vs : List Value} {left : Lit → Bool} {ss ss2 : List ByteArray} (h : Keys ns vs left ss) (hd : ns.Nodup) (hl : ∀ z, left z = false) (hp : ss2.Perm ss) : ss2.Nodup ∧ ss2.length = ns.length ∧ ∀ x, x ∈ ss2 ↔ x ∈ ns := by
  have hm : ∀ x, x ∈ ss2 ↔ x ∈ ns := fun x => by rw [hp.mem_iff, h.2.1 x]; exact ⟨fun e => e.1, fun e => ⟨e, hl _⟩⟩
  have hn : ss2.Nodup := hp.nodup_iff.2 h.1
  exact ⟨hn, Nat.le_antisymm (nd_len _ _ hn fun x hx => (hm x).1 hx) (nd_len _ _ hd fun x hx => (hm x).2 hx), hm⟩
end Go.Proofs.YtmelgankbegjaaaGreatDoor.Js

set_option linter.unusedVariables false
set_option linter.unusedSimpArgs false
set_option maxRecDepth 100000
set_option maxHeartbeats 8000000
namespace Go.Proofs.YtmelgankbegjaaaGreatDoor.Js
open Go.RowKit Go.Proofs.YtmelgankbegjaaaGreatDoor.B

attribute [local go_sem] as68_4 as68_65 as68_9 as68_67 as68_68
theorem map_openV {p : Nat → Prop} {w : World} {t : J} {u : Value} (h : IV p w t u) (hk : t.k = 5) : ∃ b vs, u = .iface 75 (.map (some b)) ∧ w.ownsMap Tryz.prog 9 RH b t.ns.length (dat t.ns vs) ∧ IVs p w t.is vs := by
  obtain ⟨k2, n2, s2, ns2, is2⟩ := t
  have hk2 : k2 = 5 := hk
  subst hk2
  rcases h with ⟨h, _⟩ | ⟨h, _⟩ | ⟨h, _⟩ | ⟨h, _⟩ | ⟨h, _⟩ | ⟨_, b, vs, e, ⟨_, h1⟩, h2⟩
  · omega
  · omega
  · omega
  · omega
  · omega
  · exact ⟨b, vs, e, h1, h2⟩
/-- The items that have been taken, each under its name. -/
def Nds (t : J) (ss : List ByteArray) (ds : List J) : Prop := ∀ j (h : j < ds.length) (h2 : j < ss.length), ∃ i, ∃ (h3 : i < t.ns.length) (h4 : i < t.is.length), t.ns[i] = ss[j] ∧ eqJ ds[j] t.is[i] = true ∧ Wg ds[j]
theorem Nds.push {t : J} {ss : List ByteArray} {ds : List J} {d : J} (h : Nds t ss ds) (i : Nat) (h3 : i < t.ns.length) (h4 : i < t.is.length) (hl : ds.length < ss.length) (e1 : t.ns[i] = ss[ds.length]) (e2 : eqJ d t.is[i] = true) (e3 : Wg d) : Nds t ss (ds ++ [d]) := by
  intro j h1 h2
  by_cases hj : j < ds.length
  · rw [List.getElem_append_left hj]
    exact h j hj h2
  · have e : j = ds.length := by simp at h1; omega
    subst e
    rw [show (ds ++ [d])[ds.length]'h1 = d by simp]
    exact ⟨i, h3, h4, e1, e2, e3⟩
theorem Nds.done {t : J} {ss : List ByteArray} {ds : List J} (h : Nds t ss ds) (hg : Wg t) (hk : t.k = 5) (hn : ss.Nodup) (hl : ss.length = t.ns.length) (hm : ∀ x, x ∈ ss ↔ x ∈ t.ns) (hd : ds.length = ss.length) : eqJ (.mk 5 0 .empty ss ds) t = true ∧ Wg (.mk 5 0 .empty ss ds) := by
  obtain ⟨_, h5, h8, _⟩ := hg.kids
  obtain ⟨hl5, hd5⟩ := h5 hk
  have ht : t.n = 0 ∧ t.s = .empty ∧ ∀ x ∈ t.ns, Wd7 x ∧ x ≠ .empty := by
    obtain ⟨k, n, s, ns, is⟩ := t
    have hk : k = 5 := hk
    rcases hg with ⟨e, _⟩ | ⟨e, _⟩ | ⟨e, _⟩ | ⟨e, _⟩ | ⟨e, _⟩ | ⟨e, a, b, _, _, _, c, _⟩ <;> first | omega | exact ⟨a, b, c⟩
  refine ⟨(eqJ_iff (.mk 5 0 .empty ss ds) t).2 ⟨hk.symm, ht.1.symm, ht.2.1.symm, show ds.length = t.is.length by omega, fun i hi => ?_⟩, ?_⟩
  · have hi : i < ds.length := hi
    obtain ⟨j, h3, h4, e1, e2, _⟩ := h i hi (by omega)
    refine (it_obj (a := .mk 5 0 .empty ss ds) rfl hd.symm hl5 i hi).2 ⟨j, h3, e1, e2, ?_⟩
    show idx (ss[i]'_) t.ns 0 = _
    rw [← e1]
    exact idx_at hd5 h3
  · refine .inr (.inr (.inr (.inr (.inr ⟨rfl, rfl, rfl, hd.symm, by omega, hn, fun x hx => ht.2.2 x ((hm x).1 hx), Wgs.of fun d hdm => ?_⟩))))
    obtain ⟨i, hi, rfl⟩ := List.getElem_of_mem hdm
    obtain ⟨j, h3, h4, e1, e2, e3⟩ := h i hi (by omega)
    exact e3
theorem sn_done5 {W : World} {B g n m c cI : Nat} {A AI : Option Addr} {ss2 : List ByteArray} {ds : List J} {hs : List Value} (h : Sn B g 5 0 ⟨#[]⟩ ss2 (.slice A n c) (.slice AI m cI) (.slice AI m cI) ds hs W) (hn : ss2.length = n) (hm : ds.length = m) :
    NN (fun x => B ≤ x) W (.mk 5 0 ⟨#[]⟩ ss2 ds) (.agg #[.int .i64 5, .int .u64 0, .string ⟨#[]⟩, .slice A n c, .slice AI m cI]) := by
  subst hn hm
  exact Sn.done h rfl
theorem node_map (t : J) (IH0 : ∀ s ∈ t.is, ∀ (p : Nat → Prop) (u : Value) (w : World), Wg s → IV p w s u → Calls Tryz.prog 21 #[u] w fun e w' => ∃ v d, e = .returned v ∧ NN (fun x => w.heap.size ≤ x) w' d v ∧ eqJ d s = true ∧ Wg d ∧ Below w.heap.size w w')
    (p : Nat → Prop) (u : Value) (w : World) (hg : Wg t) (h : IV p w t u) (hk : t.k = 5) : Calls Tryz.prog 21 #[u] w fun e w' => ∃ v d, e = .returned v ∧ NN (fun x => w.heap.size ≤ x) w' d v ∧ eqJ d t = true ∧ Wg d ∧ Below w.heap.size w w' := by
  obtain ⟨b, vs, rfl, m1, i1⟩ := map_openV h hk
  obtain ⟨hk8, h5, h8, -⟩ := hg.kids
  obtain ⟨hl5, hd5⟩ := h5 hk
  have hv5 : vs.length = t.ns.length := i1.len.trans hl5.symm
  have hbl := m1.lt
  have hal := ((Below.refl w.heap.size w).alloc (Nat.le_refl _) nz).alloc (by simp) (.cells #[.int .i64 5, .int .u64 0, .string ⟨#[]⟩, .slice none 0 0, .slice none 0 0] 34)
  have HZ := Lib.hid (show ((w.alloc nz).alloc (.cells #[.int .i64 5, .int .u64 0, .string ⟨#[]⟩, .slice none 0 0, .slice none 0 0] 34)).heap[w.heap.size]? = some nz from by
    have h1 := heap_alloc_new w nz
    have hb : Below (w.alloc nz).heap.size (w.alloc nz) ((w.alloc nz).alloc (.cells #[.int .i64 5, .int .u64 0, .string ⟨#[]⟩, .slice none 0 0, .slice none 0 0] 34)) := (Below.refl _ _).alloc (Nat.le_refl _) _
    exact (hb.block _ (by simp)).trans h1)
  have HX := Lib.hid (show ((w.alloc nz).alloc (.cells #[.int .i64 5, .int .u64 0, .string ⟨#[]⟩, .slice none 0 0, .slice none 0 0] 34)).heap[w.heap.size + 1]? = some (.cells #[.int .i64 5, .int .u64 0, .string ⟨#[]⟩, .slice none 0 0, .slice none 0 0] 34 (0, 0)) from by
    have := heap_alloc_new (w.alloc nz) (.cells #[.int .i64 5, .int .u64 0, .string ⟨#[]⟩, .slice none 0 0, .slice none 0 0] 34)
    simpa using this)
  have hsz : ((w.alloc nz).alloc (.cells #[.int .i64 5, .int .u64 0, .string ⟨#[]⟩, .slice none 0 0, .slice none 0 0] 34)).heap.size = w.heap.size + 2 := by simp
  have HAL := Lib.hid hal
  have M0 := Lib.hid m1
  have M1 := Lib.hid (map_below m1 hal)
  have I1 := Lib.hid i1
  have HG := Lib.hid hg
  have HK8 := Lib.hid hk8
  have HK := Lib.hid hk
  have HL5 := Lib.hid hl5
  have HD5 := Lib.hid hd5
  have HV5 := Lib.hid hv5
  have IH0 := Lib.hid IH0
  have hn8 : t.ns.length ≤ 8 := by omega
  clear hal m1 i1 hg hk8 hk hl5 hd5 hv5 h h5 h8
  go_enter Tryz.func21, Tryz.ntmps21
  go_upto_region 19 with fail
  generalize (w.alloc nz).alloc (.cells #[.int .i64 5, .int .u64 0, .string ⟨#[]⟩, .slice none 0 0, .slice none 0 0] 34) = w1 at *
  go_wp2_with (first
    | (at_range; refine wpList_range_own _ rfl _ 75 rfl 9 20 law9 Tryz.underlying75 RH b t.ns.length _ rfl M1.out ?_; intro w0 hrg0 hg0 hs0)
    | go_in)
  try go_frame
  rw [hsz] at hrg0 hs0 ⊢
  have HB0 := Lib.hid (HAL.out.grown hg0 HAL.out.size (fun j hj => by cases hj))
  have HRG0 := Lib.hid hrg0
  have HZ0 := Lib.hid (blk_grown HZ.out hg0 (fun e => by cases e))
  have HX0 := Lib.hid (blk_grown HX.out hg0 (fun e => by cases e))
  have hsz0 : w.heap.size + 3 ≤ w0.heap.size := by omega
  have HK0 := Lib.hid (Keys.start HV5.out HD5.out)
  clear hrg0 hg0 hs0 HZ HX hsz
  go_loopw [9] (fun v9 wr => ∃ (left : Lit → Bool) (cnt : Nat) (ss : List ByteArray) (A : Option Addr) (c : Nat), Hid (wr.ranges Tryz.prog 9 RH b (w.heap.size + 2) t.ns.length (dat t.ns vs) left cnt) ∧ Hid (Keys t.ns vs left ss) ∧ Hid (wr.heap[w.heap.size + 1]? = some (.cells #[.int .i64 5, .int .u64 0, .string ⟨#[]⟩, .slice A ss.length c, .slice none 0 0] 34 (0, 0))) ∧ Hid (wr.heap[w.heap.size]? = some nz) ∧ Hid (wr.ownsRow (w.heap.size + 3) 9 1 (.slice A ss.length c) ss.length (strs ss)) ∧ Hid (Below w.heap.size w wr) ∧ w.heap.size + 3 ≤ wr.heap.size) (fun _ wr => wr.rangeLeft b (w.heap.size + 2))
  case atStart => exact ⟨_, _, [], none, 0, HRG0, HK0, HX0, HZ0, Lib.hid (World.ownsRow_nil _ _ _ _), HB0, hsz0⟩
  case round =>
    obtain ⟨left, cnt, ss, A, c, HRG, HKY, HX, HZ, HO, HB, hsz⟩ := hrel
    clear HRG0 HK0 HX0 HZ0 HB0 hsz0
    have hs8 : ss.length ≤ 8 := Nat.le_trans HKY.out.len hn8
    go_wp2_with (first
      | (at_next; refine wpList_next_ranges _ rfl _ rfl 9 law9 RH Value.string id (fun key kl h => by obtain ⟨s, e, _⟩ := WideMaps.string_of_keyOf Tryz.underlying9 h; exact ⟨s, e⟩) (fun v y _ => ⟨v, rfl⟩) b (w.heap.size + 2) t.ns.length _ _ _ rfl HRG.out ?_ ?_)
      | go_in)
    · intro hc0 hl0
      have HL0 := Lib.hid hl0
      clear hl0 hc0
      have hlt1 := Rv.lt_of_blk HX.out
      obtain ⟨y0, y1, y2, y3, y4⟩ := Rv.cells5 HX.out
      go_upto_region 24 with (go_at_call 32; (with_reducible refine (sort_any (w.heap.size + 3) A c ss wr HO.out hs8).mono ?_); rintro e w5 ⟨ss2, rfl, hp, ho5, hg5⟩; have HP := Lib.hid (HKY.out.done HD5.out HL0.out hp); have HO5 := Lib.hid ho5; have HOB := Lib.hid (fun k hk => (HO.out.lt k hk).1); have HX5 := Lib.hid (blk_grown HX.out hg5 (fun e => by have := HOB.out _ e.symm; omega)); have HZ5 := Lib.hid (blk_grown HZ.out hg5 (fun e => by have := HOB.out _ e.symm; omega)); have HB5 := Lib.hid (HB.out.grown hg5 HB.out.size (fun k hk => by have := HOB.out k hk; omega)); have hs5 := hg5.size; have hpl := hp.length_eq; clear hp ho5 hg5)
      clear y0 y1 y2 y3 y4 HX HZ HB HO HKY HRG HL0 HOB
      rename World => w5'
      generalize w5' = w5 at *
      obtain ⟨y0, y1, y2, y3, y4⟩ := Rv.cells5 HX5.out
      go_upto_region 25 with fail
      clear y0 y1 y2 y3 y4
      have HSN := Lib.hid (show Sn (w.heap.size + 1) (w.heap.size + 1) 5 0 ⟨#[]⟩ ss2 (.slice A ss.length c) (.slice none 0 0) (.slice none 0 0) [] [] w5 from
        ⟨HX5.out, by rw [hpl]; exact HO5.out.mono (by omega), World.ownsRow_nil _ _ _ _, rfl, fun e => by have := (HO5.out.lt _ e.symm).1; omega, by simp [Value.ownBlock], Nat.le_refl _⟩)
      have hpl2 : ss2.length ≤ 8 := by omega
      clear HX5 HO5
      go_loopw [11, 58] (fun v11 v58 wr => ∃ (i1 : Nat) (AI : Option Addr) (cI : Nat) (ds : List J) (hs : List Value), v58 = .int .i64 (i1 : Int) ∧ i1 ≤ ss2.length ∧ Hid (ds.length = i1) ∧ Hid (Sn (w.heap.size + 1) (w.heap.size + 1) 5 0 ⟨#[]⟩ ss2 (.slice A ss.length c) (.slice AI i1 cI) (.slice AI i1 cI) ds hs wr) ∧ Hid (Nds t ss2 ds) ∧ Hid (Below w.heap.size w wr) ∧ Hid (wr.heap[w.heap.size]? = some nz)) (fun _ v58 _ => (ss2.length - (intOf v58)).toNat)
      case atStart => exact ⟨0, none, 0, [], [], rfl, Nat.zero_le _, Lib.hid rfl, HSN, Lib.hid (fun j h => absurd h (by simp)), HB5, HZ5⟩
      case round =>
        obtain ⟨i1, AI, cI, ds, hs, rfl, hi1, HD, HS, HN, HB, HZ⟩ := hrel
        clear HSN HB5 HZ5
        by_cases hlt : i1 < ss2.length
        · have hlt' : i1 < ss.length := by omega
          obtain ⟨j, hj, hjx⟩ := List.getElem_of_mem ((HP.out.2.2 ss2[i1]).1 (List.getElem_mem hlt))
          have hji : j < t.is.length := by have := HL5.out; omega
          have hjv : j < vs.length := by have := HV5.out; omega
          obtain ⟨bn, on, cn, hv, -, -, hbn, hcn⟩ := (Rd.of_own HS.out.rowN).open (by omega)
          have xn := hcn i1 (.string ss2[i1]) (by rw [List.getElem?_map, List.getElem?_eq_getElem hlt]; rfl)
          injection hv with ev1 ev2 ev3
          clear ev2 ev3
          subst ev1
          have hxs : (ss2[i1]).size ≤ maxLen := by
            have hw : Wd7 (t.ns[j]) := by
              have hg := HG.out
              have hk := HK.out
              obtain ⟨k, n, s, ns, is⟩ := t
              have hk : k = 5 := hk
              rcases hg with ⟨e, _⟩ | ⟨e, _⟩ | ⟨e, _⟩ | ⟨e, _⟩ | ⟨e, _⟩ | ⟨e, a, b, _, _, _, c, _⟩ <;> first | omega | exact (c _ (List.getElem_mem hj)).1
            rw [← hjx]
            have := hw.1
            unfold maxLen
            omega
          have LK := Lib.hid (fun (W : World) (hb : Below w.heap.size w W) => by
            have a1 := look_at (map_below M0.out hb) HV5.out HD5.out j hj (by rw [hjx]; exact hxs)
            rw [hjx] at a1
            exact a1)
          have IH := Lib.hid (fun (W : World) (hb : Below w.heap.size w W) => IH0.out t.is[j] (List.getElem_mem hji) p vs[j] W (HK8.out.get _ (List.getElem_mem hji)) ((I1.out.get j hji hjv).below hb))
          have HJ := Lib.hid (And.intro hj hji)
          have HJX := Lib.hid (show t.ns[j]'HJ.out.1 = ss2[i1] from hjx)
          have HQ := Lib.hid (fun (d : J) (h : eqJ d t.is[j] = true) (hg : Wg d) (hd : ds.length = i1) => show Nds t ss2 (ds ++ [d]) from by
            subst hd
            exact HN.out.push j HJ.out.1 HJ.out.2 hlt HJX.out h hg)
          clear hcn hxs hjx
          generalize vs[j] = uu at *
          clear HJX
          generalize t.is[j] = ti at *
          generalize ss2[i1] = x at *
          go_upto_region 27 with fail
          clear xn
          generalize hVN : Value.slice (some ⟨bn, on, none⟩) ss.length c = VN at *
          generalize hVI : Value.slice AI i1 cI = VI at *
          generalize wr = X at *
          have HGX : w.heap.size + 1 < X.heap.size := Rv.lt_of_blk HS.out.blk
          have HNX := Lib.hid (fun k (hk : VN.ownBlock = some k) => (HS.out.rowN.lt k hk).2)
          have HIX := Lib.hid (fun k (hk : VI.ownBlock = some k) => (HS.out.rowI.lt k hk).2)
          have hX0 : Below X.heap.size X { X with drawn := X.drawn + 1 } := (Below.refl _ _).drew
          have TRA0 := Lib.hid (show (fun W => Sn (w.heap.size + 1) (w.heap.size + 1) 5 0 ⟨#[]⟩ ss2 VN VI VI ds hs W) { X with drawn := X.drawn + 1 } from show Sn _ _ _ _ _ _ _ _ _ _ _ _ from HS.out.below hX0)
          have TQ0 := Lib.hid (show (fun W => X.heap.size ≤ W.heap.size ∧ Below w.heap.size w W ∧ W.heap[w.heap.size]? = some nz) { X with drawn := X.drawn + 1 } from ⟨Nat.le_refl _, HB.out.trans (hX0.mono HB.out.size), (hX0.block _ (Rv.lt_of_blk HZ.out)).trans HZ.out⟩)
          have HLEN := Lib.hid (show ds.length < 8 by have := HD.out; omega)
          refine Rv.region_fin2 (n := 74) (by kernel_rfl) #[62, 63, 64, 65, 66, 67, 68, 69, 70, 1009] #[] (fun i f W => if i = 9 then (fun f W => ∃ (A9 : Option Addr) (c9 : Nat) (v : Value) (d : J), f 7 = .slice A9 (ds.length + 1) c9 ∧ (eqJ d ti = true ∧ Wg d) ∧ Sn (w.heap.size + 1) (w.heap.size + 1) 5 0 ⟨#[]⟩ ss2 VN (.slice A9 (ds.length + 1) c9) (.slice A9 (ds.length + 1) c9) (ds ++ [d]) (hs ++ [v]) W) f W else if i = 7 then (fun f W => ∃ (A9 : Option Addr) (c9 : Nat) (v : Value) (d : J), f 7 = .slice A9 (ds.length + 1) c9 ∧ (eqJ d ti = true ∧ Wg d) ∧ Sn (w.heap.size + 1) (w.heap.size + 1) 5 0 ⟨#[]⟩ ss2 VN VI (.slice A9 (ds.length + 1) c9) (ds ++ [d]) (hs ++ [v]) W) f W else if i = 6 then (fun f W => ∃ (gl : Nat) (v : Value) (d : J), f 6 = .slice (some ⟨gl, 0, none⟩) 1 1 ∧ Rd W 5 (.slice (some ⟨gl, 0, none⟩) 1 1) 1 v.cells.toList ∧ NN (fun x => X.heap.size ≤ x) W d v ∧ eqJ d ti = true ∧ Wg d) f W else if i = 5 then (fun f W => ∃ d : J, NN (fun x => X.heap.size ≤ x) W d (f 5) ∧ eqJ d ti = true ∧ Wg d) f W else f i = (#[.pointer (some ⟨w.heap.size + 1, 4, none⟩), VI, .map (some b), .string x, uu, undef, undef, undef, .pointer (some ⟨w.heap.size + 1, 4, none⟩), undef] : Array Value).getD i undef) (fun i j => (i == 7 && (j == 5 || j == 6)) || (i == 9 && (j == 5 || j == 6 || j == 7))) (fun i => i == 7 || i == 9) (fun i => i == 7 || i == 9) (fun i f W W' => True) (fun W => X.heap.size ≤ W.heap.size ∧ Below w.heap.size w W ∧ W.heap[w.heap.size]? = some nz) (fun W => Sn (w.heap.size + 1) (w.heap.size + 1) 5 0 ⟨#[]⟩ ss2 VN VI VI ds hs W) (fun _ _ _ => True) (fun _ _ _ _ _ _ _ _ => trivial) (fun i f f' w hi h hd hg => ?_) (fun i j f w w' hi hj hij hK hdp h hr => ?_) (fun i h g b hg => ?_) rfl (by kernel_rfl) (fun i h g b hg => ?_) (TQ0.out) (TRA0.out) (fun _ => trivial) (fun i h hr f w hf => ?_) (fun _ _ _ _ _ _ _ _ => trivial) ?_ ?_
          · by_cases hi1009 : i = 9
            · subst hi1009
              rw [if_pos rfl] at hg ⊢
              obtain ⟨A9, c9, v, d, q1, q2⟩ := hg
              exact ⟨A9, c9, v, d, (hd 7 rfl).symm.trans q1, q2⟩
            rw [if_neg hi1009] at hg ⊢
            by_cases hi69 : i = 7
            · subst hi69
              rw [if_pos rfl] at hg ⊢
              obtain ⟨A9, c9, v, d, q1, q2⟩ := hg
              exact ⟨A9, c9, v, d, h.symm.trans q1, q2⟩
            rw [if_neg hi69] at hg ⊢
            by_cases hi68 : i = 6
            · subst hi68
              rw [if_pos rfl] at hg ⊢
              obtain ⟨gl, v, d, q1, q2⟩ := hg
              exact ⟨gl, v, d, h.symm.trans q1, q2⟩
            rw [if_neg hi68] at hg ⊢
            by_cases hi67 : i = 5
            · subst hi67
              rw [if_pos rfl] at hg ⊢
              obtain ⟨d, q1, q2⟩ := hg
              rw [h] at q1
              exact ⟨d, q1, q2⟩
            rw [if_neg hi67] at hg ⊢
            rw [← h]; exact hg
          · by_cases hj1009 : j = 9
            · subst hj1009
              rw [if_pos rfl] at h ⊢
              rcases hr with ⟨hK1, hr⟩ | hr
              · have hi2 : i = 7 ∨ i = 9 := by simpa [or_assoc] using hK1
                rcases hi2 with e | e
                · subst e; exfalso; revert hdp; decide
                · exact absurd e hij
              · obtain ⟨A9, c9, v, d, e, h0, h1⟩ := h
                exact ⟨A9, c9, v, d, e, h0, Sn.below h1 hr⟩
            rw [if_neg hj1009] at h ⊢
            by_cases hj69 : j = 7
            · subst hj69
              rw [if_pos rfl] at h ⊢
              rcases hr with ⟨hK1, hr⟩ | hr
              · have hi2 : i = 7 ∨ i = 9 := by simpa [or_assoc] using hK1
                rcases hi2 with e | e
                · exact absurd e hij
                · subst e; exfalso; revert hK; decide
              · obtain ⟨A9, c9, v, d, e, h0, h1⟩ := h
                exact ⟨A9, c9, v, d, e, h0, Sn.below h1 hr⟩
            rw [if_neg hj69] at h ⊢
            by_cases hj68 : j = 6
            · subst hj68
              rw [if_pos rfl] at h ⊢
              rcases hr with ⟨hK1, hr⟩ | hr
              · have hi2 : i = 7 ∨ i = 9 := by simpa [or_assoc] using hK1
                rcases hi2 with e | e
                · subst e; exfalso; revert hK; decide
                · subst e; exfalso; revert hK; decide
              · obtain ⟨gl, v, d, e, h1, h2, h3⟩ := h
                exact ⟨gl, v, d, e, h1.below hr, h2.below hr, h3⟩
            rw [if_neg hj68] at h ⊢
            by_cases hj67 : j = 5
            · subst hj67
              rw [if_pos rfl] at h ⊢
              rcases hr with ⟨hK1, hr⟩ | hr
              · have hi2 : i = 7 ∨ i = 9 := by simpa [or_assoc] using hK1
                rcases hi2 with e | e
                · subst e; exfalso; revert hK; decide
                · subst e; exfalso; revert hK; decide
              · obtain ⟨d, h1, h2⟩ := h
                exact ⟨d, h1.below hr, h2⟩
            rw [if_neg hj67] at h ⊢
            exact h
          · match i, h, hg with
            | 0, _, hg => cases hg
            | 1, _, hg => cases hg
            | 2, _, hg => cases hg
            | 3, _, hg => cases hg
            | 4, _, hg => cases hg
            | 5, _, hg => cases hg
            | 6, _, hg => cases hg
            | 7, _, hg => cases hg
            | 8, _, hg => cases hg
            | 9, _, hg => cases hg
            | m + 10, h, _ => exact absurd h (by show ¬ m + 10 < 10; omega)
          · match i, h, hg with
            | 0, _, hg => cases hg
            | 1, _, hg => cases hg
            | 2, _, hg => cases hg
            | 3, _, hg => cases hg
            | 4, _, hg => cases hg
            | 5, _, hg => cases hg
            | 6, _, hg => cases hg
            | 7, _, hg => cases hg
            | 8, _, hg => cases hg
            | 9, _, hg => cases hg
            | m + 10, h, _ => exact absurd h (by show ¬ m + 10 < 10; omega)
          · match i, h, hr, hf with
            | 0, _, hr, _ => exact Bool.noConfusion (show true = false from hr)
            | 1, _, hr, _ => exact Bool.noConfusion (show true = false from hr)
            | 2, _, hr, _ => exact Bool.noConfusion (show true = false from hr)
            | 3, _, hr, _ => exact Bool.noConfusion (show true = false from hr)
            | 4, _, hr, _ => exact Bool.noConfusion (show true = false from hr)
            | 5, _, hr, _ => exact Bool.noConfusion (show true = false from hr)
            | 6, _, hr, _ => exact Bool.noConfusion (show true = false from hr)
            | 7, _, hr, _ => exact Bool.noConfusion (show true = false from hr)
            | 8, _, hr, _ => exact Bool.noConfusion (show true = false from hr)
            | 9, _, hr, _ => exact Bool.noConfusion (show true = false from hr)
            | m + 10, h, _, _ => exact absurd h (by show ¬ m + 10 < 10; omega)
          · intro i h a W hrun hbase hpre hdep htr hta hJ
            have lk := LK.out W htr.2.1
            have hlen := HLEN.out
            match i, h with
            | 0, _ =>
              obtain ⟨e8, x8⟩ := Rv.ev (show a.tmps.getD 8 undef = .pointer (some ⟨w.heap.size + 1, 0, none⟩) from hbase 8 rfl)
              exact Rv.step_op (op := Go.Op.fieldAddr 34 (Go.Operand.tmp 8) 4) (v := .pointer (some ⟨w.heap.size + 1, 4, none⟩)) (w1 := W) rfl rfl (fun d pos aft g => by unfold execOp; go_simp) ⟨_, rfl, rfl, .inr (Below.refl _ _), htr, fun _ ht => ht, fun _ _ _ => trivial⟩
            | 1, _ =>
              obtain ⟨e62, x62⟩ := Rv.ev (show a.tmps.getD 62 undef = .pointer (some ⟨w.heap.size + 1, 4, none⟩) from hdep 0 rfl rfl)
              obtain ⟨u0, u1, u2, u3, u4⟩ := Rv.cells5 (Sn.blk (hta (by decide)))
              exact Rv.step_op (op := Go.Op.load 32 (Go.Operand.tmp 62)) (v := VI) (w1 := W) rfl rfl (fun d pos aft g => by unfold execOp; go_simp) ⟨_, rfl, rfl, .inr (Below.refl _ _), htr, fun _ ht => ht, fun _ _ _ => trivial⟩
            | 2, _ =>
              obtain ⟨e7, x7⟩ := Rv.ev (show a.tmps.getD 7 undef = .map (some b) from hbase 7 rfl)
              exact Rv.step_op (op := Go.Op.move (Go.Operand.tmp 7)) (v := .map (some b)) (w1 := W) rfl rfl (fun d pos aft g => by unfold execOp; go_simp) ⟨_, rfl, rfl, .inr (Below.refl _ _), htr, fun _ ht => ht, fun _ _ _ => trivial⟩
            | 3, _ =>
              obtain ⟨e11, x11⟩ := Rv.ev (show a.tmps.getD 11 undef = .string x from hbase 11 rfl)
              exact Rv.step_op (op := Go.Op.move (Go.Operand.tmp 11)) (v := .string x) (w1 := W) rfl rfl (fun d pos aft g => by unfold execOp; go_simp) ⟨_, rfl, rfl, .inr (Below.refl _ _), htr, fun _ ht => ht, fun _ _ _ => trivial⟩
            | 4, _ =>
              obtain ⟨e64, x64⟩ := Rv.ev (show a.tmps.getD 64 undef = .map (some b) from hdep 2 rfl rfl)
              obtain ⟨e65, x65⟩ := Rv.ev (show a.tmps.getD 65 undef = .string x from hdep 3 rfl rfl)
              exact Rv.step_op (op := Go.Op.lookup 75 (Go.Operand.tmp 64) (Go.Operand.tmp 65) false) (v := uu) (w1 := W) rfl rfl (fun d pos aft g => by unfold execOp; go_simp) ⟨_, rfl, rfl, .inr (Below.refl _ _), htr, fun _ ht => ht, fun _ _ _ => trivial⟩
            | 5, _ =>
              obtain ⟨e66, x66⟩ := Rv.ev (show a.tmps.getD 66 undef = uu from hdep 4 rfl rfl)
              have cf : ∀ x0 W, (callFunc 21 #[x0]).run Tryz.prog W = .ok (.enter 21 #[x0]) W := fun _ _ => by kernel_rfl
              refine Rv.step_fn (op := Go.Op.call { callee := Go.Callee.value (Go.Operand.func 21), args := #[Go.Operand.tmp 66], argTypes := #[20] }) (ty := 34) (f := 21) (args := #[uu]) (R := fun v W' => (∃ d : J, NN (fun x => X.heap.size ≤ x) W' d v ∧ eqJ d ti = true ∧ Wg d) ∧ Below W.heap.size W W') rfl rfl (fun d pos aft g => by unfold execOp; go_simp) ((IH.out W htr.2.1).mono ?_) ?_
              · (rintro e W' ⟨v, d, rfl, hu, h1, h2, hb⟩; exact ⟨_, rfl, ⟨d, hu.weak (fun x _ hx => Nat.le_trans htr.1 hx), h1, h2⟩, hb⟩)
              · (rintro v W' ⟨hu, hb⟩; exact ⟨_, rfl, hu, .inr hb, ⟨Nat.le_trans htr.1 hb.size, htr.2.1.trans (hb.mono htr.2.1.size), (hb.block _ (Rv.lt_of_blk htr.2.2)).trans htr.2.2⟩, (fun _ ht => Sn.below ht hb), fun _ _ _ => trivial⟩)
            | 6, _ =>
              obtain ⟨d7, n7, g7⟩ : ∃ d : J, NN (fun x => X.heap.size ≤ x) W d (a.tmps.getD 67 undef) ∧ eqJ d ti = true ∧ Wg d := hdep 5 rfl rfl
              obtain ⟨v7, q7⟩ : ∃ v, a.tmps.getD 67 undef = v := ⟨_, rfl⟩
              rw [q7] at n7
              obtain ⟨e67, x67⟩ := Rv.ev q7
              obtain ⟨z0, z1, z2, z3, z4, ez, hz⟩ := five_nodes n7
              subst ez
              have hal : Below W.heap.size W (W.alloc (.cells #[z0, z1, z2, z3, z4] 34)) := (Below.refl _ _).alloc (Nat.le_refl _) _
              exact Rv.step_op (op := Go.Op.buildSlice 32 1 #[(0, Go.Operand.tmp 67)]) (ty := 32) (v := .slice (some ⟨W.heap.size, 0, none⟩) 1 1) (w1 := W.alloc (.cells #[z0, z1, z2, z3, z4] 34)) rfl rfl (fun d pos aft g => by unfold execOp; go_simp) ⟨_, rfl, ⟨W.heap.size, .agg #[z0, z1, z2, z3, z4], d7, rfl, Rd.of_own (World.ownsRow_lit (base := W.heap.size) (e := 34) (size := 5) W #[z0, z1, z2, z3, z4] 1 (Nat.le_refl _) (by simp [maxLen]) rfl), n7.below hal, g7⟩, .inr hal, ⟨Nat.le_trans htr.1 hal.size, htr.2.1.trans (hal.mono htr.2.1.size), (hal.block _ (Rv.lt_of_blk htr.2.2)).trans htr.2.2⟩, (fun _ ht => Sn.below ht hal), fun _ _ _ => trivial⟩
            | 7, _ =>
              obtain ⟨e63, x63⟩ := Rv.ev (show a.tmps.getD 63 undef = VI from hdep 1 rfl rfl)
              obtain ⟨gl, v8, d8, q8, r8, n8, g8⟩ : ∃ (gl : Nat) (v : Value) (d : J), a.tmps.getD 68 undef = .slice (some ⟨gl, 0, none⟩) 1 1 ∧ Rd W 5 (.slice (some ⟨gl, 0, none⟩) 1 1) 1 v.cells.toList ∧ NN (fun x => X.heap.size ≤ x) W d v ∧ eqJ d ti = true ∧ Wg d := hdep 6 rfl rfl
              obtain ⟨e68, x68⟩ := Rv.ev q8
              have s8 := hta (by decide)
              obtain ⟨z0, z1, z2, z3, z4, ez, hz⟩ := five_nodes n8
              subst ez
              have hown := Sn.rowI s8
              obtain ⟨v', w', hrun, k2, k3, k4⟩ := run_append_rd (P := Tryz.prog) W (w.heap.size + 1) 32 32 34 (.agg #[.int .i64 0, .int .u64 0, .string ⟨#[]⟩, .slice none 0 0, .slice none 0 0]) 5 80 Tryz.underlying32 info32 rfl (by omega) (by omega) _ _ _ hown _ _ _ r8 (by intro u hu; exact hz u hu) (by omega) (by omega)
              obtain ⟨A9, c9, rfl, _⟩ := (Rd.of_own k2).shape
              have hs' := Sn.push s8 k2 k3 (k4.imp id (fun e => ⟨_, e, Nat.le_refl _⟩)) n8 rfl HGX HNX.out HIX.out (Nat.le_of_lt HGX)
              have hhb : ∀ k, VI.ownBlock = some k → w.heap.size + 1 ≤ k := fun k hk => (hown.lt k hk).1
              exact Rv.step_op (op := Go.Op.call { callee := Go.Callee.builtin Go.Builtin.append, args := #[Go.Operand.tmp 63, Go.Operand.tmp 68], argTypes := #[32, 32] }) (ty := 32) (v := .slice A9 (ds.length + 1) c9) (w1 := w') rfl rfl (fun d pos aft g => by unfold execOp; simp only [resolve, invoke, builtin, Sem.run_bind, Sem.run_pure, Result.andThen_ok, List.map_toArray, List.map_cons, List.map_nil, e63, e68, hrun]) ⟨_, rfl, ⟨A9, c9, _, d8, rfl, g8, hs'⟩, .inl ⟨rfl, trivial⟩, ⟨Nat.le_trans htr.1 k3.size, htr.2.1.grown k3 htr.2.1.size (fun k hk => by have := hhb k hk; omega), blk_grown htr.2.2 k3 (fun e => by have := hhb _ e.symm; omega)⟩, (fun h _ => by cases h), fun _ _ _ => trivial⟩
            | 8, _ =>
              obtain ⟨e8, x8⟩ := Rv.ev (show a.tmps.getD 8 undef = .pointer (some ⟨w.heap.size + 1, 0, none⟩) from hbase 8 rfl)
              exact Rv.step_op (op := Go.Op.fieldAddr 34 (Go.Operand.tmp 8) 4) (v := .pointer (some ⟨w.heap.size + 1, 4, none⟩)) (w1 := W) rfl rfl (fun d pos aft g => by unfold execOp; go_simp) ⟨_, rfl, rfl, .inr (Below.refl _ _), htr, fun _ ht => ht, fun _ _ _ => trivial⟩
            | 9, _ =>
              obtain ⟨e70, x70⟩ := Rv.ev (show a.tmps.getD 70 undef = .pointer (some ⟨w.heap.size + 1, 4, none⟩) from hdep 8 rfl rfl)
              obtain ⟨A9, c9, v9, d9, q9, g9, s9⟩ : ∃ (A9 : Option Addr) (c9 : Nat) (v : Value) (d : J), a.tmps.getD 69 undef = .slice A9 (ds.length + 1) c9 ∧ (eqJ d ti = true ∧ Wg d) ∧ Sn (w.heap.size + 1) (w.heap.size + 1) 5 0 ⟨#[]⟩ ss2 VN VI (.slice A9 (ds.length + 1) c9) (ds ++ [d]) (hs ++ [v]) W := hdep 7 rfl rfl
              obtain ⟨e69, x69⟩ := Rv.ev q9
              obtain ⟨u0, u1, u2, u3, u4⟩ := Rv.cells5 (Sn.blk s9)
              obtain ⟨f0, f1, f2, f3, f4⟩ := Rv.frozen5 (Sn.blk s9)
              exact Rv.step_skip (op := Go.Op.store 32 (Go.Operand.tmp 70) (Go.Operand.tmp 69)) (ty := 0) (w1 := W.setCell ⟨w.heap.size + 1, 4, none⟩ (.slice A9 (ds.length + 1) c9)) rfl rfl (fun d pos aft g => by unfold execOp; go_simp) ⟨undef, rfl, ⟨A9, c9, v9, d9, q9, g9, Sn.store4 s9⟩, .inl ⟨rfl, trivial⟩, ⟨(by simpa using htr.1), htr.2.1.grown (grown_set (Below.refl _ _) (w.heap.size + 1) 4 _) htr.2.1.size (fun k hk => by injection hk with hk; omega), blk_grown htr.2.2 (grown_set (Below.refl _ _) (w.heap.size + 1) 4 _) (fun e => by injection e with e; omega)⟩, (fun h _ => by cases h), fun _ _ _ => trivial⟩
            | m + 10, h => exact absurd h (by show ¬ m + 10 < 10; omega)
          intro W f hf htr hJ
          have f0 : f 0 = .pointer (some ⟨w.heap.size + 1, 4, none⟩) := hf 0 (by show 0 < 10; omega) rfl
          have f1 : f 1 = VI := hf 1 (by show 1 < 10; omega) rfl
          have f2 : f 2 = .map (some b) := hf 2 (by show 2 < 10; omega) rfl
          have f3 : f 3 = .string x := hf 3 (by show 3 < 10; omega) rfl
          have f4 : f 4 = uu := hf 4 (by show 4 < 10; omega) rfl
          have f8 : f 8 = .pointer (some ⟨w.heap.size + 1, 4, none⟩) := hf 8 (by show 8 < 10; omega) rfl
          have HS9 := Lib.hid (show (fun f W => ∃ (A9 : Option Addr) (c9 : Nat) (v : Value) (d : J), f 7 = .slice A9 (ds.length + 1) c9 ∧ (eqJ d ti = true ∧ Wg d) ∧ Sn (w.heap.size + 1) (w.heap.size + 1) 5 0 ⟨#[]⟩ ss2 VN (.slice A9 (ds.length + 1) c9) (.slice A9 (ds.length + 1) c9) (ds ++ [d]) (hs ++ [v]) W) f W from hf 9 (by show 9 < 10; omega) rfl)
          clear hf
          refine (show ∀ (a : Act) (w : World), Code.wp _ _ _ a w → _ from by assumption) _ _ ?_
          refine Rv.fin_swap (L' := [(62, f 0), (63, f 1), (64, f 2), (65, f 3), (66, f 4), (67, f 5), (68, f 6), (69, f 7), (70, f 8), (1009, f 9)]) rfl ?_
          rw [f0, f1, f2, f3, f4, f8]
          clear f0 f1 f2 f3 f4 f8
          simp only [Rv.fin, List.foldl_cons, List.foldl_nil, Act.put, List.setIfInBounds_toArray, List.set_cons_succ, List.set_cons_zero, List.set_nil]
          obtain ⟨A9', c9', v9', d9', q9', g9', HS9⟩ := HS9.out
          have HS9 := Lib.hid HS9
          have HG9 := Lib.hid g9'
          have HTQ := Lib.hid htr.2
          subst hVN
          rw [q9']
          clear htr q9' g9'
          generalize f 5 = u5
          generalize f 6 = u6
          go_wp2
          go_roundw
          case rel => exact ⟨i1 + 1, A9', c9', ds ++ [d9'], hs ++ [v9'], by go_num, by omega, Lib.hid (by have := HD.out; simp [this]), Lib.hid (by have h := HS9.out; rw [HD.out] at h; exact h), Lib.hid (HQ.out d9' HG9.out.1 HG9.out.2 HD.out), Lib.hid HTQ.out.1, Lib.hid HTQ.out.2⟩
          case measure => simp [intOf]; omega
        · obtain rfl : i1 = ss2.length := by omega
          obtain ⟨q0, q1, q2, q3, q4⟩ := Rv.cells5 HS.out.blk
          obtain ⟨r0, r1, r2, r3, r4⟩ := Rv.cells5 HZ.out
          obtain ⟨z0, z1, z2, z3, z4⟩ := Rv.frozen5 HZ.out
          go_wp2
          have gs := fun (W : World) j u => grown_set (Below.refl _ W) w.heap.size j u
          have HDN := Lib.hid (HN.out.done HG.out HK.out HP.out.1 HP.out.2.1 HP.out.2.2 HD.out)
          have HSD := Lib.hid (sn_done5 HS.out hpl HD.out)
          have HJ := Lib.hid ((HSD.out.grown (grown_then (grown_then (grown_then (grown_then (gs wr 0 (.int .i64 5)) (gs _ 1 (.int .u64 0))) (gs _ 2 (.string ⟨#[]⟩))) (gs _ 3 (.slice A ss.length c))) (gs _ 4 (.slice AI ss2.length cI))) (fun x hx e => by injection e with e; omega)).weak (q := fun x => w.heap.size ≤ x) (fun x _ hx => by omega))
          have sb : ∀ (V : World) (j : Nat) (u : Value), Below w.heap.size w V → Below w.heap.size w (V.setCell ⟨w.heap.size, j, none⟩ u) := fun V j u h => h.setCell (Nat.le_refl _) u
          have HB5 := Lib.hid (sb _ 4 (.slice AI ss2.length cI) (sb _ 3 (.slice A ss.length c) (sb _ 2 (.string ⟨#[]⟩) (sb _ 1 (.int .u64 0) (sb _ 0 (.int .i64 5) HB.out)))))
          have hfr := Rv.sets5 HZ.out (.int .i64 5) (.int .u64 0) (.string ⟨#[]⟩) (.slice A ss.length c) (.slice AI ss2.length cI)
          clear q0 q1 q2 q3 q4 r0 r1 r2 r3 r4 z0 z1 z2 z3 z4 gs sb
          rw [hpl] at hfr HJ HB5
          obtain ⟨q0, q1, q2, q3, q4⟩ := Rv.cells5 hfr
          clear hfr
          refine bodyPost_ret (v := .agg #[.int .i64 5, .int .u64 0, .string ⟨#[]⟩, .slice A ss.length c, .slice AI ss.length cI]) ?_ rfl ⟨_, _, rfl, HJ.out, HDN.out.1, HDN.out.2, HB5.out⟩
          simp only [results, show Tryz.f21.results = #[.cell 2 34] by kernel_rfl]
          go_simp
    · intro x c0 kl' y ps w2 cnt1 hkey hlx hR hat hrg1 hlt hg1 hs1' hen
      obtain ⟨s, e1, e2, hsx⟩ := WideMaps.string_of_keyOf Tryz.underlying9 hkey
      injection e1 with e1
      subst e1 e2
      have hm := ((dat_facts _ t.ns vs rfl HV5.out HD5.out).2.2.1 x).1 (HKY.out.2.2 _ hlx)
      have HK1 := Lib.hid (HKY.out.step hlx hm)
      have HB1 := Lib.hid (HB.out.grown hg1 HB.out.size (fun j hj => by cases hj; omega))
      have HRG1 := Lib.hid hrg1
      have HLT := Lib.hid (And.intro hlt HRG.out.left_eq)
      have HX1 := Lib.hid (blk_grown HX.out hg1 (fun e => by injection e with e; omega))
      have HZ1 := Lib.hid (blk_grown HZ.out hg1 (fun e => by injection e with e; omega))
      have hne : ∀ k, (Value.slice A ss.length c).ownBlock = some k → w.heap.size + 3 ≤ k := fun k hk => (HO.out.lt k hk).1
      have HO1 := Lib.hid (own_kept HO.out hg1 (fun k hk e => by have := hne k hk; injection e with e; omega))
      have hsz2 : w.heap.size + 3 ≤ w2.heap.size := Nat.le_trans hsz hg1.size
      have HNE := Lib.hid hne
      obtain ⟨y0, y1, y2, y3, y4⟩ := Rv.cells5 HX1.out
      clear hkey hlx hR hat hrg1 hg1 hs1' hlt hsx hm hne HX HZ HO HB
      go_wp2_with (at_builtin; (refine app1 (w0 := w2) (W := w2) (w.heap.size + 3) rfl (.tmp 47) (.tmp 49) 23 9 (.string ⟨#[]⟩) 1 16 rfl Tryz.underlying23 info9 rfl (by omega) (by omega) _ _ _ #[.string x] rfl rfl rfl (by intro u hu; rw [List.mem_singleton.1 hu]; rfl) HO1.out ((Below.refl w2.heap.size w2).mono hsz2) hsz2 (by omega) ?_; intro v7 w7 hown7 _ hg7 hat7; obtain ⟨A7, c7, rfl, _⟩ := (Rd.of_own hown7).shape; have HX7 := Lib.hid (blk_grown HX1.out hg7 (fun e => by have := HNE.out _ e.symm; omega)); have HZ7 := Lib.hid (blk_grown HZ1.out hg7 (fun e => by have := HNE.out _ e.symm; omega)); have HB7 := Lib.hid (HB1.out.grown hg7 HB1.out.size (fun k hk => by have := HNE.out k hk; omega)); have HRG7 := Lib.hid (HRG1.out.kept hg7 (fun e => by have := HNE.out _ e.symm; omega) (fun e => by have := HNE.out _ e.symm; omega)); have HO7 := Lib.hid hown7; obtain ⟨s0, s1, s2, s3, s4⟩ := Rv.cells5 HX7.out; obtain ⟨z0, z1, z2, z3, z4⟩ := Rv.frozen5 HX7.out; have hs7 := hg7.size; clear hown7 hg7 hat7; (try go_frame)))
      have gs := grown_set (Below.refl _ w7) (w.heap.size + 1) 3 (.slice A7 (ss.length + 1) c7)
      have HNE7 := Lib.hid (fun k hk => (HO7.out.lt k hk).1)
      have HRG8 := Lib.hid (HRG7.out.kept gs (fun e => by injection e with e; omega) (fun e => by injection e with e; omega))
      have hlen : (ss ++ [x]).length = ss.length + 1 := by simp
      have HX8 := Lib.hid (Rv.set_cell1 3 (.slice A7 (ss.length + 1) c7) HX7.out)
      have HZ8 := Lib.hid (blk_grown HZ7.out gs (fun e => by injection e with e; omega))
      have HO8 := Lib.hid (own_kept HO7.out gs (fun k hk e => by have := HNE7.out k hk; injection e with e; omega))
      have HB8 := Lib.hid (HB7.out.grown gs HB7.out.size (fun k hk => by injection hk with hk; omega))
      have hs8' := gs.size
      clear gs
      go_roundw
      case rel => exact ⟨_, cnt1, ss ++ [x], A7, c7, HRG8, HK1, Lib.hid (by rw [hlen]; exact HX8.out), HZ8, Lib.hid (by
        rw [hlen, show strs (ss ++ [x]) = strs ss ++ [.string x] by simp]
        exact HO8.out), HB8, by omega⟩
      case measure => rw [HRG8.out.left_eq, HLT.out.2]; exact HLT.out.1
theorem node_any (t : J) (p : Nat → Prop) (u : Value) (w : World) (hg : Wg t) (h : IV p w t u) : Calls Tryz.prog 21 #[u] w fun e w' => ∃ v d, e = .returned v ∧ NN (fun x => w.heap.size ≤ x) w' d v ∧ eqJ d t = true ∧ Wg d ∧ Below w.heap.size w w' := by
  have hr : 0 ≤ t.k ∧ t.k ≤ 5 := by
    obtain ⟨k, n, s, ns, is⟩ := t
    show 0 ≤ k ∧ k ≤ 5
    rcases hg with ⟨e, _⟩ | ⟨e, _⟩ | ⟨e, _⟩ | ⟨e, _⟩ | ⟨e, _⟩ | ⟨e, _⟩ <;> omega
  by_cases h4 : t.k = 4
  · exact node_arr t (fun s hs p u w a b => node_any s p u w a b) p u w hg h h4
  by_cases h5 : t.k = 5
  · exact node_map t (fun s hs p u w a b => node_any s p u w a b) p u w hg h h5
  · refine (node_flat t p u w hg h (by omega)).mono ?_
    rintro e w' ⟨v, he, hn, hb⟩
    exact ⟨v, t, he, hn, eqJ_refl _ _ (Nat.le_refl _) hg, hg, hb⟩
termination_by SizeOf.sizeOf t
decreasing_by
  all_goals
    obtain ⟨i, hi, rfl⟩ := List.getElem_of_mem hs
    exact size_item t i hi
end Go.Proofs.YtmelgankbegjaaaGreatDoor.Js

set_option linter.unusedVariables false
set_option linter.unusedSimpArgs false
set_option maxRecDepth 100000
set_option maxHeartbeats 8000000
namespace Go.Proofs.YtmelgankbegjaaaGreatDoor.Js
open Go.RowKit Go.Proofs.YtmelgankbegjaaaGreatDoor.B

theorem caught_idleM (p : Addr) (w : World) :
    CallsD Tryz.prog 18 #[.pointer (some p)] .returning w fun e u' w' => e = .returned (.tuple #[]) ∧ u' = .returning ∧ w' = w := by
  refine callsD_of_wpS Tryz.func18 rfl fun c₀ cs hu => ?_
  apply wpS_seq
  apply wpS_region
  simp [wpOpsS, go_sem, recoverD, hu, Tryz.ntmps18, Exit.thenS]
  refine wpS_cond (t := false) (by simp [Act.eval, Array.replicate]) ?_
  simp only [Bool.false_eq_true, if_false]
  refine wpS_of_wp (wp_skip ?_)
  cases c₀
  simp_all [bodyPostS, results, Tryz.results18]
theorem heap_oldM {w : World} {o : Obj} {k : Nat} {x : Obj} (h : w.heap[k]? = some x) : (w.alloc o).heap[k]? = some x := (((Below.refl _ _).alloc (Nat.le_refl _) o : Below w.heap.size w (w.alloc o)).block k (Rv.lt_of_blk h)).trans h
theorem four_blocks (w : World) (x y z u : Obj) : ((((w.alloc x).alloc y).alloc z).alloc u).heap[w.heap.size]? = some x ∧ ((((w.alloc x).alloc y).alloc z).alloc u).heap[w.heap.size + 1]? = some y ∧ ((((w.alloc x).alloc y).alloc z).alloc u).heap[w.heap.size + 1 + 1]? = some z ∧ ((((w.alloc x).alloc y).alloc z).alloc u).heap[w.heap.size + 1 + 1 + 1]? = some u ∧ Below w.heap.size w ((((w.alloc x).alloc y).alloc z).alloc u) := by
  have e1 : (w.alloc x).heap.size = w.heap.size + 1 := by simp
  have e2 : ((w.alloc x).alloc y).heap.size = w.heap.size + 1 + 1 := by simp
  have e3 : (((w.alloc x).alloc y).alloc z).heap.size = w.heap.size + 1 + 1 + 1 := by simp
  refine ⟨heap_oldM (heap_oldM (heap_oldM (heap_alloc_new _ _))), heap_oldM (heap_oldM ?_), heap_oldM ?_, ?_, ((((Below.refl _ _).alloc (Nat.le_refl _) x).alloc (by omega) y).alloc (by omega) z).alloc (by omega) u⟩
  · rw [← e1]; exact heap_alloc_new _ _
  · rw [← e2]; exact heap_alloc_new _ _
  · rw [← e3]; exact heap_alloc_new _ _
end Go.Proofs.YtmelgankbegjaaaGreatDoor.Js
