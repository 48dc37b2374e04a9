/- The walk of FnVLBack: a number is written and read again. Conditions: the listed table of sizes reads as listed. -/
import Derived.Test.YtbcclblocagneaaDoorVlf
import Derived.Deep.RegionWith
set_option linter.unusedVariables false
set_option linter.unusedSimpArgs false
set_option maxRecDepth 100000
set_option maxHeartbeats 1000000
namespace Go.Proofs.YtbcclblocagneaaDoor.Vl
open Go.RowKit Go.Proofs.YtbcclblocagneaaDoor.B
open Go.Lib (byteCells toUInt8_mod)

theorem kinds_pos {k : Nat} (h : k ∈ kinds) : 0 < sz k ∧ k < 15 := by
  simp only [kinds, List.mem_cons, List.mem_nil_iff, or_false] at h
  rcases h with rfl | rfl | rfl | rfl | rfl | rfl | rfl | rfl | rfl | rfl | rfl | rfl <;> decide
theorem kinds_at (i : Nat) : kinds.getD (i % 12) 0 ∈ kinds := by
  have h : ∀ j : Fin 12, kinds.getD j 0 ∈ kinds := by decide
  exact h ⟨i % 12, Nat.mod_lt _ (by omega)⟩
theorem cut_small (k n bits : Nat) (hs : sgn k = false) (hn : sz k = n) (h0 : 0 < n) : cut k bits < 256 ^ n := by
  have h1 := leNat_lt (Lib.leBytes (sz k) bits)
  rw [Lib.leBytes_length, hn] at h1
  unfold cut num
  rw [if_neg (by rw [hs]; simp), hn]
  exact h1
def Wrote (w : World) (k bits : Nat) (e : Ending) (w' : World) : Prop := ∃ g, e = .returned (.slice (some ⟨g, 0, none⟩) (sz k) (sz k)) ∧ Rd w' 1 (.slice (some ⟨g, 0, none⟩) (sz k) (sz k)) (sz k) (byteCells (Lib.leBytes (sz k) bits)) ∧ Below w.heap.size w w'
theorem write_any (k bits : Nat) (hk : k ∈ kinds) (w : World) (hs : Sz w) :
    Calls Tryd.prog 7 #[.int .i64 k, .int .u64 (cut k bits)] w fun e w' => Wrote w k bits e w' := by
  have hp := (kinds_pos hk).1
  have hc := cut_lt k bits hp
  have hb := cut_bytes k bits hp
  unfold Wrote
  rw [← hb]
  simp only [kinds, List.mem_cons, List.mem_nil_iff, or_false] at hk
  rcases hk with rfl | rfl | rfl | rfl | rfl | rfl | rfl | rfl | rfl | rfl | rfl | rfl
  · exact vlWrite_1 _ hc w hs
  · exact vlWrite_2 _ (cut_small 2 1 bits rfl rfl (by omega)) w hs
  · exact vlWrite_3 _ hc w hs
  · exact vlWrite_4 _ (cut_small 4 2 bits rfl rfl (by omega)) w hs
  · exact vlWrite_7 _ hc w hs
  · exact vlWrite_8 _ (cut_small 8 4 bits rfl rfl (by omega)) w hs
  · exact vlWrite_9 _ hc w hs
  · exact vlWrite_10 _ hc w hs
  · exact vlWrite_11 _ (cut_small 11 4 bits rfl rfl (by omega)) w hs
  · exact vlWrite_12 _ hc w hs
  · exact vlWrite_13 _ (cut_small 13 6 bits rfl rfl (by omega)) w hs
  · exact vlWrite_14 _ (cut_small 14 6 bits rfl rfl (by omega)) w hs
theorem read_any (k bits : Nat) (hk : k ∈ kinds) (g o c : Nat) (w : World) (hs : Sz w) (hr : Rd w 1 (.slice (some ⟨g, o, none⟩) (sz k) c) (sz k) (byteCells (Lib.leBytes (sz k) bits))) :
    Calls Tryd.prog 10 #[.int .i64 k, .slice (some ⟨g, o, none⟩) (sz k) c] w fun e w' => e = .returned (.int .u64 (cut k bits)) ∧ Below w.heap.size w w' := by
  unfold cut
  have hl := Lib.leBytes_length (sz k) bits
  simp only [kinds, List.mem_cons, List.mem_nil_iff, or_false] at hk
  rcases hk with rfl | rfl | rfl | rfl | rfl | rfl | rfl | rfl | rfl | rfl | rfl | rfl
  · exact vlRead_1 _ hl g o c w hs hr
  · exact vlRead_2 _ hl g o c w hs hr
  · exact vlRead_3 _ hl g o c w hs hr
  · exact vlRead_4 _ hl g o c w hs hr
  · exact vlRead_7 _ hl g o c w hs hr
  · exact vlRead_8 _ hl g o c w hs hr
  · exact vlRead_9 _ hl g o c w hs hr
  · exact vlRead_10 _ hl g o c w hs hr
  · exact vlRead_11 _ hl g o c w hs hr
  · exact vlRead_12 _ hl g o c w hs hr
  · exact vlRead_13 _ hl g o c w hs hr
  · exact vlRead_14 _ hl g o c w hs hr

theorem str_bytes {w : World} {v : Value} {n : Nat} {l : List UInt8} (h : Rd w 1 v n (byteCells l)) : (convert 24 9 v).run Tryd.prog w = .ok (.string ⟨l.toArray⟩) w := by
  have h1 : Rd w 1 v n ((l.map fun b => (b.toNat : Int)).map (Value.int .u8)) := by rw [List.map_map]; exact h
  rw [str_of_rd (P := Tryd.prog) Tryd.underlying24 Tryd.underlying5 Tryd.underlying9 h1, strOfNums_map]

theorem back_any (a b : Int) (w : World) (w0 : (Lit.int .u8 a).wf = true) (w1 : (Lit.int .u64 b).wf = true) (hm : Sz w) :
    Calls Tryd.prog 3 #[.int .u8 a, .int .u64 b] w fun e w' => e = .returned (.bool true) ∧ Below w.heap.size w w' := by
  have ba := bounds_u8 w0
  have bb := bounds_u64 w1
  obtain ⟨x, rfl⟩ : ∃ x : Nat, a = x := ⟨a.toNat, by omega⟩
  obtain ⟨y, rfl⟩ : ∃ y : Nat, b = y := ⟨b.toNat, by omega⟩
  have hx : x < 256 := by omega
  have hy : y < 18446744073709551616 := by omega
  have KA := Lib.hid (fun W => kind_any x hx W)
  have hk := kinds_at x
  generalize kinds.getD (x % 12) 0 = k at *
  have hp := kinds_pos hk
  have CA := Lib.hid (fun W => cut_any k y hp.2 hp.1 hy W)
  have BA := Lib.hid (fun W => bytes_any k y hp.2 hy W)
  have WA := Lib.hid (fun W (hW : Below w.heap.size w W) => write_any k y hk W (hm.below hW))
  have RA := Lib.hid (fun g W (hW : Below w.heap.size w W) hr => read_any k y hk g 0 (sz k) W (hm.below hW) hr)
  clear w0 w1 ba bb hm hk hp
  generalize cut k y = cu at *
  go_enter Tryd.func3, Tryd.ntmps3
  go_wp2_with (first
    | (go_at_call 6; (with_reducible refine (KA.out _).mono ?_); rintro e w1 ⟨rfl, hb1⟩)
    | (go_at_call 8; (with_reducible refine (CA.out _).mono ?_); rintro e w2 ⟨rfl, hb2⟩; have hb02 := hb1.trans (hb2.mono hb1.size); clear hb2)
    | (go_at_call 7; (with_reducible refine (WA.out _ hb02).mono ?_); rintro e w3 ⟨g, rfl, hr3, hb3⟩; have hb03 := hb02.trans (hb3.mono hb02.size); have HR3 := Lib.hid hr3; clear hr3 hb3))
  have hcv0 := str_bytes HR3.out.drew
  go_region_with (first
    | (go_at_call 9; (with_reducible refine (BA.out _).mono ?_); rintro e w4 ⟨v4, rfl, hown, hb4⟩; have hr4 := rd_bytes hown; have hcv1 := str_bytes hr4; have hr34 := (HR3.out.drew).below hb4; have hcv2 := str_bytes hr34; have HR4 := Lib.hid hr34; have hb04 := hb03.trans ((below_dr (Dr.refl _).drew hb4).mono hb03.size); clear hown hr4 hr34 hb4)
    | (go_at_call 10; (with_reducible refine (RA.out g _ hb04 HR4.out).mono ?_); rintro e w5 ⟨rfl, hb5⟩; have hb05 := hb04.trans (hb5.mono hb04.size); clear hb5)
    | (go_at_call 8; (with_reducible refine (CA.out _).mono ?_); rintro e w6 ⟨rfl, hb6⟩; have hb06 := hb05.trans (hb6.mono hb05.size); clear hb6))
  all_goals
    go_wp2
    go_ret
    exact ⟨rfl, hb06⟩

end Go.Proofs.YtbcclblocagneaaDoor.Vl
