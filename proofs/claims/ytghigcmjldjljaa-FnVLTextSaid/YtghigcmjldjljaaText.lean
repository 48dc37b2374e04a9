/- walks for FnVLText -/
import Derived.Test.YtghigcmjldjljaaProg
import Derived.Below
import Derived.WalkKit
import Derived.BigQuiet
import Derived.Deep.QuietTactic
import Derived.Deep.RegionHeld3
import Derived.Lib.BufferWrite
import Derived.Lib.SlBuf
import Derived.Laws.BytesArg
import Derived.Laws.MakeOwn
import Derived.Lib.Hide
import Derived.Laws.CopyOwn
namespace Go.Proofs.Ytghigcmjldjljaa.Text
open Go.RowKit Go.Lib

theorem expectSize_any (A : Option Addr) (n c : Nat) (w : World) :
    Calls Try.prog 33 #[.slice A n c, .int .u16 (IntKind.u16.wrap (n : Int))] w fun e w' => e = .returned (.tuple #[]) ∧ w = w' := by
  go_enter Try.func33, Try.ntmps33
  go_wp2
  go_end0
  exact ⟨rfl, rfl⟩

theorem info5 : (Try.prog.info? 5).map (·.size) = some 1 := by kernel_rfl
theorem info5' : (Try.prog.info? 5).map (fun i => (i.zero, i.size, i.bytes)) = some (some (.int .u8 0), 1, 1) := by kernel_rfl

theorem writeString_any (g c : Nat) (s : ByteArray) (cur : Array Value) (w : World) (hs : s.size ≤ 9223372036854775807) (hg : w.heap[g]? = some (.cells cur 5 (0, 0))) (hc : cur.size = s.size) :
    Calls Try.prog 25 #[.slice (some ⟨g, 0, none⟩) s.size c, .string s, .int .u16 0] w fun e w' => e = .returned (.slice (some ⟨g, 0, none⟩) s.size c) ∧ w' = w.setRow g (byteCells s.data.toList).toArray := by
  have HC := Lib.hid hc
  have HG := Lib.hid hg
  clear hc hg
  go_enter Try.func25, Try.ntmps25
  go_wp2_with (first
    | (go_at_call 33; refine (expectSize_any _ _ _ _).mono ?_; rintro e w' ⟨rfl, rfl⟩)
    | (refine Lib.wpList_copy_run _ rfl (.tmp 12) (.tmp 13) 23 9 rfl _ _ rfl rfl (run_copy_row_string w 23 9 _ 5 g 0 s.size c s cur 5 Try.underlying23 info5 HG.out (Nat.le_refl _) (by have := HC.out; omega)) ?_))
  go_ret
  refine ⟨rfl, ?_⟩
  rw [List.drop_of_length_le (by have := HC.out; rw [Array.length_toList]; omega), List.append_nil]

/-- v is a slice that reads the bytes of s. -/
def Bts (w : World) (v : Value) (s : ByteArray) : Prop :=
  ∃ b c, v = .slice (some ⟨b, 0, none⟩) s.size c ∧ ∃ cur fr, w.heap[b]? = some (.cells cur 5 fr) ∧ ∀ j (h : j < s.size), cur[j]? = some (.int .u8 ((s[j]'h).toNat : Int))

theorem vlText_any (s : ByteArray) (w : World) (hs : s.size ≤ 2147483647) :
    Calls Try.prog 15 #[.string s] w fun e w' => ∃ v, e = .returned v ∧ Bts w' v s ∧ Below w.heap.size w w' := by
  obtain ⟨i0, hi0, hz0, hz1, hz2⟩ := info_parts info5'
  have hmk := fun W => run_make (P := Try.prog) W 23 5 i0 (.int .u8 0) Try.underlying23 hi0 hz0 .i64 .i64 (s.size : Int) (s.size : Int) (by omega) (by omega) (by rw [hz2]; omega) (by omega)
  rw [hz1] at hmk
  have HZ := Lib.hid (And.intro hz0 (And.intro hz1 hz2))
  clear hz0 hz1 hz2 hi0
  go_enter Try.func15, Try.ntmps15
  go_wp2_with (first
    | (go_at_call 25; go_loud (refine (writeString_any _ _ s _ _ (by omega) (heap_alloc_new _ _) (by simp [madeCells])).mono ?_); rintro e w' ⟨rfl, rfl⟩))
  go_ret
  refine ⟨_, rfl, ⟨w.heap.size, s.size, rfl, (byteCells s.data.toList).toArray, (0, 0), ?_, ?_⟩, ?_⟩
  · exact setRow_heap _ _ _ _ _ _ (heap_alloc_new _ _)
  · intro j h
    have h' : j < s.data.size := h
    simp only [byteCells, List.getElem?_toArray, List.getElem?_map, Array.getElem?_toList, Array.getElem?_eq_getElem h', Option.map_some]
    rfl
  · exact below_setRow ((Below.refl _ _).alloc (Nat.le_refl _) _) (Nat.le_refl _) _

theorem strOfNums_map (l : List UInt8) : strOfNums (l.map fun b => (b.toNat : Int)) = ⟨l.toArray⟩ := by
  unfold strOfNums
  rw [List.map_map]
  congr 1
  rw [show ((fun n : Int => UInt8.ofNat n.toNat) ∘ fun b : UInt8 => (b.toNat : Int)) = id from by funext b; simp]
  simp

theorem str_of_bts {w : World} {v : Value} {s : ByteArray} (h : Bts w v s) : (convert 23 9 v).run Try.prog w = .ok (.string s) w := by
  obtain ⟨b, c, rfl, cur, fr, hg, hc⟩ := h
  have hx : (s.data.toList.map fun x => (x.toNat : Int)).length = s.size := by rw [List.length_map, Array.length_toList]; rfl
  rw [run_convert_bytes_arg w 23 5 Try.underlying23 Try.underlying5 b 0 s.size c (s.data.toList.map fun x => (x.toNat : Int)) hx
    (fun i hi => by
      have hi' : i < s.data.size := hi
      rw [cell_of_row w b (0 + i) cur 5 fr hg, Nat.zero_add, hc i hi]
      simp only [List.getD_eq_getElem?_getD, List.getElem?_map, Array.getElem?_toList, Array.getElem?_eq_getElem hi', Option.map_some, Option.getD_some]
      rfl) 9 Try.underlying9, strOfNums_map]

theorem readString_any (v : Value) (s : ByteArray) (w : World) (h : Bts w v s) :
    Calls Try.prog 26 #[v, .int .u16 0] w fun e w' => e = .returned (.string s) ∧ w = w' := by
  have hs := str_of_bts h
  clear h
  go_enter Try.func26, Try.ntmps26
  go_wp2
  go_ret
  exact ⟨rfl, rfl⟩

theorem vlTextBack_any (v : Value) (s : ByteArray) (w : World) (h : Bts w v s) :
    Calls Try.prog 16 #[v] w fun e w' => e = .returned (.string s) ∧ w = w' := by
  have H := Lib.hid h
  clear h
  go_enter Try.func16, Try.ntmps16
  go_wp2_with (first
    | (go_at_call 26; refine (readString_any _ s _ H.out).mono ?_; rintro e w' ⟨rfl, rfl⟩))
  go_ret
  exact ⟨rfl, rfl⟩

theorem law_any (s : ByteArray) (w : World) (hs : s.size ≤ 9223372036854775807) :
    Calls Try.prog 7 #[.string s] w fun e w' => e = .returned (.bool true) ∧ Below w.heap.size w w' := by
  by_cases hb : s.size ≤ 2147483647
  · go_enter Try.func7, Try.ntmps7
    go_wp2_with (first
      | (go_at_call 15; refine (vlText_any s _ hb).mono ?_; rintro e w1 ⟨v, rfl, hv, hbel⟩; have hst := str_of_bts hv; have HV := Lib.hid hv; clear hv)
      | (go_at_call 16; refine (vlTextBack_any v s _ HV.out).mono ?_; rintro e w' ⟨rfl, rfl⟩))
    go_ret
    exact ⟨rfl, hbel⟩
  · go_enter Try.func7, Try.ntmps7
    go_wp2
    go_ret
    exact ⟨rfl, Below.refl _ _⟩

end Go.Proofs.Ytghigcmjldjljaa.Text
