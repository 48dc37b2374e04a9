/- The walks of FnTXChar: a number as the text of its bytes, and the law that compares it. Conditions: the number is one of 32 bits. -/
import Derived.Test.YtghigcmjldjljaaProg
import Derived.Test.YtghigcmjldjljaaBase
import Derived.Laws.BitsLemmas
set_option linter.unusedVariables false
namespace Go.Proofs.Ytghigcmjldjljaa.Chr
open Go.RowKit Go.Proofs.Ytghigcmjldjljaa.B

def dig : Nat → Int → List Int
  | 0, _ => []
  | k + 1, a => if a = 0 then [] else dig k (a / 256) ++ [a % 256]
theorem dig_zero (k : Nat) : dig k 0 = [] := by cases k <;> simp [dig]
theorem dig_len : ∀ (k : Nat) (a : Int), (dig k a).length ≤ k
  | 0, _ => by simp [dig]
  | k + 1, a => by
    unfold dig
    split
    · simp
    · simp; exact dig_len k _
theorem and255 (a : Int) (h0 : 0 ≤ a) (h1 : a < 4294967296) : bits .and .u32 a 255 = a % 256 :=
  bits_mask .u32 32 (by decide) (fun n h0 h1 => by rw [IntKind.wrap_u32]; omega) 8 (by decide) a h0 h1
theorem info5 : (Try.prog.info? 5).map (fun i => (i.zero, i.size, i.bytes)) = some (some (.int .u8 0), 1, 1) := by kernel_rfl
abbrev by8 (xs : List Int) : List Value := xs.map (Value.int .u8)

theorem char_any (k : Nat) : ∀ (a : Int) (w : World), 0 ≤ a → a < 4294967296 → a < 256 ^ k → k ≤ 8 →
    Calls Try.prog 29 #[.int .u32 a] w fun e w' => ∃ v, e = .returned v ∧ w'.ownsRow w.heap.size 5 1 v (dig k a).length (by8 (dig k a)) ∧ Below w.heap.size w w' := by
  induction k with
  | zero =>
    intro a w h0 h1 h2 _
    have ha : a = 0 := by simp at h2; omega
    subst ha
    go_enter Try.func29, Try.ntmps29
    go_wp2_with fail
    go_ret
    exact ⟨_, rfl, World.ownsRow_lit w #[] 0 (Nat.le_refl _) (by simp [maxLen]) rfl, (Below.refl _ _).alloc (Nat.le_refl _) _⟩
  | succ k ih =>
    intro a w h0 h1 h2 hk
    by_cases ha : a = 0
    · subst ha
      go_enter Try.func29, Try.ntmps29
      go_wp2_with fail
      go_ret
      exact ⟨_, rfl, World.ownsRow_lit w #[] 0 (Nat.le_refl _) (by simp [maxLen]) rfl, (Below.refl _ _).alloc (Nat.le_refl _) _⟩
    · have h3 : a / 256 < 256 ^ k := by
        rw [Int.pow_succ] at h2
        exact Int.ediv_lt_of_lt_mul (by omega) h2
      have hA := and255 a h0 h1
      have hc := dig_len k (a / 256)
      have IH := fun W => ih (a / 256) W (by omega) (by omega) h3 (by omega)
      have HA := Lib.hid (show dig (k + 1) a = dig k (a / 256) ++ [a % 256] by rw [dig, if_neg ha])
      clear ih h2 h3
      go_enter Try.func29, Try.ntmps29
      go_wp2_with (first
        | (go_at_call 29; refine (IH _).mono ?_; rintro e w1 ⟨v1, rfl, hown, hb⟩; have HO := Lib.hid hown; clear hown)
        | (at_builtin; refine app1 w.heap.size rfl (.tmp 8) (.tmp 12) 23 5 (.int .u8 0) 1 1 rfl Try.underlying23 info5 rfl (by omega) (by omega) v1 _ _ _ rfl rfl rfl (one1 rfl) HO.out hb hb.size (by omega) ?_; intro v2 w2 hown2 hb2 _ _))
      go_ret
      refine ⟨_, rfl, ?_, hb2⟩
      rw [HA.out, List.length_append, by8, List.map_append]
      exact hown2

theorem charBytes_any (a : Int) (w : World) (h0 : 0 ≤ a) (h1 : a < 4294967296) :
    Calls Try.prog 21 #[.int .u32 a] w fun e w' => ∃ v, e = .returned v ∧ w'.ownsRow w.heap.size 5 1 v (dig 4 a).length (by8 (dig 4 a)) ∧ Below w.heap.size w w' := by
  go_enter Try.func21, Try.ntmps21
  go_wp2_with (first
    | (go_at_call 29; refine (char_any 4 a _ h0 h1 (by omega) (by omega)).mono ?_; rintro e w1 ⟨v1, rfl, hown, hb⟩; have HO := Lib.hid hown; clear hown))
  go_ret
  exact ⟨_, rfl, HO.out, hb⟩

theorem txChar_any (a : Int) (w : World) (h0 : 0 ≤ a) (h1 : a < 4294967296) :
    Calls Try.prog 9 #[.int .u32 a] w fun e w' => ∃ v, e = .returned v ∧ w'.ownsRow w.heap.size 5 1 v (dig 4 a).length (by8 (dig 4 a)) ∧ Below w.heap.size w w' := by
  go_enter Try.func9, Try.ntmps9
  go_wp2_with (first
    | (go_at_call 21; refine (charBytes_any a _ h0 h1).mono ?_; rintro e w1 ⟨v1, rfl, hown, hb⟩; have HO := Lib.hid hown; clear hown))
  go_ret
  exact ⟨_, rfl, HO.out, hb⟩


/-- What the law's own loop makes is dig's list: one step. -/
theorem dig_step (k : Nat) (x : Int) (hx : x ≠ 0) (ys : List Int) : dig (k + 1) x ++ ys = dig k (x / 256) ++ ((x % 256) :: ys) := by
  rw [dig, if_neg hx, List.append_assoc]
  rfl
theorem dig_zero' (k : Nat) (ys : List Int) : dig k 0 ++ ys = ys := by rw [dig_zero]; rfl

theorem law_any (a : Int) (w : World) (wf : (Lit.int .u32 a).wf = true) :
    Calls Try.prog 3 #[.int .u32 a] w fun e w' => e = .returned (.bool true) ∧ Below w.heap.size w w' := by
  have hb := bounds_u32 wf
  obtain ⟨h0, h1⟩ := hb
  clear wf
  go_enter Try.func3, Try.ntmps3
  go_wp2
  go_loopg [3, 4] 4 (fun kq v3 v4 w' => ∃ (x : Int), v4 = .int .u32 x ∧ 0 ≤ x ∧ x ≤ 4294967295 ∧ Hid (x < 256 ^ kq ∧ kq ≤ 4) ∧ ∃ ys, Hid (dig 4 a = dig kq x ++ ys) ∧ ys.length + kq ≤ 4 ∧ Hid (w'.ownsRow w.heap.size 5 1 v3 ys.length (by8 ys)) ∧ Below w.heap.size w w')
  case atStart => exact ⟨a, rfl, h0, h1, Lib.hid ⟨by omega, by omega⟩, [], Lib.hid (by simp), by simp, Lib.hid (World.ownsRow_nil _ _ _ _), Below.refl _ _⟩
  case round =>
    obtain ⟨x, rfl, hx0, hx1, HX, ys, HY, hys, HO, hbel⟩ := hrel
    by_cases hx : 0 < x
    · cases gk with
      | zero => exact absurd HX.out.1 (by simp; omega)
      | succ gk =>
        have HX' : Hid (x / 256 < 256 ^ gk ∧ gk ≤ 4) := Lib.hid ⟨by have h2 := HX.out.1; rw [Int.pow_succ] at h2; exact Int.ediv_lt_of_lt_mul (by omega) h2, by have := HX.out.2; omega⟩
        have HY' : Hid (dig 4 a = dig gk (x / 256) ++ ((x % 256) :: ys)) := Lib.hid (by rw [HY.out, dig_step gk x (by omega)])
        clear HX HY
        go_wp2_with (first
          | (at_builtin; refine appRd (w0 := w) rfl (.tmp 13) (.tmp 14) 23 rfl w.heap.size 5 (.int .u8 0) 1 1 Try.underlying23 info5 rfl (by omega) (by omega) _ _ _ rfl (World.ownsRow_lit _ _ 1 hbel.size (by simp [maxLen]) rfl) (hbel.alloc hbel.size _) u3 _ _ rfl ((Rd.of_own HO.out).alloc _) (one_map (fun _ => rfl) _) (by omega) (by have := hbel.size; simp; omega) ?_; intro v2 w2 hown2 hb2 _ _; have HO2 := Lib.hid hown2; clear hown2))
        go_roundg gk
        case measure => omega
        case rel => exact ⟨x / 256, rfl, by omega, by omega, HX', (x % 256) :: ys, HY', by simp; omega, Lib.hid (by have h := HO2.out; rw [Nat.add_comm] at h; exact h), hb2⟩
    · obtain rfl : x = 0 := by omega
      obtain rfl : ys = dig 4 a := by rw [HY.out, dig_zero']
      clear HX HY
      have hcvA := fun W v n => str_of_rd (P := Try.prog) (w := W) (v := v) (n := n) (xs := dig 4 a) Try.underlying23 Try.underlying5 Try.underlying9
      have hrd' := (Rd.of_own HO.out).drew
      by_cases ha : a = 0
      · subst ha
        go_wp2
        go_quiet (fail)
        go_wp2
        go_ret
        exact ⟨rfl, below_drewN hbel _⟩
      · have ha' : (a == 0) = false := by simpa using ha
        clear ha
        go_wp2
        have hcv' := hcvA _ _ _ hrd'
        go_region_with (first | (go_at_call 9; refine (txChar_any a _ h0 (by omega)).mono ?_; rintro e w1 ⟨v1, rfl, hown, hb1⟩; have hcv1 := hcvA _ _ _ (Rd.of_own hown); have hcv2 := hcvA _ _ _ (hrd'.below hb1); clear hown))
        all_goals
          go_wp2
          go_ret
          exact ⟨by first | rfl | simp, (hbel.drew.trans (hb1.mono hbel.size))⟩

end Go.Proofs.Ytghigcmjldjljaa.Chr
