/- The node of a value that is neither an array nor a map. Conditions: those written at each lemma. -/
import Derived.Test.YtmelgankbegjaaaMe
import Derived.Test.YtmelgankbegjaaaKj
set_option linter.unusedVariables false
set_option linter.unusedSimpArgs false
set_option maxRecDepth 100000
set_option maxHeartbeats 8000000
namespace Go.Proofs.Ytmelgankbegjaaa.Js
open Go.RowKit Go.Proofs.Ytmelgankbegjaaa.B

attribute [local go_sem] as4_4 as4_65 as4_9 as4_67 as4_68 as65_4 as65_65 as65_9 as65_67 as65_68 as9_4 as9_65 as9_9 as9_67 as9_68 as67_4 as67_65 as67_9 as67_67 as67_68 as68_4 as68_65 as68_9 as68_67 as68_68 atn_4 atn_65 atn_9 atn_67 atn_68
theorem f31 (x : Nat) (w : World) : (callFunc 31 #[.float .f64 x]).run Try.prog w = .ok (.value (.int .u64 (x : Int))) w := by kernel_rfl
theorem nn_flat {p : Nat → Prop} {W : World} (k n : Int) (s : ByteArray) : NN p W (.mk k n s [] []) (.agg #[.int .i64 k, .int .u64 (nb k n), .string s, .slice none 0 0, .slice none 0 0]) :=
  ⟨none, 0, none, 0, [], rfl, Rp.nil _ _ _, Rp.nil _ _ _, rfl⟩
theorem node_flat (t : J) (p : Nat → Prop) (u : Value) (w : World) (hg : Wg t) (h : IV p w t u) (hk : t.k < 4) : Calls Try.prog 23 #[u] w fun e w' => ∃ v, e = .returned v ∧ NN (fun x => w.heap.size ≤ x) w' t v ∧ Below w.heap.size w w' := by
  have HZ := Lib.hid (heap_alloc_new w nz)
  obtain ⟨s0, s1, s2, s3, s4⟩ := Rv.cells5 HZ.out
  obtain ⟨z0, z1, z2, z3, z4⟩ := Rv.frozen5 HZ.out
  obtain ⟨k, n, s, ns, is⟩ := t
  have hk : k < 4 := hk
  have f31 := f31 (jw n)
  rcases h with ⟨e, rfl⟩ | ⟨e, rfl⟩ | ⟨e, rfl⟩ | ⟨e, rfl⟩ | ⟨e, _⟩ | ⟨e, _⟩
  case inr.inr.inr.inr.inl => omega
  case inr.inr.inr.inr.inr => omega
  all_goals rcases hg with ⟨e2, a, b, rfl, rfl⟩ | ⟨e2, a, b, rfl, rfl⟩ | ⟨e2, a, a2, b, rfl, rfl⟩ | ⟨e2, a, b, rfl, rfl⟩ | ⟨e2, _⟩ | ⟨e2, _⟩ <;> first | omega | skip
  · subst e a b
    clear hk f31 e2
    go_enter Try.func23, Try.ntmps23
    go_wp2
    obtain ⟨q0, q1, q2, q3, q4⟩ := Rv.cells5 (heap_alloc_new w (.cells #[.int .i64 0, .int .u64 0, .string ⟨#[]⟩, .slice none 0 0, .slice none 0 0] 32))
    refine bodyPost_ret (v := .agg #[.int .i64 0, .int .u64 0, .string ⟨#[]⟩, .slice none 0 0, .slice none 0 0]) ?_ rfl ⟨_, rfl, nn_flat 0 0 .empty, (Below.refl w.heap.size w).alloc (Nat.le_refl _) _⟩
    simp only [results, show Try.f23.results = #[.cell 2 32] by kernel_rfl]
    go_simp
  · subst e b
    clear hk f31 e2
    rcases a with rfl | rfl
    · go_enter Try.func23, Try.ntmps23
      go_wp2
      obtain ⟨q0, q1, q2, q3, q4⟩ := Rv.cells5 (heap_alloc_new w (.cells #[.int .i64 1, .int .u64 0, .string ⟨#[]⟩, .slice none 0 0, .slice none 0 0] 32))
      refine bodyPost_ret (v := .agg #[.int .i64 1, .int .u64 0, .string ⟨#[]⟩, .slice none 0 0, .slice none 0 0]) ?_ rfl ⟨_, rfl, nn_flat 1 0 .empty, (Below.refl w.heap.size w).alloc (Nat.le_refl _) _⟩
      simp only [results, show Try.f23.results = #[.cell 2 32] by kernel_rfl]
      go_simp
    · go_enter Try.func23, Try.ntmps23
      go_wp2
      obtain ⟨q0, q1, q2, q3, q4⟩ := Rv.cells5 (heap_alloc_new w (.cells #[.int .i64 1, .int .u64 1, .string ⟨#[]⟩, .slice none 0 0, .slice none 0 0] 32))
      refine bodyPost_ret (v := .agg #[.int .i64 1, .int .u64 1, .string ⟨#[]⟩, .slice none 0 0, .slice none 0 0]) ?_ rfl ⟨_, rfl, nn_flat 1 1 .empty, (Below.refl w.heap.size w).alloc (Nat.le_refl _) _⟩
      simp only [results, show Try.f23.results = #[.cell 2 32] by kernel_rfl]
      go_simp
  · subst e b
    clear hk e2
    go_enter Try.func23, Try.ntmps23
    go_wp2
    obtain ⟨q0, q1, q2, q3, q4⟩ := Rv.cells5 (heap_alloc_new w (.cells #[.int .i64 2, .int .u64 (jw n : Int), .string ⟨#[]⟩, .slice none 0 0, .slice none 0 0] 32))
    refine bodyPost_ret (v := .agg #[.int .i64 2, .int .u64 (jw n : Int), .string ⟨#[]⟩, .slice none 0 0, .slice none 0 0]) ?_ rfl ⟨_, rfl, nn_flat 2 n .empty, (Below.refl w.heap.size w).alloc (Nat.le_refl _) _⟩
    simp only [results, show Try.f23.results = #[.cell 2 32] by kernel_rfl]
    go_simp
  · subst e a
    clear hk f31 e2
    go_enter Try.func23, Try.ntmps23
    go_wp2
    obtain ⟨q0, q1, q2, q3, q4⟩ := Rv.cells5 (heap_alloc_new w (.cells #[.int .i64 3, .int .u64 0, .string s, .slice none 0 0, .slice none 0 0] 32))
    refine bodyPost_ret (v := .agg #[.int .i64 3, .int .u64 0, .string s, .slice none 0 0, .slice none 0 0]) ?_ rfl ⟨_, rfl, nn_flat 3 0 s, (Below.refl w.heap.size w).alloc (Nat.le_refl _) _⟩
    simp only [results, show Try.f23.results = #[.cell 2 32] by kernel_rfl]
    go_simp
end Go.Proofs.Ytmelgankbegjaaa.Js
