/- A region that draws its order: as region_fin, with a fact that holds till some of the operations that turn memory. Conditions: those written at each law. -/
import Derived.Test.YtmelgankbegjaaaRv
set_option linter.unusedVariables false
set_option linter.unusedSimpArgs false
namespace Go.Proofs.Ytmelgankbegjaaa.Rv
open Go Go.RowKit
/-- As region_fin, what is told ahead of some operations (KA) apart from those that turn memory (KL). -/
theorem region_fin2 {P : Program} {id : Nat} {ops : Array Oper} {Q : Exit → Act → World → Prop} {a0 : Act} {w0 : World} (hm : P.follows .mixedOrders = true)
    (D : Array Nat) (G : Array (Option Bool)) (Good : Nat → (Nat → Value) → World → Prop) (K : Nat → Nat → Bool) (KL KA : Nat → Bool) (RelK : Nat → (Nat → Value) → World → World → Prop) (Tr TrA : World → Prop) (J : (Nat → Bool) → (Nat → Value) → World → Prop)
    (jloc : ∀ L L' f f' w, (∀ k, k < ops.size → L k = L' k) → (∀ k, k < ops.size → f k = f' k) → J L f w → J L' f' w)
    (loc : ∀ i f f' w, i < ops.size → f i = f' i → (∀ k, depends ops i k = true → f k = f' k) → Good i f w → Good i f' w)
    (mono : ∀ i j f w w', i < ops.size → j < ops.size → i ≠ j → K i j = false → depends ops j i = false → Good j f w → (KL i = true ∧ RelK i f w w') ∨ Below w.heap.size w w' → Good j f w')
    (hG : ∀ i (h : i < ops.size) g b, (ops[i]).guard = some (g, b) → ∀ f w, Good g f w → f g = gval (G.getD g none))
    (n : Nat) (hn : a0.tmps.size = n) (hchk : chk ops D n = true) (hgl : ∀ i (h : i < ops.size) g b, (ops[i]).guard = some (g, b) → alive ops K i g = true) (tr0 : Tr { w0 with drawn := w0.drawn + 1 }) (tra0 : TrA { w0 with drawn := w0.drawn + 1 }) (j0 : ∀ f, J (fun _ => false) f { w0 with drawn := w0.drawn + 1 })
    (skip : ∀ i (h : i < ops.size), runs G ops[i] = false → ∀ f w, f i = undef → Good i f w) (jskip : ∀ i (h : i < ops.size), runs G ops[i] = false → ∀ L f w, L i = false → J L f w → J (put L i) (upd f i undef) w)
    (step : ∀ i (h : i < ops.size) (a : Act) (w : World), runs G ops[i] = true → (∀ j, D.toList.contains j = false → a.tmps.getD j undef = a0.tmps.getD j undef) → (∀ k, k < ops.size → depends ops k i = true → a.tmps.getD (D.getD k 0) undef = a0.tmps.getD (D.getD k 0) undef) →
      (∀ k, ((ops[i]).after.toList.any fun e => e.on == k && Region.binds .any e) = true → alive ops K i k = true → Good k (vals D a) w) → Tr w → (ahead ops KA i = true → TrA w) → (∃ L : Nat → Bool, L i = false ∧ (∀ k, depends ops i k = true → L k = true) ∧ J L (vals D a) w) →
      (ops[i]).wp P a w (fun a' w' => ∃ v, a' = a.put (ops[i]).dst v ∧ Good i (upd (vals D a) i (slotv (ops[i]).dst v)) w' ∧ ((KL i = true ∧ RelK i (upd (vals D a) i (slotv (ops[i]).dst v)) w w') ∨ Below w.heap.size w w') ∧ Tr w' ∧ (KA i = false → TrA w → TrA w') ∧ (∀ L, L i = false → J L (vals D a) w → J (put L i) (upd (vals D a) i (slotv (ops[i]).dst v)) w')) Q)
    (done : ∀ (w : World) (f : Nat → Value), (∀ i, i < ops.size → dead ops K i = false → Good i f w) → Tr w → J (fun _ => true) f w → Q .normal (fin a0 ((List.range ops.size).map fun i => (D.getD i 0, f i))) w) :
    (Code.region id ops true).wp P Q a0 w0 := by
  have hchk0 := hchk
  unfold chk at hchk0
  rw [Bool.and_eq_true, decide_eq_true_iff, List.all_eq_true] at hchk0
  obtain ⟨hsz, hall⟩ := hchk0
  have hinj : ∀ i j, i < ops.size → j < ops.size → D.getD i 0 = D.getD j 0 → i = j := fun i j hi hj e => by
    have h1 := hall i (List.mem_range.2 hi)
    rw [Bool.and_eq_true] at h1
    have h2 := List.all_eq_true.1 h1.2 j (List.mem_range.2 hj)
    rw [e] at h2
    simpa using h2
  refine region_gen hm D G Good (fun i f w w' => (KL i = true ∧ RelK i f w w') ∨ Below w.heap.size w w') Tr K TrA KA J jloc loc mono hG n hn hchk hgl tr0 tra0 j0 (fun i h hr f w hf => ⟨skip i h hr f w hf, .inr (Below.refl _ _)⟩) jskip
    (fun i h a w hr hdf hbase hpre hdep htr hta hJ => step i h a w hr hbase hpre hdep htr hta hJ) (fun a w hs hdf hbase hg htr hJ => ?_)
  have hz : ∀ p ∈ (List.range ops.size).map fun i => (D.getD i 0, a.tmps.getD (D.getD i 0) undef), ∃ i, i < ops.size ∧ p.1 = D.getD i 0 ∧ p.2 = a.tmps.getD (D.getD i 0) undef := fun p hp => by
    obtain ⟨i, hi, rfl⟩ := List.mem_map.1 hp
    exact ⟨i, List.mem_range.1 hi, rfl, rfl⟩
  have e : a = fin a0 ((List.range ops.size).map fun i => (D.getD i 0, a.tmps.getD (D.getD i 0) undef)) := by
    have ht : a.tmps = (fin a0 ((List.range ops.size).map fun i => (D.getD i 0, a.tmps.getD (D.getD i 0) undef))).tmps := by
      refine tmps_ext (by rw [hs, fin_size, hn]) fun j hj => ?_
      rw [fin_size, hn] at hj
      by_cases hin : ∃ i, i < ops.size ∧ D.getD i 0 = j
      · obtain ⟨i, hi, rfl⟩ := hin
        refine (fin_in _ _ _ _ (by rw [hn]; exact hj) (fun p hp hpe => ?_) ⟨_, List.mem_map.2 ⟨i, List.mem_range.2 hi, rfl⟩, rfl⟩).symm
        obtain ⟨k, hk, h1, h2⟩ := hz p hp
        rw [h2, hinj k i hk hi (by rw [← h1, hpe])]
      · rw [fin_out _ _ _ (fun p hp e => by
          obtain ⟨k, hk, h1, _⟩ := hz p hp
          exact hin ⟨k, hk, by rw [← h1, e]⟩)]
        refine hbase j ?_
        rcases Bool.eq_false_or_eq_true (D.toList.contains j) with h | h
        · exfalso
          rw [List.contains_iff_mem] at h
          obtain ⟨i, hi, rfl⟩ := List.getElem_of_mem h
          have hi2 : i < D.size := by simpa using hi
          exact hin ⟨i, by omega, by rw [Array.getD_eq_getD_getElem?, Array.getElem?_eq_getElem hi2]; simp⟩
        · exact h
    have hd2 : a.defers = (fin a0 ((List.range ops.size).map fun i => (D.getD i 0, a.tmps.getD (D.getD i 0) undef))).defers := by rw [hdf, fin_defers]
    generalize hb2 : fin a0 ((List.range ops.size).map fun i => (D.getD i 0, a.tmps.getD (D.getD i 0) undef)) = b at *
    clear hb2
    cases a
    cases b
    simp only at ht hd2
    rw [ht, hd2]
  have hdone := done w (vals D a) hg htr hJ
  unfold vals at hdone
  rw [← e] at hdone
  exact hdone
end Go.Proofs.Ytmelgankbegjaaa.Rv
