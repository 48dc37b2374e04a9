/- Part o of the chain. Conditions: those written at each lemma. -/
import Derived.Test.YtmelgankbegjaaaGreatDoorGn
set_option linter.unusedVariables false
set_option linter.unusedSimpArgs false
set_option maxRecDepth 100000
set_option maxHeartbeats 8000000
namespace Go.Proofs.YtmelgankbegjaaaGreatDoor.Js
open Go.RowKit Go.Proofs.YtmelgankbegjaaaGreatDoor.B

/-- JSPut. -/
theorem put_any (E : Nat → Prop) (tx : J) (ad : Bool) : ∀ (l : List Sp) (t : J) (v vx : Value) (A0 : Option Addr) (c0 : Nat) (w : World), l.length ≤ 4 → Way t l → Wf t → (∀ x, E x → x < w.heap.size) → JN E w t v → JN E w tx vx → Rd w 3 (.slice A0 l.length c0) l.length (stc l) →
    Calls Tryz.prog 11 #[v, .slice A0 l.length c0, vx, .bool true, .bool ad] w (OutP E (updJ (fun _ => tx) (if ad then some tx else none) l t) w)
  | [], t, v, vx, A0, c0, w, _, _, _, hE, hj, hx, _ => (put_nil ad t tx E E v vx A0 c0 w hj hx).mono (by
      rintro e w' ⟨rfl, hb⟩
      exact ⟨vx, true, rfl, (hx.below hb).weak (fun _ _ h => .inl h), hb⟩)
  | sp :: r, t, v, vx, A0, c0, w, hl4, hw, hwf, hE, hj, hx, hl => by
    have hs := hwf.short
    have hrl : r.length + 1 ≤ 4 := hl4
    obtain ⟨bl, ol, rfl, _⟩ := st_at hl 0 (by simp)
    cases hw with
    | cons _ _ _ k hf hk hw' =>
      rw [updJ_at _ _ _ _ _ k hf hk]
      have hwk := hwf.kids.1.get _ (List.getElem_mem hk)
      obtain ⟨kk, n, s, ns, is⟩ := t
      exact put_found E kk n s ns is tx _ ad v vx sp r bl ol c0 k w hE hj hx (by have : is.length ≤ 4 := hs.1; omega) (by have : ns.length ≤ 4 := hs.2; omega) hk hf hl (by omega)
        (fun W A1 c1 v vx hb h1 h2 h3 => put_any E tx ad r _ v vx A1 c1 W (by omega) hw' hwk (fun x hx => Nat.lt_of_lt_of_le (hE x hx) hb.size) h1 h2 h3)
    | last _ _ hf hsp =>
      rw [updJ_no _ _ _ _ _ hf]
      obtain ⟨kk, n, s, ns, is⟩ := t
      obtain ⟨x, si, sb⟩ := sp
      have h8 : is.length ≤ 8 := by have : is.length ≤ 4 := hs.1; omega
      have hn8 : ns.length ≤ 8 := by have : ns.length ≤ 4 := hs.2; omega
      cases ad
      · exact put_noadd E sb kk n s ns is tx v vx x si bl ol c0 w hE hj hx h8 hn8 hf hl
      · show Calls _ _ _ _ (OutP E (addJ (.mk kk n s ns is) ⟨x, si, sb⟩ tx) w)
        unfold addJ
        cases sb
        · by_cases h4 : kk = 4
          · subst h4
            rw [if_neg (fun h => by cases h.1.2 rfl)]
            exact put_noarr E n s ns is tx v vx x si bl ol c0 w hE hj hx h8 hn8 hf hl
          · by_cases h5 : kk = 5
            · subst h5
              rw [if_pos ⟨⟨fun e => (by cases e), fun e => absurd (show (5 : Int) = 4 from e) (by decide)⟩, .inr rfl⟩]
              exact put_new E n s ns is tx v vx x si bl ol c0 w hE hj hx h8 hn8 hf hl
            · rw [if_neg (fun h => h.2.elim (fun e => by cases e) h5)]
              exact put_noother E kk n s ns is tx v vx x si bl ol c0 w h4 h5 hE hj hx h8 hn8 hf hl
        · have h4 : kk = 4 := hsp rfl
          subst h4
          rw [if_pos ⟨⟨fun _ => rfl, fun _ => rfl⟩, .inl rfl⟩]
          exact put_item E n s ns is tx v vx x si bl ol c0 w hE hj hx h8 hn8 hf hl
end Go.Proofs.YtmelgankbegjaaaGreatDoor.Js
