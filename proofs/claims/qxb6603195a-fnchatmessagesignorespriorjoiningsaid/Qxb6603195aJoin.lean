/-
  FnChatMessagesIgnoresPriorJoining: the law of alternating and the walk.
-/
import Derived.Test.Qxb6603195aChat
import Derived.Test.Qxb6603195aSame
namespace Go.Proofs.Qxb6603195a
open Go.RowKit

theorem alt_snoc (l : List Ms) (m : Ms) : alt (l ++ [m]) = altStep (alt l) m := by simp [alt, List.foldl_append]

theorem alt_len (l : List Ms) : (alt l).length ≤ l.length := by
  have := alt_le l l.length (Nat.le_refl _)
  rwa [List.take_length] at this

theorem set_last (l : List Ms) (x y : Ms) : (l ++ [x]).set ((l ++ [x]).length - 1) y = l ++ [y] := by simp

theorem lastM_snoc (l : List Ms) (x : Ms) : lastM (l ++ [x]) = x := by simp [lastM]

/-- What alternating leaves stands apart already. -/
theorem altStep_fix (out : List Ms) (m : Ms) (h : alt out = out) : alt (altStep out m) = altStep out m := by
  unfold altStep
  by_cases ha : apartB out m = true
  · rw [if_pos ha, alt_snoc, h]
    simp [altStep, ha]
  · rw [if_neg ha]
    rcases List.eq_nil_or_concat out with e | ⟨l, x, e⟩
    · subst e
      simp [apartB] at ha
    · rw [List.concat_eq_append] at e
      subst e
      rw [lastM_snoc, set_last]
      rw [alt_snoc] at h ⊢
      have hl := alt_len l
      have hap : apartB (alt l) x = true := by
        by_cases hx : apartB (alt l) x = true
        · exact hx
        · rw [altStep, if_neg hx] at h
          have := congrArg List.length h
          simp at this
          omega
      have hal : alt l = l := by
        rw [altStep, if_pos hap] at h
        exact List.append_cancel_right h
      rw [hal] at hap ⊢
      have hap2 : apartB l (mergeM x m) = true := hap
      rw [altStep, if_pos hap2]

theorem alt_fix (ms : List Ms) : alt (alt ms) = alt ms := by
  have : ∀ (l : List Ms) (out : List Ms), alt out = out → alt (l.foldl altStep out) = l.foldl altStep out := by
    intro l
    induction l with
    | nil => exact fun out h => h
    | cons m l ih => exact fun out h => ih _ (altStep_fix out m h)
  exact this ms [] rfl

set_option maxHeartbeats 400000 in
theorem alt16 (a : Option Addr) (c : Nat) (ms : List Ms) (w : World) (hm : MsgsAt w (fun _ => True) a ms) (hl : Slim ms) :
    Calls Try.prog 16 #[.slice a ms.length c] w fun e w' => ∃ b q, e = .returned (.slice (some ⟨b, 0, none⟩) (alt ms).length q) ∧ MsgsAt w' (fun _ => True) (some ⟨b, 0, none⟩) (alt ms) ∧ Below w.heap.size w w' := by
  have h := alt33 a c ms w hm hl
  clear hm hl
  generalize alt ms = X at *
  go_enter Try.func16, Try.ntmps16
  go_wp2_with fail
  refine h.mono ?_
  rintro e w' ⟨b, q, rfl, h1, h2⟩
  go_wp2
  go_ret
  exact ⟨b, q, rfl, h1, h2⟩

set_option maxHeartbeats 400000 in
theorem chat25 (a : Option Addr) (c : Nat) (ms : List Ms) (w : World) (hm : MsgsAt w (fun _ => True) a ms) (hl : Slim ms) :
    Calls Try.prog 25 #[.slice a ms.length c] w fun e w' => ∃ b, e = .returned (.slice (some ⟨b, 0, none⟩) (alt ms).length (alt ms).length) ∧ ChatAt w' b (alt ms) ∧ Below w.heap.size w w' := by
  have h := chat35 a c ms w hm hl
  clear hm hl
  generalize alt ms = X at *
  go_enter Try.func25, Try.ntmps25
  go_wp2_with fail
  refine h.mono ?_
  rintro e w' ⟨b, rfl, h1, h2⟩
  go_wp2
  go_ret
  exact ⟨b, rfl, h1, h2⟩

theorem ChatAt.later {w w' : World} {b : Nat} {X : List Ms} (h : ChatAt w b X) (hb : Below w.heap.size w w') (hlt : b < w.heap.size) : ChatAt w' b X := by
  obtain ⟨F, hrow, hF⟩ := h
  exact ⟨F, hrow.of_block (hb.block b hlt), fun j hj => (hF j hj).same (fun x hx _ => hb.block x hx)⟩

theorem ChatAt.lt {w : World} {b : Nat} {X : List Ms} (h : ChatAt w b X) : b < w.heap.size := by
  obtain ⟨F, ⟨cur, hc, _⟩, _⟩ := h
  exact (Array.getElem?_eq_some_iff.1 hc).1

set_option maxRecDepth 100000 in
set_option maxHeartbeats 1000000 in
theorem join7 (a : Option Addr) (c : Nat) (ms : List Ms) (ok : Nat → Prop) (w : World) (hn : ms.length ≤ maxLen) (hm : MsgsAt w ok a ms) :
    Calls Try.prog 7 #[.slice a ms.length c] w fun e w' => e = .returned (.bool true) ∧ Below w.heap.size w w' := by
  have h28 := zz28 a c ms ok w hn hm
  have h15 := fit15 a c ms ok w hm
  have h17 := tomsg17 a c ms ok w hm
  clear hm hn
  go_enter Try.func7, Try.ntmps7
  go_wp2_with fail
  refine h28.mono ?_
  rintro e w1 ⟨⟨r, rfl, hr⟩, rfl⟩
  cases r with
  | false =>
    go_wp2
    go_ret
    exact ⟨rfl, Below.refl _ _⟩
  | true =>
    have hl := hr rfl
    have h15 := h15 hl
    have h17 := h17 hl
    have hs := hl.slim
    clear hr
    go_wp2_with fail
    refine h15.mono ?_
    rintro e w2 ⟨⟨r, rfl, _⟩, rfl⟩
    cases r with
    | false =>
      go_wp2
      go_ret
      exact ⟨rfl, Below.refl _ _⟩
    | true =>
      go_wp2_with fail
      refine h17.mono ?_
      rintro e w3 ⟨a3, c3, rfl, hm3, hb3⟩
      go_wp2_with fail
      refine (chat25 a3 c3 ms w3 hm3 hs).mono ?_
      rintro e w4 ⟨b4, rfl, hc4, hb4⟩
      have hm4 := hm3.same (Below.sameTrue hb4)
      go_wp2_with fail
      refine (alt16 a3 c3 ms w4 hm4 hs).mono ?_
      rintro e w5 ⟨b5, q5, rfl, hm5, hb5⟩
      have hc5 := hc4.later hb5 hc4.lt
      have h25 := chat25 (some ⟨b5, 0, none⟩) q5 (alt ms) w5 hm5 hs.alt
      have hs2 := hs.alt
      rw [alt_fix] at h25
      have hb25 : Below w2.heap.size w2 w5 := (hb3.trans (hb4.mono hb3.size)).trans (hb5.mono (Nat.le_trans hb3.size hb4.size))
      clear hm3 hm4 hm5 hc4 hs h15 h17 hl
      generalize alt ms = X at *
      go_wp2_with fail
      refine h25.mono ?_
      rintro e w6 ⟨b6, rfl, hc6, hb6⟩
      go_wp2_with fail
      refine (same29 b4 b6 X w6 (hc5.later hb6 hc5.lt) hc6 hs2).mono ?_
      rintro e w7 ⟨rfl, hd7⟩
      go_wp2
      go_ret
      exact ⟨rfl, (hb25.trans (hb6.mono hb25.size)).trans (hd7.below _)⟩
end Go.Proofs.Qxb6603195a
