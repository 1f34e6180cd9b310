/-
  b1JoinedMatches at the joined text of the run.
-/
import Derived.Test.Qxb6603195aRuns
import Derived.Test.Qxb6603195aAltLaws
namespace Go.Proofs.Qxb6603195a
open Go.RowKit

theorem joined_prefix (l r : List Ms) : ∃ z, joined (l ++ r) = joined l ++ z := by
  induction r generalizing l with
  | nil => exact ⟨[], by simp⟩
  | cons m r ih =>
    obtain ⟨z, hz⟩ := ih (l ++ [m])
    rw [List.append_assoc] at hz
    rw [show l ++ m :: r = l ++ ([m] ++ r) by simp, hz, joined_snoc]
    by_cases h1 : m.content.data.toList.isEmpty = true
    · rw [if_pos h1]; exact ⟨_, rfl⟩
    · rw [if_neg h1]
      by_cases h2 : texts l = []
      · rw [if_pos h2, (joined_nil_iff l).2 h2]
        exact ⟨_, rfl⟩
      · rw [if_neg h2]
        exact ⟨[10, 10] ++ m.content.data.toList ++ z, by simp [List.append_assoc]⟩

theorem ext_of {s : ByteArray} {p q z : List UInt8} (h : s.data.toList = p ++ q ++ z) : (s.extract p.length (p.length + q.length)).toList = q := by
  rw [ByteArray.toList_eq, ByteArray.data_extract, Array.toList_extract, List.extract_eq_take_drop, h]
  rw [List.append_assoc, List.drop_left, show p.length + q.length - p.length = q.length by omega, List.take_left]

/-- What a round of the comparison meets: no text so far. -/
theorem round_first {got : ByteArray} {l r : List Ms} {m : Ms} (hg : got.data.toList = joined (l ++ ([m] ++ r))) (hne : m.content.data.toList.isEmpty = false) (hf : texts l = []) :
    m.content.size ≤ got.size ∧ (got.extract 0 m.content.size).toList = m.content.toList ∧ (joined (l ++ [m])).length = m.content.size ∧ (joined l).length = 0 := by
  obtain ⟨z, hz⟩ := joined_prefix (l ++ [m]) r
  rw [List.append_assoc] at hz
  have hj : joined (l ++ [m]) = m.content.data.toList := by rw [joined_snoc, if_neg (by rw [hne]; simp), if_pos hf]
  rw [hz, hj] at hg
  have hl := congrArg List.length hg
  have e1 : got.data.toList.length = got.size := Array.length_toList
  have e2 : m.content.data.toList.length = m.content.size := Array.length_toList
  rw [List.length_append, e1, e2] at hl
  have := ext_of (s := got) (p := []) (q := m.content.data.toList) (z := z) (by simpa using hg)
  rw [List.length_nil, Nat.zero_add, e2] at this
  exact ⟨by omega, by rw [this, ByteArray.toList_eq], by rw [hj, e2], by rw [(joined_nil_iff l).2 hf]; rfl⟩

/-- .. a text stands already. -/
theorem round_more {got : ByteArray} {l r : List Ms} {m : Ms} (hg : got.data.toList = joined (l ++ ([m] ++ r))) (hne : m.content.data.toList.isEmpty = false) (hf : texts l ≠ []) {off : Nat} (ho : (joined l).length = off) :
    off + 2 + m.content.size ≤ got.size ∧ (got.extract off (off + 2)).toList = [10, 10] ∧ (got.extract (off + 2) (off + 2 + m.content.size)).toList = m.content.toList ∧ (joined (l ++ [m])).length = off + 2 + m.content.size := by
  obtain ⟨z, hz⟩ := joined_prefix (l ++ [m]) r
  rw [List.append_assoc] at hz
  have hj : joined (l ++ [m]) = joined l ++ [10, 10] ++ m.content.data.toList := by rw [joined_snoc, if_neg (by rw [hne]; simp), if_neg hf]
  rw [hz, hj] at hg
  have e1 : got.data.toList.length = got.size := Array.length_toList
  have e2 : m.content.data.toList.length = m.content.size := Array.length_toList
  have hl := congrArg List.length hg
  simp only [List.length_append, e1, e2, ho, List.length_cons, List.length_nil] at hl
  have x1 := ext_of (s := got) (p := joined l) (q := [10, 10]) (z := m.content.data.toList ++ z) (by rw [hg]; simp [List.append_assoc])
  have x2 := ext_of (s := got) (p := joined l ++ [10, 10]) (q := m.content.data.toList) (z := z) hg
  simp only [List.length_append, e2, ho, List.length_cons, List.length_nil] at x1 x2
  refine ⟨by omega, x1, by rw [x2, ByteArray.toList_eq], ?_⟩
  rw [hj]
  simp only [List.length_append, e2, ho, List.length_cons, List.length_nil]

set_option maxRecDepth 100000 in
set_option maxHeartbeats 1000000 in
theorem joined19 (got : ByteArray) (a : Option Addr) (c : Nat) (ms : List Ms) (ok : Nat → Prop) (w : World) (hm : MsgsAt w ok a ms) (hn : ms.length ≤ 1048576) (i j : Nat) (hij : i ≤ j) (hj : j ≤ ms.length) (hg : got.data.toList = joined (run ms i j)) (hgs : got.size ≤ 4000000) :
    Calls Try.prog 19 #[.string got, .slice a ms.length c, .int .i64 i, .int .i64 j] w fun e w' => e = .returned (.bool true) ∧ w' = w := by
  obtain ⟨b, o, ha, hms⟩ := hm
  obtain ⟨n, hN⟩ : ∃ n, ms.length = n := ⟨_, rfl⟩
  have hsplit : ∀ t, i ≤ t → t < j → run ms i j = run ms i t ++ ([ms.getD t ms0] ++ run ms (t + 1) j) ∧ run ms i (t + 1) = run ms i t ++ [ms.getD t ms0] := fun t h1 h2 => by
    have h3 := run_snoc ms i t h1 (by omega)
    refine ⟨?_, h3⟩
    rw [← List.append_assoc, ← h3]
    exact run_append ms i (t + 1) j (by omega) (by omega)
  have hle : ∀ t, i ≤ t → t ≤ j → (joined (run ms i t)).length ≤ 4000000 := fun t h1 h2 => by
    obtain ⟨z, hz⟩ := joined_prefix (run ms i t) (run ms t j)
    rw [← run_append ms i t j h1 h2, ← hg] at hz
    have := congrArg List.length hz
    have e1 : got.data.toList.length = got.size := Array.length_toList
    rw [List.length_append, e1] at this
    omega
  rw [hN] at hn ha hms hj
  rw [hN]
  have hidx := idx32 a n c b o (fun hp => (ha hp).1)
  have HM : Hid (∀ i, i < n → MsAt w ok b (o + 5 * i) (ms.getD i ms0)) := hms
  have HS : Hid _ := hsplit
  have HG : Hid (got.data.toList = joined (run ms i j)) := hg
  have HLE : Hid _ := hle
  clear hms hN ha hsplit hg hle
  go_enter Try.func19, Try.ntmps19
  go_wp2
  go_loopw [9, 10, 11] (fun s f v wr => ∃ t off : Nat, i ≤ t ∧ t ≤ j ∧ v = .int .i64 t ∧ s = .int .i64 off ∧ f = .bool (texts (run ms i t)).isEmpty ∧ Hid ((joined (run ms i t)).length = off) ∧ wr = w) (fun _ _ v _ => j - (intOf v).toNat)
  case atStart => exact ⟨i, 0, Nat.le_refl _, hij, rfl, rfl, by rw [run_self]; rfl, by show _ = _; rw [run_self]; rfl, rfl⟩
  case round =>
    obtain ⟨t, off, h1, h2, rfl, rfl, rfl, HO, rfl⟩ := hrel
    have hoff := HLE.out t h1 h2
    rw [HO.out] at hoff
    by_cases hlt : t < j
    · have hltI : (t : Int) < (j : Int) := by omega
      have hltn : (t : Int) < (n : Int) := by omega
      have g1 := (HM.out t (by omega)).2.1
      obtain ⟨hs1, hs2⟩ := HS.out t h1 hlt
      have hl1 := HLE.out (t + 1) (by omega) (by omega)
      have hg := HG.out
      rw [hs1] at hg
      rw [hs2] at hl1
      obtain ⟨m, hm⟩ : ∃ m, ms.getD t ms0 = m := ⟨_, rfl⟩
      rw [hm] at g1 hg hl1 hs2
      have jt := hidx t hltn
      have HS2 : Hid (run ms i (t + 1) = run ms i t ++ [m]) := hs2
      generalize run ms i t = l at *
      generalize run ms (t + 1) j = r at *
      obtain ⟨role, content, nl, calls, tid, failed⟩ := m
      simp only at g1
      have er : content.toList = content.data.toList := ByteArray.toList_eq content
      cases hE : content.toList.isEmpty with
      | true =>
        have hj0 : joined (l ++ [(⟨role, content, nl, calls, tid, failed⟩ : Ms)]) = joined l := by rw [joined_snoc, if_pos (by simp only; rw [← er]; exact hE)]
        have ht0 : texts (l ++ [(⟨role, content, nl, calls, tid, failed⟩ : Ms)]) = texts l := by rw [texts_append, texts_one, if_pos (by simp only; rw [← er]; exact hE), List.append_nil]
        have HJ := (show Hid _ from hj0)
        have HT := (show Hid _ from ht0)
        clear hj0 ht0 er hg hl1 hs1 hs2 hm hidx
        go_wp2
        go_roundw
        case rel => exact ⟨t + 1, off, by omega, by omega, by go_num, rfl, by rw [HS2.out, HT.out], by show _ = _; rw [HS2.out, HJ.out]; exact HO.out, by first | rfl | trivial⟩
        case measure => simp [intOf]; omega
      | false =>
        have hE' : content.data.toList.isEmpty = false := by rw [← er]; exact hE
        have hne1 : texts (l ++ [(⟨role, content, nl, calls, tid, failed⟩ : Ms)]) ≠ [] := by
          rw [texts_append, texts_one, if_neg (by simp only; rw [hE']; simp)]
          simp
        have hte : (texts (l ++ [(⟨role, content, nl, calls, tid, failed⟩ : Ms)])).isEmpty = false := by
          cases hh : texts (l ++ [(⟨role, content, nl, calls, tid, failed⟩ : Ms)]) with
          | nil => exact absurd hh hne1
          | cons _ _ => rfl
        have HTE : Hid _ := hte
        cases hF : (texts l).isEmpty with
        | true =>
          obtain ⟨k1, k2, k3, k4⟩ := round_first hg hE' (List.isEmpty_iff.1 hF)
          rw [HO.out] at k4
          subst k4
          simp only at k1 k2 k3
          have K3 : Hid _ := k3
          have k1I : ¬ (got.size : Int) < (content.size : Int) := by omega
          have hbe : ((got.extract 0 content.size).toList == content.toList) = true := by rw [k2]; simp
          clear er hg hl1 hs1 hs2 hm hidx hte hne1 k3 k2
          go_wp2
          go_roundw
          case rel => exact ⟨t + 1, content.size, by omega, by omega, by go_num, by go_num, by rw [HS2.out, HTE.out], by show _ = _; rw [HS2.out]; exact K3.out, by first | rfl | trivial⟩
          case measure => simp [intOf]; omega
        | false =>
          have hfl : texts l ≠ [] := fun e => by rw [e] at hF; cases hF
          obtain ⟨k1, k2, k3, k4⟩ := round_more hg hE' hfl HO.out
          simp only at k1 k2 k3 k4
          have K4 : Hid _ := k4
          have hb1 : ((got.extract off (off + 2)).toList == [10, 10]) = true := by rw [k2]; rfl
          have hb2 : ((got.extract (off + 2) (off + 2 + content.size)).toList == content.toList) = true := by rw [k3]; simp
          clear er hg hl1 hs1 hs2 hm hidx hte hne1 k3 k2 k4
          go_wp2
          go_roundw
          case rel => exact ⟨t + 1, off + 2 + content.size, by omega, by omega, by go_num, by go_num, by rw [HS2.out, HTE.out], by show _ = _; rw [HS2.out]; exact K4.out, by first | rfl | trivial⟩
          case measure => simp [intOf]; omega
    · have e : t = j := by omega
      subst e
      have hl := congrArg List.length HG.out
      have e1 : got.data.toList.length = got.size := Array.length_toList
      rw [e1, HO.out] at hl
      subst hl
      clear hidx
      go_wp2
      go_ret
      exact ⟨rfl, rfl⟩
end Go.Proofs.Qxb6603195a
