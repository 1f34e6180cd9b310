/-
  b1RunEnd, b1CallCount.
-/
import Derived.Test.Qxb6603195aRuns
import Derived.Test.Qxb6603195aAltLaws
namespace Go.Proofs.Qxb6603195a
open Go.RowKit

set_option maxRecDepth 100000 in
set_option maxHeartbeats 1000000 in
theorem run18 (a : Option Addr) (c : Nat) (ms : List Ms) (ok : Nat → Prop) (w : World) (hm : MsgsAt w ok a ms) (hn : ms.length ≤ 1048576) (i : Nat) (hi : i < ms.length) :
    Calls Try.prog 18 #[.slice a ms.length c, .int .i64 i] w fun e w' => (∃ j : Nat, e = .returned (.int .i64 j) ∧ RunEnd ms i j) ∧ Drawn w w' := by
  obtain ⟨b, o, ha, hms⟩ := hm
  obtain ⟨n, hN⟩ : ∃ n, ms.length = n := ⟨_, rfl⟩
  have HN : Hid (ms.length = n) := hN
  rw [hN] at hn ha hms hi
  rw [hN]
  have hidx := idx32 a n c b o (fun hp => (ha hp).1)
  have hiI : (i : Int) < (n : Int) := by omega
  have hmi := (hms i hi).1
  have ji := hidx i hiI
  have HM : Hid (∀ i, i < n → MsAt w ok b (o + 5 * i) (ms.getD i ms0)) := hms
  obtain ⟨mi, hmi'⟩ : ∃ m, ms.getD i ms0 = m := ⟨_, rfl⟩
  rw [hmi'] at hmi
  have HMI : Hid (ms.getD i ms0 = mi) := hmi'
  obtain ⟨role, content, nl, calls, tid, failed⟩ := mi
  simp only at hmi
  clear hms hmi' hN ha
  cases ht : (role.toList == [116, 111, 111, 108]) with
  | true =>
    clear hidx
    go_enter Try.func18, Try.ntmps18
    go_wp2
    go_ret
    refine ⟨⟨i + 1, by go_num, by omega, by rw [HN.out]; omega, fun t h1 h2 => by omega, fun _ => rfl, fun h => ?_⟩, Drawn.refl _⟩
    rw [HMI.out] at h
    have h' : (role.toList == [116, 111, 111, 108]) = false := h
    rw [ht] at h'
    cases h'
  | false =>
    go_enter Try.func18, Try.ntmps18
    go_wp2
    go_loopw [5] (fun v wr => ∃ j : Nat, i < j ∧ j ≤ n ∧ v = .int .i64 j ∧ Hid (∀ t, i < t → t < j → sameS (ms.getD t ms0).role role = true) ∧ Drawn w wr) (fun v _ => n - (intOf v).toNat)
    case atStart => exact ⟨i + 1, by omega, by omega, by go_num, fun t h1 h2 => by omega, Drawn.refl _⟩
    case round =>
      obtain ⟨j, hij, hj, rfl, HS, hd⟩ := hrel
      replace hmi := hd.cell hmi
      by_cases hlt : j < n
      · have hltI : (j : Int) < (n : Int) := by omega
        have hmj := (HM.out j hlt).1
        have jj := hidx j hltI
        obtain ⟨mj, hmj'⟩ : ∃ m, ms.getD j ms0 = m := ⟨_, rfl⟩
        rw [hmj'] at hmj
        have HMJ : Hid (ms.getD j ms0 = mj) := hmj'
        obtain ⟨role2, content2, nl2, calls2, tid2, failed2⟩ := mj
        simp only at hmj
        replace hmj := hd.cell hmj
        clear hmj' hidx
        cases hs : (role2.toList == role.toList) with
        | true =>
          go_wp2
          go_quiet (fail)
          go_wp2
          go_roundw
          case rel =>
            refine ⟨j + 1, by omega, by omega, by go_num, fun t h1 h2 => ?_, hd.more _⟩
            by_cases e : t = j
            · rw [e, HMJ.out]; exact hs
            · exact HS.out t h1 (by omega)
          case measure => simp [intOf]; omega
        | false =>
          go_wp2
          go_quiet (fail)
          go_wp2
          go_ret
          refine ⟨⟨j, rfl, hij, by rw [HN.out]; exact hj, fun t h1 h2 => by rw [HMI.out]; exact HS.out t h1 h2, fun h => ?_, fun _ => .inr ?_⟩, hd.more _⟩
          · rw [HMI.out] at h
            have h' : (role.toList == [116, 111, 111, 108]) = true := h
            rw [ht] at h'
            cases h'
          · rw [HMJ.out, HMI.out]
            exact hs
      · have hltB : decide ((j : Int) < (n : Int)) = false := decide_eq_false (by omega)
        clear hidx
        go_wp2
        go_quiet (fail)
        go_wp2
        go_ret
        refine ⟨⟨j, rfl, hij, by rw [HN.out]; exact hj, fun t h1 h2 => by rw [HMI.out]; exact HS.out t h1 h2, fun h => ?_, fun _ => .inl (by rw [HN.out]; omega)⟩, hd.more _⟩
        rw [HMI.out] at h
        have h' : (role.toList == [116, 111, 111, 108]) = true := h
        rw [ht] at h'
        cases h'

def cnt (l : List Ms) : Nat := (l.map (·.calls.length)).sum
theorem cnt_snoc (l : List Ms) (m : Ms) : cnt (l ++ [m]) = cnt l + m.calls.length := by simp [cnt]
theorem cnt_le (l r : List Ms) : cnt l ≤ cnt (l ++ r) := by simp [cnt]

set_option maxRecDepth 100000 in
set_option maxHeartbeats 1000000 in
theorem count21 (a : Option Addr) (c : Nat) (ms : List Ms) (ok : Nat → Prop) (w : World) (hm : MsgsAt w ok a ms) (hn : ms.length ≤ 1048576) (i j : Nat) (hij : i ≤ j) (hj : j ≤ ms.length) (hb : cnt (run ms i j) ≤ 4000000) :
    Calls Try.prog 21 #[.slice a ms.length c, .int .i64 i, .int .i64 j] w fun e w' => e = .returned (.int .i64 (cnt (run ms i j) : Nat)) ∧ w' = w := by
  obtain ⟨b, o, ha, hms⟩ := hm
  have hpre : ∀ t, i ≤ t → t ≤ j → cnt (run ms i t) ≤ 4000000 := fun t h1 h2 => by
    have := cnt_le (run ms i t) (run ms t j)
    rw [← run_append ms i t j h1 h2] at this
    omega
  have hstep : ∀ t, i ≤ t → t < ms.length → cnt (run ms i (t + 1)) = cnt (run ms i t) + (ms.getD t ms0).calls.length := fun t h1 h2 => by rw [run_snoc ms i t h1 h2, cnt_snoc]
  have h0 : cnt (run ms i i) = 0 := by rw [run_self]; rfl
  obtain ⟨n, hN⟩ : ∃ n, ms.length = n := ⟨_, rfl⟩
  rw [hN] at hn ha hms hj hstep
  rw [hN]
  have hidx := idx32 a n c b o (fun hp => (ha hp).1)
  obtain ⟨C, hC⟩ : ∃ C : Nat → Nat, ∀ t, cnt (run ms i t) = C t := ⟨_, fun _ => rfl⟩
  simp only [hC] at hpre hstep h0 hb ⊢
  have HM : Hid (∀ i, i < n → MsAt w ok b (o + 5 * i) (ms.getD i ms0)) := hms
  clear hms hC hN ha hb
  go_enter Try.func21, Try.ntmps21
  go_wp2
  go_loopw [7, 8] (fun s v wr => ∃ t : Nat, i ≤ t ∧ t ≤ j ∧ v = .int .i64 t ∧ s = .int .i64 (C t : Nat) ∧ wr = w) (fun _ v _ => j - (intOf v).toNat)
  case atStart => exact ⟨i, Nat.le_refl _, hij, rfl, by rw [h0]; rfl, rfl⟩
  case round =>
    obtain ⟨t, h1, h2, rfl, rfl, rfl⟩ := hrel
    have hct := hpre t h1 h2
    by_cases hlt : t < j
    · have hltI : (t : Int) < (j : Int) := by omega
      have hltn : (t : Int) < (n : Int) := by omega
      have hct1 := hpre (t + 1) (by omega) (by omega)
      have hst := hstep t h1 (by omega)
      obtain ⟨_, _, ⟨v, hv, hcs⟩, _, _⟩ := HM.out t (by omega)
      obtain ⟨ca, cc, e⟩ := oneCell_calls hcs
      rw [e] at hv
      have jt := hidx t hltn
      obtain ⟨L, hL⟩ : ∃ L, (ms.getD t ms0).calls.length = L := ⟨_, rfl⟩
      rw [hL] at hv hst
      clear hcs e hL hidx hpre hstep
      go_wp2
      go_roundw
      case rel => exact ⟨t + 1, by omega, by omega, by go_num, by rw [hst]; go_num, by first | rfl | trivial⟩
      case measure => simp [intOf]; omega
    · have e : t = j := by omega
      subst e
      clear hidx hpre hstep
      go_wp2
      go_ret
      exact ⟨rfl, rfl⟩
end Go.Proofs.Qxb6603195a
