/-
  The second size guard: only that it answers.
-/
import Derived.Test.Qxb6603195aSizes
namespace Go.Proofs.Qxb6603195a
open Go.RowKit

/-- It returns a count up to just above the limit. -/
def Counts (e : Ending) : Prop := ∃ r : Int, e = .returned (.int .i64 r) ∧ 0 ≤ r ∧ r ≤ 1048577

set_option maxHeartbeats 400000 in
theorem grow30 (t n : Int) (w : World) (ht0 : 0 ≤ t) (ht : t ≤ 1048577) (hn0 : 0 ≤ n) (hn : n ≤ 9223372036854775807) :
    Calls Try.prog 30 #[.int .i64 t, .int .i64 n] w fun e w' => Counts e ∧ w' = w := by
  by_cases h1 : t ≤ 1048576
  · by_cases h2 : n ≤ 1048576 - t
    · have d1 : decide ((1048576 : Int) < t) = false := decide_eq_false (by omega)
      have d2 : decide (n < 0) = false := decide_eq_false (by omega)
      have d3 : decide ((1048576 : Int) - t < n) = false := decide_eq_false (by omega)
      go_enter Try.func30, Try.ntmps30
      go_wp2
      go_ret
      exact ⟨⟨t + n, rfl, by omega, by omega⟩, rfl⟩
    · have d1 : decide ((1048576 : Int) < t) = false := decide_eq_false (by omega)
      have d2 : decide (n < 0) = false := decide_eq_false (by omega)
      have d3 : decide ((1048576 : Int) - t < n) = true := decide_eq_true (by omega)
      go_enter Try.func30, Try.ntmps30
      go_wp2
      go_ret
      exact ⟨⟨1048577, rfl, by omega, by omega⟩, rfl⟩
  · have d1 : decide ((1048576 : Int) < t) = true := decide_eq_true (by omega)
    go_enter Try.func30, Try.ntmps30
    go_wp2
    go_ret
    exact ⟨⟨1048577, rfl, by omega, by omega⟩, rfl⟩

theorem sum_ge {α : Type} (f : α → Nat) (d : α) : ∀ (l : List α) (k : Nat), k < l.length → f (l.getD k d) ≤ (l.map f).sum
  | [], k, h => by simp at h
  | x :: l, 0, _ => by simp
  | x :: l, k + 1, h => by
    have := sum_ge f d l k (by simpa using h)
    simp only [List.map_cons, List.sum_cons, List.getD_cons_succ]
    omega

theorem Light.msg {ms : List Ms} (h : Light ms) (k : Nat) (hk : k < ms.length) : wM (ms.getD k ms0) ≤ 1048576 := by
  have := sum_ge wM ms0 ms k hk
  unfold Light wMs at h
  omega

theorem wC_le (cs : List Cl) (k : Nat) (hk : k < cs.length) : wC (cs.getD k cl0) ≤ wCs cs := sum_ge wC cl0 cs k hk

set_option maxRecDepth 100000 in
set_option maxHeartbeats 1000000 in
theorem fit15 (a : Option Addr) (c : Nat) (ms : List Ms) (ok : Nat → Prop) (w : World) (hm : MsgsAt w ok a ms) (hl : Light ms) :
    Calls Try.prog 15 #[.slice a ms.length c] w fun e w' => SomeBool e (fun _ => True) ∧ w' = w := by
  obtain ⟨b, o, ha, hms⟩ := hm
  have hlm := hl.msg
  have hn : ms.length ≤ 1048576 := by unfold Light at hl; omega
  clear hl
  obtain ⟨n, hN⟩ : ∃ n, ms.length = n := ⟨_, rfl⟩
  rw [hN] at hn ha hms hlm ⊢
  clear hN
  have hidx := idx32 a n c b o (fun hp => (ha hp).1)
  clear ha
  go_enter Try.func15, Try.ntmps15
  go_wp2
  · go_ret; exact ⟨⟨_, rfl, trivial⟩, rfl⟩
  go_loop [3, 4] (fun z i => ∃ (k : Nat) (t : Int), k ≤ n ∧ i = .int .i64 k ∧ z = .int .i64 t ∧ 0 ≤ t ∧ t ≤ 1048577) (fun _ i => n - (intOf i).toNat)
  case atStart => exact ⟨0, 0, Nat.zero_le _, rfl, rfl, by omega, by omega⟩
  case round =>
    obtain ⟨k, t, hk, rfl, rfl, ht0, ht⟩ := hrel
    by_cases hlt : k < n
    · have hltI : (k : Int) < (n : Int) := by omega
      have hmk := hms k hlt
      have hwm := hlm k hlt
      obtain ⟨m, hm⟩ : ∃ m, ms.getD k ms0 = m := ⟨_, rfl⟩
      rw [hm] at hmk hwm
      obtain ⟨ca, cc, b', o', g2, _, hca, hcl⟩ := msg_parts hmk
      obtain ⟨g0, g1, _, g3, _⟩ := hmk
      obtain ⟨role, content, nl, calls, tid, failed⟩ := m
      simp only at g0 g1 g2 g3 hca hcl
      have hwc := wC_le calls
      simp only [wM] at hwm
      obtain ⟨L, hL⟩ : ∃ L, calls.length = L := ⟨_, rfl⟩
      rw [hL] at g2 hca hcl hwm hwc
      obtain ⟨W, hW⟩ : ∃ W, wCs calls = W := ⟨_, rfl⟩
      rw [hW] at hwm hwc
      have j0 := hidx k hltI
      have jc := idx42 ca L cc b' o' hca
      clear hidx hms hm hL hca hlm hW
      go_wp2_with fail
      refine (grow30 _ _ _ (by omega) (by omega) (by omega) (by omega)).mono ?_
      rintro e w1 ⟨⟨r1, rfl, hr0, hr1⟩, rfl⟩
      go_wp2_with fail
      refine (grow30 _ _ _ (by omega) (by omega) (by omega) (by omega)).mono ?_
      rintro e w1 ⟨⟨r2, rfl, hr20, hr21⟩, rfl⟩
      go_wp2_with fail
      refine (grow30 _ _ _ (by omega) (by omega) (by omega) (by omega)).mono ?_
      rintro e w1 ⟨⟨r3, rfl, hr30, hr31⟩, rfl⟩
      go_wp2_with fail
      refine (grow30 _ _ _ (by omega) (by omega) (by omega) (by omega)).mono ?_
      rintro e w1 ⟨⟨r4, rfl, hr40, hr41⟩, rfl⟩
      go_wp2_with fail
      · go_ret; exact ⟨⟨_, rfl, trivial⟩, rfl⟩
      refine (grow30 _ _ _ (by omega) (by omega) (by omega) (by omega)).mono ?_
      rintro e w1 ⟨⟨r5, rfl, hr50, hr51⟩, rfl⟩
      go_wp2_with fail
      · go_ret; exact ⟨⟨_, rfl, trivial⟩, rfl⟩
      go_loop [3, 5] (fun z i => ∃ (q : Nat) (t : Int), q ≤ L ∧ i = .int .i64 q ∧ z = .int .i64 t ∧ 0 ≤ t ∧ t ≤ 1048577) (fun _ i => L - (intOf i).toNat)
      case atStart => exact ⟨0, r5, Nat.zero_le _, rfl, rfl, by omega, by omega⟩
      case round =>
        obtain ⟨q, s, hq, rfl, rfl, hs0, hs⟩ := hrel
        by_cases hlq : q < L
        · have hlqI : (q : Int) < (L : Int) := by omega
          have hwq := hwc q hlq
          obtain ⟨e0, e1, e2⟩ := hcl q hlq
          obtain ⟨cl, hcl'⟩ : ∃ m, calls.getD q cl0 = m := ⟨_, rfl⟩
          rw [hcl'] at e0 e1 e2 hwq
          obtain ⟨id, name, args⟩ := cl
          simp only [wC] at e0 e1 e2 hwq
          have jq := jc q hlqI
          clear jc hcl hcl' g0 g1 g3 hwc
          go_wp2_with fail
          refine (grow30 _ _ _ (by omega) (by omega) (by omega) (by omega)).mono ?_
          rintro e w1 ⟨⟨r6, rfl, hr60, hr61⟩, rfl⟩
          go_wp2_with fail
          refine (grow30 _ _ _ (by omega) (by omega) (by omega) (by omega)).mono ?_
          rintro e w1 ⟨⟨r7, rfl, hr70, hr71⟩, rfl⟩
          go_wp2_with fail
          refine (grow30 _ _ _ (by omega) (by omega) (by omega) (by omega)).mono ?_
          rintro e w1 ⟨⟨r8, rfl, hr80, hr81⟩, rfl⟩
          go_wp2_with fail
          · go_ret; exact ⟨⟨_, rfl, trivial⟩, rfl⟩
          go_round
          case rel => exact ⟨q + 1, r8, by omega, by go_num, rfl, by omega, by omega⟩
          case measure => simp [intOf]; omega
        · clear jc hcl g0 g1 hwc
          go_wp2
          go_round
          case rel => exact ⟨k + 1, s, by omega, by go_num, rfl, by omega, by omega⟩
          case measure => simp [intOf]; omega
    · clear hidx hms hlm
      go_wp2
      go_ret
      exact ⟨⟨_, rfl, trivial⟩, rfl⟩

end Go.Proofs.Qxb6603195a
