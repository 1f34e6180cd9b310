/-
  The size guard of FnAlternatingMatchesRunModel.
-/
import Derived.Test.Qxb6603195aSizes
namespace Go.Proofs.Qxb6603195a
open Go.RowKit


set_option maxRecDepth 100000 in
set_option maxHeartbeats 1000000 in
theorem zz14 (a : Option Addr) (c : Nat) (ms : List Ms) (ok : Nat → Prop) (w : World) (hn : ms.length ≤ maxLen) (hm : MsgsAt w ok a ms) :
    Calls Try.prog 14 #[.slice a ms.length c] w fun e w' => SomeBool e (fun r => r = true → Light ms) ∧ w' = w := by
  obtain ⟨b, o, ha, hms⟩ := hm
  obtain ⟨n, hN⟩ : ∃ n, ms.length = n := ⟨_, rfl⟩
  rw [hN] at hn ha hms ⊢
  have HN : Hid (ms.length = n) := hN
  clear hN
  unfold maxLen at hn
  have hidx := idx32 a n c b o (fun hp => (ha hp).1)
  clear ha
  go_enter Try.func14, Try.ntmps14
  go_wp2
  · go_ret; exact ⟨⟨_, rfl, fun h => by cases h⟩, rfl⟩
  have hn20 : n ≤ 1048576 := by omega
  go_loop [3, 4] (fun z i => ∃ (k t : Nat), k ≤ n ∧ i = .int .i64 k ∧ z = .int .i64 t ∧ t ≤ 1048576 ∧ Hid (t = n + wMs (ms.take k))) (fun _ i => n - (intOf i).toNat)
  case atStart => exact ⟨0, n, Nat.zero_le _, rfl, rfl, hn20, by simp [Hid, wMs]⟩
  case round =>
    obtain ⟨k, t, hk, rfl, rfl, ht, HT⟩ := hrel
    by_cases hlt : k < n
    · have hltI : (k : Int) < (n : Int) := by omega
      have hsucc : Hid (wMs (ms.take (k + 1)) = wMs (ms.take k) + wM (ms.getD k ms0)) := wMs_succ ms k (by rw [HN.out]; exact hlt)
      have hmk := hms k hlt
      obtain ⟨m, hm⟩ : ∃ m, ms.getD k ms0 = m := ⟨_, rfl⟩
      rw [hm] at hmk hsucc
      obtain ⟨ca, cc, b', o', g2, _, hca, hcl⟩ := msg_parts hmk
      obtain ⟨g0, g1, _, g3, _⟩ := hmk
      obtain ⟨role, content, nl, calls, tid, failed⟩ := m
      simp only at g0 g1 g2 g3 hca hcl
      obtain ⟨L, hL⟩ : ∃ L, calls.length = L := ⟨_, rfl⟩
      rw [hL] at g2 hca hcl
      have HL : Hid (calls.length = L) := hL
      have j0 := hidx k hltI
      have jc := idx42 ca L cc b' o' hca
      clear hidx hms hm hL hca
      go_wp2
      all_goals first
        | (go_ret; exact ⟨⟨_, rfl, fun h => by cases h⟩, rfl⟩)
        | skip
      go_loop [3, 5] (fun z i => ∃ (q s : Nat), q ≤ L ∧ i = .int .i64 q ∧ z = .int .i64 s ∧ s ≤ 1048576 ∧ Hid (s = t + role.size + content.size + L + wCs (calls.take q))) (fun _ i => L - (intOf i).toNat)
      case atStart => exact ⟨0, t + role.size + content.size + L, Nat.zero_le _, rfl, by go_num, by omega, by simp [Hid, wCs]⟩
      case round =>
        obtain ⟨q, s, hq, rfl, rfl, hs, HSM⟩ := hrel
        by_cases hlq : q < L
        · have hlqI : (q : Int) < (L : Int) := by omega
          have hsc : Hid (wCs (calls.take (q + 1)) = wCs (calls.take q) + wC (calls.getD q cl0)) := wCs_succ calls q (by rw [HL.out]; exact hlq)
          obtain ⟨e0, e1, e2⟩ := hcl q hlq
          obtain ⟨cl, hcl'⟩ : ∃ m, calls.getD q cl0 = m := ⟨_, rfl⟩
          rw [hcl'] at e0 e1 e2 hsc
          obtain ⟨id, name, args⟩ := cl
          simp only at e0 e1 e2
          have jq := jc q hlqI
          clear jc hcl hcl' g0 g1 g3
          go_wp2
          all_goals first
            | (go_ret; exact ⟨⟨_, rfl, fun h => by cases h⟩, rfl⟩)
            | skip
          go_round
          case rel =>
            refine ⟨q + 1, s + id.size + name.size + args.size, by omega, by go_num, by go_num, by omega, ?_⟩
            show _ = _
            rw [hsc.out, HSM.out]
            simp only [wC]
            omega
          case measure => simp [intOf]; omega
        · clear jc hcl g0 g1
          go_wp2
          all_goals first
            | (go_ret; exact ⟨⟨_, rfl, fun h => by cases h⟩, rfl⟩)
            | skip
          go_round
          case rel =>
            refine ⟨k + 1, s + tid.size, by omega, by go_num, by go_num, by omega, ?_⟩
            have e : calls.take q = calls := List.take_of_length_le (by rw [HL.out]; omega)
            show _ = _
            have h1 := HSM.out
            rw [e] at h1
            rw [hsucc.out, h1, HT.out]
            simp only [wM, HL.out]
            omega
          case measure => simp [intOf]; omega
    · clear hidx hms
      go_wp2
      go_ret
      have e : k = n := by omega
      refine ⟨⟨_, rfl, fun _ => ?_⟩, rfl⟩
      have h1 := HT.out
      have h2 := HN.out
      unfold Light
      rw [e, ← h2, List.take_length] at h1
      omega
end Go.Proofs.Qxb6603195a
