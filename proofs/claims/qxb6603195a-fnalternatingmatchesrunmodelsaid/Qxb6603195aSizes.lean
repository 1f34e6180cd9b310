/-
  The size guards.
-/
import Derived.Test.Qxb6603195aBase
namespace Go.Proofs.Qxb6603195a
open Go.RowKit

def wC (c : Cl) : Nat := c.id.size + c.name.size + c.args.size
def wCs (cs : List Cl) : Nat := (cs.map wC).sum
def wM (m : Ms) : Nat := m.role.size + m.content.size + m.calls.length + wCs m.calls + m.tid.size
def wMs (ms : List Ms) : Nat := (ms.map wM).sum

theorem sum_take_succ {α : Type} (f : α → Nat) (d : α) : ∀ (l : List α) (k : Nat), k < l.length → ((l.take (k + 1)).map f).sum = ((l.take k).map f).sum + f (l.getD k d)
  | [], k, h => by simp at h
  | x :: l, 0, _ => by simp
  | x :: l, k + 1, h => by
    have := sum_take_succ f d l k (by simpa using h)
    simp only [List.take_succ_cons, List.map_cons, List.sum_cons, List.getD_cons_succ]
    rw [this]
    omega

theorem wCs_succ (cs : List Cl) (k : Nat) (h : k < cs.length) : wCs (cs.take (k + 1)) = wCs (cs.take k) + wC (cs.getD k cl0) := sum_take_succ wC cl0 cs k h
theorem wMs_succ (ms : List Ms) (k : Nat) (h : k < ms.length) : wMs (ms.take (k + 1)) = wMs (ms.take k) + wM (ms.getD k ms0) := sum_take_succ wM ms0 ms k h

/-- All that the messages lead to, counted as the guard counts it. -/
def Light (ms : List Ms) : Prop := ms.length + wMs ms ≤ 1048576

/-- What the walk reads of message k. -/
theorem msg_parts {w : World} {ok : Nat → Prop} {b o : Nat} {m : Ms} (h : MsAt w ok b o m) :
    ∃ a c b' o', w.cell? ⟨b, o + 2, none⟩ = some (.slice a m.calls.length c) ∧ a.isNone = m.isNil ∧ (0 < m.calls.length → a = some ⟨b', o', none⟩) ∧ ∀ i, i < m.calls.length → ClAt w b' (o' + 3 * i) (m.calls.getD i cl0) := by
  obtain ⟨_, _, ⟨v, hv, a, c, b', o', h1, h2, _, _, h5, h6⟩, _, _⟩ := h
  exact ⟨a, c, b', o', by rw [hv, h1], h2, fun hp => (h5 hp).1, h6⟩

set_option maxRecDepth 100000 in
set_option maxHeartbeats 1000000 in
theorem zz28 (a : Option Addr) (c : Nat) (ms : List Ms) (ok : Nat → Prop) (w : World) (hn : ms.length ≤ maxLen) (hm : MsgsAt w ok a ms) :
    Calls Try.prog 28 #[.slice a ms.length c] w fun e w' => SomeBool e (fun r => r = true → Light ms) ∧ w' = w := by
  obtain ⟨b, o, ha, hms⟩ := hm
  obtain ⟨n, hN⟩ : ∃ n, ms.length = n := ⟨_, rfl⟩
  rw [hN] at hn ha hms ⊢
  have HN : Hid (ms.length = n) := hN
  clear hN
  unfold maxLen at hn
  have hidx := idx32 a n c b o (fun hp => (ha hp).1)
  clear ha
  go_enter Try.func28, Try.ntmps28
  go_wp2
  · go_ret; exact ⟨⟨_, rfl, fun h => by cases h⟩, rfl⟩
  have hn20 : n ≤ 1048576 := by omega
  go_loop [3, 4] (fun z i => ∃ (k t : Nat), k ≤ n ∧ i = .int .i64 k ∧ z = .int .i64 t ∧ t ≤ 1048576 ∧ Hid (t = n + wMs (ms.take k))) (fun _ i => n - (intOf i).toNat)
  case atStart => exact ⟨0, n, Nat.zero_le _, rfl, rfl, hn20, by simp [Hid, wMs]⟩
  case round =>
    obtain ⟨k, t, hk, rfl, rfl, ht, HT⟩ := hrel
    by_cases hlt : k < n
    · have hltI : (k : Int) < (n : Int) := by omega
      have hsucc : Hid (wMs (ms.take (k + 1)) = wMs (ms.take k) + wM (ms.getD k ms0)) := wMs_succ ms k (by rw [HN.out]; exact hlt)
      have hmk := hms k hlt
      obtain ⟨m, hm⟩ : ∃ m, ms.getD k ms0 = m := ⟨_, rfl⟩
      rw [hm] at hmk hsucc
      obtain ⟨ca, cc, b', o', g2, _, hca, hcl⟩ := msg_parts hmk
      obtain ⟨g0, g1, _, g3, _⟩ := hmk
      obtain ⟨role, content, nl, calls, tid, failed⟩ := m
      simp only at g0 g1 g2 g3 hca hcl
      obtain ⟨L, hL⟩ : ∃ L, calls.length = L := ⟨_, rfl⟩
      rw [hL] at g2 hca hcl
      have HL : Hid (calls.length = L) := hL
      have j0 := hidx k hltI
      have jc := idx42 ca L cc b' o' hca
      clear hidx hms hm hL hca
      go_wp2
      all_goals first
        | (go_ret; exact ⟨⟨_, rfl, fun h => by cases h⟩, rfl⟩)
        | skip
      go_loop [3, 5] (fun z i => ∃ (q s : Nat), q ≤ L ∧ i = .int .i64 q ∧ z = .int .i64 s ∧ s ≤ 1048576 ∧ Hid (s = t + role.size + content.size + L + wCs (calls.take q))) (fun _ i => L - (intOf i).toNat)
      case atStart => exact ⟨0, t + role.size + content.size + L, Nat.zero_le _, rfl, by go_num, by omega, by simp [Hid, wCs]⟩
      case round =>
        obtain ⟨q, s, hq, rfl, rfl, hs, HSM⟩ := hrel
        by_cases hlq : q < L
        · have hlqI : (q : Int) < (L : Int) := by omega
          have hsc : Hid (wCs (calls.take (q + 1)) = wCs (calls.take q) + wC (calls.getD q cl0)) := wCs_succ calls q (by rw [HL.out]; exact hlq)
          obtain ⟨e0, e1, e2⟩ := hcl q hlq
          obtain ⟨cl, hcl'⟩ : ∃ m, calls.getD q cl0 = m := ⟨_, rfl⟩
          rw [hcl'] at e0 e1 e2 hsc
          obtain ⟨id, name, args⟩ := cl
          simp only at e0 e1 e2
          have jq := jc q hlqI
          clear jc hcl hcl' g0 g1 g3
          go_wp2
          all_goals first
            | (go_ret; exact ⟨⟨_, rfl, fun h => by cases h⟩, rfl⟩)
            | skip
          go_round
          case rel =>
            refine ⟨q + 1, s + id.size + name.size + args.size, by omega, by go_num, by go_num, by omega, ?_⟩
            show _ = _
            rw [hsc.out, HSM.out]
            simp only [wC]
            omega
          case measure => simp [intOf]; omega
        · clear jc hcl g0 g1
          go_wp2
          all_goals first
            | (go_ret; exact ⟨⟨_, rfl, fun h => by cases h⟩, rfl⟩)
            | skip
          go_round
          case rel =>
            refine ⟨k + 1, s + tid.size, by omega, by go_num, by go_num, by omega, ?_⟩
            have e : calls.take q = calls := List.take_of_length_le (by rw [HL.out]; omega)
            show _ = _
            have h1 := HSM.out
            rw [e] at h1
            rw [hsucc.out, h1, HT.out]
            simp only [wM, HL.out]
            omega
          case measure => simp [intOf]; omega
    · clear hidx hms
      go_wp2
      go_ret
      have e : k = n := by omega
      refine ⟨⟨_, rfl, fun _ => ?_⟩, rfl⟩
      have h1 := HT.out
      have h2 := HN.out
      unfold Light
      rw [e, ← h2, List.take_length] at h1
      omega
end Go.Proofs.Qxb6603195a
