/-
  FnKeySetAddAnswersFirstSight: the walk.
-/
import Derived.Test.Qxb6603117aAdd
namespace Go.Proofs.Qxb6603117a
open Go.RowKit

theorem keys_slices {w : World} {a : Option Addr} {n : Nat} {K : Nat → List Int} (h : Keys w a n K) :
    ∃ (A : Nat → Option Addr) (L C : Nat → Nat), Cells w a n (fun i => .slice (A i) (L i) (C i)) ∧ (∀ i, L i ≤ maxLen) ∧ (∀ i, i < n → L i = (K i).length) ∧ ∀ i, n ≤ i → L i = 0 := by
  obtain ⟨V, ⟨b, off, ha, hc⟩, hk⟩ := h
  have hex : ∀ i, ∃ x : Option Addr × Nat, i < n → V i = .slice x.1 (K i).length x.2 := fun i => by
    by_cases hi : i < n
    · obtain ⟨a, c, e, _⟩ := hk i hi
      exact ⟨(a, c), fun _ => e⟩
    · exact ⟨(none, 0), fun h => absurd h hi⟩
  refine ⟨fun i => (Classical.choose (hex i)).1, fun i => if i < n then (K i).length else 0, fun i => (Classical.choose (hex i)).2, ⟨b, off, ha, fun i hi => ?_⟩, fun i => ?_, fun i hi => by simp [hi], fun i hi => by simp; omega⟩
  · rw [hc i hi]
    show some (V i) = some (.slice _ (if i < n then (K i).length else 0) _)
    rw [if_pos hi]
    exact congrArg some (Classical.choose_spec (hex i) hi)
  · by_cases hi : i < n
    · simp only [hi, if_true]
      exact (hk i hi).size
    · simp [hi]

/-- 'seen' is what the first k keys are, each once. -/
def Sn (seen : List (List Int)) (K : Nat → List Int) (k : Nat) : Prop :=
  (∀ x, x ∈ seen ↔ ∃ j, j < k ∧ K j = x) ∧ seen.length ≤ k ∧ seen.Nodup

theorem sn_zero (K : Nat → List Int) : Sn [] K 0 := by
  refine ⟨fun x => ⟨fun h => by simp at h, ?_⟩, Nat.le_refl _, List.nodup_nil⟩
  rintro ⟨j, hj, _⟩
  omega

theorem sn_new {seen : List (List Int)} {K : Nat → List Int} {k : Nat} (h : Sn seen K k) : isNew seen (K k) = !seenB K k := by
  unfold isNew seenB
  congr 1
  rw [Bool.eq_iff_iff, List.contains_iff_mem, List.any_eq_true]
  rw [h.1]
  constructor
  · rintro ⟨j, hj, e⟩
    exact ⟨j, List.mem_range.2 hj, by rw [e]; exact beq_self_eq_true _⟩
  · rintro ⟨j, hj, e⟩
    exact ⟨j, List.mem_range.1 hj, by simpa using e⟩

theorem sn_step {seen : List (List Int)} {K : Nat → List Int} {k : Nat} (h : Sn seen K k) : Sn (addK seen (K k)) K (k + 1) := by
  unfold addK
  by_cases hc : seen.contains (K k) = true
  · rw [if_pos hc]
    rw [List.contains_iff_mem] at hc
    refine ⟨fun x => ⟨fun hx => ?_, fun ⟨j, hj, e⟩ => ?_⟩, Nat.le_trans h.2.1 (Nat.le_succ _), h.2.2⟩
    · obtain ⟨j, hj, e⟩ := (h.1 x).1 hx
      exact ⟨j, by omega, e⟩
    · by_cases e2 : j = k
      · rw [← e, e2]; exact hc
      · exact (h.1 x).2 ⟨j, by omega, e⟩
  · rw [if_neg hc]
    rw [List.contains_iff_mem] at hc
    refine ⟨fun x => ⟨fun hx => ?_, fun ⟨j, hj, e⟩ => ?_⟩, by simp; exact h.2.1, ?_⟩
    · rcases List.mem_append.1 hx with h1 | h1
      · obtain ⟨j, hj, e⟩ := (h.1 x).1 h1
        exact ⟨j, by omega, e⟩
      · exact ⟨k, by omega, (List.mem_singleton.1 h1).symm⟩
    · by_cases e2 : j = k
      · exact List.mem_append.2 (.inr (by rw [← e, e2]; exact List.mem_singleton.2 rfl))
      · exact List.mem_append.2 (.inl ((h.1 x).2 ⟨j, by omega, e⟩))
    · rw [List.nodup_append]
      refine ⟨h.2.2, List.nodup_cons.2 ⟨by simp, List.nodup_nil⟩, fun a ha b hb => ?_⟩
      rw [List.mem_singleton.1 hb]
      intro e
      exact hc (by rw [← e]; exact ha)

theorem Drawn.few {w w' : World} (h : Drawn w w') {S : Nat} {seen : List (List Int)} (hs : Few w S seen) : Few w' S seen := by
  obtain ⟨F, r, p1, p2, p3⟩ := hs
  exact ⟨F, h.row r, p1, fun i hi => h.key (p2 i hi), p3⟩
theorem Drawn.many {w w' : World} (h : Drawn w w') {S : Nat} {seen : List (List Int)} (hs : Many w S seen) : Many w' S seen := by
  obtain ⟨m, rfl⟩ := h
  exact hs
theorem Drawn.kset {w w' : World} (h : Drawn w w') {S : Nat} {seen : List (List Int)} (hs : KSet w S seen) : KSet w' S seen := by
  rcases hs with h1 | h1
  · exact .inl (h.few h1)
  · exact .inr (h.many h1)

/-- After k keys: what the set in block S holds. -/
def St (w2 wr : World) (S : Nat) (K : Nat → List Int) (k : Nat) : Prop := Below S w2 wr ∧ ∃ seen, KSet wr S seen ∧ Sn seen K k

set_option maxHeartbeats 400000 in
theorem walk4 (a : Option Addr) (n c : Nat) (K : Nat → List Int) (w : World) (hn : n ≤ maxLen) (hK : Keys w a n K) (hnil : a = none → n = 0) :
    Calls Try.prog 4 #[.slice a n c] w fun e w' => e = .returned (.bool true) ∧ Below w.heap.size w w' := by
  obtain ⟨A, L, C, hc, hLm, hLK, hL0⟩ := keys_slices hK
  go_enter Try.func4, Try.ntmps4
  go_wp2_with fail
  refine (zz9 a n c A L C _ hn hLm hc).mono ?_
  rintro e w1 ⟨⟨r, rfl, hr⟩, rfl⟩
  cases r with
  | false =>
    clear hc hLm hLK hL0 hr
    go_wp2
    go_ret
    exact ⟨rfl, Below.refl _ _⟩
  | true =>
  have hL : ∀ i, L i ≤ 1048576 := fun i => by
    by_cases hi : i < n
    · exact hr rfl i hi
    · rw [hL0 i (by omega)]; omega
  clear hr
  go_wp2_with fail
  refine (fit10 a n c A L C _ hn hL hc).mono ?_
  rintro e w1 ⟨⟨r, rfl, hr⟩, rfl⟩
  cases r with
  | false =>
    clear hc hLm hLK hL0 hr
    go_wp2
    go_ret
    exact ⟨rfl, Below.refl _ _⟩
  | true =>
  have hn2 : n ≤ 1024 := hr rfl
  have hKl : ∀ i, i < n → (K i).length ≤ 1048576 := fun i hi => by rw [← hLK i hi]; exact hL i
  clear hr hc hLm hLK hL0 hL hn
  go_wp2_with fail
  refine (clone11 a n c K _ hn2 hK hKl hnil).mono ?_
  rintro e w2 ⟨a', c', rfl, hK2, hb2⟩
  clear hK hKl hnil
  go_wp2_with fail
  refine (new12 _).mono ?_
  rintro e w3 ⟨rfl, hks, hb3, hs3⟩
  obtain ⟨S, hS⟩ : ∃ S, w2.heap.size = S := ⟨_, rfl⟩
  rw [hS] at hks hb3 hs3
  rw [hS]
  have HS : Hid (w2.heap.size = S) := hS
  clear hS
  have hbw : Below w1.heap.size w1 w2 := hb2
  have hwS : w1.heap.size ≤ S := by rw [← HS.out]; exact hb2.size
  clear hb2
  go_wp2_with fail
  go_loopw [4] (fun i wr => ∃ k : Nat, k ≤ n ∧ i = .int .i64 k ∧ St w2 wr S K k) (fun i _ => n - (intOf i).toNat)
  case atStart => exact ⟨0, Nat.zero_le _, rfl, hb3, _, hks, sn_zero K⟩
  case round =>
    obtain ⟨k, hk, rfl, hbr, seen, hset, hsn⟩ := hrel
    by_cases hlt : k < n
    · have hltI : (k : Int) < (n : Int) := by omega
      have hKr : Keys wr a' n K := hK2.of_below (Nat.le_of_eq HS.out) hbr
      obtain ⟨V, ⟨b, off, ha, hc⟩, hkey⟩ := hKr
      have g1 := hc k hlt
      have j1 := idx28 a' n c' b off ha k hltI
      have kk := hkey k hlt
      obtain ⟨vk, hvk⟩ : ∃ v, V k = v := ⟨_, rfl⟩
      rw [hvk] at g1 kk
      have hnew := sn_new hsn
      have hsn1 := sn_step hsn
      have hlen : seen.length ≤ 1024 := Nat.le_trans hsn.2.1 (by omega)
      clear hc hkey hvk ha hsn hks
      obtain ⟨r, hr⟩ : ∃ r, seenB K k = r := ⟨_, rfl⟩
      rw [hr] at hnew
      have HR : Hid (seenB K k = r) := hr
      clear hr
      go_wp2_with fail
      refine (add13 S vk (K k) seen _ kk hset hlen).mono ?_
      rintro e w4 ⟨he, hset1, hb4⟩
      rw [hnew] at he
      subst he
      have hb5 : Below S w2 w4 := hbr.trans hb4
      have hK4 : Keys w4 a' n K := hK2.of_below (Nat.le_of_eq HS.out) hb5
      clear hnew hset hbr hb4 g1 j1 kk
      go_wp2_with fail
      refine (seen14 a' n c' k K _ hn2 hK4 hlt).mono ?_
      rintro e w5 ⟨he, hd⟩
      rw [HR.out] at he
      subst he
      have hset5 : KSet w5 S (addK seen (K k)) := hd.kset hset1
      have hb6 : Below S w2 w5 := hb5.trans (hd.below S)
      clear hset1 hd hb5 hK4
      cases r
      all_goals
        go_wp2
        go_roundw
        case rel => exact ⟨k + 1, by omega, by go_num, hb6, _, hset5, hsn1⟩
        case measure => simp [intOf]; omega
    · clear hset hsn hks
      go_wp2
      go_ret
      exact ⟨rfl, hbw.trans (hbr.mono hwS)⟩
end Go.Proofs.Qxb6603117a
