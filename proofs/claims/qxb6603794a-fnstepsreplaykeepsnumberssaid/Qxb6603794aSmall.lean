/-
  The small functions on the road.
-/
import Derived.Test.Qxb6603794aOf
import Derived.Laws.CopyRow
namespace Go.Proofs.Qxb6603794a
open Go.RowKit Go.Maps

/-- The slice (a, ps.length) reads as the pairs ps. -/
def PairsAt (w : World) (a : Option Addr) (ps : List Pr) : Prop :=
  ∃ b o, (0 < ps.length → a = some ⟨b, o, none⟩) ∧ ∀ i, i < ps.length → w.cell? ⟨b, o + 2 * i, none⟩ = some (.int .i32 (ps.getD i (0, 0)).1) ∧ w.cell? ⟨b, o + 2 * i + 1, none⟩ = some (.int .i32 (ps.getD i (0, 0)).2)

/-- It returns a bool of which q holds. -/
def SomeB (e : Ending) (q : Bool → Prop) : Prop := ∃ r, e = .returned (.bool r) ∧ q r

theorem idx29 (a : Option Addr) (n c b o : Nat) (h : 0 < n → a = some ⟨b, o, none⟩) (k : Nat) (hk : (k : Int) < (n : Int)) (w : World) : (Instr.indexAt 29 (.slice a n c) (.int .i64 k)).run Try.prog w = .ok (.pointer (some ⟨b, o + 2 * k, none⟩)) w := by
  have hk' : k < n := by omega
  rw [h (by omega), Nat.mul_comm]
  go_simp
theorem idx22 (a : Option Addr) (n c b o : Nat) (h : 0 < n → a = some ⟨b, o, none⟩) (k : Nat) (hk : (k : Int) < (n : Int)) (w : World) : (Instr.indexAt 22 (.slice a n c) (.int .i64 k)).run Try.prog w = .ok (.pointer (some ⟨b, o + k, none⟩)) w := by
  have hk' : k < n := by omega
  rw [h (by omega)]
  go_simp

set_option maxHeartbeats 400000 in
theorem of18 (S v : Nat) (b : Int) (tab : List Pr) (w : World) (h : Steps w S tab) (hok : Ok1 (b, (v : Int))) (htok : ∀ q ∈ tab, Ok1 q) (hlen : tab.length ≤ 65536) :
    Calls Try.prog 18 #[.pointer (some ⟨S, 0, none⟩), .int .i32 b, .int .i32 v] w fun e w' => e = .returned (.int .i32 (num (addT tab (b, (v : Int))) (b, (v : Int)) : Nat)) ∧ Steps w' S (addT tab (b, (v : Int))) ∧ Kept S w w' := by
  have h28 := of28 S v b tab w h hok htok hlen
  clear h hok htok hlen
  go_enter Try.func18, Try.ntmps18
  go_wp2_with fail
  refine h28.mono ?_
  rintro e w' ⟨rfl, h1, h2⟩
  go_wp2
  go_ret
  exact ⟨rfl, h1, h2⟩

set_option maxHeartbeats 400000 in
theorem n19 (S : Nat) (tab : List Pr) (w : World) (h : Steps w S tab) : Calls Try.prog 19 #[.pointer (some ⟨S, 0, none⟩)] w fun e w' => e = .returned (.int .i32 (tab.length : Nat)) ∧ w' = w := by
  obtain ⟨fl, F, xs, hst⟩ := h
  have n2 := hst.1.cell (i := 2) (by omega)
  rw [hst.2.2.2.2.2.2] at n2
  clear hst
  go_enter Try.func19, Try.ntmps19
  go_wp2
  go_ret
  exact ⟨rfl, rfl⟩

set_option maxHeartbeats 400000 in
theorem new17 (w : World) : Calls Try.prog 17 #[] w fun e w' => e = .returned (.pointer (some ⟨w.heap.size, 0, none⟩)) ∧ Steps w' w.heap.size [] ∧ Below w.heap.size w w' := by
  go_enter Try.func17, Try.ntmps17
  go_wp2
  go_ret
  refine ⟨rfl, ⟨0, fun j => if j = 0 then .slice none 0 0 else if j = 1 then .map none else .int .i32 0, [], ?_, World.ownsRow_nil _ _ _ _, fun v hv => by omega, fun p hp => by simp at hp, by omega, .inl ⟨rfl, fun p _ h => by simp [moreP] at h⟩, rfl⟩, (Below.refl _ _).alloc (Nat.le_refl _) _⟩
  refine ⟨_, heap_alloc_new w _, rfl, fun i hi => ?_⟩
  match i, hi with
  | 0, _ => rfl
  | 1, _ => rfl
  | 2, _ => rfl

set_option maxHeartbeats 400000 in
theorem zz20 (a : Option Addr) (n c : Nat) (w : World) (hn : n ≤ maxLen) : Calls Try.prog 20 #[.slice a n c] w fun e w' => SomeB e (fun _ => True) ∧ w' = w := by
  unfold maxLen at hn
  by_cases h : n ≤ 1048576
  · have hI : ¬ (1048576 : Int) < (n : Int) := by omega
    go_enter Try.func20, Try.ntmps20
    go_wp2
    go_ret
    exact ⟨⟨_, rfl, trivial⟩, rfl⟩
  · have hI : (1048576 : Int) < (n : Int) := by omega
    go_enter Try.func20, Try.ntmps20
    go_wp2
    go_ret
    exact ⟨⟨_, rfl, trivial⟩, rfl⟩

set_option maxRecDepth 100000 in
set_option maxHeartbeats 1000000 in
theorem fit15 (a : Option Addr) (c : Nat) (ps : List Pr) (w : World) (hp : PairsAt w a ps) (hn : ps.length ≤ 65536) (hin : ∀ i, i < ps.length → InP (ps.getD i (0, 0))) :
    Calls Try.prog 15 #[.slice a ps.length c] w fun e w' => SomeB e (fun r => r = true → ∀ i, i < ps.length → Ok1 (ps.getD i (0, 0))) ∧ w' = w := by
  obtain ⟨b, o, ha, hps⟩ := hp
  obtain ⟨n, hN⟩ : ∃ n, ps.length = n := ⟨_, rfl⟩
  rw [hN] at hn ha hps hin
  rw [hN]
  have hidx := idx29 a n c b o ha
  have HP : Hid _ := hps
  have HI : Hid _ := hin
  clear hps hin hN ha
  go_enter Try.func15, Try.ntmps15
  go_wp2
  go_loopw [3] (fun v wr => ∃ k : Nat, k ≤ n ∧ v = .int .i64 k ∧ Hid (∀ i, i < k → Ok1 (ps.getD i (0, 0))) ∧ wr = w) (fun v _ => n - (intOf v).toNat)
  case atStart => exact ⟨0, Nat.zero_le _, rfl, fun i hi => by omega, rfl⟩
  case round =>
    obtain ⟨k, hk, rfl, HK, rfl⟩ := hrel
    by_cases hlt : k < n
    · have hltI : (k : Int) < (n : Int) := by omega
      obtain ⟨e0, e1⟩ := HP.out k hlt
      have hi1 := HI.out k hlt
      have jk := hidx k hltI
      obtain ⟨p, hp⟩ : ∃ p, ps.getD k (0, 0) = p := ⟨_, rfl⟩
      rw [hp] at e0 e1 hi1
      have HPk : Hid (ps.getD k (0, 0) = p) := hp
      obtain ⟨x, y⟩ := p
      obtain ⟨hx, hy⟩ := hi1
      simp only at e0 e1 hx hy
      clear hp hidx
      by_cases h1 : y < 0
      · go_wp2
        go_ret
        exact ⟨⟨_, rfl, fun h => by cases h⟩, rfl⟩
      · by_cases h2 : 65536 < y
        · go_wp2
          go_ret
          exact ⟨⟨_, rfl, fun h => by cases h⟩, rfl⟩
        · cases h3 : (x == -1) with
          | true =>
            go_wp2
            go_ret
            exact ⟨⟨_, rfl, fun h => by cases h⟩, rfl⟩
          | false =>
            go_wp2
            go_roundw
            case rel =>
              refine ⟨k + 1, by omega, by go_num, fun i hi => ?_, by first | rfl | trivial⟩
              by_cases e : i = k
              · rw [e, HPk.out]
                exact ⟨hx, beq_eq_false_iff_ne.1 h3, by simp only; omega, by simp only; omega⟩
              · exact HK.out i (by omega)
            case measure => simp [intOf]; omega
    · have e : k = n := by omega
      subst e
      clear hidx
      go_wp2
      go_ret
      exact ⟨⟨_, rfl, fun _ => HK.out⟩, rfl⟩
end Go.Proofs.Qxb6603794a
