/-
  The walks of the functions that only read: the sizes' guards, the byte-by-byte comparison, the search for an equal key.
-/
import Derived.Test.Qxb6603117aRows
import Derived.WalkKit
import Derived.WalkSpells
import Derived.WalkLawsBesides
import Derived.Deep.OwnRows
import Derived.BigQuiet
import Derived.Deep.QuietTactic
import Derived.Maps.OwnSet
namespace Go.Proofs.Qxb6603117a
open Go.RowKit

/-- The elements of the slice (a, n), one cell each, read as V 0, V 1, .. -/
def Cells (w : World) (a : Option Addr) (n : Nat) (V : Nat → Value) : Prop :=
  ∃ b off, (0 < n → a = some ⟨b, off, none⟩) ∧ ∀ i, i < n → w.cell? ⟨b, off + i, none⟩ = some (V i)

/-- It returns a bool of which q holds. -/
def SomeBool (e : Ending) (q : Bool → Prop) : Prop := ∃ r, e = .returned (.bool r) ∧ q r

theorem idx28 (a : Option Addr) (n c b off : Nat) (h : 0 < n → a = some ⟨b, off, none⟩) (k : Nat) (hk : (k : Int) < (n : Int)) (w : World) :
    (Instr.indexAt 28 (.slice a n c) (.int .i64 k)).run Try.prog w = .ok (.pointer (some ⟨b, off + k, none⟩)) w := by
  have hk' : k < n := by omega
  rw [h (by omega)]
  go_simp

theorem idx22 (a : Option Addr) (n c b off : Nat) (h : 0 < n → a = some ⟨b, off, none⟩) (k : Nat) (hk : (k : Int) < (n : Int)) (w : World) :
    (Instr.indexAt 22 (.slice a n c) (.int .i64 k)).run Try.prog w = .ok (.pointer (some ⟨b, off + k, none⟩)) w := by
  have hk' : k < n := by omega
  rw [h (by omega)]
  go_simp

set_option maxHeartbeats 400000 in
theorem zz9 (a : Option Addr) (n c : Nat) (A : Nat → Option Addr) (L C : Nat → Nat) (w : World) (hn : n ≤ maxLen) (hL : ∀ i, L i ≤ maxLen)
    (hc : Cells w a n (fun i => .slice (A i) (L i) (C i))) :
    Calls Try.prog 9 #[.slice a n c] w fun e w' => SomeBool e (fun r => r = true → ∀ i, i < n → L i ≤ 1048576) ∧ w' = w := by
  obtain ⟨b, off, ha, hcell⟩ := hc
  unfold maxLen at hn hL
  have hidx := idx28 a n c b off ha
  go_enter Try.func9, Try.ntmps9
  go_wp2
  · go_ret; exact ⟨⟨_, rfl, fun h => by cases h⟩, rfl⟩
  go_loop [3, 4] (fun z i => ∃ (k : Nat) (t : Int), k ≤ n ∧ i = .int .i64 k ∧ z = .int .i64 t ∧ 0 ≤ t ∧ t ≤ 1048576 ∧ Hid (∀ j, j < k → L j ≤ 1048576)) (fun _ i => n - (intOf i).toNat)
  case atStart => exact ⟨0, n, Nat.zero_le _, rfl, rfl, by omega, by omega, fun j hj => by omega⟩
  case round =>
    obtain ⟨k, t, hk, rfl, rfl, ht0, ht1, hall⟩ := hrel
    have hLk := hL k
    have hcx : (k : Int) < (n : Int) → w.cell? ⟨b, off + k, none⟩ = some (.slice (A k) (L k) (C k)) := fun h => hcell k (by omega)
    have hi := hidx k
    clear hL hcell hidx
    go_wp2
    · go_ret; exact ⟨⟨_, rfl, fun h => by cases h⟩, rfl⟩
    · go_ret; exact ⟨⟨_, rfl, fun h => by cases h⟩, rfl⟩
    · go_round
      case rel =>
        refine ⟨k + 1, t + L k, by omega, by go_num, rfl, by omega, by omega, fun j hj => ?_⟩
        by_cases e : j = k
        · subst e; omega
        · exact hall.out j (by omega)
      case measure => simp [intOf]; omega
    · go_ret
      have : k = n := by omega
      subst this
      exact ⟨⟨_, rfl, fun _ => hall.out⟩, rfl⟩

set_option maxHeartbeats 400000 in
theorem zz15 (a : Option Addr) (n c : Nat) (A : Nat → Option Addr) (L C : Nat → Nat) (w : World) (hn : n ≤ maxLen) (hL : ∀ i, L i ≤ maxLen)
    (hc : Cells w a n (fun i => .slice (A i) (L i) (C i))) :
    Calls Try.prog 15 #[.slice a n c] w fun e w' => SomeBool e (fun r => r = true → ∀ i, i < n → L i ≤ 1048576) ∧ w' = w := by
  obtain ⟨b, off, ha, hcell⟩ := hc
  unfold maxLen at hn hL
  have hidx := idx28 a n c b off ha
  go_enter Try.func15, Try.ntmps15
  go_wp2
  · go_ret; exact ⟨⟨_, rfl, fun h => by cases h⟩, rfl⟩
  go_loop [3, 4] (fun z i => ∃ (k : Nat) (t : Int), k ≤ n ∧ i = .int .i64 k ∧ z = .int .i64 t ∧ 0 ≤ t ∧ t ≤ 1048576 ∧ Hid (∀ j, j < k → L j ≤ 1048576)) (fun _ i => n - (intOf i).toNat)
  case atStart => exact ⟨0, n, Nat.zero_le _, rfl, rfl, by omega, by omega, fun j hj => by omega⟩
  case round =>
    obtain ⟨k, t, hk, rfl, rfl, ht0, ht1, hall⟩ := hrel
    have hLk := hL k
    have hcx : (k : Int) < (n : Int) → w.cell? ⟨b, off + k, none⟩ = some (.slice (A k) (L k) (C k)) := fun h => hcell k (by omega)
    have hi := hidx k
    clear hL hcell hidx
    go_wp2
    · go_ret; exact ⟨⟨_, rfl, fun h => by cases h⟩, rfl⟩
    · go_ret; exact ⟨⟨_, rfl, fun h => by cases h⟩, rfl⟩
    · go_round
      case rel =>
        refine ⟨k + 1, t + L k, by omega, by go_num, rfl, by omega, by omega, fun j hj => ?_⟩
        by_cases e : j = k
        · subst e; omega
        · exact hall.out j (by omega)
      case measure => simp [intOf]; omega
    · go_ret
      have : k = n := by omega
      subst this
      exact ⟨⟨_, rfl, fun _ => hall.out⟩, rfl⟩

/-- What the guard keysFit gives. -/
def Small (n : Nat) : Prop := n ≤ 1024

set_option maxHeartbeats 400000 in
theorem fit10 (a : Option Addr) (n c : Nat) (A : Nat → Option Addr) (L C : Nat → Nat) (w : World) (hn : n ≤ maxLen) (hL : ∀ i, L i ≤ 1048576)
    (hc : Cells w a n (fun i => .slice (A i) (L i) (C i))) :
    Calls Try.prog 10 #[.slice a n c] w fun e w' => SomeBool e (fun r => r = true → Small n) ∧ w' = w := by
  obtain ⟨b, off, ha, hcell⟩ := hc
  unfold maxLen at hn
  have hidx := idx28 a n c b off ha
  go_enter Try.func10, Try.ntmps10
  go_wp2
  · go_ret; exact ⟨⟨_, rfl, fun h => by cases h⟩, rfl⟩
  have hn2 : n ≤ 1024 := by omega
  go_loop [3, 4] (fun z i => ∃ (k : Nat) (t : Int), k ≤ n ∧ i = .int .i64 k ∧ z = .int .i64 t ∧ 0 ≤ t ∧ t ≤ 1048576) (fun _ i => n - (intOf i).toNat)
  case atStart => exact ⟨0, 24 * n, Nat.zero_le _, rfl, rfl, by omega, by omega⟩
  case round =>
    obtain ⟨k, t, hk, rfl, rfl, ht0, ht1⟩ := hrel
    have hLk := hL k
    have hcx : (k : Int) < (n : Int) → w.cell? ⟨b, off + k, none⟩ = some (.slice (A k) (L k) (C k)) := fun h => hcell k (by omega)
    have hi := hidx k
    clear hL hcell hidx
    go_wp2
    · go_ret; exact ⟨⟨_, rfl, fun h => by cases h⟩, rfl⟩
    · go_round
      case rel => exact ⟨k + 1, t + L k, by omega, by go_num, rfl, by omega, by omega⟩
      case measure => simp [intOf]; omega
    · go_ret
      exact ⟨⟨_, rfl, fun _ => hn2⟩, rfl⟩

/-- The value v is a slice of bytes that reads as the numbers xs. -/
def Key (w : World) (v : Value) (xs : List Int) : Prop :=
  ∃ a c, v = .slice a xs.length c ∧ Cells w a xs.length (fun i => .int .u8 (xs.getD i 0)) ∧ (∀ x ∈ xs, 0 ≤ x ∧ x < 256) ∧ xs.length ≤ maxLen

theorem Cells.of {w w' : World} {a : Option Addr} {n : Nat} {V : Nat → Value} (h : Cells w a n V) (e : ∀ p u, w.cell? p = some u → w'.cell? p = some u) : Cells w' a n V := by
  obtain ⟨b, off, h1, h2⟩ := h
  exact ⟨b, off, h1, fun i hi => e _ _ (h2 i hi)⟩

theorem Key.of {w w' : World} {v : Value} {xs : List Int} (h : Key w v xs) (e : ∀ p u, w.cell? p = some u → w'.cell? p = some u) : Key w' v xs := by
  obtain ⟨a, c, h1, h2, h3⟩ := h
  exact ⟨a, c, h1, h2.of e, h3⟩

theorem list_eq_of_getD {xs ys : List Int} (hl : xs.length = ys.length) (h : ∀ j, j < xs.length → xs.getD j 0 = ys.getD j 0) : xs = ys := by
  apply List.ext_getElem hl
  intro i h1 h2
  have := h i h1
  simpa [List.getD, List.getElem?_eq_getElem h1, List.getElem?_eq_getElem h2] using this

end Go.Proofs.Qxb6603117a
