/-
  Pairs numbered in the order met: plain.
-/
import Derived.Test.Qxb6603794aRows
import Derived.WalkKit
namespace Go.Proofs.Qxb6603794a
open Go.RowKit

abbrev Pr := Int × Int
def addT (tab : List Pr) (p : Pr) : List Pr := if p ∈ tab then tab else tab ++ [p]
def num (tab : List Pr) (p : Pr) : Nat := tab.idxOf p
def firstP (tab : List Pr) (v : Int) : Option Pr := tab.find? (fun p => p.2 == v)
def moreP (tab : List Pr) (p : Pr) : Prop := p ∈ tab ∧ firstP tab p.2 ≠ some p
def In32 (z : Int) : Prop := -2147483648 ≤ z ∧ z ≤ 2147483647
def Ok1 (p : Pr) : Prop := In32 p.1 ∧ p.1 ≠ -1 ∧ 0 ≤ p.2 ∧ p.2 ≤ 65536

theorem addT_mem (tab : List Pr) (p : Pr) : p ∈ addT tab p := by
  unfold addT
  split
  · assumption
  · simp
theorem addT_of_mem {tab : List Pr} {p : Pr} (h : p ∈ tab) : addT tab p = tab := by rw [addT, if_pos h]
theorem addT_of_not {tab : List Pr} {p : Pr} (h : p ∉ tab) : addT tab p = tab ++ [p] := by rw [addT, if_neg h]
theorem mem_of_addT {tab : List Pr} {p q : Pr} (h : q ∈ addT tab p) : q ∈ tab ∨ q = p := by
  unfold addT at h
  split at h
  · exact .inl h
  · simpa using h
theorem mem_addT {tab : List Pr} {p q : Pr} (h : q ∈ tab) : q ∈ addT tab p := by
  unfold addT
  split
  · exact h
  · exact List.mem_append_left _ h
theorem addT_len (tab : List Pr) (p : Pr) : (addT tab p).length ≤ tab.length + 1 := by
  unfold addT
  split <;> simp
theorem num_add {tab : List Pr} {p q : Pr} (h : q ∈ tab) : num (addT tab p) q = num tab q := by
  unfold addT
  split
  · rfl
  · rw [num, List.idxOf_append, if_pos h]; rfl
theorem num_lt {tab : List Pr} {p : Pr} (h : p ∈ tab) : num tab p < tab.length := List.idxOf_lt_length_of_mem h
theorem num_new {tab : List Pr} {p : Pr} (h : p ∉ tab) : num (tab ++ [p]) p = tab.length := by
  unfold num
  rw [List.idxOf_append, if_neg h]
  simp

/-- The table after the first k pairs. -/
def tabOf (ps : List Pr) (k : Nat) : List Pr := (ps.take k).foldl addT []

theorem tabOf_succ (ps : List Pr) (k : Nat) (h : k < ps.length) : tabOf ps (k + 1) = addT (tabOf ps k) (ps.getD k (0, 0)) := by
  unfold tabOf
  rw [List.take_add_one, List.foldl_append, List.getElem?_eq_getElem h]
  simp [List.getD, h]

theorem tabOf_len (ps : List Pr) : ∀ k, k ≤ ps.length → (tabOf ps k).length ≤ k
  | 0, _ => by simp [tabOf]
  | k + 1, h => by
    rw [tabOf_succ ps k (by omega)]
    have := addT_len (tabOf ps k) (ps.getD k (0, 0))
    have := tabOf_len ps k (by omega)
    omega

theorem tabOf_mem (ps : List Pr) : ∀ k, k ≤ ps.length → ∀ j, j < k → ps.getD j (0, 0) ∈ tabOf ps k
  | 0, _, j, hj => by omega
  | k + 1, h, j, hj => by
    rw [tabOf_succ ps k (by omega)]
    by_cases e : j = k
    · rw [e]; exact addT_mem _ _
    · exact mem_addT (tabOf_mem ps k (by omega) j (by omega))

theorem tabOf_num (ps : List Pr) : ∀ k, k ≤ ps.length → ∀ j, j < k → num (tabOf ps k) (ps.getD j (0, 0)) = num (tabOf ps (j + 1)) (ps.getD j (0, 0))
  | 0, _, j, hj => by omega
  | k + 1, h, j, hj => by
    by_cases e : j = k
    · rw [e]
    · rw [tabOf_succ ps k (by omega), num_add (tabOf_mem ps k (by omega) j (by omega))]
      exact tabOf_num ps k (by omega) j (by omega)

theorem tabOf_ok (ps : List Pr) (hps : ∀ j, j < ps.length → Ok1 (ps.getD j (0, 0))) : ∀ k, k ≤ ps.length → ∀ p ∈ tabOf ps k, Ok1 p
  | 0, _, p, hp => by simp [tabOf] at hp
  | k + 1, h, p, hp => by
    rw [tabOf_succ ps k (by omega)] at hp
    rcases mem_of_addT hp with h1 | h1
    · exact tabOf_ok ps hps k (by omega) p h1
    · rw [h1]; exact hps k (by omega)

/-! ### the first pair of a value -/
def entB (tab : List Pr) (v : Int) : Int := match firstP tab v with | none => 0 | some p => wrap32 (p.1 + 1)
def entS (tab : List Pr) (v : Int) : Int := match firstP tab v with | none => 0 | some p => num tab p

theorem firstP_snoc (tab : List Pr) (q : Pr) (v : Int) : firstP (tab ++ [q]) v = (firstP tab v).or (if q.2 == v then some q else none) := by
  unfold firstP
  rw [List.find?_append]
  cases h : (q.2 == v) <;> simp [List.find?, h]

theorem firstP_some {tab : List Pr} {v : Int} {p : Pr} (h : firstP tab v = some p) : p ∈ tab ∧ p.2 = v := by
  refine ⟨List.mem_of_find?_eq_some h, ?_⟩
  have := List.find?_some h
  exact eq_of_beq this

theorem firstP_none {tab : List Pr} {v : Int} (h : firstP tab v = none) {p : Pr} (hp : p ∈ tab) : p.2 ≠ v := by
  intro e
  have := List.find?_eq_none.1 h p hp
  simp [e] at this

theorem wrap_inj {a b : Int} (ha : In32 a) (hb : In32 b) (h : wrap32 (a + 1) = wrap32 (b + 1)) : a = b := by
  unfold wrap32 at h
  unfold In32 at ha hb
  omega
theorem wrap_zero {a : Int} (ha : In32 a) (h : a ≠ -1) : wrap32 (a + 1) ≠ 0 := by
  unfold wrap32
  unfold In32 at ha
  omega
theorem wrap_in (a : Int) : In32 (wrap32 a) := by
  unfold wrap32 In32
  omega

theorem ent_first {tab : List Pr} {p : Pr} (h : firstP tab p.2 = some p) : entB tab p.2 = wrap32 (p.1 + 1) ∧ entS tab p.2 = num tab p := by
  unfold entB entS
  rw [h]
  exact ⟨rfl, rfl⟩

theorem ent_none {tab : List Pr} {v : Int} (h : firstP tab v = none) : entB tab v = 0 ∧ entS tab v = 0 := by
  unfold entB entS
  rw [h]
  exact ⟨rfl, rfl⟩

/-- A value met for the first time. -/
theorem new_first {tab : List Pr} {p : Pr} (h : firstP tab p.2 = none) : p ∉ tab ∧ entB (tab ++ [p]) p.2 = wrap32 (p.1 + 1) ∧ entS (tab ++ [p]) p.2 = tab.length ∧
    (∀ v, v ≠ p.2 → entB (tab ++ [p]) v = entB tab v ∧ entS (tab ++ [p]) v = entS tab v) ∧ ∀ q, moreP (tab ++ [p]) q ↔ moreP tab q := by
  have hn : p ∉ tab := fun hp => firstP_none h hp rfl
  have hf : firstP (tab ++ [p]) p.2 = some p := by rw [firstP_snoc, h]; simp
  have ho : ∀ v, v ≠ p.2 → firstP (tab ++ [p]) v = firstP tab v := fun v hv => by
    rw [firstP_snoc, if_neg (by simpa using fun e => hv e.symm)]
    simp
  refine ⟨hn, (ent_first hf).1, by rw [(ent_first hf).2, num_new hn], fun v hv => ?_, fun q => ?_⟩
  · unfold entB entS
    rw [ho v hv]
    cases hc : firstP tab v with
    | none => exact ⟨rfl, rfl⟩
    | some x =>
      refine ⟨rfl, ?_⟩
      have := num_add (p := p) (firstP_some hc).1
      rw [addT_of_not hn] at this
      show ((num (tab ++ [p]) x : Nat) : Int) = _
      rw [this]
  · unfold moreP
    by_cases e : q.2 = p.2
    · rw [e, hf, h]
      constructor
      · rintro ⟨h1, h2⟩
        rcases List.mem_append.1 h1 with h3 | h3
        · exact absurd e (firstP_none h h3)
        · exact absurd (by rw [List.mem_singleton.1 h3]) h2
      · rintro ⟨h1, _⟩
        exact absurd e (firstP_none h h1)
    · rw [ho _ e]
      constructor
      · rintro ⟨h1, h2⟩
        rcases List.mem_append.1 h1 with h3 | h3
        · exact ⟨h3, h2⟩
        · exact absurd (by rw [List.mem_singleton.1 h3]) e
      · rintro ⟨h1, h2⟩
        exact ⟨List.mem_append_left _ h1, h2⟩

/-- A new pair of a value that was met. -/
theorem new_more {tab : List Pr} {p x : Pr} (h : firstP tab p.2 = some x) (hn : p ∉ tab) : (∀ v, entB (tab ++ [p]) v = entB tab v ∧ entS (tab ++ [p]) v = entS tab v) ∧ ∀ q, moreP (tab ++ [p]) q ↔ moreP tab q ∨ q = p := by
  have ho : ∀ v, firstP (tab ++ [p]) v = firstP tab v := fun v => by
    rw [firstP_snoc]
    by_cases e : p.2 = v
    · rw [← e, h]; rfl
    · rw [if_neg (by simpa using e)]; simp
  refine ⟨fun v => ?_, fun q => ?_⟩
  · unfold entB entS
    rw [ho v]
    cases hc : firstP tab v with
    | none => exact ⟨rfl, rfl⟩
    | some x =>
      refine ⟨rfl, ?_⟩
      have := num_add (p := p) (firstP_some hc).1
      rw [addT_of_not hn] at this
      show ((num (tab ++ [p]) x : Nat) : Int) = _
      rw [this]
  · unfold moreP
    rw [ho]
    constructor
    · rintro ⟨h1, h2⟩
      rcases List.mem_append.1 h1 with h3 | h3
      · exact .inl ⟨h3, h2⟩
      · exact .inr (List.mem_singleton.1 h3)
    · rintro (⟨h1, h2⟩ | rfl)
      · exact ⟨List.mem_append_left _ h1, h2⟩
      · refine ⟨by simp, fun e => hn ?_⟩
        rw [h] at e
        rw [← Option.some.inj e]
        exact (firstP_some h).1
end Go.Proofs.Qxb6603794a
