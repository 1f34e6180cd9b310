/-
  alternating by its runs: plain.
-/
import Derived.Test.Qxb6603195aAltPlain
namespace Go.Proofs.Qxb6603195a
open Go.RowKit

def mergeAll (x : Ms) (l : List Ms) : Ms := l.foldl mergeM x

theorem lastM_append (out y : List Ms) (h : y ≠ []) : lastM (out ++ y) = lastM y := by
  have hp : 0 < y.length := List.length_pos_iff.2 h
  unfold lastM
  rw [List.length_append, List.getD, List.getD, List.getElem?_append_right (by omega)]
  congr 2
  omega

theorem altStep_append (out y : List Ms) (m : Ms) (h : y ≠ []) : altStep (out ++ y) m = out ++ altStep y m := by
  have hp : 0 < y.length := List.length_pos_iff.2 h
  have e : apartB (out ++ y) m = apartB y m := by
    unfold apartB
    rw [lastM_append out y h]
    have e1 : ((out ++ y).length == 0) = false := by rw [List.length_append]; exact beq_eq_false_iff_ne.2 (by omega)
    have e2 : (y.length == 0) = false := beq_eq_false_iff_ne.2 (by omega)
    rw [e1, e2]
  unfold altStep
  rw [e]
  split
  · rw [List.append_assoc]
  · rw [lastM_append out y h, List.set_append_right _ _ (by rw [List.length_append]; omega)]
    congr 2
    rw [List.length_append]
    omega

theorem altStep_ne (y : List Ms) (m : Ms) : altStep y m ≠ [] := by
  unfold altStep
  split
  · simp
  · rename_i h
    intro e
    rw [List.set_eq_nil_iff] at e
    subst e
    simp [apartB] at h

theorem fold_append (out : List Ms) : ∀ (l y : List Ms), y ≠ [] → l.foldl altStep (out ++ y) = out ++ l.foldl altStep y
  | [], _, _ => rfl
  | m :: l, y, h => by
    rw [List.foldl_cons, List.foldl_cons, altStep_append out y m h]
    exact fold_append out l _ (altStep_ne y m)

theorem alt_cons (x : Ms) (l : List Ms) : alt (x :: l) = l.foldl altStep [x] := by
  unfold alt
  rw [List.foldl_cons]
  rfl

theorem lastM_one (x : Ms) : lastM [x] = x := rfl

/-- A run is one message; what comes behind it begins anew. -/
theorem alt_run : ∀ (l : List Ms) (x : Ms) (rest : List Ms), (∀ m ∈ l, sameS x.role m.role = true ∧ isTool m.role = false) → (∀ m tl, rest = m :: tl → isTool m.role = true ∨ sameS x.role m.role = false) →
    alt (x :: (l ++ rest)) = mergeAll x l :: alt rest
  | [], x, rest, _, hr => by
    rw [List.nil_append, alt_cons]
    cases rest with
    | nil => rfl
    | cons m tl =>
      have ha : apartB [x] m = true := by
        rcases hr m tl rfl with h | h
        · simp [apartB, h]
        · simp [apartB, lastM_one, h]
      rw [List.foldl_cons, altStep, if_pos ha, fold_append [x] tl [m] (by simp), alt_cons]
      rfl
  | m :: l, x, rest, hl, hr => by
    have hm := hl m (by simp)
    have ha : apartB [x] m = false := by simp [apartB, lastM_one, hm.1, hm.2]
    have e : altStep [x] m = [mergeM x m] := by
      rw [altStep, if_neg (by rw [ha]; simp)]
      rfl
    rw [List.cons_append, alt_cons, List.foldl_cons, e, ← alt_cons]
    exact alt_run l (mergeM x m) rest (fun y hy => hl y (by simp [hy])) hr

/-! ### What a run holds -/
theorem mergeAll_role (x : Ms) (l : List Ms) : (mergeAll x l).role = x.role ∧ (mergeAll x l).tid = x.tid ∧ (mergeAll x l).failed = x.failed := by
  induction l generalizing x with
  | nil => exact ⟨rfl, rfl, rfl⟩
  | cons m l ih => exact ih (mergeM x m)

theorem mergeAll_calls (x : Ms) (l : List Ms) : (mergeAll x l).calls = x.calls ++ l.flatMap (·.calls) := by
  induction l generalizing x with
  | nil => simp [mergeAll]
  | cons m l ih =>
    have h1 := ih (mergeM x m)
    have e : mergeAll x (m :: l) = mergeAll (mergeM x m) l := rfl
    rw [e, h1]
    simp [mergeM, List.append_assoc]

theorem mergeAll_nil (x m : Ms) (l : List Ms) : (mergeAll x (m :: l)).isNil = (mergeAll x (m :: l)).calls.isEmpty := by
  induction l generalizing x m with
  | nil => rfl
  | cons y l ih =>
    exact ih (mergeM x m) y

/-- The texts that are not empty. -/
def texts (l : List Ms) : List (List UInt8) := (l.map (·.content.data.toList)).filter (fun s => !s.isEmpty)
def joined (l : List Ms) : List UInt8 := Lib.join (texts l) [10, 10]

theorem texts_append (a b : List Ms) : texts (a ++ b) = texts a ++ texts b := by simp [texts]
theorem texts_ne (l : List Ms) : ∀ s ∈ texts l, s ≠ [] := by
  intro s hs e
  subst e
  simp [texts] at hs

theorem join_snoc (A : List (List UInt8)) (y : List UInt8) (h : A ≠ []) : Lib.join (A ++ [y]) [10, 10] = Lib.join A [10, 10] ++ [10, 10] ++ y := by
  cases A with
  | nil => exact absurd rfl h
  | cons x r =>
    rw [List.cons_append, Lib.join_cons, Lib.join_cons]
    simp [Lib.joinTail, List.append_assoc]

theorem join_ne (A : List (List UInt8)) (h : ∀ s ∈ A, s ≠ []) (hA : A ≠ []) : Lib.join A [10, 10] ≠ [] := by
  cases A with
  | nil => exact absurd rfl hA
  | cons x r =>
    rw [Lib.join_cons]
    intro e
    exact h x (by simp) (List.append_eq_nil_iff.1 e).1

theorem texts_one (m : Ms) : texts [m] = if m.content.data.toList.isEmpty then [] else [m.content.data.toList] := by
  simp only [texts, List.map_cons, List.map_nil, List.filter_cons, List.filter_nil]
  cases m.content.data.toList.isEmpty <;> rfl

/-- A text more. -/
theorem joined_snoc (l : List Ms) (m : Ms) : joined (l ++ [m]) = if m.content.data.toList.isEmpty then joined l else if texts l = [] then m.content.data.toList else joined l ++ [10, 10] ++ m.content.data.toList := by
  unfold joined
  rw [texts_append, texts_one]
  by_cases h1 : m.content.data.toList.isEmpty = true
  · rw [if_pos h1, if_pos h1, List.append_nil]
  · rw [if_neg h1, if_neg h1]
    by_cases h2 : texts l = []
    · rw [if_pos h2, h2, List.nil_append, Lib.join_one]
    · rw [if_neg h2, join_snoc _ _ h2]

theorem joined_one (m : Ms) : joined [m] = m.content.data.toList := by
  have := joined_snoc [] m
  rw [List.nil_append] at this
  rw [this]
  by_cases h1 : m.content.data.toList.isEmpty = true
  · rw [if_pos h1, List.isEmpty_iff.1 h1]
    rfl
  · rw [if_neg h1, if_pos (show texts [] = [] from rfl)]

theorem joined_nil_iff (l : List Ms) : joined l = [] ↔ texts l = [] := by
  constructor
  · intro h
    by_cases h2 : texts l = []
    · exact h2
    · exact absurd h (join_ne _ (texts_ne l) h2)
  · intro h
    unfold joined
    rw [h]
    rfl

theorem joinB_data (a b : ByteArray) : (joinB a b).data.toList = if b.data.toList.isEmpty then a.data.toList else if a.data.toList = [] then b.data.toList else a.data.toList ++ [10, 10] ++ b.data.toList := by
  unfold joinB
  rw [keep_cases, ByteArray.toList_eq, ByteArray.toList_eq]
  have es : sep.data.toList = [10, 10] := rfl
  rw [es]
  cases ha : a.data.toList.isEmpty <;> cases hb : b.data.toList.isEmpty
  · have hne : ¬ a.data.toList = [] := fun e => by rw [e] at ha; cases ha
    simp [Lib.join, hne]
  · simp [Lib.join]
  · rw [List.isEmpty_iff] at ha
    simp [Lib.join, ha]
  · rw [List.isEmpty_iff] at ha
    simp [Lib.join, ha]

theorem mergeAll_content (x : Ms) (l : List Ms) : (mergeAll x l).content.data.toList = joined (x :: l) := by
  have : ∀ (l pre : List Ms) (x : Ms), x.content.data.toList = joined pre → (mergeAll x l).content.data.toList = joined (pre ++ l) := by
    intro l
    induction l with
    | nil => intro pre x h; simpa [mergeAll] using h
    | cons m l ih =>
      intro pre x h
      have e : mergeAll x (m :: l) = mergeAll (mergeM x m) l := rfl
      rw [e, ih (pre ++ [m]) (mergeM x m) ?_, List.append_assoc]
      · rfl
      · show (joinB x.content m.content).data.toList = _
        rw [joinB_data, joined_snoc, h]
        simp only [joined_nil_iff]
  exact this l [x] x (joined_one x).symm

/-- Where a run ends. -/
def RunEnd (ms : List Ms) (i j : Nat) : Prop :=
  i < j ∧ j ≤ ms.length ∧ (∀ t, i < t → t < j → sameS (ms.getD t ms0).role (ms.getD i ms0).role = true) ∧ (isTool (ms.getD i ms0).role = true → j = i + 1) ∧
    (isTool (ms.getD i ms0).role = false → j = ms.length ∨ sameS (ms.getD j ms0).role (ms.getD i ms0).role = false)

theorem sameS_comm (a b : ByteArray) : sameS a b = sameS b a := by
  unfold sameS
  exact Bool.eq_iff_iff.2 ⟨fun h => by rw [eq_of_beq h]; simp, fun h => by rw [eq_of_beq h]; simp⟩

theorem tool_same {a b : ByteArray} (h : sameS a b = true) : isTool a = isTool b := by
  unfold isTool
  rw [eq_of_beq h]

def run (ms : List Ms) (i j : Nat) : List Ms := (ms.drop i).take (j - i)

theorem drop_cons (ms : List Ms) (i : Nat) (h : i < ms.length) : ms.drop i = ms.getD i ms0 :: ms.drop (i + 1) := by
  rw [List.drop_eq_getElem_cons h]
  simp [List.getD, h]

theorem run_cons (ms : List Ms) (i j : Nat) (h : i < j) (hj : j ≤ ms.length) : run ms i j = ms.getD i ms0 :: run ms (i + 1) j := by
  unfold run
  rw [drop_cons ms i (by omega), show j - i = (j - (i + 1)) + 1 by omega, List.take_succ_cons]

theorem run_snoc (ms : List Ms) (i t : Nat) (h : i ≤ t) (ht : t < ms.length) : run ms i (t + 1) = run ms i t ++ [ms.getD t ms0] := by
  unfold run
  rw [show t + 1 - i = (t - i) + 1 by omega, List.take_add_one, List.getElem?_drop, show i + (t - i) = t by omega, List.getElem?_eq_getElem ht]
  simp [List.getD, ht]

theorem run_self (ms : List Ms) (i : Nat) : run ms i i = [] := by simp [run]

theorem run_append (ms : List Ms) (i t j : Nat) (h : i ≤ t) (hj : t ≤ j) : run ms i j = run ms i t ++ run ms t j := by
  unfold run
  rw [show j - i = (t - i) + (j - t) by omega, List.take_add, List.drop_drop, show i + (t - i) = t by omega]

theorem run_drop (ms : List Ms) (i j : Nat) (h : i ≤ j) : ms.drop i = run ms i j ++ ms.drop j := by
  unfold run
  have := List.take_append_drop (j - i) (ms.drop i)
  rw [List.drop_drop, show i + (j - i) = j by omega] at this
  exact this.symm

theorem alt_drop (ms : List Ms) (i j : Nat) (h : RunEnd ms i j) : alt (ms.drop i) = mergeAll (ms.getD i ms0) (run ms (i + 1) j) :: alt (ms.drop j) := by
  obtain ⟨hij, hj, hsame, htool, hend⟩ := h
  rw [drop_cons ms i (by omega), run_drop ms (i + 1) j (by omega)]
  refine alt_run _ _ _ (fun m hm => ?_) (fun m tl he => ?_)
  · obtain ⟨q, hq⟩ := List.getElem?_of_mem hm
    unfold run at hq
    rw [List.getElem?_take] at hq
    split at hq
    · rename_i hlt
      rw [List.getElem?_drop] at hq
      have hg : ms.getD (i + 1 + q) ms0 = m := by rw [List.getD, hq]; rfl
      have hs := hsame (i + 1 + q) (by omega) (by omega)
      rw [hg] at hs
      have ht : isTool (ms.getD i ms0).role = false := by
        cases hh : isTool (ms.getD i ms0).role with
        | false => rfl
        | true => have := htool hh; omega
      exact ⟨by rw [sameS_comm]; exact hs, by rw [tool_same hs]; exact ht⟩
    · cases hq
  · have hlt : j < ms.length := by
      rcases Nat.lt_or_ge j ms.length with hh | hh
      · exact hh
      · rw [List.drop_eq_nil_of_le hh] at he; cases he
    rw [drop_cons ms j hlt] at he
    have hg : ms.getD j ms0 = m := by injection he
    cases hh : isTool (ms.getD i ms0).role with
    | true =>
      cases hm : isTool m.role with
      | true => exact .inl rfl
      | false =>
        right
        cases hs : sameS (ms.getD i ms0).role m.role with
        | false => rfl
        | true => rw [tool_same hs, hm] at hh; cases hh
    | false =>
      rcases hend hh with e | e
      · omega
      · right
        rw [sameS_comm, ← hg]
        exact e
end Go.Proofs.Qxb6603195a
