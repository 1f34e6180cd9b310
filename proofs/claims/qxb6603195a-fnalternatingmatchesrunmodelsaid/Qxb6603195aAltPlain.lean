/-
  alternating, plain: on lists of messages; what an append within the capacity does to the row.
-/
import Derived.Test.Qxb6603195aDel
import Derived.Test.Qxb6603195aCat
import Derived.Lib.Join
namespace Go.Proofs.Qxb6603195a
open Go.RowKit

def isTool (r : ByteArray) : Bool := r.toList == [116, 111, 111, 108]
def sameS (a b : ByteArray) : Bool := a.toList == b.toList
def sep : ByteArray := ⟨#[10, 10]⟩
def joinB (a b : ByteArray) : ByteArray := ⟨(Lib.join ((keep a b).map (·.data.toList)) sep.data.toList).toArray⟩
def mergeM (x m : Ms) : Ms := { x with content := joinB x.content m.content, isNil := (x.calls ++ m.calls).isEmpty, calls := x.calls ++ m.calls }
def lastM (out : List Ms) : Ms := out.getD (out.length - 1) ms0
/-- The message stands apart from what is there. -/
def apartB (out : List Ms) (m : Ms) : Bool := out.length == 0 || isTool m.role || !sameS (lastM out).role m.role
def altStep (out : List Ms) (m : Ms) : List Ms := if apartB out m then out ++ [m] else out.set (out.length - 1) (mergeM (lastM out) m)
def alt (ms : List Ms) : List Ms := ms.foldl altStep []

theorem alt_succ (ms : List Ms) (k : Nat) (hk : k < ms.length) : alt (ms.take (k + 1)) = altStep (alt (ms.take k)) (ms.getD k ms0) := by
  unfold alt
  rw [List.take_add_one, List.foldl_append, List.getElem?_eq_getElem hk]
  simp [List.getD, List.getElem?_eq_getElem hk]

theorem altStep_le (out : List Ms) (m : Ms) : (altStep out m).length ≤ out.length + 1 := by
  unfold altStep
  split
  · simp
  · simp

theorem alt_le (ms : List Ms) : ∀ k, k ≤ ms.length → (alt (ms.take k)).length ≤ k
  | 0, _ => by simp [alt]
  | k + 1, h => by
    rw [alt_succ ms k (by omega)]
    have := altStep_le (alt (ms.take k)) (ms.getD k ms0)
    have := alt_le ms k (by omega)
    omega

/-! ### sizes -/
def wOut (out : List Ms) : Nat := (out.map fun m => m.content.size + 2 + m.calls.length).sum

theorem size_mk (l : List UInt8) : (ByteArray.mk l.toArray).size = l.length := List.size_toArray

theorem join_len (a b : ByteArray) : (joinB a b).size ≤ a.size + b.size + 2 := by
  unfold joinB
  rw [keep_cases, size_mk]
  have ha : a.data.toList.length = a.size := Array.length_toList
  have hb : b.data.toList.length = b.size := Array.length_toList
  cases h1 : a.toList.isEmpty <;> cases h2 : b.toList.isEmpty
  · simp [Lib.join, sep, ha, hb]
    omega
  · simp [Lib.join, ha]
    omega
  · simp [Lib.join, hb]
    omega
  · simp [Lib.join]

theorem sum_set (f : Ms → Nat) : ∀ (l : List Ms) (i : Nat) (m : Ms), i < l.length → ((l.set i m).map f).sum + f (l.getD i ms0) = (l.map f).sum + f m
  | [], i, m, h => by simp at h
  | x :: l, 0, m, _ => by simp; omega
  | x :: l, i + 1, m, h => by
    have := sum_set f l i m (by simpa using h)
    simp only [List.set_cons_succ, List.map_cons, List.sum_cons, List.getD_cons_succ]
    omega

theorem wOut_step (out : List Ms) (m : Ms) : wOut (altStep out m) ≤ wOut out + m.content.size + 2 + m.calls.length := by
  unfold altStep
  split
  · simp [wOut]; omega
  · rename_i h
    have hp : 0 < out.length := by
      by_cases hp : out.length = 0
      · simp [apartB, hp] at h
      · omega
    have hs := sum_set (fun m => m.content.size + 2 + m.calls.length) out (out.length - 1) (mergeM (lastM out) m) (by omega)
    have hj := join_len (lastM out).content m.content
    have e1 : (mergeM (lastM out) m).content.size = (joinB (lastM out).content m.content).size := rfl
    have e2 : (mergeM (lastM out) m).calls.length = (lastM out).calls.length + m.calls.length := by simp [mergeM]
    have e3 : out.getD (out.length - 1) ms0 = lastM out := rfl
    simp only [e1, e2, e3] at hs
    unfold wOut
    omega

theorem wOut_alt (ms : List Ms) : ∀ k, k ≤ ms.length → wOut (alt (ms.take k)) ≤ ((ms.take k).map fun m => m.content.size + 2 + m.calls.length).sum
  | 0, _ => by simp [alt, wOut]
  | k + 1, h => by
    rw [alt_succ ms k (by omega), sum_take_succ (fun m : Ms => m.content.size + 2 + m.calls.length) ms0 ms k (by omega)]
    have := wOut_step (alt (ms.take k)) (ms.getD k ms0)
    have := wOut_alt ms k (by omega)
    omega

theorem sum_le_w : ∀ ms : List Ms, (ms.map fun m => m.content.size + 2 + m.calls.length).sum ≤ wMs ms + 2 * ms.length
  | [] => by simp
  | m :: ms => by
    have := sum_le_w ms
    simp only [wMs, wM, List.map_cons, List.sum_cons, List.length_cons] at this ⊢
    omega

theorem sum_take_le (f : Ms → Nat) : ∀ (ms : List Ms) (k : Nat), ((ms.take k).map f).sum ≤ (ms.map f).sum
  | [], k => by simp
  | m :: ms, 0 => by simp
  | m :: ms, k + 1 => by
    have := sum_take_le f ms k
    simp only [List.take_succ_cons, List.map_cons, List.sum_cons]
    omega

/-- Few texts and calls in all. -/
def Slim (ms : List Ms) : Prop := wOut ms ≤ 4000000 ∧ ms.length ≤ 1048576

theorem Light.slim {ms : List Ms} (h : Light ms) : Slim ms := by
  have h3 := sum_le_w ms
  unfold Light at h
  unfold Slim wOut
  omega

/-- What is joined so far is small. -/
theorem Slim.take {ms : List Ms} (h : Slim ms) (k : Nat) (hk : k ≤ ms.length) : wOut (alt (ms.take k)) ≤ 4000000 := by
  have h1 := wOut_alt ms k hk
  have h2 := sum_take_le (fun m => m.content.size + 2 + m.calls.length) ms k
  unfold Slim wOut at h
  omega

theorem Slim.alt {ms : List Ms} (h : Slim ms) : Slim (alt ms) := by
  have h1 := h.take ms.length (Nat.le_refl _)
  have h2 := alt_le ms ms.length (Nat.le_refl _)
  rw [List.take_length] at h1 h2
  have h3 : ms.length ≤ 1048576 := h.2
  exact ⟨h1, by omega⟩

theorem one_small (out : List Ms) (h : wOut out ≤ 4000000) (k : Nat) (hk : k < out.length) : (out.getD k ms0).content.size + (out.getD k ms0).calls.length ≤ 4000000 := by
  have := sum_ge (fun m : Ms => m.content.size + 2 + m.calls.length) ms0 out k hk
  unfold wOut at h
  omega
end Go.Proofs.Qxb6603195a
