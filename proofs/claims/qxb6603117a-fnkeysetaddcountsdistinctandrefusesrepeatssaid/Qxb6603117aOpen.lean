/-
  A [][]byte that came in, as the walks want it told.
-/
import Derived.Test.Qxb6603117aReads
import Derived.ProofKit
import Derived.OpenShut
import Derived.Deep.Matrix
import Derived.ChangeOld
namespace Go.Proofs.Qxb6603117a
open Go.RowKit Go.ChangeShapes Go.WideShapes Go.ChangeAt Go.Deep

theorem own : ownKnob Try.prog.godebug = none := by kernel_rfl
theorem laidOut : laidOutB Try.prog = true := by kernel_rfl
theorem Try.cells22 : Try.prog.cellsOf 22 = 1 := by kernel_rfl
theorem Try.cells5 : Try.prog.cellsOf 5 = 1 := by kernel_rfl

theorem cells_of_row {w : World} {a : Option Addr} {n : Nat} {V : Nat → Value} (h : ∀ x, a = some x → ∀ i, i < n → w.cell? (x.add i) = some (V i)) (h0 : a = none → n = 0) : Cells w a n V := by
  cases a with
  | none => exact ⟨0, 0, fun hn => by have := h0 rfl; omega, fun i hi => by have := h0 rfl; omega⟩
  | some x =>
    obtain ⟨b, off, spot⟩ := x
    by_cases hn : 0 < n
    · have h1 := h _ rfl 0 hn
      have hs : spot = none := by simpa [Addr.add] using World.cell?_spot h1
      subst hs
      exact ⟨b, off, fun _ => rfl, fun i hi => by have := h _ rfl i hi; rwa [add_plain] at this⟩
    · exact ⟨0, 0, fun h => absurd h hn, fun i hi => by omega⟩

theorem open_keys {H : Type} {enc : TypeId × Value → H} {W : World} {a : Option Addr} {n c : Nat} {d : DataW H} {p : List MemPlace} {fuel : Nat}
    (h : DataW.trod enc Try.prog W 0 (fun _ => true) true fuel 28 (Value.slice a n c).cells.toList = some (d, p)) : n ≤ maxLen ∧ (a = none → n = 0) ∧ ∃ K, Keys W a n K := by
  rcases open_int_rows Try.underlying28 Try.underlying22 Try.underlying5 Try.cells22 Try.cells5 h with ⟨hcs, _⟩ | ⟨x, len, cap, A, L, C, Z, hcs, _, hl, hm, _, hrow⟩
  · simp [Value.cells] at hcs
    obtain ⟨rfl, rfl, rfl⟩ := hcs
    exact ⟨by unfold maxLen; omega, fun _ => rfl, fun _ => [], fun _ => .slice none 0 0, ⟨0, 0, fun h => by omega, fun i hi => by omega⟩, fun i hi => by omega⟩
  · simp [Value.cells] at hcs
    obtain ⟨rfl, rfl, rfl⟩ := hcs
    refine ⟨Nat.le_trans hl hm, (fun (h : some x = none) => by cases h), fun i => (Z i).take (L i), fun i => Value.slice (A i) (L i) (C i), cells_of_row (fun x' hx i hi => ?_) (fun (h : some x = none) => by cases h), fun i hi => ?_⟩
    · cases hx
      exact (hrow i (by omega)).1
    · obtain ⟨_, hLC, hCm, hZ, hwf, hnil, hcell⟩ := hrow i (by omega)
      have hlen : ((Z i).take (L i)).length = L i := by rw [List.length_take]; omega
      show Key W (.slice (A i) (L i) (C i)) ((Z i).take (L i))
      refine ⟨A i, C i, by rw [hlen], cells_of_row (fun x' hx j hj => ?_) (fun h => by have := hnil h; omega), fun z hz => ?_, by omega⟩
      · rw [hlen] at hj
        rw [(hcell x' hx).2 j (by omega)]
        congr 2
        rw [List.getD, List.getD, List.getElem?_take, if_pos hj]
      · have := hwf z (List.mem_of_mem_take hz)
        have := bounds_u8 this
        omega
end Go.Proofs.Qxb6603117a
