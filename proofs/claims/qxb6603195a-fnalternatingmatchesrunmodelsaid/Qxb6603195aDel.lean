/-
  slices.DeleteFunc at two texts, its predicate 'the text is empty'.
-/
import Derived.Test.Qxb6603195aToMsg
namespace Go.Proofs.Qxb6603195a
open Go.RowKit

abbrev fEmpty : Value := .func (.func 38) #[] #[]

set_option maxHeartbeats 400000 in
theorem empty38 (s : ByteArray) (w : World) : Calls Try.prog 38 #[.string s] w fun e w' => e = .returned (.bool (s.toList.isEmpty)) ∧ w' = w := by
  go_enter Try.func38, Try.ntmps38
  go_wp2
  go_ret
  exact ⟨rfl, rfl⟩

set_option maxHeartbeats 400000 in
theorem idx_first (T : Nat) (s1 : ByteArray) (w : World) (c0 : w.cell? ⟨T, 0, none⟩ = some (.string s1)) (h1 : s1.toList.isEmpty = true) :
   Calls Try.prog 42 #[.slice (some ⟨T, 0, none⟩) 2 2, fEmpty] w fun e w' => e = .returned (.int .i64 0) ∧ w' = w := by
  go_enter Try.func42, Try.ntmps42
  go_wp2
  refine wp_loop_rounds 1 ?_
  rw [rounds_succ]
  go_wp2
  go_ret
  exact ⟨rfl, rfl⟩

set_option maxHeartbeats 400000 in
theorem idx_second (T : Nat) (s1 s2 : ByteArray) (w : World) (c0 : w.cell? ⟨T, 0, none⟩ = some (.string s1)) (c1 : w.cell? ⟨T, 1, none⟩ = some (.string s2)) (h1 : s1.toList.isEmpty = false) (h2 : s2.toList.isEmpty = true) :
   Calls Try.prog 42 #[.slice (some ⟨T, 0, none⟩) 2 2, fEmpty] w fun e w' => e = .returned (.int .i64 1) ∧ w' = w := by
  go_enter Try.func42, Try.ntmps42
  go_wp2
  refine wp_loop_rounds 2 ?_
  rw [rounds_succ]
  go_wp2
  rw [rounds_succ]
  go_wp2
  go_ret
  exact ⟨rfl, rfl⟩

set_option maxHeartbeats 400000 in
theorem idx_none (T : Nat) (s1 s2 : ByteArray) (w : World) (c0 : w.cell? ⟨T, 0, none⟩ = some (.string s1)) (c1 : w.cell? ⟨T, 1, none⟩ = some (.string s2)) (h1 : s1.toList.isEmpty = false) (h2 : s2.toList.isEmpty = false) :
   Calls Try.prog 42 #[.slice (some ⟨T, 0, none⟩) 2 2, fEmpty] w fun e w' => e = .returned (.int .i64 (-1)) ∧ w' = w := by
  go_enter Try.func42, Try.ntmps42
  go_wp2
  refine wp_loop_rounds 3 ?_
  rw [rounds_succ]
  go_wp2
  rw [rounds_succ]
  go_wp2
  rw [rounds_succ]
  go_wp2
  go_ret
  exact ⟨rfl, rfl⟩

set_option maxHeartbeats 400000 in
theorem del_none (T : Nat) (s1 s2 : ByteArray) (w : World) (c0 : w.cell? ⟨T, 0, none⟩ = some (.string s1)) (c1 : w.cell? ⟨T, 1, none⟩ = some (.string s2)) (h1 : s1.toList.isEmpty = false) (h2 : s2.toList.isEmpty = false) :
   Calls Try.prog 37 #[.slice (some ⟨T, 0, none⟩) 2 2, fEmpty] w fun e w' => e = .returned (.slice (some ⟨T, 0, none⟩) 2 2) ∧ w' = w := by
  go_enter Try.func37, Try.ntmps37
  go_wp2_with fail
  refine (idx_none T s1 s2 _ c0 c1 h1 h2).mono ?_
  rintro e w1 ⟨rfl, rfl⟩
  go_wp2
  go_ret
  exact ⟨rfl, rfl⟩

theorem zero9 (w : World) : (zeroValue 9).run Try.prog w = .ok (.string .empty) w := by kernel_rfl

theorem clear1 (T : Nat) (w : World) (hc : (w.cell? ⟨T, 1, none⟩).isSome = true) (hf : w.frozen? ⟨T, 1, none⟩ = false) (ty : TypeId) :
    (Builtin.clear_ #[86] ty #[.slice (some ⟨T, 1, none⟩) 1 1]).run Try.prog w = .ok (.tuple #[]) (w.setCell ⟨T, 1, none⟩ (.string .empty)) := by
  refine Lib.run_clear_slice (P := Try.prog) w 86 9 ty (.string .empty) Try.underlying86 zero9 rfl rfl T 1 1 1 (by omega) (fun j hj => ?_) (fun j hj => ?_)
  · have e : j = 0 := by omega
    rw [e]
    exact hc
  · have e : j = 0 := by omega
    rw [e]
    exact hf

theorem clear2 (T : Nat) (w : World) (hc : ∀ j, j < 2 → (w.cell? ⟨T, j, none⟩).isSome = true) (hf : ∀ j, j < 2 → w.frozen? ⟨T, j, none⟩ = false) (ty : TypeId) :
    (Builtin.clear_ #[86] ty #[.slice (some ⟨T, 0, none⟩) 2 2]).run Try.prog w = .ok (.tuple #[]) ((w.setCell ⟨T, 0, none⟩ (.string .empty)).setCell ⟨T, 1, none⟩ (.string .empty)) := by
  refine Lib.run_clear_slice (P := Try.prog) w 86 9 ty (.string .empty) Try.underlying86 zero9 rfl rfl T 0 2 2 (by omega) (fun j hj => ?_) (fun j hj => ?_)
  · rw [Nat.zero_add]
    exact hc j hj
  · rw [Nat.zero_add]
    exact hf j hj

set_option maxHeartbeats 400000 in
theorem del_second (T : Nat) (s1 s2 : ByteArray) (w : World) (c0 : w.cell? ⟨T, 0, none⟩ = some (.string s1)) (c1 : w.cell? ⟨T, 1, none⟩ = some (.string s2)) (f1 : w.frozen? ⟨T, 1, none⟩ = false) (h1 : s1.toList.isEmpty = false) (h2 : s2.toList.isEmpty = true) :
   Calls Try.prog 37 #[.slice (some ⟨T, 0, none⟩) 2 2, fEmpty] w fun e w' => e = .returned (.slice (some ⟨T, 0, none⟩) 1 2) ∧ w' = w.setCell ⟨T, 1, none⟩ (.string .empty) := by
  have hcl := clear1 T w (by rw [c1]; rfl) f1
  go_enter Try.func37, Try.ntmps37
  go_wp2_with fail
  refine (idx_second T s1 s2 _ c0 c1 h1 h2).mono ?_
  rintro e w1 ⟨rfl, rfl⟩
  go_wp2
  refine wp_loop_rounds 1 ?_
  rw [rounds_succ]
  go_wp2
  go_ret
  exact ⟨rfl, rfl⟩

set_option maxHeartbeats 400000 in
theorem del_first (T : Nat) (s1 s2 : ByteArray) (w : World) (c0 : w.cell? ⟨T, 0, none⟩ = some (.string s1)) (c1 : w.cell? ⟨T, 1, none⟩ = some (.string s2)) (f0 : w.frozen? ⟨T, 0, none⟩ = false) (f1 : w.frozen? ⟨T, 1, none⟩ = false) (h1 : s1.toList.isEmpty = true) (h2 : s2.toList.isEmpty = false) :
   Calls Try.prog 37 #[.slice (some ⟨T, 0, none⟩) 2 2, fEmpty] w fun e w' => e = .returned (.slice (some ⟨T, 0, none⟩) 1 2) ∧ w' = (w.setCell ⟨T, 0, none⟩ (.string s2)).setCell ⟨T, 1, none⟩ (.string .empty) := by
  have hcl := clear1 T (w.setCell ⟨T, 0, none⟩ (.string s2)) (by rw [World.cell?_setCell_other _ _ _ _ (by simp), c1]; rfl) (by rw [World.frozen?_setCell]; exact f1)
  go_enter Try.func37, Try.ntmps37
  go_wp2_with fail
  refine (idx_first T s1 _ c0 h1).mono ?_
  rintro e w1 ⟨rfl, rfl⟩
  go_wp2
  refine wp_loop_rounds 2 ?_
  rw [rounds_succ]
  go_wp2
  rw [rounds_succ]
  go_wp2
  go_ret
  exact ⟨rfl, rfl⟩

set_option maxHeartbeats 400000 in
theorem del_both (T : Nat) (s1 s2 : ByteArray) (w : World) (c0 : w.cell? ⟨T, 0, none⟩ = some (.string s1)) (c1 : w.cell? ⟨T, 1, none⟩ = some (.string s2)) (f0 : w.frozen? ⟨T, 0, none⟩ = false) (f1 : w.frozen? ⟨T, 1, none⟩ = false) (h1 : s1.toList.isEmpty = true) (h2 : s2.toList.isEmpty = true) :
   Calls Try.prog 37 #[.slice (some ⟨T, 0, none⟩) 2 2, fEmpty] w fun e w' => e = .returned (.slice (some ⟨T, 0, none⟩) 0 2) ∧ w' = (w.setCell ⟨T, 0, none⟩ (.string .empty)).setCell ⟨T, 1, none⟩ (.string .empty) := by
  have hcl := clear2 T w (fun j hj => by
    match j, hj with
    | 0, _ => rw [c0]; rfl
    | 1, _ => rw [c1]; rfl) (fun j hj => by
    match j, hj with
    | 0, _ => exact f0
    | 1, _ => exact f1)
  go_enter Try.func37, Try.ntmps37
  go_wp2_with fail
  refine (idx_first T s1 _ c0 h1).mono ?_
  rintro e w1 ⟨rfl, rfl⟩
  go_wp2
  refine wp_loop_rounds 2 ?_
  rw [rounds_succ]
  go_wp2
  rw [rounds_succ]
  go_wp2
  go_ret
  exact ⟨rfl, rfl⟩

/-- The texts that are not empty. -/
def keep (s1 s2 : ByteArray) : List ByteArray := [s1, s2].filter fun s => !s.toList.isEmpty

theorem keep_cases (s1 s2 : ByteArray) : keep s1 s2 = (if s1.toList.isEmpty then [] else [s1]) ++ (if s2.toList.isEmpty then [] else [s2]) := by
  unfold keep
  cases h1 : s1.toList.isEmpty <;> cases h2 : s2.toList.isEmpty <;> simp [h1, h2]

theorem grown_set (w : World) (T o : Nat) (v : Value) : w.grownBy (w.setCell ⟨T, o, none⟩ v) (some T) :=
  ⟨rfl, rfl, rfl, by simp [World.setCell], fun k _ hne => Below.heap_setCell _ _ _ _ (fun e => hne (by rw [e]))⟩

theorem del37 (T : Nat) (s1 s2 : ByteArray) (w : World) (c0 : w.cell? ⟨T, 0, none⟩ = some (.string s1)) (c1 : w.cell? ⟨T, 1, none⟩ = some (.string s2)) (f0 : w.frozen? ⟨T, 0, none⟩ = false) (f1 : w.frozen? ⟨T, 1, none⟩ = false) :
   Calls Try.prog 37 #[.slice (some ⟨T, 0, none⟩) 2 2, fEmpty] w fun e w' => e = .returned (.slice (some ⟨T, 0, none⟩) (keep s1 s2).length 2) ∧ (∀ j x, (keep s1 s2)[j]? = some x → w'.cell? ⟨T, 0 + j, none⟩ = some (.string x)) ∧ w.grownBy w' (some T) := by
  rw [keep_cases]
  cases h1 : s1.toList.isEmpty <;> cases h2 : s2.toList.isEmpty
  · refine (del_none T s1 s2 w c0 c1 h1 h2).mono ?_
    rintro e w' ⟨rfl, rfl⟩
    refine ⟨rfl, fun j x hx => ?_, World.grownBy.refl _ _⟩
    match j, hx with
    | 0, hx => simp at hx; rw [← hx]; exact c0
    | 1, hx => simp at hx; rw [← hx]; exact c1
  · refine (del_second T s1 s2 w c0 c1 f1 h1 h2).mono ?_
    rintro e w' ⟨rfl, rfl⟩
    refine ⟨rfl, fun j x hx => ?_, grown_set _ _ _ _⟩
    match j, hx with
    | 0, hx =>
      simp at hx
      rw [← hx, World.cell?_setCell_other _ _ _ _ (by simp)]
      exact c0
  · refine (del_first T s1 s2 w c0 c1 f0 f1 h1 h2).mono ?_
    rintro e w' ⟨rfl, rfl⟩
    refine ⟨rfl, fun j x hx => ?_, (grown_set _ _ _ _).trans (grown_set _ _ _ _)⟩
    match j, hx with
    | 0, hx =>
      simp at hx
      rw [← hx, World.cell?_setCell_other _ _ _ _ (by simp)]
      exact World.cell?_setCell_same _ _ _ c0
  · refine (del_both T s1 s2 w c0 c1 f0 f1 h1 h2).mono ?_
    rintro e w' ⟨rfl, rfl⟩
    exact ⟨rfl, fun j x hx => by simp at hx, (grown_set _ _ _ _).trans (grown_set _ _ _ _)⟩
end Go.Proofs.Qxb6603195a
