/-
  A slice of pairs that came in, as the walks want it told.
-/
import Derived.Test.Qxb6603794aSmall
import Derived.ProofKit
import Derived.OpenShut
import Derived.Deep.Slices
import Derived.ChangeOld
namespace Go.Proofs.Qxb6603794a
open Go.RowKit Go.ChangeShapes Go.WideShapes Go.ChangeAt Go.Deep

theorem own : ownKnob Try.prog.godebug = none := by kernel_rfl
theorem laidOut : laidOutB Try.prog = true := by kernel_rfl
theorem Try.cells35 : Try.prog.cellsOf 35 = 2 := by kernel_rfl
theorem Try.cells21 : Try.prog.cellsOf 21 = 1 := by kernel_rfl

theorem in_of_wf {z : Int} (h : (Lit.int .i32 z).wf = true) : In32 z := by
  simp [Lit.wf] at h
  exact ⟨h.1, h.2⟩

section
variable {H : Type} {enc : TypeId × Value → H} {W : World}

theorem pick_all {α : Type} {Q : Nat → α → Prop} (h : ∀ i, ∃ x, Q i x) : ∃ f : Nat → α, ∀ i, Q i (f i) := ⟨fun i => Classical.choose (h i), fun i => Classical.choose_spec (h i)⟩

theorem some_of_lt {α : Type} {xs : List α} {i : Nat} (h : i < xs.length) : ∃ x, xs[i]? = some x := ⟨_, List.getElem?_eq_getElem h⟩

theorem spot_none {a : Addr} {k : Nat} {v : Value} (h : W.cell? (a.add (0 * k)) = some v) : ∃ b o, a = ⟨b, o, none⟩ := by
  obtain ⟨b, off, spot⟩ := a
  have hs : spot = none := by simpa [Addr.add] using World.cell?_spot h
  exact ⟨b, off, by rw [hs]⟩

theorem open_two {fuel : Nat} {a : Addr} {i : Nat} {cs : List Value} {x : DataW H × List MemPlace} (h1 : W.cells? 0 (a.add (i * 2)) 2 = some cs) (h2 : DataW.trod enc Try.prog W 0 (fun _ => true) true fuel 35 cs = some x) :
    ∃ p : Pr, W.cell? (a.add (i * 2)) = some (.int .i32 p.1) ∧ W.cell? (a.add (i * 2 + 1)) = some (.int .i32 p.2) ∧ InP p := by
  obtain ⟨_, hlen, hcell⟩ := World.cells?_some h1
  obtain ⟨xs, k, hk, hxy, _, hxl, hf⟩ := DataW.trod_array Try.underlying35 h2
  match cs, hlen with
  | [v0, v1], _ =>
    obtain ⟨x0, e0⟩ := some_of_lt (xs := xs) (i := 0) (by omega)
    obtain ⟨x1, e1⟩ := some_of_lt (xs := xs) (i := 1) (by omega)
    have g0 := hf 0 (by omega)
    have g1 := hf 1 (by omega)
    rw [Try.cells21] at g0 g1
    simp only [Nat.zero_mul, Nat.one_mul, List.drop_zero, List.drop_succ_cons, List.take_succ_cons, List.take_zero, e0, e1] at g0 g1
    obtain ⟨s0, z0, _, w0⟩ := DataW.trod_int Try.underlying21 g0
    obtain ⟨s1, z1, _, w1⟩ := DataW.trod_int Try.underlying21 g1
    simp only [List.cons.injEq, and_true] at z0 z1
    subst z0 z1
    have c0 := hcell 0 (by omega)
    have c1 := hcell 1 (by omega)
    rw [add_add] at c0 c1
    exact ⟨(s0, s1), by simpa using c0, by simpa using c1, in_of_wf w0, in_of_wf w1⟩

theorem open_pairs {fuel : Nat} {a : Option Addr} {n c : Nat} {x : DataW H × List MemPlace} (h : DataW.trod enc Try.prog W 0 (fun _ => true) true fuel 29 (Value.slice a n c).cells.toList = some x) :
    n ≤ maxLen ∧ ∃ ps : List Pr, ps.length = n ∧ PairsAt W a ps ∧ ∀ i, i < ps.length → InP (ps.getD i (0, 0)) := by
  rcases open_slice Try.underlying29 h with ⟨hcs, _⟩ | ⟨a', len, cap, m, k, D, Pl, hcs, _, hl, hm, hmm, _, hel⟩
  · simp [Value.cells] at hcs
    obtain ⟨rfl, rfl, rfl⟩ := hcs
    exact ⟨by unfold maxLen; omega, [], rfl, ⟨0, 0, fun hp => absurd hp (Nat.lt_irrefl _), fun i hi => absurd hi (Nat.not_lt_zero _)⟩, fun i hi => absurd hi (Nat.not_lt_zero _)⟩
  · simp [Value.cells] at hcs
    obtain ⟨rfl, rfl, rfl⟩ := hcs
    simp only [if_true] at hmm
    rw [Try.cells35] at hel
    refine ⟨Nat.le_trans hl hm, ?_⟩
    have hall : ∀ i, ∃ p : Pr, i < n → W.cell? (a'.add (i * 2)) = some (.int .i32 p.1) ∧ W.cell? (a'.add (i * 2 + 1)) = some (.int .i32 p.2) ∧ InP p := fun i => by
      by_cases hi : i < n
      · obtain ⟨cs', h1, h2⟩ := hel i (by omega)
        obtain ⟨c, hc⟩ := open_two h1 h2
        exact ⟨c, fun _ => hc⟩
      · exact ⟨(0, 0), fun h => absurd h hi⟩
    obtain ⟨f, hf⟩ := pick_all hall
    have hget : ∀ i, i < n → ((List.range n).map f).getD i (0, 0) = f i := fun i hi => by simp [List.getD, hi]
    refine ⟨(List.range n).map f, by simp, ?_, fun i hi => ?_⟩
    · by_cases hp : 0 < n
      · obtain ⟨b, o, ha⟩ := spot_none (hf 0 hp).1
        subst ha
        refine ⟨b, o, fun _ => rfl, fun i hi => ?_⟩
        have hi' : i < n := by simpa using hi
        rw [hget i hi']
        have := hf i hi'
        rw [add_plain, add_plain] at this
        rw [Nat.mul_comm 2 i]
        obtain ⟨k0, k1, _⟩ := this
        exact ⟨k0, by rw [Nat.add_assoc]; exact k1⟩
      · have h0 : n = 0 := by omega
        subst h0
        exact ⟨0, 0, fun hp => absurd hp (Nat.lt_irrefl _), fun i hi => absurd hi (Nat.not_lt_zero _)⟩
    · have hi' : i < n := by simpa using hi
      rw [hget i hi']
      exact (hf i hi').2.2
end
end Go.Proofs.Qxb6603794a
