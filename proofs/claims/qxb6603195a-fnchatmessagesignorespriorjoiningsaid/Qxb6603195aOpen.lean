/-
  A slice of messages that came in, as the walks want it told.
-/
import Derived.Test.Qxb6603195aBase
import Derived.ProofKit
import Derived.OpenShut
import Derived.Deep.Slices
import Derived.ChangeOld
namespace Go.Proofs.Qxb6603195a
open Go.RowKit Go.ChangeShapes Go.WideShapes Go.ChangeAt Go.Deep

theorem own : ownKnob Try.prog.godebug = none := by kernel_rfl
theorem laidOut : laidOutB Try.prog = true := by kernel_rfl
theorem Try.cells44 : Try.prog.cellsOf 44 = 5 := by kernel_rfl
theorem Try.cells73 : Try.prog.cellsOf 73 = 3 := by kernel_rfl
theorem Try.cells9 : Try.prog.cellsOf 9 = 1 := by kernel_rfl
theorem Try.cells42 : Try.prog.cellsOf 42 = 1 := by kernel_rfl
theorem Try.cells4 : Try.prog.cellsOf 4 = 1 := by kernel_rfl

section
variable {H : Type} {enc : TypeId × Value → H} {W : World}

theorem pick_all {α : Type} {Q : Nat → α → Prop} (h : ∀ i, ∃ x, Q i x) : ∃ f : Nat → α, ∀ i, Q i (f i) := ⟨fun i => Classical.choose (h i), fun i => Classical.choose_spec (h i)⟩

theorem some_of_lt {α : Type} {xs : List α} {i : Nat} (h : i < xs.length) : ∃ x, xs[i]? = some x := ⟨_, List.getElem?_eq_getElem h⟩

theorem field_at {n : Nat} {cs : List Value} {xs : List (DataW H × List MemPlace)} {fs : Array Field} (t o i : Nat) {f : Field} (hi : fs[i]? = some f) (ht : f.type = t) (ho : f.offset = o) (hc : Try.prog.cellsOf t = 1)
    (hf : ∀ (i : Nat) (f : Field), fs[i]? = some f → DataW.trod enc Try.prog W 0 (fun _ => true) true n f.type ((cs.drop f.offset).take (Try.prog.cellsOf f.type)) = xs[i]?) :
    DataW.trod enc Try.prog W 0 (fun _ => true) true n t ((cs.drop o).take 1) = xs[i]? := by
  have := hf i f hi
  rwa [ht, ho, hc] at this

theorem open_call {fuel : Nat} {a : Addr} {i : Nat} {cs : List Value} {x : DataW H × List MemPlace} (h1 : W.cells? 0 (a.add (i * 3)) 3 = some cs) (h2 : DataW.trod enc Try.prog W 0 (fun _ => true) true fuel 73 cs = some x) :
    ∃ c : Cl, W.cell? (a.add (i * 3)) = some (.string c.id) ∧ W.cell? (a.add (i * 3 + 1)) = some (.string c.name) ∧ W.cell? (a.add (i * 3 + 2)) = some (.string c.args) := by
  obtain ⟨_, hlen, hcell⟩ := World.cells?_some h1
  obtain ⟨xs, k, hk, hxy, _, hxl, hf⟩ := DataW.trod_struct Try.underlying73 h2
  match cs, hlen with
  | [v0, v1, v2], _ =>
    have hxl : xs.length = 3 := hxl
    obtain ⟨x0, e0⟩ := some_of_lt (xs := xs) (i := 0) (by omega)
    obtain ⟨x1, e1⟩ := some_of_lt (xs := xs) (i := 1) (by omega)
    obtain ⟨x2, e2⟩ := some_of_lt (xs := xs) (i := 2) (by omega)
    have g0 := field_at 9 0 0 rfl rfl rfl Try.cells9 hf
    have g1 := field_at 9 1 1 rfl rfl rfl Try.cells9 hf
    have g2 := field_at 9 2 2 rfl rfl rfl Try.cells9 hf
    simp only [List.drop_zero, List.drop_succ_cons, List.take_succ_cons, List.take_zero, e0, e1, e2] at g0 g1 g2
    obtain ⟨s0, z0, _, _⟩ := DataW.trod_string Try.underlying9 g0
    obtain ⟨s1, z1, _, _⟩ := DataW.trod_string Try.underlying9 g1
    obtain ⟨s2, z2, _, _⟩ := DataW.trod_string Try.underlying9 g2
    simp only [List.cons.injEq, and_true] at z0 z1 z2
    subst z0 z1 z2
    have c0 := hcell 0 (by omega)
    have c1 := hcell 1 (by omega)
    have c2 := hcell 2 (by omega)
    rw [add_add] at c0 c1 c2
    exact ⟨⟨s0, s1, s2⟩, by simpa using c0, by simpa using c1, by simpa using c2⟩

theorem spot_none {a : Addr} {k : Nat} {v : Value} (h : W.cell? (a.add (0 * k)) = some v) : ∃ b o, a = ⟨b, o, none⟩ := by
  obtain ⟨b, off, spot⟩ := a
  have hs : spot = none := by simpa [Addr.add] using World.cell?_spot h
  exact ⟨b, off, by rw [hs]⟩

theorem open_calls {fuel : Nat} {v : Value} {x : DataW H × List MemPlace} (h : DataW.trod enc Try.prog W 0 (fun _ => true) true fuel 42 [v] = some x) : ∃ nl cs, CallsAt W (fun _ => True) v nl cs := by
  rcases open_slice Try.underlying42 h with ⟨hcs, _⟩ | ⟨a, len, cap, m, n, D, Pl, hcs, _, hl, hm, hmm, _, hel⟩
  · simp only [List.cons.injEq, and_true] at hcs
    exact ⟨true, [], none, 0, 0, 0, hcs, rfl, fun _ => rfl, Nat.le_refl _, fun hp => absurd hp (Nat.lt_irrefl _), fun i hi => absurd hi (Nat.not_lt_zero _)⟩
  · simp only [List.cons.injEq, and_true] at hcs
    simp only [if_true] at hmm
    rw [Try.cells73] at hel
    have hall : ∀ i, ∃ c : Cl, i < len → W.cell? (a.add (i * 3)) = some (.string c.id) ∧ W.cell? (a.add (i * 3 + 1)) = some (.string c.name) ∧ W.cell? (a.add (i * 3 + 2)) = some (.string c.args) := fun i => by
      by_cases hi : i < len
      · obtain ⟨cs', h1, h2⟩ := hel i (by omega)
        obtain ⟨c, hc⟩ := open_call h1 h2
        exact ⟨c, fun _ => hc⟩
      · exact ⟨cl0, fun h => absurd h hi⟩
    obtain ⟨f, hf⟩ := pick_all hall
    have hget : ∀ i, i < len → ((List.range len).map f).getD i cl0 = f i := fun i hi => by simp [List.getD, hi]
    by_cases hp : 0 < len
    · obtain ⟨b, o, ha⟩ := spot_none (hf 0 hp).1
      subst ha
      refine ⟨false, (List.range len).map f, some ⟨b, o, none⟩, cap, b, o, by simpa using hcs, rfl, (fun e => by cases e), by simpa using hl, fun _ => ⟨rfl, trivial⟩, fun i hi => ?_⟩
      have hi' : i < len := by simpa using hi
      rw [hget i hi']
      have := hf i hi'
      rw [add_plain, add_plain, add_plain] at this
      rw [Nat.mul_comm 3 i]
      exact ⟨this.1, by rw [Nat.add_assoc]; exact this.2.1, by rw [Nat.add_assoc]; exact this.2.2⟩
    · have h0 : len = 0 := by omega
      subst h0
      exact ⟨false, [], some a, cap, 0, 0, hcs, rfl, (fun e => by cases e), Nat.zero_le _, fun hp => absurd hp (Nat.lt_irrefl _), fun i hi => absurd hi (Nat.not_lt_zero _)⟩

theorem open_msg {fuel : Nat} {a : Addr} {i : Nat} {cs : List Value} {x : DataW H × List MemPlace} (h1 : W.cells? 0 (a.add (i * 5)) 5 = some cs) (h2 : DataW.trod enc Try.prog W 0 (fun _ => true) true fuel 44 cs = some x) :
    ∃ m : Ms, W.cell? (a.add (i * 5)) = some (.string m.role) ∧ W.cell? (a.add (i * 5 + 1)) = some (.string m.content) ∧ (∃ v, W.cell? (a.add (i * 5 + 2)) = some v ∧ CallsAt W (fun _ => True) v m.isNil m.calls) ∧ W.cell? (a.add (i * 5 + 3)) = some (.string m.tid) ∧ W.cell? (a.add (i * 5 + 4)) = some (.bool m.failed) := by
  obtain ⟨_, hlen, hcell⟩ := World.cells?_some h1
  obtain ⟨xs, k, hk, hxy, _, hxl, hf⟩ := DataW.trod_struct Try.underlying44 h2
  match cs, hlen with
  | [v0, v1, v2, v3, v4], _ =>
    have hxl : xs.length = 5 := hxl
    obtain ⟨x0, e0⟩ := some_of_lt (xs := xs) (i := 0) (by omega)
    obtain ⟨x1, e1⟩ := some_of_lt (xs := xs) (i := 1) (by omega)
    obtain ⟨x2, e2⟩ := some_of_lt (xs := xs) (i := 2) (by omega)
    obtain ⟨x3, e3⟩ := some_of_lt (xs := xs) (i := 3) (by omega)
    obtain ⟨x4, e4⟩ := some_of_lt (xs := xs) (i := 4) (by omega)
    have g0 := field_at 9 0 0 rfl rfl rfl Try.cells9 hf
    have g1 := field_at 9 1 1 rfl rfl rfl Try.cells9 hf
    have g2 := field_at 42 2 2 rfl rfl rfl Try.cells42 hf
    have g3 := field_at 9 3 3 rfl rfl rfl Try.cells9 hf
    have g4 := field_at 4 4 4 rfl rfl rfl Try.cells4 hf
    simp only [List.drop_zero, List.drop_succ_cons, List.take_succ_cons, List.take_zero, e0, e1, e2, e3, e4] at g0 g1 g2 g3 g4
    obtain ⟨s0, z0, _, _⟩ := DataW.trod_string Try.underlying9 g0
    obtain ⟨s1, z1, _, _⟩ := DataW.trod_string Try.underlying9 g1
    obtain ⟨nl, cls, hcl⟩ := open_calls g2
    obtain ⟨s3, z3, _, _⟩ := DataW.trod_string Try.underlying9 g3
    obtain ⟨s4, z4, _⟩ := DataW.trod_bool Try.underlying4 g4
    simp only [List.cons.injEq, and_true] at z0 z1 z3 z4
    subst z0 z1 z3 z4
    have c0 := hcell 0 (by omega)
    have c1 := hcell 1 (by omega)
    have c2 := hcell 2 (by omega)
    have c3 := hcell 3 (by omega)
    have c4 := hcell 4 (by omega)
    rw [add_add] at c0 c1 c2 c3 c4
    exact ⟨⟨s0, s1, nl, cls, s3, s4⟩, by simpa using c0, by simpa using c1, ⟨v2, by simpa using c2, hcl⟩, by simpa using c3, by simpa using c4⟩

theorem open_msgs {fuel : Nat} {a : Option Addr} {n c : Nat} {x : DataW H × List MemPlace} (h : DataW.trod enc Try.prog W 0 (fun _ => true) true fuel 32 (Value.slice a n c).cells.toList = some x) :
    n ≤ maxLen ∧ ∃ ms, ms.length = n ∧ MsgsAt W (fun _ => True) a ms := by
  rcases open_slice Try.underlying32 h with ⟨hcs, _⟩ | ⟨a', len, cap, m, k, D, Pl, hcs, _, hl, hm, hmm, _, hel⟩
  · simp [Value.cells] at hcs
    obtain ⟨rfl, rfl, rfl⟩ := hcs
    exact ⟨by unfold maxLen; omega, [], rfl, 0, 0, fun hp => absurd hp (Nat.lt_irrefl _), fun i hi => absurd hi (Nat.not_lt_zero _)⟩
  · simp [Value.cells] at hcs
    obtain ⟨rfl, rfl, rfl⟩ := hcs
    simp only [if_true] at hmm
    rw [Try.cells44] at hel
    refine ⟨Nat.le_trans hl hm, ?_⟩
    have hall : ∀ i, ∃ m : Ms, i < n → W.cell? (a'.add (i * 5)) = some (.string m.role) ∧ W.cell? (a'.add (i * 5 + 1)) = some (.string m.content) ∧ (∃ v, W.cell? (a'.add (i * 5 + 2)) = some v ∧ CallsAt W (fun _ => True) v m.isNil m.calls) ∧ W.cell? (a'.add (i * 5 + 3)) = some (.string m.tid) ∧ W.cell? (a'.add (i * 5 + 4)) = some (.bool m.failed) := fun i => by
      by_cases hi : i < n
      · obtain ⟨cs', h1, h2⟩ := hel i (by omega)
        obtain ⟨c, hc⟩ := open_msg h1 h2
        exact ⟨c, fun _ => hc⟩
      · exact ⟨ms0, fun h => absurd h hi⟩
    obtain ⟨f, hf⟩ := pick_all hall
    have hget : ∀ i, i < n → ((List.range n).map f).getD i ms0 = f i := fun i hi => by simp [List.getD, hi]
    refine ⟨(List.range n).map f, by simp, ?_⟩
    by_cases hp : 0 < n
    · obtain ⟨b, o, ha⟩ := spot_none (hf 0 hp).1
      subst ha
      refine ⟨b, o, fun _ => ⟨rfl, trivial⟩, fun i hi => ?_⟩
      have hi' : i < n := by simpa using hi
      rw [hget i hi']
      have := hf i hi'
      rw [add_plain, add_plain, add_plain, add_plain, add_plain] at this
      rw [Nat.mul_comm 5 i]
      obtain ⟨k0, k1, k2, k3, k4⟩ := this
      exact ⟨k0, by rw [Nat.add_assoc]; exact k1, by rw [Nat.add_assoc]; exact k2, by rw [Nat.add_assoc]; exact k3, by rw [Nat.add_assoc]; exact k4⟩
    · have h0 : n = 0 := by omega
      subst h0
      exact ⟨0, 0, fun hp => absurd hp (Nat.lt_irrefl _), fun i hi => absurd hi (Nat.not_lt_zero _)⟩
end
end Go.Proofs.Qxb6603195a
