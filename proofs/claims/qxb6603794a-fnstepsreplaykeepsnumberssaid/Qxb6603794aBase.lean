/-
  The steps, as they lie in memory.
-/
import Derived.Test.Qxb6603794aPlain
import Derived.WalkSpells
import Derived.WalkLawsBesides
import Derived.Deep.OwnRows
import Derived.BigQuiet
import Derived.Deep.QuietTactic
import Derived.Lib.SliceRun
import Derived.Maps.OwnSet
import Derived.WideKeyPair
namespace Go.Proofs.Qxb6603794a
open Go.RowKit Go.Maps Go.WideMaps

theorem arr35 : ArrKey Try.prog 35 21 2 := ⟨Try.underlying35, by kernel_rfl, by kernel_rfl, by kernel_rfl⟩
theorem law35 : Keyed Try.prog 35 := Keyed.of_law arr35.law
theorem sized : ∃ m, Try.prog.types.size = m + 1 := ⟨Try.prog.types.size - 1, by have : 0 < Try.prog.types.size := of_decide_eq_true (by kernel_rfl); omega⟩
theorem zero21 (w : World) : (zeroValue 21).run Try.prog w = .ok (.int .i32 0) w := by kernel_rfl
theorem Try.info56 : (Try.prog.info? 56).map (fun i => (i.zero, i.size, i.bytes)) = some (some (.agg #[.int .i32 0, .int .i32 0]), 2, 8) := by kernel_rfl
theorem Try.info35 : (Try.prog.info? 35).map (fun i => (i.zero, i.size, i.bytes)) = some (some (.agg #[.int .i32 0, .int .i32 0]), 2, 8) := by kernel_rfl
theorem Try.info21 : (Try.prog.info? 21).map (fun i => (i.zero, i.size, i.bytes)) = some (some (.int .i32 0), 1, 4) := by kernel_rfl

theorem wf32 {z : Int} (h : In32 z) : (Lit.int .i32 z).wf = true := by
  have h1 : IntKind.i32.min ≤ z := h.1
  have h2 : z ≤ IntKind.i32.max := h.2
  unfold Lit.wf
  simp [h1, h2]

def kl (p : Pr) : Lit := .string (keyBytes [.int .i32 p.1, .int .i32 p.2])
def pk (p : Pr) : Value := .agg #[.int .i32 p.1, .int .i32 p.2]
def InP (p : Pr) : Prop := In32 p.1 ∧ In32 p.2
theorem Ok1.inP {p : Pr} (h : Ok1 p) : InP p := by
  obtain ⟨h1, _, h3, h4⟩ := h
  exact ⟨h1, by unfold In32; omega⟩

theorem key_of {p : Pr} (h : InP p) : keyOf Try.prog 35 (pk p) = some (kl p) := keyOf_pair arr35 Try.underlying21 sized (wf32 h.1) (wf32 h.2)
theorem kl_inj {p q : Pr} (hp : InP p) (hq : InP q) (h : kl p = kl q) : p = q := by
  have h1 := key_of hp
  have h2 := key_of hq
  rw [h] at h1
  have := law35.inj h1 h2
  unfold pk at this
  obtain ⟨a, b⟩ := p
  obtain ⟨c, d⟩ := q
  simpa using this

/-- The map D holds the pairs behind their value's first. -/
def Look (tab : List Pr) (D : DataW Unit) : Prop :=
  ∀ p, InP p → (moreP tab p → has D (kl p) = true ∧ ∀ z, D.atKey (kl p) z = .lit (.int .i32 (num tab p))) ∧ (¬ moreP tab p → has D (kl p) = false)

def MapSt (w : World) (S : Nat) (v : Value) (tab : List Pr) : Prop :=
  (v = .map none ∧ ∀ p, InP p → ¬ moreP tab p) ∨
    ∃ bm m D, v = .map (some bm) ∧ S < bm ∧ w.ownsMap Try.prog 35 (plainElem (H := Unit) Try.prog 21) bm m D ∧ m ≤ tab.length ∧ Look tab D

def FirstSt (xs : List Value) (fl : Nat) (tab : List Pr) : Prop :=
  ∀ v : Nat, v < fl → xs[2 * v]? = some (.int .i32 (entB tab v)) ∧ xs[2 * v + 1]? = some (.int .i32 (entS tab v))

/-- Block S holds the steps that have numbered the pairs of tab. -/
def StF (w : World) (S : Nat) (tab : List Pr) (fl : Nat) (F : Nat → Value) (xs : List Value) : Prop :=
  w.rowIs S 51 3 F ∧ w.ownsRow (S + 1) 56 2 (F 0) fl xs ∧ FirstSt xs fl tab ∧ (∀ p ∈ tab, p.2 < fl) ∧ fl ≤ 65537 ∧ MapSt w S (F 1) tab ∧ F 2 = .int .i32 (tab.length : Nat)

def Steps (w : World) (S : Nat) (tab : List Pr) : Prop := ∃ fl F xs, StF w S tab fl F xs

theorem MapSt.same {w w' : World} {S : Nat} {v : Value} {tab : List Pr} (h : MapSt w S v tab) (hb : ∀ b, v = .map (some b) → w'.heap[b]? = w.heap[b]?) : MapSt w' S v tab := by
  rcases h with h | ⟨bm, m, D, rfl, h1, h3, h4, h5⟩
  · exact .inl h
  · refine .inr ⟨bm, m, D, rfl, h1, ?_, h4, h5⟩
    obtain ⟨es, clock, hbm, rest⟩ := h3
    exact ⟨es, clock, by rw [hb bm rfl]; exact hbm, rest⟩

/-- A map's block is no row. -/
theorem MapSt.apart {w : World} {S : Nat} {v : Value} {tab : List Pr} (h : MapSt w S v tab) {b : Nat} (hv : v = .map (some b)) : (∃ es clock, w.heap[b]? = some (.map es clock)) ∧ S < b := by
  rcases h with ⟨e, _⟩ | ⟨bm, m, D, e, h1, h3, _⟩
  · rw [hv] at e; cases e
  · have e' : b = bm := by rw [hv] at e; injection e with e; injection e
    subst e'
    obtain ⟨es, clock, hbm, _⟩ := h3
    exact ⟨⟨es, clock, hbm⟩, h1⟩

theorem own_row {w : World} {base n : Nat} {v : Value} {xs : List Value} (h : w.ownsRow base 56 2 v n xs) {g : Nat} (hg : v.ownBlock = some g) : base ≤ g ∧ ∃ cur, w.heap[g]? = some (.cells cur 56 (0, 0)) := by
  rcases h.2 with ⟨rfl, _⟩ | ⟨g', cap, cur, rfl, hb, hgg, _⟩
  · simp [Value.ownBlock] at hg
  · simp [Value.ownBlock] at hg
    subst hg
    exact ⟨hb, cur, hgg⟩

theorem own_set {w : World} {S n : Nat} {v : Value} {xs : List Value} (h : w.ownsRow (S + 1) 56 2 v n xs) (o : Nat) (u : Value) : (w.setCell ⟨S, o, none⟩ u).ownsRow (S + 1) 56 2 v n xs := by
  refine ⟨h.1, ?_⟩
  rcases h.2 with hn | ⟨g, cap, cur, rfl, hb, hgg, rest⟩
  · exact .inl hn
  · refine .inr ⟨g, cap, cur, rfl, hb, ?_, rest⟩
    rw [Below.heap_setCell _ _ _ _ (show g ≠ S by omega)]
    exact hgg
end Go.Proofs.Qxb6603794a
