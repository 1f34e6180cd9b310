/-
  Messages and their calls, as they lie in memory; the rules for an index.
-/
import Derived.Test.Qxb6603195aRows
import Derived.WalkKit
import Derived.WalkSpells
import Derived.WalkLawsBesides
import Derived.Deep.OwnRows
import Derived.BigQuiet
import Derived.Deep.QuietTactic
import Derived.Lib.SliceRun
namespace Go.Proofs.Qxb6603195a
open Go.RowKit

structure Cl where
  id : ByteArray
  name : ByteArray
  args : ByteArray

structure Ms where
  role : ByteArray
  content : ByteArray
  isNil : Bool
  calls : List Cl
  tid : ByteArray
  failed : Bool

def cl0 : Cl := ⟨.empty, .empty, .empty⟩
def ms0 : Ms := ⟨.empty, .empty, true, [], .empty, false⟩

/-- Three cells that hold a call. -/
def ClAt (w : World) (b o : Nat) (c : Cl) : Prop :=
  w.cell? ⟨b, o, none⟩ = some (.string c.id) ∧ w.cell? ⟨b, o + 1, none⟩ = some (.string c.name) ∧ w.cell? ⟨b, o + 2, none⟩ = some (.string c.args)

/-- The value v is a slice of calls that reads as cs; its row is no block that 'ok' refuses. -/
def CallsAt (w : World) (ok : Nat → Prop) (v : Value) (nl : Bool) (cs : List Cl) : Prop :=
  ∃ a c b o, v = .slice a cs.length c ∧ a.isNone = nl ∧ (a = none → c = 0) ∧ cs.length ≤ c ∧ (0 < cs.length → a = some ⟨b, o, none⟩ ∧ ok b) ∧ ∀ i, i < cs.length → ClAt w b (o + 3 * i) (cs.getD i cl0)

/-- Five cells that hold a message. -/
def MsAt (w : World) (ok : Nat → Prop) (b o : Nat) (m : Ms) : Prop :=
  w.cell? ⟨b, o, none⟩ = some (.string m.role) ∧ w.cell? ⟨b, o + 1, none⟩ = some (.string m.content) ∧ (∃ v, w.cell? ⟨b, o + 2, none⟩ = some v ∧ CallsAt w ok v m.isNil m.calls) ∧
    w.cell? ⟨b, o + 3, none⟩ = some (.string m.tid) ∧ w.cell? ⟨b, o + 4, none⟩ = some (.bool m.failed)

/-- The slice (a, ms.length) reads as the messages ms. -/
def MsgsAt (w : World) (ok : Nat → Prop) (a : Option Addr) (ms : List Ms) : Prop :=
  ∃ b o, (0 < ms.length → a = some ⟨b, o, none⟩ ∧ ok b) ∧ ∀ i, i < ms.length → MsAt w ok b (o + 5 * i) (ms.getD i ms0)

/-- w' is w but for draws. -/
def Drawn (w w' : World) : Prop := ∃ m, w' = w.drewN m
theorem Drawn.refl (w : World) : Drawn w w := ⟨0, rfl⟩
theorem Drawn.more {w w' : World} (h : Drawn w w') (n : Nat) : Drawn w (w'.drewN n) := by
  obtain ⟨m, rfl⟩ := h
  exact ⟨_, World.drewN_drewN _ _ _⟩
theorem Drawn.below {w w' : World} (h : Drawn w w') (B : Nat) : Below B w w' := by
  obtain ⟨m, rfl⟩ := h
  exact below_drewN (Below.refl _ _) m

/-- It returns a bool of which q holds. -/
def SomeBool (e : Ending) (q : Bool → Prop) : Prop := ∃ r, e = .returned (.bool r) ∧ q r

/-- The blocks that 'ok' lets by are as they were. -/
def Same (ok : Nat → Prop) (w w' : World) : Prop := ∀ b, b < w.heap.size → ok b → w'.heap[b]? = w.heap[b]?

theorem Same.cell {ok : Nat → Prop} {w w' : World} (h : Same ok w w') {b o : Nat} {v : Value} (hb : ok b) (hc : w.cell? ⟨b, o, none⟩ = some v) : w'.cell? ⟨b, o, none⟩ = some v := by
  have hlt := World.block_lt_of_cell? w ⟨b, o, none⟩ hc
  rw [World.cell?_of_block (w := w) (h b hlt hb)]
  exact hc

theorem ClAt.same {ok : Nat → Prop} {w w' : World} (h : Same ok w w') {b o : Nat} {c : Cl} (hb : ok b) (hc : ClAt w b o c) : ClAt w' b o c :=
  ⟨h.cell hb hc.1, h.cell hb hc.2.1, h.cell hb hc.2.2⟩

theorem CallsAt.same {ok : Nat → Prop} {w w' : World} (h : Same ok w w') {v : Value} {nl : Bool} {cs : List Cl} (hc : CallsAt w ok v nl cs) : CallsAt w' ok v nl cs := by
  obtain ⟨a, c, b, o, h1, h2, h3, h4, h5, h6⟩ := hc
  refine ⟨a, c, b, o, h1, h2, h3, h4, h5, fun i hi => (h6 i hi).same h (h5 (by omega)).2⟩

theorem MsAt.same {ok : Nat → Prop} {w w' : World} (h : Same ok w w') {b o : Nat} {m : Ms} (hb : ok b) (hm : MsAt w ok b o m) : MsAt w' ok b o m := by
  obtain ⟨h1, h2, ⟨v, h3, h4⟩, h5, h6⟩ := hm
  exact ⟨h.cell hb h1, h.cell hb h2, ⟨v, h.cell hb h3, h4.same h⟩, h.cell hb h5, h.cell hb h6⟩

theorem MsgsAt.same {ok : Nat → Prop} {w w' : World} (h : Same ok w w') {a : Option Addr} {ms : List Ms} (hm : MsgsAt w ok a ms) : MsgsAt w' ok a ms := by
  obtain ⟨b, o, h1, h2⟩ := hm
  exact ⟨b, o, h1, fun i hi => (h2 i hi).same h (h1 (by omega)).2⟩

theorem CallsAt.weak {ok ok' : Nat → Prop} {w : World} {v : Value} {nl : Bool} {cs : List Cl} (hc : CallsAt w ok v nl cs) (h : ∀ b, b < w.heap.size → ok b → ok' b) : CallsAt w ok' v nl cs := by
  obtain ⟨a, c, b, o, h1, h2, h3, h4, h5, h6⟩ := hc
  exact ⟨a, c, b, o, h1, h2, h3, h4, fun hp => ⟨(h5 hp).1, h b (World.block_lt_of_cell? w _ (h6 0 hp).1) (h5 hp).2⟩, h6⟩

theorem MsAt.weak {ok ok' : Nat → Prop} {w : World} {b o : Nat} {m : Ms} (hm : MsAt w ok b o m) (h : ∀ b, b < w.heap.size → ok b → ok' b) : MsAt w ok' b o m := by
  obtain ⟨h1, h2, ⟨v, h3, h4⟩, h5, h6⟩ := hm
  exact ⟨h1, h2, ⟨v, h3, h4.weak h⟩, h5, h6⟩

theorem MsgsAt.weak {ok ok' : Nat → Prop} {w : World} {a : Option Addr} {ms : List Ms} (hm : MsgsAt w ok a ms) (h : ∀ b, b < w.heap.size → ok b → ok' b) : MsgsAt w ok' a ms := by
  obtain ⟨b, o, h1, h2⟩ := hm
  exact ⟨b, o, fun hp => ⟨(h1 hp).1, h b (World.block_lt_of_cell? w _ (h2 0 hp).1) (h1 hp).2⟩, fun i hi => (h2 i hi).weak h⟩

section
variable (a : Option Addr) (n c b o : Nat) (h : 0 < n → a = some ⟨b, o, none⟩) (k : Nat) (hk : (k : Int) < (n : Int)) (w : World)

theorem idx32 (a : Option Addr) (n c b o : Nat) (h : 0 < n → a = some ⟨b, o, none⟩) (k : Nat) (hk : (k : Int) < (n : Int)) (w : World) : (Instr.indexAt 32 (.slice a n c) (.int .i64 k)).run Try.prog w = .ok (.pointer (some ⟨b, o + 5 * k, none⟩)) w := by
  have hk' : k < n := by omega
  rw [h (by omega), Nat.mul_comm]
  go_simp
theorem idx34 (a : Option Addr) (n c b o : Nat) (h : 0 < n → a = some ⟨b, o, none⟩) (k : Nat) (hk : (k : Int) < (n : Int)) (w : World) : (Instr.indexAt 34 (.slice a n c) (.int .i64 k)).run Try.prog w = .ok (.pointer (some ⟨b, o + 5 * k, none⟩)) w := by
  have hk' : k < n := by omega
  rw [h (by omega), Nat.mul_comm]
  go_simp
theorem idx42 (a : Option Addr) (n c b o : Nat) (h : 0 < n → a = some ⟨b, o, none⟩) (k : Nat) (hk : (k : Int) < (n : Int)) (w : World) : (Instr.indexAt 42 (.slice a n c) (.int .i64 k)).run Try.prog w = .ok (.pointer (some ⟨b, o + 3 * k, none⟩)) w := by
  have hk' : k < n := by omega
  rw [h (by omega), Nat.mul_comm]
  go_simp
theorem idx39 (a : Option Addr) (n c b o : Nat) (h : 0 < n → a = some ⟨b, o, none⟩) (k : Nat) (hk : (k : Int) < (n : Int)) (w : World) : (Instr.indexAt 39 (.slice a n c) (.int .i64 k)).run Try.prog w = .ok (.pointer (some ⟨b, o + 3 * k, none⟩)) w := by
  have hk' : k < n := by omega
  rw [h (by omega), Nat.mul_comm]
  go_simp
theorem idx49 (a : Option Addr) (n c b o : Nat) (h : 0 < n → a = some ⟨b, o, none⟩) (k : Nat) (hk : (k : Int) < (n : Int)) (w : World) : (Instr.indexAt 49 (.slice a n c) (.int .i64 k)).run Try.prog w = .ok (.pointer (some ⟨b, o + 4 * k, none⟩)) w := by
  have hk' : k < n := by omega
  rw [h (by omega), Nat.mul_comm]
  go_simp
theorem idx52 (a : Option Addr) (n c b o : Nat) (h : 0 < n → a = some ⟨b, o, none⟩) (k : Nat) (hk : (k : Int) < (n : Int)) (w : World) : (Instr.indexAt 52 (.slice a n c) (.int .i64 k)).run Try.prog w = .ok (.pointer (some ⟨b, o + 4 * k, none⟩)) w := by
  have hk' : k < n := by omega
  rw [h (by omega), Nat.mul_comm]
  go_simp
end
end Go.Proofs.Qxb6603195a
