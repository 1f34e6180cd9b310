/-
  chatMessages: how its answer lies in memory.
-/
import Derived.Test.Qxb6603195aAlt
import Derived.Deep.RegionLaw
namespace Go.Proofs.Qxb6603195a
open Go.RowKit

/-- append by what its run is known to be, as one step of a region that draws. -/
theorem step_append_run {P : Program} {ops : Array Oper} {o : Oper} {a : Act} {w : World} {K : Act → World → Prop} {Q : Exit → Act → World → Prop} {E : Prop}
    (hg : o.guard = none) (s x : Operand) (t : TypeId) (hop : o.op = Op.call { callee := Callee.builtin Builtin.append, args := #[s, x], argTypes := #[t, t] })
    (v xv : Value) (hs : a.eval s = v) (hx : a.eval x = xv) (v' : Value) (W : World) (hrun : (Builtin.append_ #[t, t] o.type #[v, xv]).run P w = .ok v' W) (hK : K (a.put o.dst v') W) :
    if Region.wanted o (yielded ops a.tmps) = true then Oper.wp P o a w K Q else E := by
  have hw : Region.wanted o (yielded ops a.tmps) = true := by simp [Region.wanted, hg]
  rw [if_pos hw]
  unfold Oper.wp
  simp [execOp, hop, resolve, invoke, builtin, hs, hx, hrun, Result.andThen]
  exact hK

theorem size_alloc1 (w : World) (o : Obj) : (w.alloc o).heap.size = w.heap.size + 1 := by simp
theorem Try.info54 : (Try.prog.info? 54).map (fun i => (i.zero, i.size, i.bytes)) = some (some (.agg #[.string .empty, .pointer none, .slice none 0 0, .string .empty]), 4, 64) := by kernel_rfl
theorem Try.info79 : (Try.prog.info? 79).map (fun i => (i.zero, i.size, i.bytes)) = some (some (.agg #[.string .empty, .string .empty, .string .empty, .string .empty]), 4, 64) := by kernel_rfl

def fnB : ByteArray := ⟨#[102, 117, 110, 99, 116, 105, 111, 110]⟩

def outCells : List Cl → List Value
  | [] => []
  | c :: cs => .string c.id :: .string fnB :: .string c.name :: .string c.args :: outCells cs

theorem outCells_append : ∀ (a b : List Cl), outCells (a ++ b) = outCells a ++ outCells b
  | [], b => rfl
  | c :: a, b => by simp [outCells, outCells_append a b]

theorem outCells_get : ∀ (cs : List Cl) (i : Nat), i < cs.length → (outCells cs)[4 * i]? = some (.string (cs.getD i cl0).id) ∧ (outCells cs)[4 * i + 1]? = some (.string fnB) ∧ (outCells cs)[4 * i + 2]? = some (.string (cs.getD i cl0).name) ∧ (outCells cs)[4 * i + 3]? = some (.string (cs.getD i cl0).args)
  | [], i, h => by simp at h
  | c :: cs, 0, _ => by simp [outCells]
  | c :: cs, i + 1, h => by
    have ih := outCells_get cs i (by simpa using h)
    have e0 : 4 * (i + 1) = 4 * i + 1 + 1 + 1 + 1 := by omega
    have e1 : 4 * (i + 1) + 1 = (4 * i + 1) + 1 + 1 + 1 + 1 := by omega
    have e2 : 4 * (i + 1) + 2 = (4 * i + 2) + 1 + 1 + 1 + 1 := by omega
    have e3 : 4 * (i + 1) + 3 = (4 * i + 3) + 1 + 1 + 1 + 1 := by omega
    rw [e3, e2, e1, e0]
    simp only [outCells, List.getElem?_cons_succ, List.getD_cons_succ]
    exact ih

/-- The content is left away. -/
def ptrNil (m : Ms) : Bool := m.content.toList.isEmpty && decide (0 < m.calls.length)

/-- Where the content's pointer points. -/
def PtrAt (w : World) (lo : Nat) (p : Option Addr) (m : Ms) : Prop :=
  (ptrNil m = true → p = none) ∧ (ptrNil m = false → ∃ x, p = some ⟨x, 1, none⟩ ∧ lo ≤ x ∧ w.cell? ⟨x, 1, none⟩ = some (.string m.content))

/-- The cells F from o on hold the message m, as it is sent. -/
def ChF (w : World) (B : Nat) (F : Nat → Value) (o : Nat) (m : Ms) : Prop :=
  F o = .string m.role ∧ (∃ p, F (o + 1) = .pointer p ∧ PtrAt w (B + 1) p m) ∧ w.ownsRow (B + 1) 79 4 (F (o + 2)) m.calls.length (outCells m.calls) ∧ F (o + 3) = .string m.tid ∧ (m.calls.length = 0 → F (o + 2) = .slice none 0 0)

/-- Block B holds the first k messages, as they are sent. -/
def Ch (w wr : World) (B n : Nat) (ms : List Ms) (k : Nat) : Prop :=
  (∃ F, wr.rowIs B 54 (n * 4) F ∧ ∀ j, j < k → ChF wr B F (4 * j) (ms.getD j ms0)) ∧ Below B w wr ∧ B < wr.heap.size

theorem own_same {w w' : World} {base : Nat} {v : Value} {n : Nat} {xs : List Value} {ok : Nat → Prop} (h : w.ownsRow base 79 4 v n xs) (hs : Same ok w w') (hok : ∀ b, base ≤ b → ok b) : w'.ownsRow base 79 4 v n xs := by
  refine ⟨h.1, ?_⟩
  rcases h.2 with hn | ⟨g, cap, cur, rfl, hb, hgg, rest⟩
  · exact .inl hn
  · refine .inr ⟨g, cap, cur, rfl, hb, ?_, rest⟩
    rw [hs g (Array.getElem?_eq_some_iff.1 hgg).1 (hok g hb)]
    exact hgg

theorem own_mono {w : World} {base base' : Nat} {v : Value} {n : Nat} {xs : List Value} (h : w.ownsRow base 79 4 v n xs) (hb : base' ≤ base) : w.ownsRow base' 79 4 v n xs := by
  refine ⟨h.1, ?_⟩
  rcases h.2 with hn | ⟨g, cap, cur, rfl, hb', rest⟩
  · exact .inl hn
  · exact .inr ⟨g, cap, cur, rfl, Nat.le_trans hb hb', rest⟩

theorem PtrAt.same {w w' : World} {B : Nat} {p : Option Addr} {m : Ms} (h : PtrAt w (B + 1) p m) (hs : Same (· ≠ B) w w') : PtrAt w' (B + 1) p m :=
  ⟨h.1, fun hn => by
    obtain ⟨x, h1, h2, h3⟩ := h.2 hn
    exact ⟨x, h1, h2, hs.cell (by omega) h3⟩⟩

theorem ChF.same {w w' : World} {B : Nat} {F : Nat → Value} {o : Nat} {m : Ms} (h : ChF w B F o m) (hs : Same (· ≠ B) w w') : ChF w' B F o m := by
  obtain ⟨h0, ⟨p, h1, h2⟩, h3, h4, h5⟩ := h
  exact ⟨h0, ⟨p, h1, h2.same hs⟩, own_same h3 hs (fun b hb => by omega), h4, h5⟩

/-- Block b holds the messages, as they are sent. -/
def ChatAt (w : World) (b : Nat) (ms : List Ms) : Prop :=
  ∃ F, w.rowIs b 54 (ms.length * 4) F ∧ ∀ j, j < ms.length → ChF w b F (4 * j) (ms.getD j ms0)

/-- Inside a round: the message k is laid, u of its calls are appended. -/
def ChI (w wr wy : World) (B n M : Nat) (F : Nat → Value) (k : Nat) (m : Ms) (p : Option Addr) (v : Value) (u : Nat) : Prop :=
  Same (· ≠ B) wr wy ∧ (∃ G, wy.rowIs B 54 (n * 4) G ∧ (∀ i, i < 4 * k → G i = F i) ∧ G (4 * k) = .string m.role ∧ G (4 * k + 1) = .pointer p ∧ G (4 * k + 2) = v ∧ G (4 * k + 3) = .string m.tid) ∧
    wy.ownsRow (M + 1) 79 4 v u (outCells (m.calls.take u)) ∧ wy.cell? ⟨M, 1, none⟩ = some (.string m.content) ∧ Below B w wy ∧ M < wy.heap.size ∧ (u = 0 → v = .slice none 0 0)

theorem ch_end {w wr wy : World} {B n M : Nat} {F : Nat → Value} {k : Nat} {m : Ms} {p : Option Addr} {v : Value} {u : Nat} {ms : List Ms} (h : ChI w wr wy B n M F k m p v u) (hu : u = m.calls.length) (hBM : B < M) (hm : ms.getD k ms0 = m)
    (hF : ∀ j, j < k → ChF wr B F (4 * j) (ms.getD j ms0)) (hp : p = if ptrNil m then none else some ⟨M, 1, none⟩) : Ch w wy B n ms (k + 1) := by
  subst hu
  obtain ⟨hs, ⟨G, hrow, hG, g0, g1, g2, g3⟩, hown, hbox, hb, hM, hnil⟩ := h
  refine ⟨⟨G, hrow, fun j hj => ?_⟩, hb, by omega⟩
  by_cases e : j = k
  · subst e
    rw [hm]
    refine ⟨g0, ⟨p, g1, fun h1 => by rw [hp, h1]; rfl, fun h1 => ⟨M, by rw [hp, h1]; rfl, hBM, hbox⟩⟩, ?_, g3, fun h0 => g2.trans (hnil h0)⟩
    rw [g2]
    rw [List.take_length] at hown
    exact own_mono hown (by omega)
  · have h1 := (hF j (by omega)).same hs
    obtain ⟨k0, ⟨q, k1, k2⟩, k3, k4, k5⟩ := h1
    refine ⟨(hG _ (by omega)).trans k0, ⟨q, (hG _ (by omega)).trans k1, k2⟩, ?_, (hG _ (by omega)).trans k4, fun h0 => (hG _ (by omega)).trans (k5 h0)⟩
    rw [hG _ (by omega)]
    exact k3
/-- The message k is laid, its content's pointer with it. -/
theorem ch_lay {w wr : World} {B n M : Nat} {F : Nat → Value} {k : Nat} {role content tid : ByteArray} {nl failed : Bool} {calls : List Cl} {ca : Option Addr} {cc L : Nat} (hrow : wr.rowIs B 54 (n * 4) F) (hbel : Below B w wr) (hBM : B < M) (hM : wr.heap.size = M) :
    ChI w wr (((((wr.setCell ⟨B, 4 * k, none⟩ (.string role)).setCell ⟨B, 4 * k + 1, none⟩ (.pointer (some ⟨M, 1, none⟩))).setCell ⟨B, 4 * k + 2, none⟩ (.slice none 0 0)).setCell ⟨B, 4 * k + 3, none⟩ (.string tid)).alloc (.cells #[.string role, .string content, .slice ca L cc, .string tid, .bool failed] 41)) B n M F k ⟨role, content, nl, calls, tid, failed⟩ (some ⟨M, 1, none⟩) (.slice none 0 0) 0 := by
  subst hM
  refine ⟨fun b hb hne => ?_, ⟨_, ((((hrow.set _ _).set _ _).set _ _).set _ _).alloc _, fun i hi => ?_, ?_, ?_, ?_, ?_⟩, World.ownsRow_nil _ _ _ _, ?_, ?_, by simp, fun _ => rfl⟩
  · rw [heap_alloc_old _ _ (by simpa using hb), Below.heap_setCell _ _ _ _ hne, Below.heap_setCell _ _ _ _ hne, Below.heap_setCell _ _ _ _ hne, Below.heap_setCell _ _ _ _ hne]
  · rw [if_neg (by omega), if_neg (by omega), if_neg (by omega), if_neg (by omega)]
  · simp
  · simp
  · simp
  · simp
  · have hnew := heap_alloc_new ((((wr.setCell ⟨B, 4 * k, none⟩ (.string role)).setCell ⟨B, 4 * k + 1, none⟩ (.pointer (some ⟨wr.heap.size, 1, none⟩))).setCell ⟨B, 4 * k + 2, none⟩ (.slice none 0 0)).setCell ⟨B, 4 * k + 3, none⟩ (.string tid)) (.cells #[.string role, .string content, .slice ca L cc, .string tid, .bool failed] 41)
    simp only [size_setCell] at hnew
    rw [cell_of_row _ _ _ _ _ _ hnew]
    rfl
  · refine Below.alloc ?_ (by simp; omega) _
    exact (((hbel.setCell (p := ⟨B, 4 * k, none⟩) (Nat.le_refl _) _).setCell (p := ⟨B, 4 * k + 1, none⟩) (Nat.le_refl _) _).setCell (p := ⟨B, 4 * k + 2, none⟩) (Nat.le_refl _) _).setCell (p := ⟨B, 4 * k + 3, none⟩) (Nat.le_refl _) _

theorem ch_lay_nil {w wr : World} {B n M : Nat} {F : Nat → Value} {k : Nat} {role content tid : ByteArray} {nl failed : Bool} {calls : List Cl} {ca : Option Addr} {cc L : Nat} (hrow : wr.rowIs B 54 (n * 4) F) (hbel : Below B w wr) (hBM : B < M) (hM : wr.heap.size = M) :
    ChI w wr ((((((wr.setCell ⟨B, 4 * k, none⟩ (.string role)).setCell ⟨B, 4 * k + 1, none⟩ (.pointer (some ⟨M, 1, none⟩))).setCell ⟨B, 4 * k + 2, none⟩ (.slice none 0 0)).setCell ⟨B, 4 * k + 3, none⟩ (.string tid)).setCell ⟨B, 4 * k + 1, none⟩ (.pointer none)).alloc (.cells #[.string role, .string content, .slice ca L cc, .string tid, .bool failed] 41)) B n M F k ⟨role, content, nl, calls, tid, failed⟩ none (.slice none 0 0) 0 := by
  subst hM
  refine ⟨fun b hb hne => ?_, ⟨_, (((((hrow.set _ _).set _ _).set _ _).set _ _).set _ _).alloc _, fun i hi => ?_, ?_, ?_, ?_, ?_⟩, World.ownsRow_nil _ _ _ _, ?_, ?_, by simp, fun _ => rfl⟩
  · rw [heap_alloc_old _ _ (by simpa using hb), Below.heap_setCell _ _ _ _ hne, Below.heap_setCell _ _ _ _ hne, Below.heap_setCell _ _ _ _ hne, Below.heap_setCell _ _ _ _ hne, Below.heap_setCell _ _ _ _ hne]
  · rw [if_neg (by omega), if_neg (by omega), if_neg (by omega), if_neg (by omega), if_neg (by omega)]
  · simp
  · simp
  · simp
  · simp
  · have hnew := heap_alloc_new (((((wr.setCell ⟨B, 4 * k, none⟩ (.string role)).setCell ⟨B, 4 * k + 1, none⟩ (.pointer (some ⟨wr.heap.size, 1, none⟩))).setCell ⟨B, 4 * k + 2, none⟩ (.slice none 0 0)).setCell ⟨B, 4 * k + 3, none⟩ (.string tid)).setCell ⟨B, 4 * k + 1, none⟩ (.pointer none)) (.cells #[.string role, .string content, .slice ca L cc, .string tid, .bool failed] 41)
    simp only [size_setCell] at hnew
    rw [cell_of_row _ _ _ _ _ _ hnew]
    rfl
  · refine Below.alloc ?_ (by simp; omega) _
    exact ((((hbel.setCell (p := ⟨B, 4 * k, none⟩) (Nat.le_refl _) _).setCell (p := ⟨B, 4 * k + 1, none⟩) (Nat.le_refl _) _).setCell (p := ⟨B, 4 * k + 2, none⟩) (Nat.le_refl _) _).setCell (p := ⟨B, 4 * k + 3, none⟩) (Nat.le_refl _) _).setCell (p := ⟨B, 4 * k + 1, none⟩) (Nat.le_refl _) _

theorem take_more (cs : List Cl) (u : Nat) (c : Cl) (h : u < cs.length) (hc : cs.getD u cl0 = c) : outCells (cs.take (u + 1)) = outCells (cs.take u) ++ [.string c.id, .string fnB, .string c.name, .string c.args] := by
  have e : cs.take (u + 1) = cs.take u ++ [c] := by
    rw [List.take_add_one, List.getElem?_eq_getElem h]
    rw [List.getD, List.getElem?_eq_getElem h] at hc
    rw [← hc]
    rfl
  rw [e, outCells_append]
  rfl

/-- A call more: appended to the row, the row's header stored. -/
theorem ch_app {w wr wx W4 : World} {B n M : Nat} {F : Nat → Value} {k : Nat} {m : Ms} {p : Option Addr} {v : Value} {u : Nat} {c : Cl} (h : ChI w wr wx B n M F k m p v u) (hkn : k < n) (hM : wr.heap.size = M) (hBM : B < M) (hu : u < m.calls.length) (hL : m.calls.length ≤ 4000000) (hc : m.calls.getD u cl0 = c) (hb : Below wx.heap.size wx W4) :
    ∃ a' l' c' W5, (∀ ty, (Builtin.append_ #[52, 52] ty #[v, .slice (some ⟨W4.heap.size, 0, none⟩) 1 1]).run Try.prog (W4.alloc (.cells #[.string c.id, .string fnB, .string c.name, .string c.args] 79)).drew = .ok (.slice a' l' c') W5) ∧ W5.cell? ⟨B, 4 * k + 2, none⟩ = some v ∧ W5.frozen? ⟨B, 4 * k + 2, none⟩ = false ∧
      Hid (ChI w wr (W5.setCell ⟨B, 4 * k + 2, none⟩ (.slice a' l' c')) B n M F k m p (.slice a' l' c') (u + 1)) := by
  obtain ⟨hs, ⟨G, hrow, hG, g0, g1, g2, g3⟩, hown, hbox, hbel, hMs, _⟩ := h
  obtain ⟨i0, hi, hz0, hz1, hz2⟩ := info_parts Try.info79
  obtain ⟨W6, hW6⟩ : ∃ W, (W4.alloc (.cells #[.string c.id, .string fnB, .string c.name, .string c.args] 79)).drew = W := ⟨_, rfl⟩
  have hb6 : Below wx.heap.size wx W6 := by rw [← hW6]; exact (hb.alloc hb.size _).drew
  have hnew : W6.heap[W4.heap.size]? = some (.cells #[.string c.id, .string fnB, .string c.name, .string c.args] 79 (0, 0)) := by rw [← hW6]; exact heap_alloc_new W4 _
  rw [hW6]
  clear hW6
  have hown6 : W6.ownsRow (M + 1) 79 4 v u (outCells (m.calls.take u)) := own_same hown (Below.sameTrue hb6) (fun _ _ => trivial)
  have hr := fun ty => run_append_own (P := Try.prog) W6 (M + 1) 52 ty 79 i0 _ 4 64 Try.underlying52 hi hz0 hz1 hz2 rfl (by omega) v u _ hown6 ⟨W4.heap.size, 0, none⟩ 1 1 [.string c.id, .string fnB, .string c.name, .string c.args] rfl (fun j x hj => by
    have hadd : (⟨W4.heap.size, 0, none⟩ : Addr).add j = ⟨W4.heap.size, j, none⟩ := by unfold Addr.add; split <;> simp_all
    rw [hadd, cell_of_row _ _ _ _ _ _ hnew]
    simpa using hj) (by
    intro x hx
    simp only [List.mem_cons, List.not_mem_nil, or_false] at hx
    rcases hx with h | h | h | h <;> (rw [h]; rfl)) (by unfold maxLen; omega) (by omega) (by have := hb6.size; omega)
  obtain ⟨v', W5, hr0, hown5, hg5, _⟩ := hr 0
  have hall : ∀ ty, (Builtin.append_ #[52, 52] ty #[v, .slice (some ⟨W4.heap.size, 0, none⟩) 1 1]).run Try.prog W6 = .ok v' W5 := fun ty => hr0
  have hvb : ∀ x, v.ownBlock = some x → M + 1 ≤ x := fun x hx => (hown6.lt x hx).1
  have hsz := hb6.size
  have h5 : ∀ x, x < wx.heap.size → x ≤ M → W5.heap[x]? = wx.heap[x]? := fun x hx hxM => by
    rw [hg5.block x (by omega) (fun e => by have := hvb x e.symm; omega), hb6.block x hx]
  have hBx : B < wx.heap.size := by omega
  have hform : ∃ a' l' c', v' = .slice a' l' c' := by
    rcases hown5.2 with ⟨e, _⟩ | ⟨g, cap, _, e, _⟩
    · exact ⟨_, _, _, e⟩
    · exact ⟨_, _, _, e⟩
  obtain ⟨a', l', c', ev⟩ := hform
  rw [ev] at hall hown5
  refine ⟨a', l', c', W5, hall, ?_, ?_, ?_⟩
  · rw [World.cell?_of_block (w := wx) (h5 B hBx (by omega)), hrow.cell (by omega), g2]
  · rw [World.frozen?_of_block (w := wx) (h5 B hBx (by omega))]
    exact hrow.frozen _
  · refine ⟨fun b hb hne => ?_, ⟨_, (hrow.of_block (h5 B hBx (by omega))).set (4 * k + 2) _, fun i hi => ?_, ?_, ?_, ?_, ?_⟩, ?_, ?_, ?_, ?_, fun h0 => by omega⟩
    · rw [Below.heap_setCell _ _ _ _ hne, h5 b (by omega) (by omega)]
      exact hs b hb hne
    · rw [if_neg (by omega)]; exact hG i hi
    · rw [if_neg (by omega)]; exact g0
    · rw [if_neg (by omega)]; exact g1
    · rw [if_pos rfl]
    · rw [if_neg (by omega)]; exact g3
    · rw [take_more _ _ _ hu hc]
      exact own_same hown5 (same_setCell (B := B) W5 (4 * k + 2) _) (fun b hb => by omega)
    · rw [World.cell?_setCell_other _ _ _ _ (by simp), World.cell?_of_block (w := wx) (h5 M hMs (Nat.le_refl _))]
      exact hbox
    · refine Below.setCell ?_ (p := ⟨B, 4 * k + 2, none⟩) (Nat.le_refl _) _
      refine (hbel.trans (hb6.mono (Nat.le_of_lt hBx))).grown hg5 (by omega) (fun x hx => by have := hvb x hx; omega)
    · rw [size_setCell]
      have := hg5.size
      omega
end Go.Proofs.Qxb6603195a
