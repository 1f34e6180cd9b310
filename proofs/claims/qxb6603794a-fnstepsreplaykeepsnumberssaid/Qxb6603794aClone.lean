/-
  clonePairs.
-/
import Derived.Test.Qxb6603794aSmall
namespace Go.Proofs.Qxb6603794a
open Go.RowKit Go.Maps

def pairCells : List Pr → List Value
  | [] => []
  | p :: ps => .int .i32 p.1 :: .int .i32 p.2 :: pairCells ps

theorem pairCells_len : ∀ ps : List Pr, (pairCells ps).length = ps.length * 2
  | [] => rfl
  | p :: ps => by simp only [pairCells, List.length_cons, pairCells_len ps]; omega

theorem pairCells_get : ∀ (ps : List Pr) (i : Nat), i < ps.length → (pairCells ps)[2 * i]? = some (.int .i32 (ps.getD i (0, 0)).1) ∧ (pairCells ps)[2 * i + 1]? = some (.int .i32 (ps.getD i (0, 0)).2)
  | [], i, h => by simp at h
  | p :: ps, 0, _ => by simp [pairCells]
  | p :: ps, i + 1, h => by
    have ih := pairCells_get ps i (by simpa using h)
    have e0 : 2 * (i + 1) = 2 * i + 1 + 1 := by omega
    have e1 : 2 * (i + 1) + 1 = (2 * i + 1) + 1 + 1 := by omega
    rw [e1, e0]
    simp only [pairCells, List.getElem?_cons_succ, List.getD_cons_succ]
    exact ih

theorem pairCells_one : ∀ ps : List Pr, ∀ u ∈ pairCells ps, u.oneCell' = true
  | [], u, h => by simp [pairCells] at h
  | p :: ps, u, h => by
    simp only [pairCells, List.mem_cons] at h
    rcases h with h | h | h
    · rw [h]; rfl
    · rw [h]; rfl
    · exact pairCells_one ps u h

theorem wp_copy {P : Program} (w : World) {ops : Array Oper} {rest : List Oper} {o : Oper} {a : Act} {Q : Exit → Act → World → Prop} (hgd : o.guard = none) (d s : Operand) (t t' : TypeId)
    (ho : o.op = .call { callee := .builtin .copy, args := #[d, s], argTypes := #[t, t'] }) (v u : Value) (hd : a.eval d = v) (hs : a.eval s = u) {v' : Value} {w' : World}
    (hr : (Builtin.copy_ #[t, t'] o.type #[v, u]).run P w = .ok v' w') (h : wpList P ops Q rest (a.put o.dst v') w') : wpList P ops Q (o :: rest) a w := by
  refine wpList_plain hgd fun K hK => ?_
  unfold Oper.wp
  simp [execOp, ho, resolve, invoke, builtin, hd, hs, hr, Result.andThen]
  exact hK _ _ h

/-- The copy of all pairs into a row just as long. -/
theorem run_copy2 (w : World) (ty : TypeId) (g n c : Nat) (a : Addr) (cur : Array Value) (t : TypeId) (cs : List Value) (hg : w.heap[g]? = some (.cells cur t (0, 0))) (hn : cs.length = n * 2) (hsz : cur.size = n * 2)
    (hsrc : ∀ j v, cs[j]? = some v → w.cell? (a.add j) = some v) (h1 : ∀ v ∈ cs, v.oneCell' = true) :
    (Builtin.copy_ #[29, 29] ty #[.slice (some ⟨g, 0, none⟩) n n, .slice (some a) n c]).run Try.prog w = .ok (goInt n) (w.setRow g cs.toArray) := by
  have hl := run_loadCells_list (P := Try.prog) w a cs hsrc
  have hst := run_storeCells_at Try.prog g 0 t cs 0 cur w hg (by omega) h1
  have hdrop : cur.toList.drop (0 + 0 + cs.length) = [] := List.drop_eq_nil_of_le (by rw [Array.length_toList]; omega)
  rw [hdrop, Nat.add_zero, List.take_zero, List.nil_append, List.append_nil] at hst
  obtain ⟨i, hi, hz⟩ := Option.map_eq_some_iff.1 Try.info35
  simp only [Prod.mk.injEq] at hz
  rw [hn] at hl
  simp [Builtin.copy_, run_underlying Try.underlying29, Builtin.lenOf, Builtin.firstCells, sizeOf, typeInfo, hi, hz.2.1, hl, hst]

theorem mk_slice {t e size bytes : Nat} {z : Value} (ht : Try.prog.underlying t = some (.slice e)) (hinfo : (Try.prog.info? e).map (fun i => (i.zero, i.size, i.bytes)) = some (some z, size, bytes)) (l n : Nat) (hl : l ≤ n) (hb : bytes * n ≤ 281474976710656) (h63 : n ≤ 9223372036854775807) (w : World) :
    (Instr.makeSlice t (.int .i64 (l : Int)) (.int .i64 (n : Int))).run Try.prog w = .ok (.slice (some ⟨w.heap.size, 0, none⟩) l n) (w.alloc (.cells (madeCells z.cells (n * size)) e)) := by
  obtain ⟨i, hi, hz0, hz1, hz2⟩ := info_parts hinfo
  have hr := run_make (P := Try.prog) w t e i z ht hi hz0 .i64 .i64 l n (by omega) (by omega) (by rw [hz2]; omega) (by omega)
  rw [hz1] at hr
  simpa using hr

theorem pairs_of_row {w : World} {g : Nat} {ps : List Pr} {t : TypeId} (h : w.heap[g]? = some (.cells (pairCells ps).toArray t (0, 0))) : PairsAt w (some ⟨g, 0, none⟩) ps := by
  refine ⟨g, 0, fun _ => rfl, fun i hi => ?_⟩
  have hg := pairCells_get ps i hi
  rw [cell_of_row _ _ _ _ _ _ h, cell_of_row _ _ _ _ _ _ h, Nat.zero_add]
  exact ⟨by simpa using hg.1, by simpa using hg.2⟩

theorem PairsAt.cells {w : World} {ad : Addr} {ps : List Pr} (h : PairsAt w (some ad) ps) : ∀ j v, (pairCells ps)[j]? = some v → w.cell? (ad.add j) = some v := by
  obtain ⟨b, o, ha, hps⟩ := h
  intro j v hj
  have hjl : j < ps.length * 2 := by
    rw [← pairCells_len]
    rcases Nat.lt_or_ge j (pairCells ps).length with hh | hh
    · exact hh
    · rw [List.getElem?_eq_none hh] at hj; cases hj
  have ead : ad = ⟨b, o, none⟩ := Option.some.inj (ha (by omega))
  have hadd : (⟨b, o, none⟩ : Addr).add j = ⟨b, o + j, none⟩ := by unfold Addr.add; split <;> simp_all
  rw [ead, hadd]
  obtain ⟨i, d, hd, hij⟩ : ∃ i d, d < 2 ∧ j = 2 * i + d := ⟨j / 2, j % 2, by omega, by omega⟩
  have hi : i < ps.length := by omega
  have hg := pairCells_get ps i hi
  have hc := hps i hi
  match d, hd with
  | 0, _ => rw [hij, Nat.add_zero] at hj; rw [hg.1] at hj; rw [← Option.some.inj hj, hij, Nat.add_zero]; exact hc.1
  | 1, _ => rw [hij] at hj; rw [hg.2] at hj; rw [← Option.some.inj hj, hij, ← Nat.add_assoc]; exact hc.2

set_option maxHeartbeats 400000 in
theorem clone16 (a : Option Addr) (c : Nat) (ps : List Pr) (w : World) (hp : PairsAt w a ps) (hn : ps.length ≤ 65536) :
    Calls Try.prog 16 #[.slice a ps.length c] w fun e w' => ∃ a' c', e = .returned (.slice a' ps.length c') ∧ PairsAt w' a' ps ∧ Below w.heap.size w w' := by
  have hpl := pairCells_len ps
  have hp1 := pairCells_one ps
  have hnil := fun (w : World) (a : Option Addr) (n c : Nat) => Lib.run_eql_slice_nil (P := Try.prog) w 29 35 a n c 0 0 Try.underlying29
  cases a with
  | none =>
    have h0 : ps.length = 0 := by
      obtain ⟨b, o, ha, _⟩ := hp
      by_cases h : ps.length = 0
      · exact h
      · have := ha (by omega); cases this
    have e : ps = [] := List.eq_nil_of_length_eq_zero h0
    subst e
    clear hp hpl hp1 hn h0
    rw [List.length_nil]
    go_enter Try.func16, Try.ntmps16
    go_wp2
    go_ret
    exact ⟨none, 0, rfl, ⟨0, 0, fun hp => absurd hp (Nat.lt_irrefl _), fun i hi => absurd hi (Nat.not_lt_zero _)⟩, Below.refl _ _⟩
  | some ad =>
    have hcells := hp.cells
    have hmk : ∀ w, (Instr.makeSlice 29 (.int .i64 (ps.length : Int)) (.int .i64 (ps.length : Int))).run Try.prog w = .ok (.slice (some ⟨w.heap.size, 0, none⟩) ps.length ps.length) (w.alloc (.cells (madeCells #[.int .i32 0, .int .i32 0] (ps.length * 2)) 35)) := mk_slice Try.underlying29 Try.info35 ps.length ps.length (Nat.le_refl _) (by omega) (by omega)
    have hb1 : Below w.heap.size w (w.alloc (.cells (madeCells #[.int .i32 0, .int .i32 0] (ps.length * 2)) 35)) := (Below.refl _ _).alloc (Nat.le_refl _) _
    have hnew : (w.alloc (.cells (madeCells #[.int .i32 0, .int .i32 0] (ps.length * 2)) 35)).heap[w.heap.size]? = _ := heap_alloc_new w _
    have hcopy := fun ty => run_copy2 (w.alloc (.cells (madeCells #[.int .i32 0, .int .i32 0] (ps.length * 2)) 35)) ty w.heap.size ps.length c ad _ 35 (pairCells ps) hnew hpl (size_madeCells _ _) (fun j v hj => by
      rw [hb1.cell (World.block_lt_of_cell? w _ (hcells j v hj))]
      exact hcells j v hj) hp1
    have hfin : PairsAt ((w.alloc (.cells (madeCells #[.int .i32 0, .int .i32 0] (ps.length * 2)) 35)).setRow w.heap.size (pairCells ps).toArray) (some ⟨w.heap.size, 0, none⟩) ps := pairs_of_row (setRow_heap _ _ _ _ _ _ hnew)
    have hbel : Below w.heap.size w ((w.alloc (.cells (madeCells #[.int .i32 0, .int .i32 0] (ps.length * 2)) 35)).setRow w.heap.size (pairCells ps).toArray) := hb1.trans ⟨rfl, rfl, rfl, by simp [World.setRow], fun k hk => setRow_other _ _ k _ (by omega)⟩
    clear hp hcells hpl hp1 hb1 hnew
    go_enter Try.func16, Try.ntmps16
    go_wp2_with (at_builtin; refine wp_copy _ rfl _ _ _ _ rfl _ _ rfl rfl (hcopy _) ?_)
    go_ret
    exact ⟨_, _, rfl, hfin, hbel⟩
end Go.Proofs.Qxb6603794a
