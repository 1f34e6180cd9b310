/-
  (*steps).of: what its parts do to the state.
-/
import Derived.Test.Qxb6603794aBase
import Derived.Lib.AppendZerosOnto
import Derived.Laws.AppendOwnNone
import Derived.Laws.OwnMore
namespace Go.Proofs.Qxb6603794a
open Go.RowKit Go.Maps

theorem info_parts {t size bytes : Nat} {z : Value} (h : (Try.prog.info? t).map (fun i => (i.zero, i.size, i.bytes)) = some (some z, size, bytes)) : ∃ i, Try.prog.info? t = some i ∧ i.zero = some z ∧ i.size = size ∧ i.bytes = bytes := by
  obtain ⟨i, hi, hz⟩ := Option.map_eq_some_iff.1 h
  simp only [Prod.mk.injEq] at hz
  exact ⟨i, hi, hz.1, hz.2.1, hz.2.2⟩

theorem size_setCell (w : World) (a : Addr) (v : Value) : (w.setCell a v).heap.size = w.heap.size := by simp [World.setCell]

/-- What a part leaves besides the steps: the blocks below them, and every row of another type. -/
structure Kept (S : Nat) (w w' : World) : Prop where
  below : Below S w w'
  rows : ∀ (N : Nat) (cur : Array Value) (t : TypeId) (fz : Nat × Nat), w.heap[N]? = some (.cells cur t fz) → t ≠ 56 → N ≠ S → w'.heap[N]? = some (.cells cur t fz)

theorem Kept.refl (S : Nat) (w : World) : Kept S w w := ⟨Below.refl _ _, fun _ _ _ _ h _ _ => h⟩
theorem Kept.trans {S : Nat} {w w1 w2 : World} (h : Kept S w w1) (k : Kept S w1 w2) : Kept S w w2 := ⟨h.below.trans k.below, fun N cur t fz h1 h2 h3 => k.rows N cur t fz (h.rows N cur t fz h1 h2 h3) h2 h3⟩

theorem ent_far {tab : List Pr} {fl : Nat} (h : ∀ p ∈ tab, p.2 < fl) (v : Nat) (hv : fl ≤ v) : entB tab v = 0 ∧ entS tab v = 0 := by
  refine ent_none ?_
  cases hc : firstP tab (v : Int) with
  | none => rfl
  | some p =>
    have := firstP_some hc
    have := h p this.1
    omega

/-- One element more behind 'first'. -/
theorem grow_step {w : World} {S : Nat} {tab : List Pr} {fl : Nat} {F : Nat → Value} {xs : List Value} (h : StF w S tab fl F xs) (hfl : fl ≤ 65536) :
    ∃ a' l' c' W5, (∀ ty, (Builtin.append_ #[49, 49] ty #[F 0, .slice (some ⟨w.heap.size, 0, none⟩) 1 1]).run Try.prog (w.alloc (.cells #[.int .i32 0, .int .i32 0] 56)) = .ok (.slice a' l' c') W5) ∧ W5.cell? ⟨S, 0, none⟩ = some (F 0) ∧ W5.frozen? ⟨S, 0, none⟩ = false ∧
      Hid (∃ F' xs', F' 0 = .slice a' l' c' ∧ StF (W5.setCell ⟨S, 0, none⟩ (.slice a' l' c')) S tab (fl + 1) F' xs') ∧ Kept S w (W5.setCell ⟨S, 0, none⟩ (.slice a' l' c')) := by
  obtain ⟨hrow, hown, hfirst, htab, _, hmap, hn⟩ := h
  obtain ⟨i0, hi, hz0, hz1, hz2⟩ := info_parts Try.info56
  have hSlt : S < w.heap.size := hrow.lt
  have hnew : (w.alloc (.cells #[.int .i32 0, .int .i32 0] 56)).heap[w.heap.size]? = some (.cells #[.int .i32 0, .int .i32 0] 56 (0, 0)) := heap_alloc_new w _
  have hown6 := hown.alloc (.cells #[.int .i32 0, .int .i32 0] 56)
  obtain ⟨v', W5, hr0, hown5, hg5, _⟩ := run_append_own (P := Try.prog) (w.alloc (.cells #[.int .i32 0, .int .i32 0] 56)) (S + 1) 49 0 56 i0 _ 2 8 Try.underlying49 hi hz0 hz1 hz2 rfl (by omega) (F 0) fl xs hown6 ⟨w.heap.size, 0, none⟩ 1 1 [.int .i32 0, .int .i32 0] rfl (fun j x hj => by
    have hadd : (⟨w.heap.size, 0, none⟩ : Addr).add j = ⟨w.heap.size, j, none⟩ := by unfold Addr.add; split <;> simp_all
    rw [hadd, cell_of_row _ _ _ _ _ _ hnew]
    simpa using hj) (by
    intro x hx
    simp only [List.mem_cons, List.not_mem_nil, or_false] at hx
    rcases hx with h | h <;> (rw [h]; rfl)) (by unfold maxLen; omega) (by omega) (by simp; omega)
  have hall : ∀ ty, (Builtin.append_ #[49, 49] ty #[F 0, .slice (some ⟨w.heap.size, 0, none⟩) 1 1]).run Try.prog (w.alloc (.cells #[.int .i32 0, .int .i32 0] 56)) = .ok v' W5 := fun ty => hr0
  have hform : ∃ a' l' c', v' = .slice a' l' c' := by
    rcases hown5.2 with ⟨e, _⟩ | ⟨g, cap, _, e, _⟩
    · exact ⟨_, _, _, e⟩
    · exact ⟨_, _, _, e⟩
  obtain ⟨a', l', c', ev⟩ := hform
  subst ev
  have hvb : ∀ x, (F 0).ownBlock = some x → S + 1 ≤ x ∧ ∃ cur, w.heap[x]? = some (.cells cur 56 (0, 0)) := fun x hx => own_row hown hx
  have h5 : ∀ x, x < w.heap.size → some x ≠ (F 0).ownBlock → W5.heap[x]? = w.heap[x]? := fun x hx hne => by
    rw [hg5.block x (by simp; omega) hne, heap_alloc_old w _ hx]
  have hS5 : W5.heap[S]? = w.heap[S]? := h5 S hSlt (fun e => by have := (hvb S e.symm).1; omega)
  have hsz5 : w.heap.size ≤ W5.heap.size := Nat.le_trans (by simp) hg5.size
  refine ⟨a', l', c', W5, hall, ?_, ?_, ⟨fun j => if j = 0 then .slice a' l' c' else F j, xs ++ [.int .i32 0, .int .i32 0], rfl, ?_, ?_, ?_, ?_, by omega, ?_, ?_⟩, ?_, ?_⟩
  · rw [World.cell?_of_block (w := w) hS5]
    exact hrow.cell (by omega)
  · rw [World.frozen?_of_block (w := w) hS5]
    exact hrow.frozen _
  · exact (hrow.of_block hS5).set 0 _
  · exact own_set hown5 0 _
  · intro v hv
    by_cases e : v = fl
    · subst e
      have hl := hown.1
      have hz := ent_far htab v (Nat.le_refl _)
      rw [hz.1, hz.2, List.getElem?_append_right (by omega), List.getElem?_append_right (by omega), show 2 * v - xs.length = 0 by omega, show 2 * v + 1 - xs.length = 1 by omega]
      exact ⟨rfl, rfl⟩
    · have hl := hown.1
      rw [List.getElem?_append_left (by omega), List.getElem?_append_left (by omega)]
      exact hfirst v (by omega)
  · intro p hp
    have := htab p hp
    omega
  · refine (hmap.same (w' := W5.setCell ⟨S, 0, none⟩ (.slice a' l' c')) (fun b hb => ?_))
    obtain ⟨⟨es, clock, hbm⟩, hSb⟩ := hmap.apart hb
    rw [Below.heap_setCell _ _ _ _ (show b ≠ S by omega), h5 b (Array.getElem?_eq_some_iff.1 hbm).1 (fun e => ?_)]
    obtain ⟨_, cur, hc⟩ := hvb b e.symm
    rw [hbm] at hc
    cases hc
  · exact hn
  · refine Below.setCell ?_ (p := ⟨S, 0, none⟩) (Nat.le_refl _) _
    exact (((Below.refl _ _).alloc (Nat.le_of_lt hSlt) _).grown hg5 (by simp; omega) (fun x hx => by have := (hvb x hx).1; omega))
  · intro N cur t fz hN ht hNS
    rw [Below.heap_setCell _ _ _ _ hNS, h5 N (Array.getElem?_eq_some_iff.1 hN).1 (fun e => ?_)]
    · exact hN
    · obtain ⟨_, cur', hc⟩ := hvb N e.symm
      rw [hN] at hc
      injection hc with hc
      injection hc with _ h2 _
      exact ht h2

/-- The element of a value, as it lies. -/
theorem first_cells {w : World} {S : Nat} {tab : List Pr} {fl : Nat} {F : Nat → Value} {xs : List Value} (h : StF w S tab fl F xs) (v : Nat) (hv : v < fl) :
    ∃ g cap, F 0 = .slice (some ⟨g, 0, none⟩) fl cap ∧ S < g ∧ w.cell? ⟨g, 2 * v, none⟩ = some (.int .i32 (entB tab v)) ∧ w.cell? ⟨g, 2 * v + 1, none⟩ = some (.int .i32 (entS tab v)) ∧ w.frozen? ⟨g, 2 * v, none⟩ = false ∧ w.frozen? ⟨g, 2 * v + 1, none⟩ = false := by
  obtain ⟨hrow, hown, hfirst, _⟩ := h
  rcases hown.2 with ⟨_, e⟩ | ⟨g, cap, cur, e, hb, _⟩
  · omega
  · have ho := hown
    rw [e] at ho
    have hf := hfirst v hv
    exact ⟨g, cap, e, by omega, by rw [ho.cellAt _ (by omega)]; exact hf.1, by rw [ho.cellAt _ (by omega)]; exact hf.2, ho.frozenAt _, ho.frozenAt _⟩

theorem kept_set {S : Nat} {w : World} (o : Nat) (u : Value) : Kept S w (w.setCell ⟨S, o, none⟩ u) :=
  ⟨(Below.refl _ _).setCell (p := ⟨S, o, none⟩) (Nat.le_refl _) _, fun N cur t fz h _ hne => by rw [Below.heap_setCell _ _ _ _ hne]; exact h⟩

/-- A first pair of its value: three stores. -/
theorem put_first {w : World} {S : Nat} {tab : List Pr} {fl : Nat} {F : Nat → Value} {xs : List Value} (h : StF w S tab fl F xs) {p : Pr} {v : Nat} (hpv : p.2 = v) (hv : v < fl) (hf : firstP tab p.2 = none) {g cap : Nat} (hF0 : F 0 = .slice (some ⟨g, 0, none⟩) fl cap) :
    Steps (((w.setCell ⟨g, 2 * v, none⟩ (.int .i32 (wrap32 (p.1 + 1)))).setCell ⟨g, 2 * v + 1, none⟩ (.int .i32 (tab.length : Nat))).setCell ⟨S, 2, none⟩ (.int .i32 ((tab.length + 1 : Nat) : Int))) S (tab ++ [p]) ∧
    Kept S w (((w.setCell ⟨g, 2 * v, none⟩ (.int .i32 (wrap32 (p.1 + 1)))).setCell ⟨g, 2 * v + 1, none⟩ (.int .i32 (tab.length : Nat))).setCell ⟨S, 2, none⟩ (.int .i32 ((tab.length + 1 : Nat) : Int))) := by
  obtain ⟨hrow, hown, hfirst, htab, hfl, hmap, hn⟩ := h
  obtain ⟨hnot, hB, hS', hoth, hmore⟩ := new_first hf
  have hSlt : S < w.heap.size := hrow.lt
  rw [hF0] at hown
  obtain ⟨hSg, cur0, hcur0⟩ := own_row hown (g := g) rfl
  have hlen := hown.1
  obtain ⟨ho1, hg1⟩ := hown.stored (2 * v) (.int .i32 (wrap32 (p.1 + 1)))
  obtain ⟨ho2, hg2⟩ := ho1.stored (2 * v + 1) (.int .i32 (tab.length : Nat))
  generalize hw1 : w.setCell ⟨g, 2 * v, none⟩ (.int .i32 (wrap32 (p.1 + 1))) = w1 at *
  generalize hw2 : w1.setCell ⟨g, 2 * v + 1, none⟩ (.int .i32 (tab.length : Nat)) = w2 at *
  have hblk : ∀ x, x < w.heap.size → x ≠ g → w2.heap[x]? = w.heap[x]? := fun x hx hne => by
    rw [hg2.block x (Nat.lt_of_lt_of_le hx hg1.size) (fun e => hne (Option.some.inj e)), hg1.block x hx (fun e => hne (Option.some.inj e))]
  have hrow2 := hrow.of_block (hblk S hSlt (by omega))
  refine ⟨⟨fl, fun j => if j = 2 then .int .i32 ((tab.length + 1 : Nat) : Int) else F j, (xs.set (2 * v) (.int .i32 (wrap32 (p.1 + 1)))).set (2 * v + 1) (.int .i32 (tab.length : Nat)), hrow2.set 2 _, ?_, ?_, ?_, hfl, ?_, ?_⟩, ?_, ?_⟩
  · show World.ownsRow _ _ _ _ (F 0) _ _
    rw [hF0]
    exact own_set ho2 2 _
  · intro u hu
    by_cases e : u = v
    · subst e
      rw [← hpv, hB, hS', List.getElem?_set_ne (by omega), List.getElem?_set_self (by omega), List.getElem?_set_self (by rw [List.length_set]; omega)]
      exact ⟨rfl, rfl⟩
    · have h1 := hoth u (by rw [hpv]; omega)
      rw [h1.1, h1.2, List.getElem?_set_ne (by omega), List.getElem?_set_ne (by omega), List.getElem?_set_ne (by omega), List.getElem?_set_ne (by omega)]
      exact hfirst u hu
  · intro q hq
    rcases List.mem_append.1 hq with h1 | h1
    · exact htab q h1
    · rw [List.mem_singleton.1 h1, hpv]
      omega
  · show MapSt _ _ (F 1) _
    have hm2 : MapSt (w2.setCell ⟨S, 2, none⟩ (.int .i32 ((tab.length + 1 : Nat) : Int))) S (F 1) tab := hmap.same (fun b hb => by
      obtain ⟨⟨es, clock, hbm⟩, hSb⟩ := hmap.apart hb
      rw [Below.heap_setCell _ _ _ _ (show b ≠ S by omega), hblk b (Array.getElem?_eq_some_iff.1 hbm).1 (fun e => by rw [e, hcur0] at hbm; cases hbm)])
    rcases hm2 with ⟨e, h0⟩ | ⟨bm, m, D, e, h1, h2, h3, h4⟩
    · exact .inl ⟨e, fun q hq hm => h0 q hq ((hmore q).1 hm)⟩
    · refine .inr ⟨bm, m, D, e, h1, h2, by rw [List.length_append]; omega, fun q hq => ⟨fun hm => ?_, fun hm => (h4 q hq).2 (fun h => hm ((hmore q).2 h))⟩⟩
      have hm' := (hmore q).1 hm
      have h5 := (h4 q hq).1 hm'
      refine ⟨h5.1, fun z => ?_⟩
      rw [h5.2 z]
      have := num_add (p := p) hm'.1
      rw [addT_of_not hnot] at this
      rw [this]
  · show (if 2 = 2 then _ else _) = _
    rw [if_pos rfl, List.length_append]
    rfl
  · exact (((Below.refl _ _).grown hg1 (Nat.le_of_lt hSlt) (fun x hx => by cases hx; omega)).grown hg2 (by have := hg1.size; omega) (fun x hx => by cases hx; omega)).setCell (p := ⟨S, 2, none⟩) (Nat.le_refl _) _
  · intro N cur t fz hN ht hNS
    rw [Below.heap_setCell _ _ _ _ hNS, hblk N (Array.getElem?_eq_some_iff.1 hN).1 (fun e => ?_)]
    · exact hN
    · rw [e, hcur0] at hN
      injection hN with hN
      injection hN with _ h2 _
      exact ht h2.symm

/-- The map is made. -/
theorem make_map {w : World} {S : Nat} {tab : List Pr} {fl : Nat} {F : Nat → Value} {xs : List Value} (h : StF w S tab fl F xs) (hF1 : F 1 = .map none) :
    StF ((w.setCell ⟨S, 1, none⟩ (.map (some w.heap.size))).alloc (.map #[] 0)) S tab fl (fun j => if j = 1 then .map (some w.heap.size) else F j) xs ∧ Kept S w ((w.setCell ⟨S, 1, none⟩ (.map (some w.heap.size))).alloc (.map #[] 0)) := by
  obtain ⟨hrow, hown, hfirst, htab, hfl, hmap, hn⟩ := h
  have hSlt : S < w.heap.size := hrow.lt
  have hnone : ∀ p, InP p → ¬ moreP tab p := by
    rcases hmap with ⟨_, h0⟩ | ⟨bm, m, D, e, _⟩
    · exact h0
    · rw [hF1] at e; cases e
  refine ⟨⟨(hrow.set 1 _).alloc _, (own_set hown 1 _).alloc _, hfirst, htab, hfl, .inr ⟨w.heap.size, 0, .map [], rfl, hSlt, ?_, Nat.zero_le _, fun p hp => ⟨fun hm => absurd hm (hnone p hp), fun _ => rfl⟩⟩, hn⟩, ?_, ?_⟩
  · have := World.ownsMap_made (w.setCell ⟨S, 1, none⟩ (.map (some w.heap.size))) Try.prog 35 (plainElem (H := Unit) Try.prog 21)
    rwa [size_setCell] at this
  · exact ((Below.refl _ _).setCell (p := ⟨S, 1, none⟩) (Nat.le_refl _) _).alloc (by rw [size_setCell]; exact Nat.le_of_lt hSlt) _
  · intro N cur t fz hN ht hNS
    rw [heap_alloc_old _ _ (by rw [size_setCell]; exact (Array.getElem?_eq_some_iff.1 hN).1), Below.heap_setCell _ _ _ _ hNS]
    exact hN

/-- 'step, ok := st.more[..]'. -/
theorem look_run {w : World} {S : Nat} {tab : List Pr} {fl : Nat} {F : Nat → Value} {xs : List Value} (h : StF w S tab fl F xs) {bm : Nat} (hF1 : F 1 = .map (some bm)) {p : Pr} (hp : InP p) (hne : firstP tab p.2 ≠ some p) :
    ∃ c : Int, (Instr.lookup 34 (.map (some bm)) (.agg #[.int .i32 p.1, .int .i32 p.2]) true).run Try.prog w = .ok (.tuple #[.int .i32 c, .bool (decide (p ∈ tab))]) w ∧ (p ∈ tab → c = num tab p) := by
  obtain ⟨hrow, hown, hfirst, htab, hfl, hmap, hn⟩ := h
  rcases hmap with ⟨e, _⟩ | ⟨bm', m, D, e, _, hmo, _, hlook⟩
  · rw [hF1] at e; cases e
  · have e' : bm = bm' := by rw [hF1] at e; injection e with e; injection e
    subst e'
    obtain ⟨v, ps, hrun, hR⟩ := hmo.look_ok law35 Try.underlying34 (zero21 _) (plainElem_int Try.underlying21 (by decide)) (key_of hp)
    obtain ⟨c, rfl, hc, hwc⟩ := plainElem_int_inv Try.underlying21 hR
    have hcd : D.atKey (kl p) (.lit (.int .i32 0)) = .lit (.int .i32 c) := congrArg Prod.fst hc
    refine ⟨c, ?_, fun hm => ?_⟩
    · have hh : has D (kl p) = decide (p ∈ tab) := by
        by_cases hm : p ∈ tab
        · rw [((hlook p hp).1 ⟨hm, hne⟩).1]; simp [hm]
        · rw [(hlook p hp).2 (fun h => hm h.1)]; simp [hm]
      rw [← hh]
      exact hrun
    · have := ((hlook p hp).1 ⟨hm, hne⟩).2 (.lit (.int .i32 0))
      rw [hcd] at this
      injection this with this
      injection this

/-- A pair more into the map. -/
theorem put_more {w : World} {S : Nat} {tab : List Pr} {fl : Nat} {F : Nat → Value} {xs : List Value} (h : StF w S tab fl F xs) {bm : Nat} (hF1 : F 1 = .map (some bm)) {p x : Pr} (hp : InP p) (hlt : p.2 < fl) (hf : firstP tab p.2 = some x) (hnot : p ∉ tab) (hlen : tab.length ≤ 65536) :
    ∃ W, (Instr.mapUpdate 34 (.map (some bm)) (.agg #[.int .i32 p.1, .int .i32 p.2]) (.int .i32 (tab.length : Nat))).run Try.prog w = .ok () W ∧ W.cell? ⟨S, 2, none⟩ = some (.int .i32 (tab.length : Nat)) ∧ W.frozen? ⟨S, 2, none⟩ = false ∧
      Hid (Steps (W.setCell ⟨S, 2, none⟩ (.int .i32 ((tab.length + 1 : Nat) : Int))) S (tab ++ [p]) ∧ Kept S w (W.setCell ⟨S, 2, none⟩ (.int .i32 ((tab.length + 1 : Nat) : Int)))) := by
  obtain ⟨hrow, hown, hfirst, htab, hfl, hmap, hn⟩ := h
  obtain ⟨hent, hmore⟩ := new_more hf hnot
  have hSlt : S < w.heap.size := hrow.lt
  rcases hmap with ⟨e, _⟩ | ⟨bm', m, D, e, hSb, hmo, hmle, hlook⟩
  · rw [hF1] at e; cases e
  · have e' : bm = bm' := by rw [hF1] at e; injection e with e; injection e
    subst e'
    obtain ⟨W, hrun, hmo', hg⟩ := World.ownsMap.update hmo law35 Try.underlying34 (by unfold maxLen; omega) (key_of hp) (plainElem_int (H := Unit) Try.underlying21 (a := (tab.length : Nat)) (wf32 (by unfold In32; omega)))
    have hmap0 : MapSt w S (F 1) tab := .inr ⟨bm, m, D, e, hSb, hmo, hmle, hlook⟩
    obtain ⟨⟨es, clock, hbm⟩, _⟩ := hmap0.apart hF1
    have hblk : ∀ y, y < w.heap.size → y ≠ bm → W.heap[y]? = w.heap[y]? := fun y hy hne => hg.block y hy (fun e => hne (Option.some.inj e))
    have hS5 := hblk S hSlt (by omega)
    refine ⟨W, hrun, ?_, ?_, ⟨fl, fun j => if j = 2 then .int .i32 ((tab.length + 1 : Nat) : Int) else F j, xs, (hrow.of_block hS5).set 2 _, ?_, ?_, ?_, hfl, ?_, ?_⟩, ?_, ?_⟩
    · rw [World.cell?_of_block (w := w) hS5, hrow.cell (by omega), hn]
    · rw [World.frozen?_of_block (w := w) hS5]
      exact hrow.frozen _
    · show World.ownsRow _ _ _ _ (F 0) _ _
      refine own_set ?_ 2 _
      refine hown.kept hg ?_
      cases ho : (F 0).ownBlock with
      | none => exact .inl rfl
      | some g =>
        right
        intro e2
        obtain ⟨_, cur, hc⟩ := own_row hown ho
        rw [Option.some.inj e2, hbm] at hc
        cases hc
    · intro u hu
      rw [(hent u).1, (hent u).2]
      exact hfirst u hu
    · intro q hq
      rcases List.mem_append.1 hq with h1 | h1
      · exact htab q h1
      · rw [List.mem_singleton.1 h1]
        exact hlt
    · show MapSt _ _ (F 1) _
      refine .inr ⟨bm, m + 1, _, hF1, hSb, hmo'.setCell (by simp; omega) _, by rw [List.length_append]; simp; omega, fun q hq => ?_⟩
      have hk := law35.key (key_of hp)
      by_cases eq : q = p
      · subst eq
        refine ⟨fun _ => ⟨has_put_same hmo.isMap hk _, fun z => ?_⟩, fun hm => absurd ((hmore q).2 (.inr rfl)) hm⟩
        rw [atKey_put_same hmo.isMap hk, num_new hnot]
      · have hkne : kl q ≠ kl p := fun e => eq (kl_inj hq hp e)
        refine ⟨fun hm => ?_, fun hm => ?_⟩
        · have hm' : moreP tab q := ((hmore q).1 hm).resolve_right eq
          have h5 := (hlook q hq).1 hm'
          refine ⟨by rw [has_put_other hkne]; exact h5.1, fun z => ?_⟩
          rw [atKey_put_other hkne, h5.2 z]
          have := num_add (p := p) hm'.1
          rw [addT_of_not hnot] at this
          rw [this]
        · rw [has_put_other hkne]
          exact (hlook q hq).2 (fun h => hm ((hmore q).2 (.inl h)))
    · show (if 2 = 2 then _ else _) = _
      rw [if_pos rfl, List.length_append]
      rfl
    · exact ((Below.refl _ _).grown hg (Nat.le_of_lt hSlt) (fun y hy => by cases hy; omega)).setCell (p := ⟨S, 2, none⟩) (Nat.le_refl _) _
    · intro N cur t fz hN ht hNS
      rw [Below.heap_setCell _ _ _ _ hNS, hblk N (Array.getElem?_eq_some_iff.1 hN).1 (fun e => by rw [e, hbm] at hN; cases hN)]
      exact hN
end Go.Proofs.Qxb6603794a
