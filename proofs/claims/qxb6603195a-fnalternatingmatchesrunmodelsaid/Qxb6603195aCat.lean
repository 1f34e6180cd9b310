/-
  slices.Grow of a nil slice and slices.Concat of two slices of calls.
-/
import Derived.Test.Qxb6603195aToMsg
import Derived.Lib.AppendZerosOnto
import Derived.Laws.AppendOwnNone
namespace Go.Proofs.Qxb6603195a
open Go.RowKit

def callCells : List Cl → List Value
  | [] => []
  | c :: cs => .string c.id :: .string c.name :: .string c.args :: callCells cs

theorem callCells_len : ∀ cs : List Cl, (callCells cs).length = cs.length * 3
  | [] => rfl
  | c :: cs => by simp only [callCells, List.length_cons, callCells_len cs]; omega

theorem callCells_append : ∀ (a b : List Cl), callCells (a ++ b) = callCells a ++ callCells b
  | [], b => rfl
  | c :: a, b => by simp [callCells, callCells_append a b]

theorem callCells_get : ∀ (cs : List Cl) (i : Nat), i < cs.length → (callCells cs)[3 * i]? = some (.string (cs.getD i cl0).id) ∧ (callCells cs)[3 * i + 1]? = some (.string (cs.getD i cl0).name) ∧ (callCells cs)[3 * i + 2]? = some (.string (cs.getD i cl0).args)
  | [], i, h => by simp at h
  | c :: cs, 0, _ => by simp [callCells]
  | c :: cs, i + 1, h => by
    have ih := callCells_get cs i (by simpa using h)
    have e0 : 3 * (i + 1) = 3 * i + 1 + 1 + 1 := by omega
    have e1 : 3 * (i + 1) + 1 = (3 * i + 1) + 1 + 1 + 1 := by omega
    have e2 : 3 * (i + 1) + 2 = (3 * i + 2) + 1 + 1 + 1 := by omega
    rw [e2, e1, e0]
    simp only [callCells, List.getElem?_cons_succ, List.getD_cons_succ]
    exact ih

theorem callCells_one : ∀ cs : List Cl, ∀ u ∈ callCells cs, u.oneCell' = true
  | [], u, h => by simp [callCells] at h
  | c :: cs, u, h => by
    simp only [callCells, List.mem_cons] at h
    rcases h with h | h | h | h
    · rw [h]; rfl
    · rw [h]; rfl
    · rw [h]; rfl
    · exact callCells_one cs u h

/-- The cells that hold the calls, one by one. -/
theorem CallsAt.cells {w : World} {ok : Nat → Prop} {v : Value} {nl : Bool} {cs : List Cl} (h : CallsAt w ok v nl cs) :
    ∃ a c, v = .slice a cs.length c ∧ (a = none → cs.length = 0 ∧ c = 0) ∧ cs.length ≤ c ∧ ∀ ad, a = some ad → ∀ j u, (callCells cs)[j]? = some u → w.cell? (ad.add j) = some u := by
  obtain ⟨a, c, b, o, h1, h2, h3, h4, h5, h6⟩ := h
  refine ⟨a, c, h1, fun ha => ⟨?_, h3 ha⟩, h4, fun ad had j u hj => ?_⟩
  · by_cases hp : 0 < cs.length
    · have := (h5 hp).1
      rw [ha] at this
      cases this
    · omega
  · have hjl : j < cs.length * 3 := by
      rw [← callCells_len]
      rcases Nat.lt_or_ge j (callCells cs).length with hh | hh
      · exact hh
      · rw [List.getElem?_eq_none hh] at hj; cases hj
    have hp : 0 < cs.length := by omega
    have e := (h5 hp).1
    rw [had] at e
    have ead : ad = ⟨b, o, none⟩ := Option.some.inj e
    have hadd : (⟨b, o, none⟩ : Addr).add j = ⟨b, o + j, none⟩ := by unfold Addr.add; split <;> simp_all
    rw [ead, hadd]
    obtain ⟨i, d, hd, hij⟩ : ∃ i d, d < 3 ∧ j = 3 * i + d := ⟨j / 3, j % 3, by omega, by omega⟩
    have hi : i < cs.length := by omega
    have hg := callCells_get cs i hi
    have hc := h6 i hi
    match d, hd with
    | 0, _ => rw [hij, Nat.add_zero] at hj; rw [hg.1] at hj; rw [← Option.some.inj hj, hij, Nat.add_zero]; exact hc.1
    | 1, _ => rw [hij] at hj; rw [hg.2.1] at hj; rw [← Option.some.inj hj, hij, ← Nat.add_assoc]; exact hc.2.1
    | 2, _ => rw [hij] at hj; rw [hg.2.2] at hj; rw [← Option.some.inj hj, hij, ← Nat.add_assoc]; exact hc.2.2

/-- A row of the call's own that holds the calls. -/
theorem calls_of_own {w : World} {base g cap : Nat} {cs : List Cl} (h : w.ownsRow base 74 3 (.slice (some ⟨g, 0, none⟩) cs.length cap) cs.length (callCells cs)) : CallsAt w (fun b => base ≤ b) (.slice (some ⟨g, 0, none⟩) cs.length cap) false cs := by
  have hc := h.cells (g := g) rfl
  have hb := (h.lt g rfl).1
  have hle : cs.length ≤ cap := by
    rcases h.2 with ⟨e, _⟩ | ⟨g', cap', cur, e, _, _, hle, _⟩
    · cases e
    · have e2 : cap = cap' := by injection e
      rw [e2]
      exact hle
  refine ⟨_, cap, g, 0, rfl, rfl, (fun e => by cases e), hle, fun _ => ⟨rfl, hb⟩, fun i hi => ?_⟩
  have hadd : ∀ j, (⟨g, 0, none⟩ : Addr).add j = ⟨g, 0 + j, none⟩ := fun j => by unfold Addr.add; split <;> simp_all
  have hg := callCells_get cs i hi
  refine ⟨?_, ?_, ?_⟩
  · have := hc _ _ hg.1
    rwa [hadd] at this
  · have := hc _ _ hg.2.1
    rwa [hadd] at this
  · have := hc _ _ hg.2.2
    rwa [hadd] at this

set_option maxHeartbeats 400000 in
theorem grow_zero (w : World) : Calls Try.prog 44 #[.slice none 0 0, .int .i64 0] w fun e w' => e = .returned (.slice none 0 0) ∧ w' = w := by
  go_enter Try.func44, Try.ntmps44
  go_wp2
  go_ret
  exact ⟨rfl, rfl⟩

set_option maxHeartbeats 400000 in
theorem grow_some (n : Nat) (w : World) (hn0 : 0 < n) (hn : n ≤ 1073741824) :
    Calls Try.prog 44 #[.slice none 0 0, .int .i64 n] w fun e w' => ∃ G, n ≤ G ∧ e = .returned (.slice (some ⟨w.heap.size, 0, none⟩) 0 G) ∧ w'.ownsRow w.heap.size 74 3 (.slice (some ⟨w.heap.size, 0, none⟩) 0 G) 0 [] ∧ Below w.heap.size w w' ∧ w.heap.size < w'.heap.size := by
  obtain ⟨i0, hi, hz0, hz1, hz2⟩ := info_parts Try.info74
  have hcap := grownCap_ge w (0 + n) 0 74
  have hcm := grownCap_le_maxLen w (0 + n) 0 74 (by unfold maxLen; omega)
  have hr := fun ty => Lib.run_append_grow_zeros (P := Try.prog) w 39 3 ty 74 i0 _ .i64 .i64 Try.underlying39 Try.underlying3 hi hz0 none 0 0 [] (by simp [Builtin.firstCells]) n hn0 (by rw [hz1]; omega) (by omega) (by omega)
    (by rw [hz2]; omega) (growslice_fits (by omega) (by rw [hz2]; omega))
  obtain ⟨G, hG⟩ : ∃ G, grownCap w (0 + n) 0 74 = G := ⟨_, rfl⟩
  rw [hG] at hr hcap hcm
  obtain ⟨W, hW⟩ : ∃ W, w.drew.alloc (.cells (([] : List Value).toArray ++ Builtin.zeroCells (Value.agg #[.string .empty, .string .empty, .string .empty]).cells n ++ Builtin.zeroCells (Value.agg #[.string .empty, .string .empty, .string .empty]).cells (G - (0 + n))) 74) = W := ⟨_, rfl⟩
  have hr : ∀ ty, (Builtin.append_ #[39, 3] ty #[.slice none 0 0, .int .i64 n]).run Try.prog w = .ok (.slice (some ⟨w.heap.size, 0, none⟩) (0 + n) G) W := fun ty => by rw [← hW]; exact hr ty
  have hown : W.ownsRow w.heap.size 74 3 (.slice (some ⟨w.heap.size, 0, none⟩) 0 G) 0 [] := by
    rw [← hW]
    exact World.ownsRow_made w.drew _ G (Nat.le_refl _) hcm (by simp [size_zeroCells, Value.cells]; omega)
  have hbel : Below w.heap.size w W := by
    rw [← hW]
    exact (Below.refl _ _).drew.alloc (Nat.le_refl _) _
  have hsz : w.heap.size < W.heap.size := by rw [← hW]; simp
  unfold maxLen at hcm
  have hGI : (n : Int) ≤ (G : Int) := by omega
  clear hW hi hz0 hz1 hz2 hG
  go_enter Try.func44, Try.ntmps44
  go_wp2_with (at_builtin; refine Lib.wpList_append_run _ rfl _ _ _ _ rfl _ _ rfl rfl _ _ (hr _) ?_)
  go_ret
  exact ⟨G, by omega, rfl, hown, hbel, hsz⟩

theorem app_none (a : Option Addr) (q : Nat) (ty : TypeId) (w : World) : (Builtin.append_ #[39, 39] ty #[.slice none 0 0, .slice a 0 q]).run Try.prog w = .ok (.slice none 0 0) w := by
  cases a with
  | none => simp [Builtin.append_, run_underlying Try.underlying39, Try.sizeOf74, Builtin.lenOf, Builtin.firstCells, Result.andThen]
  | some x => simp [Builtin.append_, run_underlying Try.underlying39, Try.sizeOf74, Builtin.lenOf, Builtin.firstCells, loadCells, loadCellsFrom, Result.andThen]

set_option maxRecDepth 100000 in
set_option maxHeartbeats 1000000 in
theorem cat_zero (U : Nat) (a1 a2 : Option Addr) (q1 q2 : Nat) (w : World) (c0 : w.cell? ⟨U, 0, none⟩ = some (.slice a1 0 q1)) (c1 : w.cell? ⟨U, 1, none⟩ = some (.slice a2 0 q2)) :
    Calls Try.prog 40 #[.slice (some ⟨U, 0, none⟩) 2 2] w fun e w' => e = .returned (.slice none 0 0) ∧ w' = w := by
  go_enter Try.func40, Try.ntmps40
  go_wp2
  refine wp_loop_rounds 3 ?_
  rw [rounds_succ]
  go_wp2
  rw [rounds_succ]
  go_wp2
  rw [rounds_succ]
  go_wp2_with fail
  refine (grow_zero _).mono ?_
  rintro e w1 ⟨rfl, rfl⟩
  go_wp2
  refine wp_loop_rounds 3 ?_
  rw [rounds_succ]
  go_wp2_with (at_builtin; refine Lib.wpList_append_run _ rfl _ _ _ _ rfl _ _ rfl rfl _ _ (app_none _ _ _ _) ?_)
  rw [rounds_succ]
  go_wp2_with (at_builtin; refine Lib.wpList_append_run _ rfl _ _ _ _ rfl _ _ rfl rfl _ _ (app_none _ _ _ _) ?_)
  rw [rounds_succ]
  go_wp2
  go_ret
  exact ⟨rfl, rfl⟩

set_option maxRecDepth 100000 in
set_option maxHeartbeats 1000000 in
theorem cat_some (U : Nat) (v1 v2 : Value) (nl1 nl2 : Bool) (cs1 cs2 : List Cl) (ok : Nat → Prop) (w : World) (c0 : w.cell? ⟨U, 0, none⟩ = some v1) (c1 : w.cell? ⟨U, 1, none⟩ = some v2)
    (h1 : CallsAt w ok v1 nl1 cs1) (h2 : CallsAt w ok v2 nl2 cs2) (hn : cs1.length + cs2.length ≤ 1073741824) (hpos : 0 < cs1.length + cs2.length) :
    Calls Try.prog 40 #[.slice (some ⟨U, 0, none⟩) 2 2] w fun e w' => ∃ G, e = .returned (.slice (some ⟨w.heap.size, 0, none⟩) (cs1.length + cs2.length) G) ∧
      w'.ownsRow w.heap.size 74 3 (.slice (some ⟨w.heap.size, 0, none⟩) (cs1.length + cs2.length) G) (cs1.length + cs2.length) (callCells cs1 ++ callCells cs2) ∧ Below w.heap.size w w' := by
  obtain ⟨i0, hi, hz0, hz1, hz2⟩ := info_parts Try.info74
  obtain ⟨a1, q1, rfl, hno1, hq1, hc1⟩ := h1.cells
  obtain ⟨a2, q2, rfl, hno2, hq2, hc2⟩ := h2.cells
  have hl1 := callCells_len cs1
  have hl2 := callCells_len cs2
  obtain ⟨n1, e1⟩ : ∃ n, cs1.length = n := ⟨_, rfl⟩
  obtain ⟨n2, e2⟩ : ∃ n, cs2.length = n := ⟨_, rfl⟩
  rw [e1] at c0 hn hpos hno1 hl1 ⊢
  rw [e2] at c1 hn hpos hno2 hl2 ⊢
  have HL1 : Hid ((callCells cs1).length = n1 * 3) := hl1
  have HL2 : Hid ((callCells cs2).length = n2 * 3) := hl2
  have HC1 : Hid (∀ ad, a1 = some ad → ∀ j u, (callCells cs1)[j]? = some u → w.cell? (ad.add j) = some u) := hc1
  have HC2 : Hid (∀ ad, a2 = some ad → ∀ j u, (callCells cs2)[j]? = some u → w.cell? (ad.add j) = some u) := hc2
  have HO1 : Hid (a1 = none → n1 = 0 ∧ q1 = 0) := hno1
  have HO2 : Hid (a2 = none → n2 = 0 ∧ q2 = 0) := hno2
  clear h1 h2 e1 e2 hl1 hl2 hc1 hc2 hno1 hno2 hq1 hq2
  go_enter Try.func40, Try.ntmps40
  go_wp2
  refine wp_loop_rounds 3 ?_
  rw [rounds_succ]
  go_wp2
  rw [rounds_succ]
  go_wp2
  rw [rounds_succ]
  go_wp2_with fail
  refine (grow_some (n1 + n2) _ hpos hn).mono ?_
  rintro e w1 ⟨G, hG, rfl, hown, hbel, hsz⟩
  have c0' := below_cell (Nat.le_refl _) hbel c0
  have c1' := below_cell (Nat.le_refl _) hbel c1
  go_wp2
  refine wp_loop_rounds 3 ?_
  rw [rounds_succ]
  go_wp2_with (at_builtin; refine wpList_append_fits_any _ rfl _ _ 39 rfl w.heap.size 74 i0 3 Try.underlying39 hi hz1 w.heap.size 0 G [] rfl hown a1 n1 q1 (callCells cs1) rfl HL1.out HO1.out (fun ad had j u hj => below_cell (Nat.le_refl _) hbel (HC1.out ad had j u hj)) (callCells_one cs1) (by omega) ?_; intro w2 hown2 hgrow2; simp only [Nat.zero_add, List.nil_append] at hown2)
  have hb2 : Below w.heap.size w w2 := hbel.grown hgrow2 hbel.size (fun j hj => by cases hj; exact Nat.le_refl _)
  have c0'' := below_cell (Nat.le_refl _) hb2 c0
  have c1'' := below_cell (Nat.le_refl _) hb2 c1
  rw [rounds_succ]
  go_wp2_with (at_builtin; refine wpList_append_fits_any _ rfl _ _ 39 rfl w.heap.size 74 i0 3 Try.underlying39 hi hz1 w.heap.size n1 G (callCells cs1) rfl hown2 a2 n2 q2 (callCells cs2) rfl HL2.out HO2.out (fun ad had j u hj => below_cell (Nat.le_refl _) hb2 (HC2.out ad had j u hj)) (callCells_one cs2) (by omega) ?_; intro w3 hown3 hgrow3)
  have hb3 : Below w.heap.size w w3 := hb2.grown hgrow3 hb2.size (fun j hj => by cases hj; exact Nat.le_refl _)
  rw [rounds_succ]
  go_wp2
  go_ret
  exact ⟨G, rfl, hown3, hb3⟩

theorem cat40 (U : Nat) (v1 v2 : Value) (nl1 nl2 : Bool) (cs1 cs2 : List Cl) (ok : Nat → Prop) (w : World) (c0 : w.cell? ⟨U, 0, none⟩ = some v1) (c1 : w.cell? ⟨U, 1, none⟩ = some v2)
    (h1 : CallsAt w ok v1 nl1 cs1) (h2 : CallsAt w ok v2 nl2 cs2) (hn : cs1.length + cs2.length ≤ 1073741824) :
    Calls Try.prog 40 #[.slice (some ⟨U, 0, none⟩) 2 2] w fun e w' => ∃ a c, e = .returned (.slice a (cs1 ++ cs2).length c) ∧ CallsAt w' (fun b => w.heap.size ≤ b) (.slice a (cs1 ++ cs2).length c) (cs1 ++ cs2).isEmpty (cs1 ++ cs2) ∧ Below w.heap.size w w' := by
  by_cases hpos : 0 < cs1.length + cs2.length
  · refine (cat_some U v1 v2 nl1 nl2 cs1 cs2 ok w c0 c1 h1 h2 hn hpos).mono ?_
    rintro e w' ⟨G, rfl, hown, hb⟩
    rw [← List.length_append, ← callCells_append] at hown
    have hne : (cs1 ++ cs2).isEmpty = false := by
      cases h : cs1 ++ cs2 with
      | nil => have := congrArg List.length h; simp at this; simp [this] at hpos
      | cons _ _ => rfl
    rw [hne]
    exact ⟨_, G, by rw [List.length_append], calls_of_own hown, hb⟩
  · have e1 : cs1 = [] := List.eq_nil_of_length_eq_zero (by omega)
    have e2 : cs2 = [] := List.eq_nil_of_length_eq_zero (by omega)
    subst e1
    subst e2
    obtain ⟨a1, q1, rfl, _⟩ := h1.cells
    obtain ⟨a2, q2, rfl, _⟩ := h2.cells
    refine (cat_zero U a1 a2 q1 q2 w c0 c1).mono ?_
    rintro e w' ⟨rfl, rfl⟩
    exact ⟨none, 0, rfl, calls_nil _ _ rfl, Below.refl _ _⟩
end Go.Proofs.Qxb6603195a
