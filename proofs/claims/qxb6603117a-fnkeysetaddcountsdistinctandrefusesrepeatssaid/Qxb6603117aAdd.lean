/-
  The walk of (*keySet).add: the keys that the set holds are a plain list 'seen'.
-/
import Derived.Test.Qxb6603117aClone
import Derived.StillTailTactics
namespace Go.Proofs.Qxb6603117a
open Go.RowKit Go.Maps

/-- The key as a datum. -/
def keyLit (xs : List Int) : Lit := .string (strOfNums xs).data.toList

/-- The set in block S, still in its array: it holds the keys 'seen'. -/
def Few (w : World) (S : Nat) (seen : List (List Int)) : Prop :=
  ∃ F : Nat → Value, w.rowIs S 38 10 F ∧ seen.length ≤ 8 ∧ (∀ i, i < seen.length → Key w (F i) (seen.getD i [])) ∧ (∀ i, i < 8 → ∃ a l c, F i = .slice a l c) ∧ F 8 = .int .i64 seen.length ∧ F 9 = .map none

/-- The map's datum. -/
def mapOf (seen : List (List Int)) : DataW Unit := setOf (.agg []) (seen.map keyLit)

/-- The set in block S, in its map: it holds the keys 'seen'. -/
def Many (w : World) (S : Nat) (seen : List (List Int)) : Prop :=
  ∃ F bm, w.rowIs S 38 10 F ∧ F 9 = .map (some bm) ∧ S < bm ∧ w.ownsMap Try.prog 9 (unitElem (H := Unit)) bm seen.length (mapOf seen) ∧ ∀ ys ∈ seen, ∀ y ∈ ys, 0 ≤ y ∧ y < 256

def KSet (w : World) (S : Nat) (seen : List (List Int)) : Prop := Few w S seen ∨ Many w S seen

def addK (seen : List (List Int)) (xs : List Int) : List (List Int) := if seen.contains xs then seen else seen ++ [xs]

theorem law9 : Keyed Try.prog 9 := string_keyed Try.underlying9
theorem zero41 (w : World) : (zeroValue 41).run Try.prog w = .ok (.agg #[]) w := by kernel_rfl

theorem sl35 (S n : Nat) (h : n ≤ 8) (w : World) : (Instr.sliceAt 35 (.pointer (some ⟨S, 0, none⟩)) none (some (.int .i64 n)) none).run Try.prog w = .ok (.slice (some ⟨S, 0, none⟩) n 8) w := by
  have h0 : (0 : Int) ≤ (n : Int) := by omega
  have h1 : (n : Int) ≤ (8 : Int) := by omega
  go_simp

theorem Drawn.row {w w' : World} (h : Drawn w w') {b t n : Nat} {f : Nat → Value} (hr : w.rowIs b t n f) : w'.rowIs b t n f := by
  obtain ⟨m, rfl⟩ := h
  exact hr
theorem Drawn.below {w w' : World} (h : Drawn w w') (B : Nat) : Below B w w' := by
  obtain ⟨m, rfl⟩ := h
  exact below_drewN (Below.refl _ _) m

theorem Key.setCell8 {w : World} {v : Value} {xs : List Int} (h : Key w v xs) {p : Addr} {u0 : Value} (hp : w.cell? p = some u0) (hu : ∀ z, u0 ≠ .int .u8 z) (u : Value) : Key (w.setCell p u) v xs := by
  obtain ⟨a, c, rfl, ⟨b, off, ha, hc⟩, hr⟩ := h
  refine ⟨a, c, rfl, ⟨b, off, ha, fun i hi => ?_⟩, hr⟩
  have h1 := hc i hi
  rw [World.cell?_setCell_other _ _ _ _ (fun e => ?_)]
  · exact h1
  · rw [← e, hp] at h1
    exact hu _ (Option.some.inj h1)

theorem Key.shape {w : World} {v : Value} {xs : List Int} (h : Key w v xs) : ∃ a l c, v = .slice a l c := by
  obtain ⟨a, c, e, _⟩ := h
  exact ⟨_, _, _, e⟩

theorem contains_false {seen : List (List Int)} {xs : List Int} (h : ∀ j, j < seen.length → (seen.getD j [] == xs) = false) : seen.contains xs = false := by
  rw [Bool.eq_false_iff]
  intro hc
  rw [List.contains_iff_mem] at hc
  obtain ⟨i, hi, e⟩ := List.getElem_of_mem hc
  have := h i hi
  simp [List.getD, List.getElem?_eq_getElem hi, e] at this

theorem contains_true {seen : List (List Int)} {xs : List Int} {j : Nat} (hj : j < seen.length) (h : (seen.getD j [] == xs) = true) : seen.contains xs = true := by
  rw [List.contains_iff_mem]
  have e : seen.getD j [] = xs := by simpa using h
  rw [← e, List.getD, List.getElem?_eq_getElem hj]
  exact List.getElem_mem hj

/-- The store of a new key behind the others, and of the raised count. -/
theorem few_put {w : World} {S : Nat} {seen : List (List Int)} {v : Value} {xs : List Int} (h : Few w S seen) (hn : seen.length < 8) (hv : Key w v xs) :
    Few ((w.setCell ⟨S, seen.length, none⟩ v).setCell ⟨S, 8, none⟩ (.int .i64 (seen.length + 1 : Nat))) S (seen ++ [xs]) := by
  obtain ⟨F, hrow, h8, hkeys, hsh, hF8, hF9⟩ := h
  obtain ⟨n, hn'⟩ : ∃ n, seen.length = n := ⟨_, rfl⟩
  rw [hn'] at hn h8 hkeys hF8 ⊢
  have c1 := hrow.cell (i := n) (by omega)
  obtain ⟨a, l, c, ha⟩ := hsh n hn
  have r1 := hrow.set n v
  have c2 := r1.cell (i := 8) (by omega)
  rw [if_neg (by omega), hF8] at c2
  have keep : ∀ {u ys}, Key w u ys → Key ((w.setCell ⟨S, n, none⟩ v).setCell ⟨S, 8, none⟩ (.int .i64 (n + 1 : Nat))) u ys := fun hk =>
    (hk.setCell8 c1 (fun z e => by rw [ha] at e; cases e) v).setCell8 c2 (fun z e => by cases e) _
  refine ⟨_, r1.set 8 _, by simp; omega, fun i hi => ?_, fun i hi => ?_, ?_, ?_⟩
  · simp only [List.length_append, List.length_cons, List.length_nil, hn'] at hi
    show Key _ (if i = 8 then _ else if i = n then v else F i) _
    rw [if_neg (by omega)]
    by_cases e : i = n
    · rw [if_pos e, e, ← hn', List.getD, List.getElem?_append_right (Nat.le_refl _)]
      simp only [Nat.sub_self, List.getElem?_cons_zero, Option.getD_some]
      rw [hn']
      exact keep hv
    · rw [if_neg e]
      have e1 : (seen ++ [xs]).getD i [] = seen.getD i [] := by
        rw [List.getD, List.getD, List.getElem?_append_left (by omega)]
      rw [e1]
      exact keep (hkeys i (by omega))
  · show ∃ a l c, (if i = 8 then _ else if i = n then v else F i) = _
    rw [if_neg (by omega)]
    by_cases e : i = n
    · rw [if_pos e]
      obtain ⟨a, c, e2, _⟩ := hv
      exact ⟨_, _, _, e2⟩
    · rw [if_neg e]
      exact hsh i hi
  · show (if 8 = 8 then _ else _) = _
    rw [if_pos rfl]
    simp [hn']
  · show (if 9 = 8 then _ else if 9 = n then v else F 9) = _
    rw [if_neg (by omega), if_neg (by omega)]
    exact hF9

/-- Whether the map holds the key. -/
theorem has_mapOf (seen : List (List Int)) (xs : List Int) (hs : ∀ ys ∈ seen, ∀ y ∈ ys, 0 ≤ y ∧ y < 256) (hx : ∀ y ∈ xs, 0 ≤ y ∧ y < 256) : Maps.has (mapOf seen) (keyLit xs) = seen.contains xs := by
  unfold mapOf
  rw [has_setOf _ _ _ (fun y hy => by obtain ⟨_, _, rfl⟩ := List.mem_map.1 hy; trivial), List.any_map]
  rw [Bool.eq_iff_iff, List.any_eq_true, List.contains_iff_mem]
  constructor
  · rintro ⟨ys, hy, h⟩
    have e : (strOfNums ys).data.toList = (strOfNums xs).data.toList := by simpa [keyLit, Lit.sameKey] using h
    rw [← strOfNums_inj (hs ys hy) hx e]
    exact hy
  · intro h
    exact ⟨xs, h, by simp [keyLit, Lit.sameKey]⟩

theorem mapOf_snoc (seen : List (List Int)) (xs : List Int) : mapOf (seen ++ [xs]) = (mapOf seen).put (keyLit xs) (.agg []) := by
  unfold mapOf
  rw [List.map_append, List.map_singleton, setOf_snoc]

theorem Key.keyOf {w : World} {v : Value} {xs : List Int} (h : Key w v xs) : Go.keyOf Try.prog 9 (.string (strOfNums xs)) = some (keyLit xs) :=
  WideMaps.keyOf_string_mk Try.underlying9 (by rw [strOfNums_size]; exact h.size)

theorem Key.alloc {w : World} {v : Value} {xs : List Int} (h : Key w v xs) (o : Obj) : Key (w.alloc o) v xs :=
  h.of fun p u hp => by rw [World.cell?_alloc_lt _ _ _ (World.block_lt_of_cell? w p hp)]; exact hp

/-- A new key into the map. -/
theorem many_put {w w1 : World} {S bm : Nat} {F : Nat → Value} {seen : List (List Int)} {xs : List Int} {o : Obj} (hrow : w.rowIs S 38 10 F) (hF9 : F 9 = .map (some bm)) (hr : ∀ ys ∈ seen, ∀ y ∈ ys, 0 ≤ y ∧ y < 256)
    (hbm : S < bm) (hx : ∀ y ∈ xs, 0 ≤ y ∧ y < 256) (hc : seen.contains xs = false) (hown : w1.ownsMap Try.prog 9 (unitElem (H := Unit)) bm (seen.length + 1) ((mapOf seen).put (keyLit xs) (.agg [])))
    (hg : (w.alloc o).drew.drew.grownBy w1 (some bm)) : KSet w1 S (addK seen xs) := by
  unfold addK
  rw [if_neg (by rw [hc]; exact Bool.false_ne_true)]
  refine .inr ⟨F, bm, ((hrow.alloc o).drew.drew).of_block (hg.block S ?_ (fun e => ?_)), hF9, hbm, ?_, fun ys hy => ?_⟩
  · exact ((hrow.alloc o).drew.drew).lt
  · have := Option.some.inj e
    omega
  · rw [mapOf_snoc, List.length_append]
    exact hown
  · rcases List.mem_append.1 hy with h | h
    · exact hr ys h
    · rw [List.mem_singleton.1 h]
      exact hx

set_option maxHeartbeats 400000 in
theorem add_many (S : Nat) (v : Value) (xs : List Int) (seen : List (List Int)) (w : World) (hv : Key w v xs) (hS : Many w S seen) (hlen : seen.length ≤ 1024) :
    Calls Try.prog 18 #[.pointer (some ⟨S, 0, none⟩), v] w fun e w' => e = .returned (.bool (!seen.contains xs)) ∧ KSet w' S (addK seen xs) ∧ Below S w w' := by
  obtain ⟨va, vl, vc, rfl⟩ := hv.shape
  obtain ⟨F, bm, hrow, hF9, hbm, hown, hr⟩ := hS
  have c9 := hrow.cell (i := 9) (by omega)
  rw [hF9] at c9
  have hmn := fun w r => run_eql_map_nil (P := Try.prog) w 36 9 41 r Try.underlying36
  have hkey := hv.keyOf
  obtain ⟨s, hs⟩ : ∃ s, strOfNums xs = s := ⟨_, rfl⟩
  have k1 : (convert 22 9 (.slice va vl vc)).run Try.prog w.drew = .ok (.string s) w.drew := by rw [← hs]; exact (hv.drewN 1).conv
  have k2 : (convert 22 9 (.slice va vl vc)).run Try.prog (w.alloc (.cells #[] 41)).drew = .ok (.string s) (w.alloc (.cells #[] 41)).drew := by rw [← hs]; exact ((hv.alloc _).drewN 1).conv
  rw [hs] at hkey
  have hh := has_mapOf seen xs hr hv.range
  have l1 : (Instr.lookup 36 (.map (some bm)) (.string s) true).run Try.prog w.drew = .ok (.tuple #[.agg #[], .bool (seen.contains xs)]) w.drew := by
    obtain ⟨v, ps, hrun, hR⟩ := World.ownsMap.look_ok (w := w.drew) hown law9 Try.underlying36 (zero41 _) unitElem_mk hkey
    obtain ⟨rfl, _⟩ := unitElem_inv hR
    rw [hrun, hh]
  have l2 : (Instr.lookup 36 (.map (some bm)) (.string s) true).run Try.prog (w.alloc (.cells #[] 41)).drew = .ok (.tuple #[.agg #[], .bool (seen.contains xs)]) (w.alloc (.cells #[] 41)).drew := by
    obtain ⟨v, ps, hrun, hR⟩ := World.ownsMap.look_ok (w := (w.alloc (.cells #[] 41)).drew) (hown.alloc _) law9 Try.underlying36 (zero41 _) unitElem_mk hkey
    obtain ⟨rfl, _⟩ := unitElem_inv hR
    rw [hrun, hh]
  have hSlt : S < w.heap.size := hrow.lt
  obtain ⟨r, hr'⟩ : ∃ r, seen.contains xs = r := ⟨_, rfl⟩
  rw [hr'] at l1 l2 ⊢
  have HR : Hid (seen.contains xs = r) := hr'
  have k3 : (convert 22 9 (.slice va vl vc)).run Try.prog (w.alloc (.cells #[] 41)).drew.drew = .ok (.string s) (w.alloc (.cells #[] 41)).drew.drew := by rw [← hs]; exact ((hv.alloc _).drewN 2).conv
  have hlt : bm < w.heap.size := hown.lt
  obtain ⟨w1, hrun, hown1, hgrow1⟩ := World.ownsMap.update (w := (w.alloc (.cells #[] 41)).drew.drew) (hown.alloc _) law9 Try.underlying36 (by unfold maxLen; omega) hkey (unitElem_mk (H := Unit))
  clear hr' hh hs
  have HV : Hid (Key w (.slice va vl vc) xs) := hv
  have HO : Hid (w1.ownsMap Try.prog 9 (unitElem (H := Unit)) bm (seen.length + 1) ((mapOf seen).put (keyLit xs) (.agg []))) := hown1
  have HG : Hid ((w.alloc (.cells #[] 41)).drew.drew.grownBy w1 (some bm)) := hgrow1
  have HB : Hid (w.ownsMap Try.prog 9 (unitElem (H := Unit)) bm seen.length (mapOf seen)) := hown
  have HW : Hid (w.rowIs S 38 10 F ∧ F 9 = .map (some bm) ∧ ∀ ys ∈ seen, ∀ y ∈ ys, 0 ≤ y ∧ y < 256) := ⟨hrow, hF9, hr⟩
  clear hv hown1 hgrow1 hown hrow hF9 hr hlen hkey
  cases r with
  | true =>
    go_enter Try.func18, Try.ntmps18
    go_wp2
    go_region
    all_goals go_wp2
    all_goals go_ret
    all_goals exact ⟨rfl, by unfold addK; rw [if_pos HR.out]; exact .inr ⟨F, bm, (HW.out.1.alloc _).drew, HW.out.2.1, hbm, HB.out.alloc _, HW.out.2.2⟩, ((Below.refl _ _).alloc (by omega) _).drew⟩
  | false =>
    go_enter Try.func18, Try.ntmps18
    go_wp2
    go_region
    all_goals go_wp2
    all_goals go_region
    all_goals go_wp2
    all_goals go_ret
    all_goals exact ⟨rfl, many_put HW.out.1 HW.out.2.1 HW.out.2.2 hbm HV.out.range HR.out HO.out HG.out, ((((Below.refl _ _).alloc (by omega) _).drew).drew).grown HG.out (by simp; omega) (fun j hj => by cases hj; omega)⟩

theorem mk36 (w : World) : (Instr.makeMap 36 (some (.int .i64 16))).run Try.prog w = .ok (.map (some w.heap.size)) (w.alloc (.map #[] 0)) := by
  simp [Instr.makeMap, run_underlying Try.underlying36, asInt, asIntOf, Result.andThen]

theorem ix35 (F : Nat → Value) (h : ∀ i, i < 8 → ∃ a l c, F i = .slice a l c) (k : Nat) (hk : k < 8) (w : World) :
    (Instr.index 35 (.agg #[F 0, F 1, F 2, F 3, F 4, F 5, F 6, F 7]) (.int .i64 k)).run Try.prog w = .ok (F k) w := by
  obtain ⟨a, l, c, e⟩ := h k hk
  rw [e]
  match k, hk, e with
  | 0, _, e => rw [e]; rfl
  | 1, _, e => rw [e]; rfl
  | 2, _, e => rw [e]; rfl
  | 3, _, e => rw [e]; rfl
  | 4, _, e => rw [e]; rfl
  | 5, _, e => rw [e]; rfl
  | 6, _, e => rw [e]; rfl
  | 7, _, e => rw [e]; rfl

theorem cell_of_map {w : World} {b n : Nat} {D : DataW Unit} (h : w.ownsMap Try.prog 9 (unitElem (H := Unit)) b n D) (o : Nat) : w.cell? ⟨b, o, none⟩ = none := by
  obtain ⟨es, clock, hb, _⟩ := h
  simp [World.cell?, hb]

theorem Key.turned {w w' : World} {v : Value} {xs : List Int} {b n : Nat} {D : DataW Unit} (h : Key w v xs) (hm : w.ownsMap Try.prog 9 (unitElem (H := Unit)) b n D) (hg : w.grownBy w' (some b)) : Key w' v xs := by
  obtain ⟨a, c, rfl, ⟨b1, off, ha, hc⟩, hr⟩ := h
  refine ⟨a, c, rfl, ⟨b1, off, ha, fun i hi => ?_⟩, hr⟩
  refine hg.cell (hc i hi) (fun e => ?_)
  have e1 : b1 = b := Option.some.inj e
  have := hc i hi
  rw [e1, cell_of_map hm] at this
  cases this

theorem few_range {w : World} {S : Nat} {seen : List (List Int)} (h : Few w S seen) : ∀ ys ∈ seen, ∀ y ∈ ys, 0 ≤ y ∧ y < 256 := by
  obtain ⟨F, _, _, hk, _⟩ := h
  intro ys hy
  obtain ⟨i, hi, e⟩ := List.getElem_of_mem hy
  have := (hk i hi).range
  rw [List.getD, List.getElem?_eq_getElem hi, e] at this
  exact this

/-- While the array's keys go into the map in block B. -/
def Mid (wr wx : World) (S : Nat) (F : Nat → Value) (B : Nat) (seen : List (List Int)) (k : Nat) : Prop :=
  wx.rowIs S 38 10 (fun j => if j = 9 then .map (some B) else F j) ∧ wx.ownsMap Try.prog 9 (unitElem (H := Unit)) B k (mapOf (seen.take k)) ∧ (∀ v ys, Key wr v ys → Key wx v ys) ∧ Below S wr wx

theorem mid_start {wr : World} {S : Nat} {F : Nat → Value} (seen : List (List Int)) (h : wr.rowIs S 38 10 F) (hF9 : F 9 = .map none) :
    Mid wr ((wr.setCell ⟨S, 9, none⟩ (.map (some wr.heap.size))).alloc (.map #[] 0)) S F wr.heap.size seen 0 := by
  have c9 := h.cell (i := 9) (by omega)
  rw [hF9] at c9
  have hsz : (wr.setCell ⟨S, 9, none⟩ (.map (some wr.heap.size))).heap.size = wr.heap.size := by simp [World.setCell]
  have hm := World.ownsMap_made (wr.setCell ⟨S, 9, none⟩ (.map (some wr.heap.size))) Try.prog 9 (unitElem (H := Unit))
  rw [hsz] at hm
  refine ⟨(h.set 9 _).alloc _, by simpa [mapOf, setOf] using hm, fun v ys hk => (hk.setCell8 c9 (fun z e => by cases e) _).alloc _, Below.alloc (Below.setCell (Below.refl S wr) (p := ⟨S, 9, none⟩) (Nat.le_refl _) _) ?_ _⟩
  rw [hsz]
  exact Nat.le_of_lt h.lt

theorem mid_step {wr wx w1 : World} {S : Nat} {F : Nat → Value} {B : Nat} {seen : List (List Int)} {k : Nat} (hB : S < B) (hk : k < seen.length) (h : Mid wr wx S F B seen k)
    (hown : w1.ownsMap Try.prog 9 (unitElem (H := Unit)) B (k + 1) ((mapOf (seen.take k)).put (keyLit (seen.getD k [])) (.agg []))) (hg : wx.drew.grownBy w1 (some B)) : Mid wr w1 S F B seen (k + 1) := by
  obtain ⟨h1, h2, h3, h4⟩ := h
  refine ⟨h1.drew.of_block (hg.block S h1.lt (fun e => by have := Option.some.inj e; omega)), ?_, fun v ys hy => Key.turned ((h3 v ys hy).drewN 1) (w := wx.drew) h2 hg, ?_⟩
  · rw [List.take_add_one, List.getElem?_eq_getElem hk]
    simp only [Option.toList_some]
    rw [mapOf_snoc]
    simpa [List.getD, List.getElem?_eq_getElem hk] using hown
  · exact (h4.drew).grown hg (Nat.le_of_lt h1.lt) (fun j hj => by cases hj; omega)

set_option maxHeartbeats 400000 in
theorem add_few (S : Nat) (v : Value) (xs : List Int) (seen : List (List Int)) (w : World) (hv : Key w v xs) (hS : Few w S seen) :
    Calls Try.prog 18 #[.pointer (some ⟨S, 0, none⟩), v] w fun e w' => e = .returned (.bool (!seen.contains xs)) ∧ KSet w' S (addK seen xs) ∧ Below S w w' := by
  obtain ⟨va, vl, vc, rfl⟩ := hv.shape
  have HS : Hid (Few w S seen) := hS
  obtain ⟨F, hrow, h8, hkeys, hsh, hF8, hF9⟩ := hS
  have c8 := hrow.cell (i := 8) (by omega)
  have c9 := hrow.cell (i := 9) (by omega)
  rw [hF8] at c8
  rw [hF9] at c9
  have hmn := fun w r => run_eql_map_nil (P := Try.prog) w 36 9 41 r Try.underlying36
  obtain ⟨n, hn⟩ : ∃ n, seen.length = n := ⟨_, rfl⟩
  rw [hn] at h8 hkeys c8
  have HN : Hid (seen.length = n) := hn
  have HF9 : Hid (F 9 = .map none) := hF9
  clear hn hF8 hF9
  have hsl := sl35 S n h8
  have hidx := idx28 (some ⟨S, 0, none⟩) n 8 S 0 (fun _ => rfl)
  go_enter Try.func18, Try.ntmps18
  go_wp2
  go_quiet (fail)
  clear hsl
  go_wp2
  have hdr0 : Drawn w (w.drewN nq) := (Drawn.refl _).more nq
  generalize w.drewN nq = w0 at *
  go_loopw [25] (fun i wr => ∃ k : Nat, k ≤ n ∧ i = .int .i64 k ∧ Drawn w wr ∧ Hid (∀ j, j < k → (seen.getD j [] == xs) = false)) (fun i _ => n - (intOf i).toNat)
  case atStart => exact ⟨0, Nat.zero_le _, rfl, hdr0, fun j hj => by omega⟩
  case round =>
    obtain ⟨k, hk, rfl, hdr, hall⟩ := hrel
    by_cases hlt : k < n
    · have hltI : (k : Int) < (n : Int) := by omega
      have g1 := hdr.cell (hrow.cell (i := k) (by omega))
      have j1 := hidx k hltI
      have kk := hdr.key (hkeys k hlt)
      have kv := hdr.key hv
      obtain ⟨vk, hvk⟩ : ∃ v, F k = v := ⟨_, rfl⟩
      obtain ⟨ys, hys⟩ : ∃ v, seen.getD k [] = v := ⟨_, rfl⟩
      rw [hvk] at g1 kk
      rw [hys] at kk
      have HY : Hid (seen.getD k [] = ys) := hys
      rw [Nat.zero_add] at j1
      clear hidx hkeys hvk hsh c8 c9 hys
      go_wp2_with fail
      refine (equal20 _ _ _ _ _ kk kv).mono ?_
      rintro e w1 ⟨rfl, rfl⟩
      go_wp2
      · have heq : (ys == xs) = true := by assumption
        go_ret
        have hc : seen.contains xs = true := contains_true (j := k) (by rw [HN.out]; exact hlt) (by rw [HY.out]; exact heq)
        refine ⟨by rw [hc]; rfl, ?_, hdr.below S⟩
        unfold addK
        rw [if_pos hc]
        obtain ⟨F, r, p1, p2, p3⟩ := HS.out
        exact .inl ⟨F, hdr.row r, p1, fun i hi => hdr.key (p2 i hi), p3⟩
      · have hne : (ys == xs) = false := by assumption
        go_roundw
        case rel =>
          refine ⟨k + 1, by omega, by go_num, hdr, fun j hj => ?_⟩
          by_cases e : j = k
          · rw [e, HY.out]; exact hne
          · exact hall.out j (by omega)
        case measure => simp [intOf]; omega
    · have ek : k = n := by omega
      have hcf : Hid (seen.contains xs = false) := contains_false (fun j hj => hall.out j (by rw [HN.out] at hj; omega))
      have HS' : Hid (Few wr S seen) := by
        obtain ⟨F, r, p1, p2, p3⟩ := HS.out
        exact ⟨F, hdr.row r, p1, fun i hi => hdr.key (p2 i hi), p3⟩
      have c8' := hdr.cell c8
      have c9' := hdr.cell c9
      have kv := hdr.key hv
      have hrow' := hdr.row hrow
      have hkeys' : ∀ i, i < n → Key wr (F i) (seen.getD i []) := fun i hi => hdr.key (hkeys i hi)
      clear hidx hkeys c8 c9 hall HS hrow
      by_cases hn8 : n < 8
      · have hnI : (n : Int) < 8 := by omega
        have hn0 : (0 : Int) ≤ (n : Int) := by omega
        have cn := hrow'.cell (i := n) (by omega)
        have fn := hrow'.frozen n
        have f8 := hrow'.frozen 8
        obtain ⟨y, hy⟩ : ∃ y, F n = y := ⟨_, rfl⟩
        rw [hy] at cn
        clear hsh hrow' hy hmn c9' hkeys'
        go_wp2
        go_region
        all_goals go_wp2
        all_goals go_ret
        all_goals
          have hlen : seen.length = n := HN.out
          have hp := few_put HS'.out (by omega) kv
          rw [hlen] at hp
          refine ⟨by rw [hcf.out]; rfl, ?_, ((hdr.below S).setCell (Nat.le_refl _) _ |>.setCell (Nat.le_refl _) _).drew⟩
          unfold addK
          rw [if_neg (by rw [hcf.out]; exact Bool.false_ne_true)]
          exact .inl hp
      · rename World => wy
        have hn' : n = 8 := by omega
        have hmm : ∀ w, (Instr.makeMap 36 (some (.int .i64 16))).run Try.prog w = .ok (.map (some w.heap.size)) (w.alloc (.map #[] 0)) := mk36
        have f9 := hrow'.frozen 9
        have d0 := hrow'.cell (i := 0) (by omega)
        have d1 := hrow'.cell (i := 1) (by omega)
        have d2 := hrow'.cell (i := 2) (by omega)
        have d3 := hrow'.cell (i := 3) (by omega)
        have d4 := hrow'.cell (i := 4) (by omega)
        have d5 := hrow'.cell (i := 5) (by omega)
        have d6 := hrow'.cell (i := 6) (by omega)
        have d7 := hrow'.cell (i := 7) (by omega)
        have hSlt := hrow'.lt
        have hmid := mid_start seen hrow' HF9.out
        have hix := ix35 F hsh
        have HRG : Hid (∀ ys ∈ seen, ∀ y ∈ ys, 0 ≤ y ∧ y < 256) := few_range HS'.out
        have HKS : Hid (∀ i, i < 8 → Key wy (F i) (seen.getD i [])) := fun i hi => hkeys' i (by omega)
        clear hsh hrow'
        subst hn'
        go_wp2
        clear d0 d1 d2 d3 d4 d5 d6 d7 hmm f9 c8' c9'
        go_loopw [62] (fun i wr => ∃ q : Nat, q ≤ 8 ∧ i = .int .i64 q ∧ Mid wy wr S F wy.heap.size seen q) (fun i _ => 8 - (intOf i).toNat)
        case atStart => exact ⟨0, Nat.zero_le _, rfl, hmid⟩
        case round =>
          obtain ⟨q, hq, rfl, hm⟩ := hrel
          have hlen : seen.length = 8 := HN.out
          have c9x := hm.1.cell (i := 9) (by omega)
          have f9x := hm.1.frozen 9
          rw [if_pos rfl] at c9x
          by_cases hq8 : q < 8
          · have hqI : (q : Int) < 8 := by omega
            have hiq := hix q hq8
            have kq := (hm.2.2.1 _ _ (HKS.out q hq8)).drewN 1
            obtain ⟨a, l, c, hsq⟩ := kq.shape
            rw [hsq] at hiq kq
            have kc : (convert 22 9 (.slice a l c)).run Try.prog wr.drew = .ok (.string (strOfNums (seen.getD q []))) wr.drew := kq.conv
            obtain ⟨w1, hrun, hown1, hgrow1⟩ := World.ownsMap.update (w := wr.drew) hm.2.1 law9 Try.underlying36 (by unfold maxLen; omega) kq.keyOf (unitElem_mk (H := Unit))
            obtain ⟨sq, hsq'⟩ : ∃ s, strOfNums (seen.getD q []) = s := ⟨_, rfl⟩
            rw [hsq'] at kc hrun
            have hm1 := mid_step hSlt (by omega) hm hown1 hgrow1
            clear hix hsq hown1 hgrow1 hsq' kq hlen hm
            go_wp2
            go_region
            all_goals go_wp2
            all_goals go_roundw
            case rel => exact ⟨q + 1, by omega, by go_num, hm1⟩
            case measure => simp [intOf]; omega
          · have e8 : q = 8 := by omega
            subst e8
            clear hix hq8
            have hk1 := hm.2.2.1 _ _ kv
            have hxs : (mapOf (seen.take 8)) = mapOf seen := by rw [List.take_of_length_le (by omega)]
            have hown := hm.2.1
            rw [hxs] at hown
            have hh := has_mapOf seen xs HRG.out kv.range
            rw [hcf.out] at hh
            have hkey := hk1.keyOf
            obtain ⟨s, hs⟩ : ∃ s, strOfNums xs = s := ⟨_, rfl⟩
            have k1 : (convert 22 9 (.slice va vl vc)).run Try.prog wr.drew = .ok (.string s) wr.drew := by rw [← hs]; exact (hk1.drewN 1).conv
            have k2 : (convert 22 9 (.slice va vl vc)).run Try.prog (wr.alloc (.cells #[] 41)).drew = .ok (.string s) (wr.alloc (.cells #[] 41)).drew := by rw [← hs]; exact ((hk1.alloc _).drewN 1).conv
            have k3 : (convert 22 9 (.slice va vl vc)).run Try.prog (wr.alloc (.cells #[] 41)).drew.drew = .ok (.string s) (wr.alloc (.cells #[] 41)).drew.drew := by rw [← hs]; exact ((hk1.alloc _).drewN 2).conv
            rw [hs] at hkey
            have l1 : (Instr.lookup 36 (.map (some wy.heap.size)) (.string s) true).run Try.prog wr.drew = .ok (.tuple #[.agg #[], .bool false]) wr.drew := by
              obtain ⟨v, ps, hrun, hR⟩ := World.ownsMap.look_ok (w := wr.drew) hown law9 Try.underlying36 (zero41 _) unitElem_mk hkey
              obtain ⟨rfl, _⟩ := unitElem_inv hR
              rw [hrun, hh]
            have l2 : (Instr.lookup 36 (.map (some wy.heap.size)) (.string s) true).run Try.prog (wr.alloc (.cells #[] 41)).drew = .ok (.tuple #[.agg #[], .bool false]) (wr.alloc (.cells #[] 41)).drew := by
              obtain ⟨v, ps, hrun, hR⟩ := World.ownsMap.look_ok (w := (wr.alloc (.cells #[] 41)).drew) (hown.alloc _) law9 Try.underlying36 (zero41 _) unitElem_mk hkey
              obtain ⟨rfl, _⟩ := unitElem_inv hR
              rw [hrun, hh]
            obtain ⟨w1, hrun, hown1, hgrow1⟩ := World.ownsMap.update (w := (wr.alloc (.cells #[] 41)).drew.drew) (hown.alloc _) law9 Try.underlying36 (by unfold maxLen; omega) hkey (unitElem_mk (H := Unit))
            have hSx : S < wr.heap.size := hm.1.lt
            have hBx : wy.heap.size < wr.heap.size := hown.lt
            have HM : Hid (Mid wy wr S F wy.heap.size seen 8) := hm
            have HO : Hid (w1.ownsMap Try.prog 9 (unitElem (H := Unit)) wy.heap.size (8 + 1) ((mapOf seen).put (keyLit xs) (.agg []))) := hown1
            have HG : Hid ((wr.alloc (.cells #[] 41)).drew.drew.grownBy w1 (some wy.heap.size)) := hgrow1
            clear hown1 hgrow1 hown hkey hs hh hxs hlen hm hmid f9x
            go_wp2
            go_region
            all_goals go_wp2
            all_goals go_region
            all_goals go_wp2
            all_goals go_ret
            all_goals
              have ho := HO.out
              have hlen : seen.length = 8 := HN.out
              rw [← hlen] at ho
              have hb8 := (hdr.below S).trans HM.out.2.2.2
              refine ⟨by rw [hcf.out]; rfl, many_put HM.out.1 (if_pos rfl) HRG.out hSlt kv.range hcf.out ho HG.out, ((((hb8.alloc (Nat.le_of_lt hSx) _).drew).drew).grown HG.out (by simp; omega) (fun j hj => by cases hj; omega))⟩

/-- The key is none of 'seen'. -/
def isNew (seen : List (List Int)) (xs : List Int) : Bool := !seen.contains xs

theorem add18 (S : Nat) (v : Value) (xs : List Int) (seen : List (List Int)) (w : World) (hv : Key w v xs) (hS : KSet w S seen) (hlen : seen.length ≤ 1024) :
    Calls Try.prog 18 #[.pointer (some ⟨S, 0, none⟩), v] w fun e w' => e = .returned (.bool (isNew seen xs)) ∧ KSet w' S (addK seen xs) ∧ Below S w w' := by
  rcases hS with h | h
  · exact add_few S v xs seen w hv h
  · exact add_many S v xs seen w hv h hlen

set_option maxHeartbeats 400000 in
theorem add13 (S : Nat) (v : Value) (xs : List Int) (seen : List (List Int)) (w : World) (hv : Key w v xs) (hS : KSet w S seen) (hlen : seen.length ≤ 1024) :
    Calls Try.prog 13 #[.pointer (some ⟨S, 0, none⟩), v] w fun e w' => e = .returned (.bool (isNew seen xs)) ∧ KSet w' S (addK seen xs) ∧ Below S w w' := by
  go_enter Try.func13, Try.ntmps13
  go_wp2_with fail
  refine (add18 S v xs seen _ hv hS hlen).mono ?_
  rintro e w1 ⟨rfl, h1, h2⟩
  go_wp2
  go_ret
  exact ⟨rfl, h1, h2⟩

def zero38 (i : Nat) : Value := if i < 8 then .slice none 0 0 else if i = 8 then .int .i64 0 else .map none

set_option maxHeartbeats 400000 in
theorem new12 (w : World) :
    Calls Try.prog 12 #[] w fun e w' => e = .returned (.pointer (some ⟨w.heap.size, 0, none⟩)) ∧ KSet w' w.heap.size [] ∧ Below w.heap.size w w' ∧ w.heap.size < w'.heap.size := by
  go_enter Try.func12, Try.ntmps12
  go_wp2
  go_ret
  refine ⟨rfl, .inl ⟨zero38, ?_, by simp, fun i hi => by simp at hi, fun i hi => ⟨none, 0, 0, by simp [zero38, hi]⟩, rfl, rfl⟩, (Below.refl _ _).alloc (Nat.le_refl _) _, by simp⟩
  refine World.rowIs_alloc w _ 38 zero38 (fun i hi => ?_)
  match i, hi with
  | 0, _ => rfl
  | 1, _ => rfl
  | 2, _ => rfl
  | 3, _ => rfl
  | 4, _ => rfl
  | 5, _ => rfl
  | 6, _ => rfl
  | 7, _ => rfl
  | 8, _ => rfl
  | 9, _ => rfl

end Go.Proofs.Qxb6603117a
