/-
  The walks of cloneBytes and cloneKeys: fresh memory that reads as the argument reads.
-/
import Derived.Test.Qxb6603117aReads
import Derived.Lib.SliceRun
namespace Go.Proofs.Qxb6603117a
open Go.RowKit

theorem Try.info5 : (Try.prog.info? 5).map (fun i => (i.zero, i.size, i.bytes)) = some (some (.int .u8 0), 1, 1) := by kernel_rfl
theorem Try.info22 : (Try.prog.info? 22).map (fun i => (i.zero, i.size, i.bytes)) = some (some (.slice none 0 0), 1, 24) := by kernel_rfl

theorem cell_lt {w : World} {b o : Nat} {v : Value} (h : w.cell? ⟨b, o, none⟩ = some v) : b < w.heap.size := World.block_lt_of_cell? w ⟨b, o, none⟩ h

theorem below_cell {B : Nat} {w w' : World} (hB : w.heap.size ≤ B) (h : Below B w w') {p : Addr} {v : Value} (hp : w.cell? p = some v) : w'.cell? p = some v := by
  rw [h.cell (Nat.lt_of_lt_of_le (World.block_lt_of_cell? w p hp) hB)]
  exact hp

theorem below_key {B : Nat} {w w' : World} (hB : w.heap.size ≤ B) (h : Below B w w') {v : Value} {xs : List Int} (hk : Key w v xs) : Key w' v xs := hk.of fun _ _ hp => below_cell hB h hp

/-- What is laid after k rounds. -/
def laid7 (xs : List Int) (k : Nat) (j : Nat) : Value := .int .u8 (if j < k then xs.getD j 0 else 0)

set_option maxHeartbeats 400000 in
theorem clone7 (v : Value) (xs : List Int) (w : World) (hv : Key w v xs) (hx : xs.length ≤ 1048576) :
    Calls Try.prog 7 #[v] w fun e w' => ∃ a c, e = .returned (.slice a xs.length c) ∧ Key w' (.slice a xs.length c) xs ∧ Below w.heap.size w w' := by
  have hrange := hv.range
  have hsize := hv.size
  obtain ⟨a, c, rfl, ⟨b1, o1, ha1, hc1⟩, _, _⟩ := hv
  obtain ⟨n, hn⟩ : ∃ n, xs.length = n := ⟨_, rfl⟩
  have heq := fun w => Lib.run_eql_slice_nil (P := Try.prog) w 22 5 a n c 0 0 Try.underlying22
  have hmk := run_make_row' (P := Try.prog) 22 5 (.int .u8 0) 1 Try.underlying22 Try.info5 rfl .i64 .i64 n (by omega) (by omega)
  have hi1 := idx22 a n c b1 o1 (by rw [← hn]; exact ha1)
  rw [hn] at hx hc1 ⊢
  have HN : Hid (xs.length = n) := hn
  have HR : Hid (∀ x ∈ xs, 0 ≤ x ∧ x < 256) := hrange
  have HS : Hid (xs.length ≤ maxLen) := hsize
  clear hn hrange hsize
  cases a with
  | none =>
    have h0 : n = 0 := by
      by_cases h0 : n = 0
      · exact h0
      · have := ha1 (by have := HN.out; omega)
        cases this
    clear hi1 hmk ha1
    subst h0
    go_enter Try.func7, Try.ntmps7
    go_wp2
    go_ret
    have e : xs = [] := List.eq_nil_of_length_eq_zero HN.out
    exact ⟨none, 0, rfl, ⟨none, 0, by rw [e]; rfl, ⟨0, 0, fun h => by rw [e] at h; simp at h, fun i hi => by rw [e] at hi; simp at hi⟩, HR.out, HS.out⟩, Below.refl _ _⟩
  | some p =>
    clear ha1
    go_enter Try.func7, Try.ntmps7
    go_wp2
    go_loopw [4] (fun i wr => ∃ k : Nat, k ≤ n ∧ i = .int .i64 k ∧ wr.rowIs w.heap.size 5 n (laid7 xs k) ∧ Below w.heap.size w wr) (fun i _ => n - (intOf i).toNat)
    case atStart => exact ⟨0, Nat.zero_le _, rfl, (World.rowIs_made w (.int .u8 0) n 5).congr fun i _ => by simp [laid7], (Below.refl _ _).alloc (Nat.le_refl _) _⟩
    case round =>
      obtain ⟨k, hk, rfl, hrow, hbel⟩ := hrel
      by_cases hlt : k < n
      · have hltI : (k : Int) < (n : Int) := by omega
        have g1 := below_cell (Nat.le_refl _) hbel (hc1 k hlt)
        have j1 := hi1 k hltI
        have g2 := hrow.cell hlt
        have f2 := hrow.frozen k
        obtain ⟨x, hx1⟩ : ∃ x, xs.getD k 0 = x := ⟨_, rfl⟩
        rw [hx1] at g1
        have HX : Hid (xs.getD k 0 = x) := hx1
        obtain ⟨y, hy⟩ : ∃ y, laid7 xs k k = y := ⟨_, rfl⟩
        rw [hy] at g2
        clear hi1 hc1 hx1 hy hmk heq
        go_wp2
        go_roundw
        case rel =>
          refine ⟨k + 1, by omega, by go_num, (hrow.set k _).congr fun j hj => ?_, hbel.setCell (Nat.le_refl _) _⟩
          unfold laid7
          by_cases e : j = k
          · subst e
            rw [if_pos rfl, if_pos (by omega), HX.out]
          · rw [if_neg e]
            by_cases e2 : j < k
            · rw [if_pos e2, if_pos (by omega)]
            · rw [if_neg e2, if_neg (by omega)]
        case measure => simp [intOf]; omega
      · clear hi1 hc1 hmk heq
        go_wp2
        go_ret
        have e : k = n := by omega
        subst e
        refine ⟨_, k, rfl, ⟨_, k, by rw [HN.out], ⟨w.heap.size, 0, fun _ => rfl, fun i hi => ?_⟩, HR.out, HS.out⟩, hbel⟩
        rw [HN.out] at hi
        rw [Nat.zero_add, hrow.cell hi]
        simp [laid7, hi]

theorem Keys.of_below {B : Nat} {w w' : World} {a : Option Addr} {n : Nat} {K : Nat → List Int} (h : Keys w a n K) (hB : w.heap.size ≤ B) (hb : Below B w w') : Keys w' a n K := by
  obtain ⟨V, hc, hk⟩ := h
  exact ⟨V, hc.of fun _ _ hp => below_cell hB hb hp, fun i hi => below_key hB hb (hk i hi)⟩

/-- A store into a cell that holds no number leaves every key as it is. -/
theorem Key.setCell {w : World} {v : Value} {xs : List Int} (h : Key w v xs) {p : Addr} {u0 : Value} (hp : w.cell? p = some u0) (hu : ∀ q z, u0 ≠ .int q z) (u : Value) : Key (w.setCell p u) v xs := by
  obtain ⟨a, c, rfl, ⟨b, off, ha, hc⟩, hr⟩ := h
  refine ⟨a, c, rfl, ⟨b, off, ha, fun i hi => ?_⟩, hr⟩
  have h1 := hc i hi
  rw [World.cell?_setCell_other _ _ _ _ (fun e => ?_)]
  · exact h1
  · rw [← e, hp] at h1
    exact hu _ _ (Option.some.inj h1)

set_option maxHeartbeats 400000 in
theorem clone11 (a : Option Addr) (n c : Nat) (K : Nat → List Int) (w : World) (hn : n ≤ 1024) (hK : Keys w a n K) (hL : ∀ i, i < n → (K i).length ≤ 1048576) (hnil : a = none → n = 0) :
    Calls Try.prog 11 #[.slice a n c] w fun e w' => ∃ a' c', e = .returned (.slice a' n c') ∧ Keys w' a' n K ∧ Below w.heap.size w w' := by
  obtain ⟨V, ⟨b, off, ha, hc⟩, hkey⟩ := hK
  have heq := fun w => Lib.run_eql_slice_nil (P := Try.prog) w 28 22 a n c 0 0 Try.underlying28
  have hmk := run_make_row' (P := Try.prog) 28 22 (.slice none 0 0) 24 Try.underlying28 Try.info22 rfl .i64 .i64 n (by omega) (by omega)
  have hidx := idx28 a n c b off ha
  cases a with
  | none =>
    have h0 : n = 0 := hnil rfl
    clear hidx hmk ha hnil
    subst h0
    go_enter Try.func11, Try.ntmps11
    go_wp2
    go_ret
    exact ⟨none, 0, rfl, ⟨V, ⟨0, 0, fun h => by omega, fun i hi => by omega⟩, fun i hi => by omega⟩, Below.refl _ _⟩
  | some p =>
    clear ha hnil
    go_enter Try.func11, Try.ntmps11
    go_wp2
    go_loopw [4] (fun i wr => ∃ k : Nat, k ≤ n ∧ i = .int .i64 k ∧ (∃ U, wr.rowIs w.heap.size 22 n U ∧ (∀ j, j < k → Key wr (U j) (K j)) ∧ Hid (∀ j, k ≤ j → U j = .slice none 0 0)) ∧ Below w.heap.size w wr ∧ w.heap.size + 1 ≤ wr.heap.size) (fun i _ => n - (intOf i).toNat)
    case atStart => exact ⟨0, Nat.zero_le _, rfl, ⟨_, World.rowIs_made w (.slice none 0 0) n 22, fun j hj => by omega, fun _ _ => rfl⟩, (Below.refl _ _).alloc (Nat.le_refl _) _, by simp⟩
    case round =>
      obtain ⟨k, hk, rfl, ⟨U, hrow, hU, hZ⟩, hbel, hsz⟩ := hrel
      by_cases hlt : k < n
      · have hltI : (k : Int) < (n : Int) := by omega
        have g1 := below_cell (Nat.le_refl _) hbel (hc k hlt)
        have j1 := hidx k hltI
        have kk := below_key (Nat.le_refl _) hbel (hkey k hlt)
        have hlk := hL k hlt
        obtain ⟨vk, hvk⟩ : ∃ v, V k = v := ⟨_, rfl⟩
        rw [hvk] at g1 kk
        clear hidx hc hmk heq hkey hvk hL
        go_wp2_with fail
        refine (clone7 vk (K k) _ kk hlk).mono ?_
        rintro e w1 ⟨a', c', rfl, hk1, hb1⟩
        have hrow1 : w1.rowIs w.heap.size 22 n U := hrow.of_block (hb1.block _ hrow.lt)
        have hU1 : ∀ j, j < k → Key w1 (U j) (K j) := fun j hj => below_key (Nat.le_refl _) hb1 (hU j hj)
        have hbel1 : Below w.heap.size w w1 := hbel.trans (hb1.mono (by omega))
        have hsz1 : w.heap.size + 1 ≤ w1.heap.size := Nat.le_trans hsz hb1.size
        have g2 := hrow1.cell hlt
        have f2 := hrow1.frozen k
        obtain ⟨y, hy⟩ : ∃ y, U k = y := ⟨_, rfl⟩
        rw [hy] at g2
        have HY : Hid (U k = y) := hy
        clear hy hrow hU hbel hb1 hsz kk
        go_wp2
        go_roundw
        case rel =>
          have hs := hrow1.set k (.slice a' (K k).length c')
          have hy0 : y = .slice none 0 0 := by rw [← HY.out]; exact hZ.out k (Nat.le_refl _)
          have hyn : ∀ q z, y ≠ .int q z := fun q z e => by rw [hy0] at e; cases e
          refine ⟨k + 1, by omega, by go_num, ⟨_, hs, fun j hj => ?_, fun j hj => ?_⟩, hbel1.setCell (Nat.le_refl _) _, by simpa [World.setCell] using hsz1⟩
          · show Key _ (if j = k then _ else U j) (K j)
            by_cases e : j = k
            · rw [if_pos e, e]
              exact hk1.setCell g2 hyn _
            · rw [if_neg e]
              exact (hU1 j (by omega)).setCell g2 hyn _
          · show (if j = k then _ else U j) = _
            rw [if_neg (by omega)]
            exact hZ.out j (by omega)
        case measure => simp [intOf]; omega
      · clear hidx hc hmk heq
        go_wp2
        go_ret
        have e : k = n := by omega
        subst e
        exact ⟨_, k, rfl, ⟨U, ⟨w.heap.size, 0, fun _ => rfl, fun i hi => by rw [Nat.zero_add]; exact hrow.cell hi⟩, hU⟩, hbel⟩
end Go.Proofs.Qxb6603117a
