/-
  The walks of the functions that only read, in an open order: equalBytes, seenBefore, seenAfter, bytes.Equal.
-/
import Derived.Test.Qxb6603117aBase
import Derived.Lib.Bytes
namespace Go.Proofs.Qxb6603117a
open Go.RowKit

/-- w' is w but for draws. -/
def Drawn (w w' : World) : Prop := ∃ m, w' = w.drewN m
theorem Drawn.refl (w : World) : Drawn w w := ⟨0, rfl⟩
theorem Drawn.more {w w' : World} (h : Drawn w w') (n : Nat) : Drawn w (w'.drewN n) := by
  obtain ⟨m, rfl⟩ := h
  exact ⟨_, World.drewN_drewN _ _ _⟩
theorem Drawn.cell {w w' : World} (h : Drawn w w') {p : Addr} {v : Value} (hp : w.cell? p = some v) : w'.cell? p = some v := by
  obtain ⟨m, rfl⟩ := h
  exact hp
theorem Drawn.key {w w' : World} (h : Drawn w w') {v : Value} {xs : List Int} (hk : Key w v xs) : Key w' v xs := hk.of fun _ _ hp => h.cell hp

set_option maxHeartbeats 400000 in
theorem equal19 (v u : Value) (xs ys : List Int) (w : World) (hv : Key w v xs) (hu : Key w u ys) :
    Calls Try.prog 19 #[v, u] w fun e w' => e = .returned (.bool (xs == ys)) ∧ Drawn w w' := by
  obtain ⟨a, c, rfl, ⟨b1, o1, ha1, hc1⟩, _, hx⟩ := hv
  obtain ⟨a', c', rfl, ⟨b2, o2, ha2, hc2⟩, _, hy⟩ := hu
  unfold maxLen at hx hy
  have hi1 := idx22 a xs.length c b1 o1 ha1
  have hi2 := idx22 a' ys.length c' b2 o2 ha2
  by_cases hl : xs.length = ys.length
  · have hl' : ((xs.length : Int) != (ys.length : Int)) = false := by simp [hl]
    have hlH : Hid (xs.length = ys.length) := hl
    clear hl
    have hle : xs.length ≤ ys.length := by have := hlH.out; omega
    have hle' : ys.length ≤ xs.length := by have := hlH.out; omega
    go_enter Try.func19, Try.ntmps19
    go_wp2
    go_loopw [5] (fun i wr => ∃ k : Nat, k ≤ xs.length ∧ i = .int .i64 k ∧ Drawn w wr ∧ Hid (∀ j, j < k → xs.getD j 0 = ys.getD j 0)) (fun i _ => xs.length - (intOf i).toNat)
    case atStart => exact ⟨0, Nat.zero_le _, rfl, Drawn.refl _, fun j hj => by omega⟩
    case round =>
      obtain ⟨k, hk, rfl, hdr, hall⟩ := hrel
      by_cases hlt : k < xs.length
      · have hltI : (k : Int) < (xs.length : Int) := by omega
        have hltI' : (k : Int) < (ys.length : Int) := by omega
        have g1 := hdr.cell (hc1 k hlt)
        have g2 := hdr.cell (hc2 k (by omega))
        have hj1 := hi1 k hltI
        have hj2 := hi2 k hltI'
        clear hi1 hi2 hc1 hc2
        obtain ⟨x, hx1⟩ : ∃ x, xs.getD k 0 = x := ⟨_, rfl⟩
        obtain ⟨y, hy1⟩ : ∃ y, ys.getD k 0 = y := ⟨_, rfl⟩
        rw [hx1] at g1
        rw [hy1] at g2
        have HX : Hid (xs.getD k 0 = x) := hx1
        have HY : Hid (ys.getD k 0 = y) := hy1
        clear hx1 hy1
        go_wp2
        go_quiet (fail)
        go_wp2
        · have hne : (x != y) = true := by assumption
          go_ret
          refine ⟨?_, hdr.more _⟩
          have : (xs == ys) = false := by
            rw [beq_eq_false_iff_ne]
            intro e
            have := HX.out
            rw [e, HY.out] at this
            simp [this] at hne
          rw [this]; rfl
        · have heq : (x != y) = false := by assumption
          go_roundw
          case rel =>
            refine ⟨k + 1, by omega, by go_num, hdr.more _, fun j hj => ?_⟩
            by_cases e : j = k
            · subst e
              rw [HX.out, HY.out]
              simpa using heq
            · exact hall.out j (by omega)
          case measure => simp [intOf]; omega
      · clear hi1 hi2 hc1 hc2
        go_wp2
        go_ret
        have e : k = xs.length := by omega
        have : (xs == ys) = true := by
          rw [beq_iff_eq]
          exact list_eq_of_getD hlH.out (fun j hj => hall.out j (by omega))
        rw [this]
        exact ⟨rfl, hdr⟩
  · have hl' : ((xs.length : Int) != (ys.length : Int)) = true := by simp; omega
    have hres : Hid ((xs == ys) = false) := by
      show (xs == ys) = false
      rw [beq_eq_false_iff_ne]
      intro e
      exact hl (by rw [e])
    clear hl hi1 hi2 hc1 hc2
    go_enter Try.func19, Try.ntmps19
    go_wp2
    go_ret
    rw [hres.out]
    exact ⟨rfl, Drawn.refl _⟩

/-- keys[i] is among the keys before it. -/
def seenB (K : Nat → List Int) (i : Nat) : Bool := (List.range i).any fun j => K j == K i
/-- keys[i] is among the keys behind it. -/
def seenA (K : Nat → List Int) (n i : Nat) : Bool := (List.range n).any fun j => decide (i < j) && (K j == K i)

/-- A slice of n keys, key i reading as K i. -/
def Keys (w : World) (a : Option Addr) (n : Nat) (K : Nat → List Int) : Prop :=
  ∃ V, Cells w a n V ∧ ∀ i, i < n → Key w (V i) (K i)

theorem cell_drewN (w : World) (m : Nat) (p : Addr) : (w.drewN m).cell? p = w.cell? p := by simp [World.drewN, World.cell?]

theorem Key.drewN {w : World} {v : Value} {xs : List Int} (h : Key w v xs) (m : Nat) : Key (w.drewN m) v xs := h.of fun p u hp => by rw [cell_drewN]; exact hp

set_option maxHeartbeats 400000 in
theorem seen14 (a : Option Addr) (n c i : Nat) (K : Nat → List Int) (w : World) (hn : n ≤ 1024) (hK : Keys w a n K) (hin : i < n) :
    Calls Try.prog 14 #[.slice a n c, .int .i64 i] w fun e w' => e = .returned (.bool (seenB K i)) ∧ Drawn w w' := by
  obtain ⟨V, ⟨b, off, ha, hc⟩, hkey⟩ := hK
  have hidx := idx28 a n c b off ha
  have hinI : (i : Int) < (n : Int) := by omega
  have ji := hidx i hinI
  go_enter Try.func14, Try.ntmps14
  go_wp2
  go_loopw [5] (fun t wr => ∃ k : Nat, k ≤ i ∧ t = .int .i64 k ∧ Drawn w wr ∧ Hid (∀ j, j < k → (K j == K i) = false)) (fun t _ => i - (intOf t).toNat)
  case atStart => exact ⟨0, Nat.zero_le _, rfl, Drawn.refl _, fun j hj => by omega⟩
  case round =>
    obtain ⟨k, hk, rfl, hdr, hall⟩ := hrel
    by_cases hlt : k < i
    · have hltI : (k : Int) < (i : Int) := by omega
      have hltn : (k : Int) < (n : Int) := by omega
      have gi := hdr.cell (hc i hin)
      have ki := hdr.key (hkey i hin)
      have gk := hdr.cell (hc k (by omega))
      have jk := hidx k hltn
      have kk := hdr.key (hkey k (by omega))
      obtain ⟨vi, hvi⟩ : ∃ v, V i = v := ⟨_, rfl⟩
      obtain ⟨vk, hvk⟩ : ∃ v, V k = v := ⟨_, rfl⟩
      rw [hvi] at gi ki
      rw [hvk] at gk kk
      clear hidx hc hkey hvi hvk
      go_wp2
      go_quiet ((go_at_call 19; refine Calls.quiet_of (equal19 _ _ (K k) (K i) _ ?_ ?_); exact kk.drewN _; exact ki.drewN _))
      go_wp2
      · have heq : (K k == K i) = true := by assumption
        go_ret
        refine ⟨?_, hdr.more _⟩
        have : seenB K i = true := List.any_eq_true.2 ⟨k, List.mem_range.2 hlt, heq⟩
        rw [this]; rfl
      · have hne : (K k == K i) = false := by assumption
        go_roundw
        case rel =>
          refine ⟨k + 1, by omega, by go_num, hdr.more _, fun j hj => ?_⟩
          by_cases e : j = k
          · subst e; exact hne
          · exact hall.out j (by omega)
        case measure => simp [intOf]; omega
    · clear hidx hc hkey
      go_wp2
      go_ret
      have : seenB K i = false := List.any_eq_false.2 fun j hj => by simpa using hall.out j (by have := List.mem_range.1 hj; omega)
      rw [this]
      exact ⟨rfl, hdr⟩

set_option maxHeartbeats 400000 in
theorem seen16 (a : Option Addr) (n c i : Nat) (K : Nat → List Int) (w : World) (hn : n ≤ 1024) (hK : Keys w a n K) (hin : i < n) :
    Calls Try.prog 16 #[.slice a n c, .int .i64 i] w fun e w' => e = .returned (.bool (seenA K n i)) ∧ Drawn w w' := by
  obtain ⟨V, ⟨b, off, ha, hc⟩, hkey⟩ := hK
  have hidx := idx28 a n c b off ha
  have hinI : (i : Int) < (n : Int) := by omega
  have ji := hidx i hinI
  go_enter Try.func16, Try.ntmps16
  go_wp2
  go_loopw [5] (fun t wr => ∃ k : Nat, i + 1 ≤ k ∧ k ≤ n ∧ t = .int .i64 k ∧ Drawn w wr ∧ Hid (∀ j, i < j → j < k → (K j == K i) = false)) (fun t _ => n - (intOf t).toNat)
  case atStart => exact ⟨i + 1, Nat.le_refl _, hin, by go_num, Drawn.refl _, fun j hj => by omega⟩
  case round =>
    obtain ⟨k, hk0, hk, rfl, hdr, hall⟩ := hrel
    by_cases hlt : k < n
    · have hltn : (k : Int) < (n : Int) := by omega
      have gi := hdr.cell (hc i hin)
      have ki := hdr.key (hkey i hin)
      have gk := hdr.cell (hc k (by omega))
      have jk := hidx k hltn
      have kk := hdr.key (hkey k (by omega))
      obtain ⟨vi, hvi⟩ : ∃ v, V i = v := ⟨_, rfl⟩
      obtain ⟨vk, hvk⟩ : ∃ v, V k = v := ⟨_, rfl⟩
      rw [hvi] at gi ki
      rw [hvk] at gk kk
      clear hidx hc hkey hvi hvk
      go_wp2
      go_quiet ((go_at_call 19; refine Calls.quiet_of (equal19 _ _ (K k) (K i) _ ?_ ?_); exact kk.drewN _; exact ki.drewN _))
      go_wp2
      · have heq : (K k == K i) = true := by assumption
        go_ret
        refine ⟨?_, hdr.more _⟩
        have : seenA K n i = true := List.any_eq_true.2 ⟨k, List.mem_range.2 hlt, by simp only [heq, Bool.and_true, decide_eq_true_eq]; omega⟩
        rw [this]; rfl
      · have hne : (K k == K i) = false := by assumption
        go_roundw
        case rel =>
          refine ⟨k + 1, by omega, by omega, by go_num, hdr.more _, fun j hj0 hj => ?_⟩
          by_cases e : j = k
          · subst e; exact hne
          · exact hall.out j hj0 (by omega)
        case measure => simp [intOf]; omega
    · clear hidx hc hkey
      go_wp2
      go_ret
      have : seenA K n i = false := List.any_eq_false.2 fun j hj => by
        by_cases hij : i < j
        · simpa using fun _ => hall.out j hij (by have := List.mem_range.1 hj; omega)
        · simp [hij]
      rw [this]
      exact ⟨rfl, hdr⟩

theorem Key.range {w : World} {v : Value} {xs : List Int} (h : Key w v xs) : ∀ x ∈ xs, 0 ≤ x ∧ x < 256 := by
  obtain ⟨_, _, _, _, hx, _⟩ := h
  exact hx
theorem Key.size {w : World} {v : Value} {xs : List Int} (h : Key w v xs) : xs.length ≤ maxLen := by
  obtain ⟨_, _, _, _, _, hx⟩ := h
  exact hx

/-- What string(v) gives at a key. -/
theorem Key.conv {w : World} {v : Value} {xs : List Int} (h : Key w v xs) : (convert 22 9 v).run Try.prog w = .ok (.string (strOfNums xs)) w := by
  obtain ⟨a, c, rfl, ⟨b, off, ha, hc⟩, _, _⟩ := h
  by_cases h0 : 0 < xs.length
  · rw [ha h0]
    exact run_convert_bytes_arg w 22 5 Try.underlying22 Try.underlying5 b off xs.length c xs rfl hc 9 Try.underlying9
  · have e : xs = [] := List.eq_nil_of_length_eq_zero (by omega)
    subst e
    cases a with
    | none => exact run_convert_bytes_nil w 22 5 Try.underlying22 Try.underlying5 _ c 9 Try.underlying9
    | some p =>
      show (convert 22 9 (.slice (some p) 0 c)).run Try.prog w = _
      rw [run_convert_bytes_string w 22 9 5 (some p) 0 c Try.underlying22 Try.underlying5 Try.underlying9]
      rw [run_bytesToString w p 0 c [] (by simp [loadCells, loadCellsFrom])]
      rfl

theorem byte_inj {x y : Int} (hx : 0 ≤ x ∧ x < 256) (hy : 0 ≤ y ∧ y < 256) (h : UInt8.ofNat x.toNat = UInt8.ofNat y.toNat) : x = y := by
  have := congrArg UInt8.toNat h
  simp at this
  omega

theorem strOfNums_inj : ∀ {xs ys : List Int}, (∀ x ∈ xs, 0 ≤ x ∧ x < 256) → (∀ x ∈ ys, 0 ≤ x ∧ x < 256) → (strOfNums xs).data.toList = (strOfNums ys).data.toList → xs = ys
  | [], [], _, _, _ => rfl
  | [], y :: ys, _, _, h => by simp [strOfNums_data] at h
  | x :: xs, [], _, _, h => by simp [strOfNums_data] at h
  | x :: xs, y :: ys, hx, hy, h => by
    simp only [strOfNums_data, List.map_cons, List.cons.injEq] at h
    have e1 := byte_inj (hx x (by simp)) (hy y (by simp)) h.1
    have e2 := strOfNums_inj (xs := xs) (ys := ys) (fun z hz => hx z (by simp [hz])) (fun z hz => hy z (by simp [hz])) (by simpa [strOfNums_data] using h.2)
    rw [e1, e2]

set_option maxHeartbeats 400000 in
theorem equal20 (v u : Value) (xs ys : List Int) (w : World) (hv : Key w v xs) (hu : Key w u ys) :
    Calls Try.prog 20 #[v, u] w fun e w' => e = .returned (.bool (xs == ys)) ∧ w' = w := by
  have h1 := hv.conv
  have h2 := hu.conv
  have hx := hv.range
  have hy := hu.range
  clear hv hu
  have hres : Hid ((xs == ys) = ((strOfNums xs).toList == (strOfNums ys).toList)) := by
    show (xs == ys) = ((strOfNums xs).toList == (strOfNums ys).toList)
    rw [Bool.eq_iff_iff]
    simp only [beq_iff_eq]
    constructor
    · intro e; rw [e]
    · intro e
      rw [Lib.strOfNums_toList, Lib.strOfNums_toList] at e
      exact strOfNums_inj hx hy e
  clear hx hy
  go_enter Try.func20, Try.ntmps20
  go_wp2
  go_ret
  rw [hres.out]
  exact ⟨rfl, rfl⟩

end Go.Proofs.Qxb6603117a
