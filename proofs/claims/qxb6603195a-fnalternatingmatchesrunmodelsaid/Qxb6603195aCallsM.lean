/-
  b1CallsMatch at the calls of the run.
-/
import Derived.Test.Qxb6603195aRunEnd
namespace Go.Proofs.Qxb6603195a
open Go.RowKit

def callsOf (l : List Ms) : List Cl := l.flatMap (·.calls)
theorem callsOf_len (l : List Ms) : (callsOf l).length = cnt l := by simp [callsOf, cnt, List.length_flatMap]

theorem callsOf_get (l r : List Ms) (m : Ms) (u : Nat) (hu : u < m.calls.length) : (callsOf (l ++ ([m] ++ r))).getD (cnt l + u) cl0 = m.calls.getD u cl0 := by
  have e : callsOf (l ++ ([m] ++ r)) = callsOf l ++ (m.calls ++ callsOf r) := by simp [callsOf]
  rw [e, List.getD, List.getD, List.getElem?_append_right (by rw [callsOf_len]; omega), callsOf_len, show cnt l + u - cnt l = u by omega, List.getElem?_append_left hu]

theorem cnt_split (l r : List Ms) (m : Ms) : cnt (l ++ ([m] ++ r)) = cnt l + m.calls.length + cnt r := by simp [cnt]; omega

set_option maxRecDepth 100000 in
set_option maxHeartbeats 1000000 in
theorem calls20 (v : Value) (nl : Bool) (gcs : List Cl) (ok2 : Nat → Prop) (a : Option Addr) (c : Nat) (ms : List Ms) (ok : Nat → Prop) (w : World) (hv : CallsAt w ok2 v nl gcs) (hm : MsgsAt w ok a ms) (hn : ms.length ≤ 1048576) (i j : Nat) (hij : i ≤ j) (hj : j ≤ ms.length) (hg : gcs = callsOf (run ms i j)) (hgs : gcs.length ≤ 4000000) :
    Calls Try.prog 20 #[v, .slice a ms.length c, .int .i64 i, .int .i64 j] w fun e w' => e = .returned (.bool true) ∧ Below w.heap.size w w' := by
  obtain ⟨b, o, ha, hms⟩ := hm
  obtain ⟨ga, gc, gb, go, rfl, _, _, _, hga, hgcl⟩ := hv
  obtain ⟨n, hN⟩ : ∃ n, ms.length = n := ⟨_, rfl⟩
  have hsplit : ∀ t, i ≤ t → t < j → run ms i j = run ms i t ++ ([ms.getD t ms0] ++ run ms (t + 1) j) ∧ run ms i (t + 1) = run ms i t ++ [ms.getD t ms0] := fun t h1 h2 => by
    have h3 := run_snoc ms i t h1 (by omega)
    refine ⟨?_, h3⟩
    rw [← List.append_assoc, ← h3]
    exact run_append ms i (t + 1) j (by omega) (by omega)
  have hgl : gcs.length = cnt (run ms i j) := by rw [hg, callsOf_len]
  rw [hN] at hn ha hms hj
  rw [hN]
  obtain ⟨GL, hGL⟩ : ∃ GL, gcs.length = GL := ⟨_, rfl⟩
  rw [hGL] at hga hgcl hgs hgl
  rw [hGL]
  have hidx := idx32 a n c b o (fun hp => (ha hp).1)
  have hgidx := idx39 ga GL gc gb go (fun hp => (hga hp).1)
  have HM : Hid (∀ i, i < n → MsAt w ok b (o + 5 * i) (ms.getD i ms0)) := hms
  have HGC : Hid (∀ i, i < GL → ClAt w gb (go + 3 * i) (gcs.getD i cl0)) := hgcl
  have HS : Hid _ := hsplit
  have HG : Hid (gcs = callsOf (run ms i j)) := hg
  have HGLe : Hid (GL = cnt (run ms i j)) := hgl
  clear hms hN ha hsplit hg hgl hGL hgcl hga
  go_enter Try.func20, Try.ntmps20
  go_wp2
  go_loopw [9, 10] (fun s v wr => ∃ t off : Nat, i ≤ t ∧ t ≤ j ∧ v = .int .i64 t ∧ s = .int .i64 off ∧ Hid (cnt (run ms i t) = off) ∧ Below w.heap.size w wr) (fun _ v _ => j - (intOf v).toNat)
  case atStart => exact ⟨i, 0, Nat.le_refl _, hij, rfl, rfl, by show _ = _; rw [run_self]; rfl, Below.refl _ _⟩
  case round =>
    obtain ⟨t, off, h1, h2, rfl, rfl, HO, hbel⟩ := hrel
    by_cases hlt : t < j
    · have hltI : (t : Int) < (j : Int) := by omega
      have hltn : (t : Int) < (n : Int) := by omega
      obtain ⟨hs1, hs2⟩ := HS.out t h1 hlt
      have hmt := HM.out t (by omega)
      have hgl := HGLe.out
      obtain ⟨m, hm⟩ : ∃ m, ms.getD t ms0 = m := ⟨_, rfl⟩
      rw [hm] at hmt hs1 hs2
      rw [hs1, cnt_split, HO.out] at hgl
      have HC2 : Hid (cnt (run ms i (t + 1)) = off + m.calls.length) := by show _ = _; rw [hs2, cnt_snoc, HO.out]
      have HGet : Hid (∀ u, u < m.calls.length → gcs.getD (off + u) cl0 = m.calls.getD u cl0) := fun u hu => by
        rw [HG.out, hs1, ← HO.out]
        exact callsOf_get _ _ _ _ hu
      obtain ⟨ca, cc, b', o', g2, _, hca, hcl⟩ := msg_parts hmt
      have G2 : Hid (w.cell? ⟨b, o + 5 * t + 2, none⟩ = some (.slice ca m.calls.length cc)) := g2
      have jt := hidx t hltn
      have jc := idx42 ca m.calls.length cc b' o' hca
      have HCL : Hid (∀ i, i < m.calls.length → ClAt w b' (o' + 3 * i) (m.calls.getD i cl0)) := hcl
      have hgl' : off + m.calls.length ≤ GL := by omega
      obtain ⟨L, hL⟩ : ∃ L, m.calls.length = L := ⟨_, rfl⟩
      rw [hL] at HC2 HGet G2 jc HCL hgl'
      clear hs1 hs2 hm hmt hgl g2 hca hcl hL hidx
      have HBel : Hid (Below w.heap.size w wr) := hbel
      clear hbel
      rename World => wy
      go_wp2
      go_loopw [9, 11] (fun s v wx => ∃ u p : Nat, u ≤ L ∧ v = .int .i64 u ∧ s = .int .i64 p ∧ Hid (p = off + u) ∧ Below w.heap.size w wx) (fun _ v _ => L - (intOf v).toNat)
      case atStart => exact ⟨0, off, Nat.zero_le _, rfl, rfl, rfl, HBel.out⟩
      case round =>
        obtain ⟨u, p, hu, rfl, rfl, HP, hbx⟩ := hrel
        have g2 := below_cell (Nat.le_refl _) hbx G2.out
        by_cases hlu : u < L
        · have hluI : (u : Int) < (L : Int) := by omega
          obtain ⟨x0, x1, x2⟩ := HCL.out u hlu
          obtain ⟨z0, z1, z2⟩ := HGC.out (off + u) (by omega)
          rw [HGet.out u hlu] at z0 z1 z2
          replace x0 := below_cell (Nat.le_refl _) hbx x0
          replace x1 := below_cell (Nat.le_refl _) hbx x1
          replace x2 := below_cell (Nat.le_refl _) hbx x2
          replace z0 := below_cell (Nat.le_refl _) hbx z0
          replace z1 := below_cell (Nat.le_refl _) hbx z1
          replace z2 := below_cell (Nat.le_refl _) hbx z2
          generalize m.calls.getD u cl0 = cl at *
          obtain ⟨id, name, args⟩ := cl
          simp only at x0 x1 x2 z0 z1 z2
          have ju := jc u hluI
          have hpG : p < GL := by have := HP.out; omega
          have jg := hgidx p (by omega)
          have hgI : (p : Int) < (GL : Int) := by omega
          rw [← HP.out] at z0 z1 z2
          clear jc hgidx
          have hgb : gb < wr.heap.size := World.block_lt_of_cell? wr _ z0
          have hfin := fun o1 o2 => ((hbx.alloc hbx.size o1).alloc (Nat.le_trans hbx.size (by simp)) o2)
          have HFin : Hid (∀ o1 o2, Below w.heap.size w ((wr.alloc o1).alloc o2)) := hfin
          clear hfin hbx
          go_wp2
          go_roundw
          case rel => exact ⟨u + 1, p + 1, by omega, by go_num, by go_num, by show _ = _; rw [HP.out]; omega, HFin.out _ _⟩
          case measure => simp [intOf]; omega
        · have e : u = L := by omega
          subst e
          clear jc hgidx
          go_wp2
          go_roundw
          case rel => exact ⟨t + 1, p, by omega, by omega, by go_num, rfl, by rw [HP.out]; exact HC2.out, hbx⟩
          case measure => simp [intOf]; omega
    · have e : t = j := by omega
      subst e
      have hgl := HGLe.out
      rw [HO.out] at hgl
      subst hgl
      clear hidx hgidx
      go_wp2
      go_ret
      exact ⟨rfl, hbel⟩
end Go.Proofs.Qxb6603195a
