/-
  FnStepsReplayKeepsNumbers: the walk.
-/
import Derived.Test.Qxb6603794aClone
import Derived.Deep.RegionWith
namespace Go.Proofs.Qxb6603794a
open Go.RowKit Go.Maps

theorem row_made (w : World) (zc : Array Value) (n : Nat) (t : TypeId) : (w.alloc (.cells (madeCells zc n) t)).rowIs w.heap.size t n (fun i => zc[i % zc.size]!) :=
  ⟨_, Go.Deep.blk_alloc_new _ _, size_madeCells _ _, fun i hi => by simp [madeCells, hi]⟩

theorem Steps.of_same {w w' : World} {S : Nat} {tab : List Pr} (h : Steps w S tab) (hs : ∀ b, b < w.heap.size → w'.heap[b]? = w.heap[b]?) : Steps w' S tab := by
  obtain ⟨fl, F, xs, hrow, hown, hfirst, htab, hfl, hmap, hn⟩ := h
  refine ⟨fl, F, xs, hrow.of_block (hs S hrow.lt), ⟨hown.1, ?_⟩, hfirst, htab, hfl, hmap.same (fun b hb => ?_), hn⟩
  · rcases hown.2 with h0 | ⟨g, cap, cur, e, hb, hgg, rest⟩
    · exact .inl h0
    · exact .inr ⟨g, cap, cur, e, hb, by rw [hs g (Array.getElem?_eq_some_iff.1 hgg).1]; exact hgg, rest⟩
  · obtain ⟨⟨es, clock, hbm⟩, _⟩ := hmap.apart hb
    exact hs b (Array.getElem?_eq_some_iff.1 hbm).1

/-- The numbers row behind the call of 'of'. -/
theorem Kept.row {S N n : Nat} {w w' : World} {G : Nat → Value} (h : Kept S w w') (hr : w.rowIs N 21 n G) (hne : N ≠ S) : w'.rowIs N 21 n G := by
  obtain ⟨cur, hc, rest⟩ := hr
  exact ⟨cur, h.rows N cur 21 (0, 0) hc (by decide) hne, rest⟩

theorem Steps.set_other {w : World} {S N : Nat} {tab : List Pr} (h : Steps w S tab) {n : Nat} {G : Nat → Value} (hr : w.rowIs N 21 n G) (hne : N ≠ S) (o : Nat) (u : Value) : Steps (w.setCell ⟨N, o, none⟩ u) S tab := by
  obtain ⟨cur, hcur, _⟩ := hr
  obtain ⟨fl, F, xs, hrow, hown, hfirst, htab, hfl, hmap, hn⟩ := h
  refine ⟨fl, F, xs, hrow.of_block (Below.heap_setCell _ _ _ _ (show S ≠ N from fun e => hne e.symm)), ⟨hown.1, ?_⟩, hfirst, htab, hfl, hmap.same (fun b hb => ?_), hn⟩
  · rcases hown.2 with h0 | ⟨g, cap, cur', e, hb, hgg, rest⟩
    · exact .inl h0
    · refine .inr ⟨g, cap, cur', e, hb, ?_, rest⟩
      rw [Below.heap_setCell _ _ _ _ (show g ≠ N from fun e => by rw [e, hcur] at hgg; injection hgg with hgg; injection hgg with _ h2 _; exact absurd h2 (by decide))]
      exact hgg
  · obtain ⟨⟨es, clock, hbm⟩, _⟩ := hmap.apart hb
    exact Below.heap_setCell _ _ _ _ (show b ≠ N from fun e => by rw [e, hcur] at hbm; cases hbm)

/-- The numbers of the first k pairs. -/
def NumsAt (G : Nat → Value) (ps : List Pr) (T : List Pr) (k : Nat) : Prop := ∀ j, j < k → G j = .int .i32 (num T (ps.getD j (0, 0)) : Nat)

set_option maxRecDepth 100000 in
set_option maxHeartbeats 1000000 in
theorem law6 (a : Option Addr) (c : Nat) (ps : List Pr) (w : World) (hp : PairsAt w a ps) (hn : ps.length ≤ maxLen) (hin : ∀ i, i < ps.length → InP (ps.getD i (0, 0))) :
    Calls Try.prog 6 #[.slice a ps.length c] w fun e w' => e = .returned (.bool true) ∧ Below w.heap.size w w' := by
  have h20 := zz20 a ps.length c w hn
  have h15 := fun hl => fit15 a c ps w hp hl hin
  have h16 := clone16 a c ps w hp
  have htok := tabOf_ok ps
  have htl := tabOf_len ps
  have htm := tabOf_mem ps
  have htn := tabOf_num ps
  have hts := tabOf_succ ps
  have hn' : ps.length ≤ 9223372036854775807 := by unfold maxLen at hn; omega
  clear hp hin hn
  go_enter Try.func6, Try.ntmps6
  go_wp2_with fail
  refine h20.mono ?_
  rintro e w1 ⟨⟨r, rfl, _⟩, rfl⟩
  cases r with
  | false =>
    go_wp2
    go_ret
    exact ⟨rfl, Below.refl _ _⟩
  | true =>
    by_cases hl : ps.length ≤ 65536
    · have hlI : ¬ (65536 : Int) < (ps.length : Int) := by omega
      have h15 := h15 hl
      have h16 := h16 hl
      clear h20
      go_wp2_with fail
      refine h15.mono ?_
      rintro e w2 ⟨⟨r, rfl, hok⟩, rfl⟩
      cases r with
      | false =>
        go_wp2
        go_ret
        exact ⟨rfl, Below.refl _ _⟩
      | true =>
        have HOK : Hid (∀ i, i < ps.length → Ok1 (ps.getD i (0, 0))) := hok rfl
        have HTOK : Hid (∀ k, k ≤ ps.length → ∀ p ∈ tabOf ps k, Ok1 p) := htok HOK.out
        clear hok htok
        go_wp2_with fail
        refine h16.mono ?_
        rintro e w3 ⟨a3, c3, rfl, hp3, hb3⟩
        clear h15 h16
        go_wp2_with fail
        refine (new17 w3).mono ?_
        rintro e w4 ⟨rfl, hs4, hb4⟩
        have hmk : ∀ w, (Instr.makeSlice 22 (.int .i64 (ps.length : Int)) (.int .i64 (ps.length : Int))).run Try.prog w = .ok (.slice (some ⟨w.heap.size, 0, none⟩) ps.length ps.length) (w.alloc (.cells (madeCells #[.int .i32 0] (ps.length * 1)) 21)) := mk_slice Try.underlying22 Try.info21 ps.length ps.length (Nat.le_refl _) (by omega) (by omega)
        go_wp2
        have hrow5 : (w4.alloc (.cells (madeCells #[.int .i32 0] ps.length) 21)).rowIs w4.heap.size 21 ps.length _ := row_made w4 _ _ 21
        have hs5 : Steps (w4.alloc (.cells (madeCells #[.int .i32 0] ps.length) 21)) w3.heap.size [] := hs4.of_same (fun b hb => heap_alloc_old w4 _ hb)
        have hb5 : Below w3.heap.size w3 (w4.alloc (.cells (madeCells #[.int .i32 0] ps.length) 21)) := hb4.alloc hb4.size _
        obtain ⟨fl0, F0, xs0, hst0⟩ := hs4
        have hSN : w3.heap.size < w4.heap.size := hst0.1.lt
        clear hst0 hmk
        generalize (fun i => (#[Value.int .i32 0] : Array Value)[i % (#[Value.int .i32 0] : Array Value).size]!) = G0 at hrow5
        generalize w4.alloc (.cells (madeCells #[.int .i32 0] ps.length) 21) = w5 at *
        obtain ⟨N, hN⟩ : ∃ N, w4.heap.size = N := ⟨_, rfl⟩
        rw [hN] at hrow5 hSN
        rw [hN]
        clear hN
        obtain ⟨S, hS⟩ : ∃ S, w3.heap.size = S := ⟨_, rfl⟩
        rw [hS] at hs5 hb5 hSN
        rw [hS]
        have HS3 : Hid (w3.heap.size = S) := hS
        have HB3 : Hid (Below w2.heap.size w2 w3) := hb3
        have HP3 : Hid (PairsAt w3 a3 ps) := hp3
        clear hS hb4 hb3 hp3
        go_loopw [5] (fun v wr => ∃ (k : Nat) (G : Nat → Value), k ≤ ps.length ∧ v = .int .i64 k ∧ Hid (Steps wr S (tabOf ps k)) ∧ wr.rowIs N 21 ps.length G ∧ Hid (∀ j, j < k → G j = .int .i32 (num (tabOf ps (j + 1)) (ps.getD j (0, 0)) : Nat)) ∧ Below S w3 wr) (fun v _ => ps.length - (intOf v).toNat)
        case atStart => exact ⟨0, G0, Nat.zero_le _, rfl, hs5, hrow5, fun j hj => by omega, hb5⟩
        case round =>
          obtain ⟨k, G, hk, rfl, HSt, hrow, HG, hbel⟩ := hrel
          by_cases hlt : k < ps.length
          · have hltI : (k : Int) < (ps.length : Int) := by omega
            obtain ⟨b, o, ha, hps⟩ := HP3.out
            have jk := idx29 a3 ps.length c3 b o ha k hltI
            have jn := idx22 (some ⟨N, 0, none⟩) ps.length ps.length N 0 (fun _ => rfl) k hltI
            rw [Nat.zero_add] at jn
            obtain ⟨e0, e1⟩ := hps k hlt
            have hb0 : b < S := by rw [← HS3.out]; exact World.block_lt_of_cell? w3 _ e0
            replace e0 := (hbel.cell (p := ⟨b, o + 2 * k, none⟩) hb0).trans e0
            replace e1 := (hbel.cell (p := ⟨b, o + 2 * k + 1, none⟩) hb0).trans e1
            have hokk := HOK.out k hlt
            have htk := HTOK.out k hk
            have hlk := htl k hk
            have hsk := hts k hlt
            obtain ⟨p, hpk⟩ : ∃ p, ps.getD k (0, 0) = p := ⟨_, rfl⟩
            rw [hpk] at e0 e1 hokk hsk
            obtain ⟨x, y⟩ := p
            obtain ⟨v, rfl⟩ : ∃ v : Nat, y = (v : Int) := ⟨y.toNat, by have := hokk.2.2.1; simp only at this; omega⟩
            simp only at e0 e1
            have hcall := of18 S v x (tabOf ps k) wr.drew (HSt.out.of_same (fun _ _ => rfl)) hokk htk (by omega)
            have hNS : N ≠ S := by omega
            have hcall2 : Calls Try.prog 18 #[.pointer (some ⟨S, 0, none⟩), .int .i32 x, .int .i32 v] wr.drew fun e w' => ∃ nn : Nat, e = .returned (.int .i32 nn) ∧ w'.cell? ⟨N, k, none⟩ = some (G k) ∧ w'.frozen? ⟨N, k, none⟩ = false ∧
                Hid (Steps (w'.setCell ⟨N, k, none⟩ (.int .i32 nn)) S (tabOf ps (k + 1)) ∧ (w'.setCell ⟨N, k, none⟩ (.int .i32 nn)).rowIs N 21 ps.length (fun j => if j = k then .int .i32 nn else G j) ∧ Below S w3 (w'.setCell ⟨N, k, none⟩ (.int .i32 nn)) ∧ nn = num (tabOf ps (k + 1)) (x, (v : Int))) := by
              refine hcall.mono ?_
              rintro e w' ⟨rfl, h1, h2⟩
              have hr' := h2.row (hrow.drew) hNS
              refine ⟨_, rfl, hr'.cell hlt, hr'.frozen k, ?_, hr'.set k _, (hbel.drew.trans h2.below).setCell (p := ⟨N, k, none⟩) (show S ≤ N by omega) _, by rw [hsk]⟩
              rw [hsk]
              exact h1.set_other hr' hNS k _
            have HPk : Hid (ps.getD k (0, 0) = (x, (v : Int))) := hpk
            clear hcall hpk hsk hlk htk hokk hrow hps ha HSt hbel
            go_wp2
            go_region_with (go_at_call 18; refine hcall2.mono ?_; clear hcall2; rintro e w7 ⟨nn, rfl, p7, q7, H7⟩; dsimp only)
            all_goals
              go_wp2
              go_roundw
              case rel =>
                obtain ⟨h1, h2, h3, h4⟩ := H7.out
                refine ⟨k + 1, _, hlt, by go_num, h1, h2, fun j hj => ?_, h3⟩
                by_cases e : j = k
                · rw [if_pos e, e, HPk.out, h4]
                · rw [if_neg e]; exact HG.out j (by omega)
              case measure => simp [intOf]; omega
          · have e : k = ps.length := by omega
            have HNum : Hid (∀ j, j < ps.length → G j = .int .i32 (num (tabOf ps ps.length) (ps.getD j (0, 0)) : Nat)) := fun j hj => by
              rw [HG.out j (by omega), htn ps.length (Nat.le_refl _) j hj]
            rw [e] at HSt
            have HMem : Hid (∀ j, j < ps.length → ps.getD j (0, 0) ∈ tabOf ps ps.length) := fun j hj => htm ps.length (Nat.le_refl _) j hj
            have hTl := htl ps.length (Nat.le_refl _)
            have hTok := HTOK.out ps.length (Nat.le_refl _)
            have HTK : Hid (∀ p ∈ tabOf ps ps.length, Ok1 p) := hTok
            subst e
            clear hTok htl htm htn hts HG HTOK
            generalize tabOf ps ps.length = T at *
            rename World => wy
            have HX := HSt
            go_wp2_with fail
            refine (n19 S T wy HSt.out).mono ?_
            rintro e w8 ⟨rfl, rfl⟩
            go_wp2
            clear HSt
            have HSt : Hid (Steps w8 S T) := HX.out
            go_loopw [7] (fun v wr => ∃ (m : Nat), m ≤ ps.length ∧ v = .int .i64 ((m : Int) - 1) ∧ Hid (Steps wr S T) ∧ wr.rowIs N 21 ps.length G ∧ Below S w3 wr) (fun v _ => (intOf v + 1).toNat)
            case atStart => exact ⟨ps.length, Nat.le_refl _, by go_num, HSt.out, hrow, hbel⟩
            case round =>
              clear hrow hbel HSt
              obtain ⟨m, hm, rfl, HSm, hrow, hbel⟩ := hrel
              cases m with
              | succ k =>
                have hlt : k < ps.length := by omega
                have hltI : (k : Int) < (ps.length : Int) := by omega
                have ek : ((k + 1 : Nat) : Int) - 1 = k := by omega
                have hk0 : ¬ ((k : Int) < 0) := by omega
                rw [ek]
                obtain ⟨b, o, ha, hps⟩ := HP3.out
                have jk := idx29 a3 ps.length c3 b o ha k hltI
                have jn := idx22 (some ⟨N, 0, none⟩) ps.length ps.length N 0 (fun _ => rfl) k hltI
                rw [Nat.zero_add] at jn
                obtain ⟨e0, e1⟩ := hps k hlt
                have hb0 : b < S := by rw [← HS3.out]; exact World.block_lt_of_cell? w3 _ e0
                replace e0 := (hbel.cell (p := ⟨b, o + 2 * k, none⟩) hb0).trans e0
                replace e1 := (hbel.cell (p := ⟨b, o + 2 * k + 1, none⟩) hb0).trans e1
                have hokk := HOK.out k hlt
                have hmem := HMem.out k hlt
                have hnum := HNum.out k hlt
                obtain ⟨p, hpk⟩ : ∃ p, ps.getD k (0, 0) = p := ⟨_, rfl⟩
                rw [hpk] at e0 e1 hokk hmem hnum
                obtain ⟨x, y⟩ := p
                obtain ⟨v, rfl⟩ : ∃ v : Nat, y = (v : Int) := ⟨y.toNat, by have := hokk.2.2.1; simp only at this; omega⟩
                simp only at e0 e1
                have hcall := of18 S v x T wr.drew (HSm.out.of_same (fun _ _ => rfl)) hokk HTK.out (by omega)
                rw [addT_of_mem hmem] at hcall
                have hNS : N ≠ S := by omega
                have hcall2 : Calls Try.prog 18 #[.pointer (some ⟨S, 0, none⟩), .int .i32 x, .int .i32 v] wr.drew fun e w' => e = .returned (.int .i32 (num T (x, (v : Int)) : Nat)) ∧ w'.cell? ⟨N, k, none⟩ = some (.int .i32 (num T (x, (v : Int)) : Nat)) ∧
                    Hid (Steps w' S T ∧ w'.rowIs N 21 ps.length G ∧ Below S w3 w') := by
                  refine hcall.mono ?_
                  rintro e w' ⟨rfl, h1, h2⟩
                  have hr' := h2.row (hrow.drew) hNS
                  exact ⟨rfl, (hr'.cell hlt).trans (by rw [hnum]), h1, hr', hbel.drew.trans h2.below⟩
                have pk : wr.cell? ⟨N, k, none⟩ = some (.int .i32 (num T (x, (v : Int)) : Nat)) := (hrow.cell hlt).trans (by rw [hnum])
                generalize num T (x, (v : Int)) = nn at hcall2 pk
                clear hcall hpk hokk hrow hps ha HSm hbel hnum hmem
                go_wp2
                go_region_with (go_at_call 18; refine hcall2.mono ?_; clear hcall2; rintro e w9 ⟨rfl, p9, H9⟩; dsimp only)
                all_goals
                  go_wp2
                  go_roundw
                  case rel =>
                    obtain ⟨h1, h2, h3⟩ := H9.out
                    exact ⟨k, by omega, by go_num, h1, h2, h3⟩
                  case measure => simp [intOf] <;> omega
              | zero =>
                rename World => wz
                go_wp2_with fail
                refine (n19 S T wz HSm.out).mono ?_
                rintro e w10 ⟨rfl, rfl⟩
                go_wp2
                go_loopw [8] (fun v wr => ∃ (k : Nat), k ≤ ps.length ∧ v = .int .i64 k ∧ wr = w10) (fun v _ => ps.length - (intOf v).toNat)
                case atStart => exact ⟨0, Nat.zero_le _, rfl, rfl⟩
                case round =>
                  obtain ⟨k, hk, rfl, rfl⟩ := hrel
                  by_cases hlt : k < ps.length
                  · have hltI : (k : Int) < (ps.length : Int) := by omega
                    have jn := idx22 (some ⟨N, 0, none⟩) ps.length ps.length N 0 (fun _ => rfl) k hltI
                    rw [Nat.zero_add] at jn
                    have pk := (hrow.cell hlt).trans (by rw [HNum.out k hlt])
                    have hlt2 := num_lt (HMem.out k hlt)
                    generalize num T (ps.getD k (0, 0)) = nn at pk hlt2
                    have h0 : ¬ ((nn : Int) < 0) := by omega
                    have h1 : ((nn : Int) < (T.length : Int)) := by omega
                    have h2 : ¬ ((T.length : Int) ≤ (nn : Int)) := by omega
                    clear hrow hbel HSm
                    go_wp2
                    go_roundw
                    case rel => exact ⟨k + 1, hlt, by go_num, by first | rfl | trivial⟩
                    case measure => simp [intOf] <;> omega
                  · have e : k = ps.length := by omega
                    have h1 : ¬ ((T.length : Int) < 0) := by omega
                    have h2 : ((T.length : Int) ≤ (ps.length : Int)) := by omega
                    go_wp2
                    go_ret
                    have hB := HB3.out.size
                    rw [HS3.out] at hB
                    exact ⟨by first | rfl | simp, HB3.out.trans (hbel.mono hB)⟩
    · have hlI : (65536 : Int) < (ps.length : Int) := by omega
      go_wp2
      go_ret
      exact ⟨rfl, Below.refl _ _⟩
end Go.Proofs.Qxb6603794a
