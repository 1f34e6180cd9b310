/-
  alternating: the walk.
-/
import Derived.Test.Qxb6603195aAltLaws
import Derived.Deep.RegionWith
namespace Go.Proofs.Qxb6603195a
open Go.RowKit

set_option maxRecDepth 100000 in
set_option maxHeartbeats 1000000 in
theorem alt33 (a : Option Addr) (c : Nat) (ms : List Ms) (w : World) (hm : MsgsAt w (fun _ => True) a ms) (hl : Slim ms) :
    Calls Try.prog 33 #[.slice a ms.length c] w fun e w' => ∃ b q, e = .returned (.slice (some ⟨b, 0, none⟩) (alt ms).length q) ∧ MsgsAt w' (fun _ => True) (some ⟨b, 0, none⟩) (alt ms) ∧ Below w.heap.size w w' := by
  have hn : ms.length ≤ 1048576 := hl.2
  have hone := one_small ms hl.1
  have htk := hl.take
  obtain ⟨b, o, ha, hms⟩ := hm
  obtain ⟨n, hN⟩ : ∃ n, ms.length = n := ⟨_, rfl⟩
  have halen := alt_le ms
  have hasucc := alt_succ ms
  rw [hN] at hn ha hms hone htk halen hasucc ⊢
  have HN : Hid (ms.length = n) := hN
  clear hN hl
  have hmk : ∀ w, (Instr.makeSlice 34 (.int .i64 0) (.int .i64 (n : Int))).run Try.prog w = .ok (.slice (some ⟨w.heap.size, 0, none⟩) 0 n) (w.alloc (.cells (madeCells #[.string .empty, .string .empty, .slice none 0 0, .string .empty, .bool false] (n * 5)) 41)) := mk_slice Try.underlying34 Try.info41 0 n (Nat.zero_le _) (by omega) (by omega)
  have hidx := idx34 a n c b o (fun hp => (ha hp).1)
  have HA : Hid (∀ k, k < n → alt (ms.take (k + 1)) = altStep (alt (ms.take k)) (ms.getD k ms0)) := hasucc
  clear ha hasucc
  go_enter Try.func33, Try.ntmps33
  go_wp2
  have hst : Tm w (w.alloc (.cells (madeCells #[.string .empty, .string .empty, .slice none 0 0, .string .empty, .bool false] (n * 5)) 41)) w.heap.size n [] 0 :=
    ⟨⟨_, row_made w _ _ 41, fun j hj => by omega⟩, (Below.refl _ _).alloc (Nat.le_refl _) _, by simp⟩
  obtain ⟨B, hB⟩ : ∃ B, w.heap.size = B := ⟨_, rfl⟩
  rw [hB] at hst
  rw [hB]
  have HBs : Hid (w.heap.size = B) := hB
  clear hB hmk
  generalize w.alloc (.cells (madeCells #[.string .empty, .string .empty, .slice none 0 0, .string .empty, .bool false] (n * 5)) 41) = w1 at *
  go_loopw [3, 14] (fun s i wr => ∃ k len : Nat, k ≤ n ∧ i = .int .i64 k ∧ s = .slice (some ⟨B, 0, none⟩) len n ∧ Hid ((alt (ms.take k)).length = len) ∧ Tm w wr B n (alt (ms.take k)) len) (fun _ i _ => n - (intOf i).toNat)
  case atStart => exact ⟨0, 0, Nat.zero_le _, rfl, rfl, rfl, by simpa [alt] using hst⟩
  case round =>
    obtain ⟨k, len, hk, rfl, rfl, HLN, ⟨F, hrow, hF⟩, hbel, hsz⟩ := hrel
    by_cases hlt : k < n
    · have hltI : (k : Int) < (n : Int) := by omega
      have hmk := hms k hlt
      have hwm := hone k hlt
      have hlk := halen k hk
      rw [HLN.out] at hlk
      have hXs := htk k hk
      have hstep := HA.out k hlt
      have hXs1 := htk (k + 1) (by omega)
      obtain ⟨m, hm⟩ : ∃ m, ms.getD k ms0 = m := ⟨_, rfl⟩
      obtain ⟨X, hX⟩ : ∃ X, alt (ms.take k) = X := ⟨_, rfl⟩
      rw [hX] at HLN hF hXs hstep
      rw [hm] at hmk hwm hstep
      rw [hstep] at hXs1
      have HSt : Hid (alt (ms.take (k + 1)) = altStep X m) := hstep
      have hcm : ∃ ca cc, w.cell? ⟨b, o + 5 * k + 2, none⟩ = some (.slice ca m.calls.length cc) ∧ CallsAt w (fun _ => True) (.slice ca m.calls.length cc) m.isNil m.calls := by
        obtain ⟨_, _, ⟨v, hv, hcs⟩, _, _⟩ := hmk
        obtain ⟨ca, cc, e⟩ := oneCell_calls hcs
        rw [e] at hv hcs
        exact ⟨ca, cc, hv, hcs⟩
      obtain ⟨ca, cc, g2, hcs⟩ := hcm
      obtain ⟨g0, g1, _, g3, g4⟩ := hmk
      have hcsr : CallsAt wr (· ≠ B) (.slice ca m.calls.length cc) m.isNil m.calls :=
        (hcs.weak (ok' := (· ≠ B)) (fun x hx _ => by rw [HBs.out] at hx; omega)).same (fun x hx _ => hbel.block x (by rw [HBs.out] at hx; exact hx))
      replace g0 := below_cell (Nat.le_of_eq HBs.out) hbel g0
      replace g1 := below_cell (Nat.le_of_eq HBs.out) hbel g1
      replace g2 := below_cell (Nat.le_of_eq HBs.out) hbel g2
      replace g3 := below_cell (Nat.le_of_eq HBs.out) hbel g3
      replace g4 := below_cell (Nat.le_of_eq HBs.out) hbel g4
      have j0 := hidx k hltI
      have HCS : Hid (CallsAt wr (· ≠ B) (.slice ca m.calls.length cc) m.isNil m.calls) := hcsr
      have HF : Hid (∀ j, j < X.length → MsF wr B F (5 * j) (X.getD j ms0)) := fun j hj => hF j (by rw [← HLN.out]; exact hj)
      have HR : Hid (wr.rowIs B 41 (n * 5) F) := hrow
      clear hidx hms hm hone halen htk hX hstep hcs hcsr HA hF
      obtain ⟨role, content, nl, calls, tid, failed⟩ := m
      simp only at g0 g1 g2 g3 g4 hwm
      go_wp2
      obtain ⟨W, hW⟩ : ∃ W, wr.alloc (.cells #[.string role, .string content, .slice ca calls.length cc, .string tid, .bool failed] 41) = W := ⟨_, rfl⟩
      obtain ⟨M, hM⟩ : ∃ M, wr.heap.size = M := ⟨_, rfl⟩
      have hbox := box5 wr role content tid failed ca calls.length cc
      have hWs : W.heap.size = M + 1 := by rw [← hW, ← hM]; simp
      have hWrow : W.rowIs B 41 (n * 5) F := by rw [← hW]; exact hrow.alloc _
      have hWb : Below wr.heap.size wr W := by rw [← hW]; exact (Below.refl _ _).alloc (Nat.le_refl _) _
      rw [hW, hM] at hbox
      rw [hW, hM]
      rw [hM] at hsz hWb
      have HM : Hid (wr.heap.size = M) := hM
      obtain ⟨b0, b1, b2, b3, b4, _⟩ := hbox
      clear hW hM g0 g1 g2 g3 g4 j0 hrow
      have HWB : Hid (Below M wr W) := hWb
      have HWR : Hid (W.rowIs B 41 (n * 5) F) := hWrow
      by_cases h0 : len = 0
      · subst h0
        clear hWrow hWb hWs
        go_quiet (fail)
        have hd : Drawn W (W.drewN nq) := (Drawn.refl _).more nq
        generalize W.drewN nq = w2 at *
        obtain ⟨W3, hr3, hfin⟩ := app_done (m := ⟨role, content, nl, calls, tid, failed⟩) HN.out hbel HBs.out HWB.out HM.out hsz hd HWR.out HF.out HCS.out HLN.out (by omega) rfl rfl rfl rfl
        replace b0 := hd.cell b0
        replace b1 := hd.cell b1
        replace b2 := hd.cell b2
        replace b3 := hd.cell b3
        replace b4 := hd.cell b4
        go_wp2_with (at_builtin; refine Lib.wpList_append_run _ rfl _ _ _ _ rfl _ _ rfl rfl _ _ (hr3 _) ?_)
        go_roundw
        case rel => exact ⟨k + 1, 0 + 1, by omega, by go_num, rfl, alt_app HSt.out (by simp [apartB, HLN.out]) HLN.out, by rw [alt_app' HSt.out (by simp [apartB, HLN.out])]; exact hfin⟩
        case measure => simp [intOf]; omega
      · have h0b : ((len : Int) == 0) = false := beq_eq_false_iff_ne.2 (by omega)
        have h1I : (1 : Int) ≤ (len : Int) := by omega
        have jl := idxlast B len n (by omega)
        obtain ⟨P, hP⟩ : ∃ P, 5 * (len - 1) = P := ⟨_, rfl⟩
        rw [hP] at jl
        have hxl := HF.out (X.length - 1) (by rw [HLN.out]; omega)
        have exl : X.getD (X.length - 1) ms0 = lastM X := rfl
        rw [exl, HLN.out, hP] at hxl
        have hPn : P + 5 ≤ n * 5 := by omega
        have p0 := hWrow.cell (i := P) (by omega)
        have p1 := hWrow.cell (i := P + 1) (by omega)
        have p2 := hWrow.cell (i := P + 2) (by omega)
        have q0 := hWrow.frozen (P + 1)
        have q2 := hWrow.frozen (P + 2)
        obtain ⟨xa, xc, hxv⟩ := oneCell_calls hxl.2.2.1
        rw [hxl.1] at p0
        rw [hxl.2.1] at p1
        rw [hxv] at p2
        have HXL : Hid (MsF wr B F P (lastM X)) := hxl
        have HXV : Hid (F (P + 2) = .slice xa (lastM X).calls.length xc) := hxv
        have HP : Hid (5 * (len - 1) = P) := hP
        clear hxl hxv exl hP
        have hwx := one_small X hXs (X.length - 1) (by rw [HLN.out]; omega)
        have exl : X.getD (X.length - 1) ms0 = lastM X := rfl
        rw [exl] at hwx
        clear exl
        obtain ⟨x, hx⟩ : ∃ x, lastM X = x := ⟨_, rfl⟩
        rw [hx] at p0 p1 p2 HXL HXV hwx
        have HX : Hid (lastM X = x) := hx
        obtain ⟨xrole, xcontent, xnl, xcalls, xtid, xfailed⟩ := x
        simp only at p0 p1 p2 hwx
        clear hx
        cases ht : (role.toList == [116, 111, 111, 108]) with
        | true =>
          have hap : apartB X ⟨role, content, nl, calls, tid, failed⟩ = true := by simp [apartB, isTool, ht]
          have HAP : Hid (apartB X ⟨role, content, nl, calls, tid, failed⟩ = true) := hap
          clear hWrow hWb hWs hap p1 p2 q0 q2
          go_quiet (fail)
          have hd : Drawn W (W.drewN nq) := (Drawn.refl _).more nq
          generalize W.drewN nq = w2 at *
          obtain ⟨W3, hr3, hfin⟩ := app_done (m := ⟨role, content, nl, calls, tid, failed⟩) HN.out hbel HBs.out HWB.out HM.out hsz hd HWR.out HF.out HCS.out HLN.out (by omega) rfl rfl rfl rfl
          replace b0 := hd.cell b0
          replace b1 := hd.cell b1
          replace b2 := hd.cell b2
          replace b3 := hd.cell b3
          replace b4 := hd.cell b4
          go_wp2_with (at_builtin; refine Lib.wpList_append_run _ rfl _ _ _ _ rfl _ _ rfl rfl _ _ (hr3 _) ?_)
          go_roundw
          case rel => exact ⟨k + 1, len + 1, by omega, by go_num, rfl, alt_app HSt.out HAP.out HLN.out, by rw [alt_app' HSt.out HAP.out]; exact hfin⟩
          case measure => simp [intOf]; omega
        | false =>
          cases hr : (xrole.toList == role.toList) with
          | false =>
            have hap : apartB X ⟨role, content, nl, calls, tid, failed⟩ = true := by
              simp only [apartB, HX.out, sameS, hr]
              simp
            have HAP : Hid (apartB X ⟨role, content, nl, calls, tid, failed⟩ = true) := hap
            clear hWrow hWb hWs hap p1 p2 q0 q2
            go_quiet (fail)
            have hd : Drawn W (W.drewN nq) := (Drawn.refl _).more nq
            generalize W.drewN nq = w2 at *
            obtain ⟨W3, hr3, hfin⟩ := app_done (m := ⟨role, content, nl, calls, tid, failed⟩) HN.out hbel HBs.out HWB.out HM.out hsz hd HWR.out HF.out HCS.out HLN.out (by omega) rfl rfl rfl rfl
            replace b0 := hd.cell b0
            replace b1 := hd.cell b1
            replace b2 := hd.cell b2
            replace b3 := hd.cell b3
            replace b4 := hd.cell b4
            go_wp2_with (at_builtin; refine Lib.wpList_append_run _ rfl _ _ _ _ rfl _ _ rfl rfl _ _ (hr3 _) ?_)
            go_roundw
            case rel => exact ⟨k + 1, len + 1, by omega, by go_num, rfl, alt_app HSt.out HAP.out HLN.out, by rw [alt_app' HSt.out HAP.out]; exact hfin⟩
            case measure => simp [intOf]; omega
          | true =>
            go_quiet (fail)
            have hd : Drawn W (W.drewN nq) := (Drawn.refl _).more nq
            generalize W.drewN nq = w2 at *
            go_wp2
            replace b1 := hd.cell b1
            replace b2 := hd.cell b2
            replace p1 := hd.cell p1
            replace p2 := hd.cell p2
            have hs2 : Hid (w2.heap.size = M + 1) := by show w2.heap.size = M + 1; rw [hd.heap]; exact hWs
            clear hWs b0 b3 b4 p0
            refine wp_region_still_tail 6 (by kernel_rfl) (by kernel_rfl) ?_
            simp only [List.take_succ_cons, List.take_zero, List.drop_succ_cons, List.drop_zero]
            repeat still_step
            refine wpStill_nil ?_
            go_wp2_with fail
            obtain ⟨t0, t1, tf0, tf1⟩ := tbox w2 xcontent content
            refine (del37 w2.heap.size xcontent content _ t0 t1 tf0 tf1).mono ?_
            rintro e w4 ⟨rfl, hcells, hg4⟩
            clear t0 t1 tf0 tf1
            have hb4 : Below w2.heap.size w2 w4 := ((Below.refl _ _).alloc (Nat.le_refl _) _).drew.grown hg4 (by simp) (fun j hj => by cases hj; exact Nat.le_refl _)
            have hT4 : w2.heap.size < w4.heap.size := Nat.lt_of_lt_of_le (by simp) hg4.size
            obtain ⟨T, hT⟩ : ∃ T, w2.heap.size = T := ⟨_, rfl⟩
            rw [hT] at hcells hb4 hT4 hs2
            rw [hT]
            have HT : Hid (w2.heap.size = T) := hT
            have HB4 : Hid (Below T w2 w4) := hb4
            clear hg4 hT
            go_wp2_with fail
            refine (join39 T xcontent content _ hcells hT4 (by omega) (by omega)).mono ?_
            rintro e w5 ⟨rfl, hb5⟩
            have hb25 : Below T w2 w5 := hb4.trans (hb5.mono (Nat.le_of_lt hT4))
            have hBT : B < T := by have := hs2.out; omega
            have hMT : M < T := by have := hs2.out; omega
            have p1' := (hb25.cell (p := ⟨B, P + 1, none⟩) hBT).trans p1
            have q1' := (hb25.frozen (p := ⟨B, P + 1, none⟩) hBT).trans ((drawn_frozen hd _).trans q0)
            clear hcells hb4 hb5
            go_wp2
            have p2' : (w5.setCell ⟨B, P + 1, none⟩ (.string (joinB xcontent content))).cell? ⟨B, P + 2, none⟩ = some (.slice xa xcalls.length xc) := by
              rw [World.cell?_setCell_other _ _ _ _ (by simp)]
              exact (hb25.cell (p := ⟨B, P + 2, none⟩) hBT).trans p2
            have b2' : (w5.setCell ⟨B, P + 1, none⟩ (.string (joinB xcontent content))).cell? ⟨M, 2, none⟩ = some (.slice ca calls.length cc) := by
              rw [World.cell?_setCell_other _ _ _ _ (by simp)]
              exact (hb25.cell (p := ⟨M, 2, none⟩) hMT).trans b2
            have f2' : (w5.setCell ⟨B, P + 1, none⟩ (.string (joinB xcontent content))).frozen? ⟨B, P + 2, none⟩ = false := by
              rw [World.frozen?_setCell]
              exact (hb25.frozen (p := ⟨B, P + 2, none⟩) hBT).trans ((drawn_frozen hd _).trans q2)
            have hsm : Same (· ≠ B) wr (w5.setCell ⟨B, P + 1, none⟩ (.string (joinB xcontent content))) := fun x hx hne => by
              rw [HM.out] at hx
              rw [Below.heap_setCell _ _ _ _ hne, hb25.block x (by omega), hd.heap, HWB.out.block x hx]
            have hrow6 : (w5.setCell ⟨B, P + 1, none⟩ (.string (joinB xcontent content))).rowIs B 41 (n * 5) (fun j => if j = P + 1 then .string (joinB xcontent content) else F j) :=
              ((hd.row HWR.out).of_block (hb25.block B hBT)).set (P + 1) _
            have hbel6 : Below B w (w5.setCell ⟨B, P + 1, none⟩ (.string (joinB xcontent content))) :=
              Below.setCell (((hbel.trans (HWB.out.mono (Nat.le_of_lt hsz))).trans (hd.below B)).trans (hb25.mono (Nat.le_of_lt hBT))) (p := ⟨B, P + 1, none⟩) (Nat.le_refl _) _
            have hsz6 : wr.heap.size ≤ (w5.setCell ⟨B, P + 1, none⟩ (.string (joinB xcontent content))).heap.size := by
              rw [size_setCell, HM.out]
              have := hb25.size
              rw [HT.out] at this
              omega
            have HG6 : Hid (Same (· ≠ B) wr (w5.setCell ⟨B, P + 1, none⟩ (.string (joinB xcontent content))) ∧ (w5.setCell ⟨B, P + 1, none⟩ (.string (joinB xcontent content))).rowIs B 41 (n * 5) (fun j => if j = P + 1 then .string (joinB xcontent content) else F j) ∧ Below B w (w5.setCell ⟨B, P + 1, none⟩ (.string (joinB xcontent content))) ∧ wr.heap.size ≤ (w5.setCell ⟨B, P + 1, none⟩ (.string (joinB xcontent content))).heap.size) := ⟨hsm, hrow6, hbel6, hsz6⟩
            clear hsm hrow6 hbel6 hsz6 p1 p2 b1 b2 p1' q1' q0 q2 hb25 HB4
            generalize w5.setCell ⟨B, P + 1, none⟩ (.string (joinB xcontent content)) = w6 at *
            obtain ⟨g1, g2, g3, g4⟩ := HG6.out
            have hcat := merge_call (x := ⟨xrole, xcontent, xnl, xcalls, xtid, xfailed⟩) (m := ⟨role, content, nl, calls, tid, failed⟩) (by rw [HM.out]; exact hsz) g1 g2 g3 g4 HF.out HLN.out (by omega) (by omega) HP.out HX.out HXV.out HCS.out (by simp only; omega)
            have hap : Hid (apartB X ⟨role, content, nl, calls, tid, failed⟩ = false) := by
              show apartB X ⟨role, content, nl, calls, tid, failed⟩ = false
              simp only [apartB, HX.out, HLN.out, sameS, isTool, hr, ht]
              simpa using h0
            simp only at hcat
            clear g1 g2 g3 g4 HG6
            go_region_with (go_at_call 40; refine hcat.mono ?_; clear hcat; rintro e w7 ⟨a7, L7, c7, rfl, p7, f7, H7⟩; dsimp only)
            all_goals
              clear hwx hXs1 hwm h0b jl p2' b2' f2' p7 f7 hd hBT hMT hT4 hWrow hWb
              go_wp2
              go_roundw
              case rel =>
                clear h0 hPn HP
                have hY := alt_mrg HSt.out hap.out HX.out HLN.out
                have hL : Hid ((alt (ms.take (k + 1))).length = len) := by show _ = _; rw [hY, List.length_set]; exact HLN.out
                rw [← hY] at H7
                exact ⟨k + 1, len, hlt, by go_num, rfl, hL, H7.out⟩
              case measure => simp [intOf]; omega
    · clear hidx hms
      go_wp2
      go_ret
      have e : k = n := by omega
      subst e
      have htl : ms.take k = ms := by rw [← HN.out, List.take_length]
      rw [htl] at HLN hF
      refine ⟨B, k, by rw [HLN.out]; rfl, alt_done hrow (fun j hj => hF j (by rw [← HLN.out]; exact hj)) (by rw [HLN.out]; have := halen k hk; rw [htl, HLN.out] at this; exact this), by rw [HBs.out]; exact hbel⟩
end Go.Proofs.Qxb6603195a
