/-
  (*steps).of: the walk.
-/
import Derived.Test.Qxb6603794aLaws
namespace Go.Proofs.Qxb6603794a
open Go.RowKit Go.Maps

def flOf (w : World) (S : Nat) : Nat := match w.cell? ⟨S, 0, none⟩ with | some (.slice _ n _) => n | _ => 0

theorem StF.shape {w : World} {S : Nat} {tab : List Pr} {fl : Nat} {F : Nat → Value} {xs : List Value} (h : StF w S tab fl F xs) : ∃ a c, F 0 = .slice a fl c := by
  rcases h.2.1.2 with ⟨e, e0⟩ | ⟨g, cap, _, e, _⟩
  · exact ⟨none, 0, by rw [e, e0]⟩
  · exact ⟨_, _, e⟩

theorem StF.flOf {w : World} {S : Nat} {tab : List Pr} {fl : Nat} {F : Nat → Value} {xs : List Value} (h : StF w S tab fl F xs) : flOf w S = fl := by
  obtain ⟨a, c, e⟩ := h.shape
  unfold Qxb6603794a.flOf
  rw [h.1.cell (by omega), e]

theorem idx49 (g fl cap v : Nat) (hv : (v : Int) < (fl : Int)) (w : World) : (Instr.indexAt 49 (.slice (some ⟨g, 0, none⟩) fl cap) (.int .i32 v)).run Try.prog w = .ok (.pointer (some ⟨g, 2 * v, none⟩)) w := by
  have hk' : v < fl := by omega
  rw [Nat.mul_comm]
  go_simp

set_option maxRecDepth 100000 in
set_option maxHeartbeats 1000000 in
theorem of28 (S v : Nat) (b : Int) (tab : List Pr) (w : World) (h : Steps w S tab) (hok : Ok1 (b, (v : Int))) (htok : ∀ q ∈ tab, Ok1 q) (hlen : tab.length ≤ 65536) :
    Calls Try.prog 28 #[.pointer (some ⟨S, 0, none⟩), .int .i32 b, .int .i32 v] w fun e w' => e = .returned (.int .i32 (num (addT tab (b, (v : Int))) (b, (v : Int)) : Nat)) ∧ Steps w' S (addT tab (b, (v : Int))) ∧ Kept S w w' := by
  have hv : v ≤ 65536 := by have := hok.2.2.2; simp only at this; omega
  have hb32 : -2147483648 ≤ b ∧ b ≤ 2147483647 := hok.1
  have HSt : Hid (Steps w S tab) := h
  have HOK : Hid (Ok1 (b, (v : Int))) := hok
  have HTOK : Hid (∀ q ∈ tab, Ok1 q) := htok
  clear h hok htok
  go_enter Try.func28, Try.ntmps28
  go_wp2
  go_loopw [10] (fun _ wr => Hid (Steps wr S tab) ∧ Kept S w wr) (fun _ wr => v + 1 - flOf wr S)
  case atStart => exact ⟨HSt.out, Kept.refl _ _⟩
  case round =>
    obtain ⟨HS, hkept⟩ := hrel
    obtain ⟨fl, F, xs, hst⟩ := HS.out
    obtain ⟨a0, c0, hF0⟩ := hst.shape
    have hflof := hst.flOf
    have c0' := hst.1.cell (i := 0) (by omega)
    rw [hF0] at c0'
    by_cases hlt : v < fl
    · have hltI : (v : Int) < (fl : Int) := by omega
      obtain ⟨g, cap, hF0', hSg, e0, e1, z0, z1⟩ := first_cells hst v hlt
      have ee : Value.slice a0 fl c0 = .slice (some ⟨g, 0, none⟩) fl cap := by rw [← hF0, hF0']
      injection ee with ea _ ec
      subst ea ec
      have jv := idx49 g fl c0 v hltI
      have HST : Hid (StF wr S tab fl F xs) := hst
      have n2 := hst.1.cell (i := 2) (by omega)
      have q2 := hst.1.frozen 2
      rw [hst.2.2.2.2.2.2] at n2
      have m1 := hst.1.cell (i := 1) (by omega)
      have q1 := hst.1.frozen 1
      have HMap : Hid (MapSt wr S (F 1) tab) := hst.2.2.2.2.2.1
      have hSlt : S < wr.heap.size := hst.1.lt
      have hInP : Hid (InP (b, (v : Int))) := HOK.out.inP
      clear hst hF0 hflof HSt
      cases hfp : firstP tab (v : Int) with
      | none =>
        obtain ⟨k1, k2⟩ := ent_none hfp
        rw [k1] at e0
        rw [k2] at e1
        have hne : ((0 : Int) == wrap32 (b + 1)) = false := beq_eq_false_iff_ne.2 (fun e => wrap_zero HOK.out.1 HOK.out.2.1 e.symm)
        have hfin := put_first HST.out (p := (b, (v : Int))) (v := v) rfl hlt hfp hF0'
        have hnot := (new_first (p := (b, (v : Int))) hfp).1
        have HFin := (show Hid _ from hfin)
        have HRes : Hid (num (addT tab (b, (v : Int))) (b, (v : Int)) = tab.length ∧ addT tab (b, (v : Int)) = tab ++ [(b, (v : Int))]) := ⟨by rw [addT_of_not hnot]; exact num_new hnot, addT_of_not hnot⟩
        clear hfin hnot k1 k2 hfp m1 q1
        go_wp2
        go_ret
        refine ⟨by rw [HRes.out.1]; rfl, ?_, ?_⟩
        · rw [HRes.out.2]; exact HFin.out.1
        · exact hkept.trans HFin.out.2
      | some q =>
        obtain ⟨qm, q2e⟩ := firstP_some hfp
        have hqok := HTOK.out q qm
        have kB : entB tab (v : Int) = wrap32 (q.1 + 1) := by unfold entB; rw [hfp]
        have kS : entS tab (v : Int) = num tab q := by unfold entS; rw [hfp]
        rw [kB] at e0
        rw [kS] at e1
        by_cases hq : q = (b, (v : Int))
        · subst hq
          have HRes : Hid (addT tab (b, (v : Int)) = tab) := addT_of_mem qm
          clear kB kS hfp m1 q1 n2 q2
          go_wp2
          go_ret
          refine ⟨by rw [HRes.out]; rfl, by rw [HRes.out]; exact HS.out, hkept⟩
        · have hq1 : q.1 ≠ b := fun e => hq (Prod.ext e q2e)
          have hne : (wrap32 (q.1 + 1) == wrap32 (b + 1)) = false := beq_eq_false_iff_ne.2 (fun e => hq1 (wrap_inj hqok.1 HOK.out.1 e))
          have hn0 : (wrap32 (q.1 + 1) == 0) = false := beq_eq_false_iff_ne.2 (wrap_zero hqok.1 hqok.2.1)
          have hfne : Hid (firstP tab (b, (v : Int)).2 ≠ some (b, (v : Int))) := fun e => hq (Option.some.inj (hfp.symm.trans e))
          have hfsome : Hid (firstP tab (b, (v : Int)).2 = some q) := hfp
          have hmn := fun w r => run_eql_map_nil (P := Try.prog) w 34 35 21 r Try.underlying34
          clear kB kS hq hq1 hqok qm q2e hfp
          have hmv : (F 1 = .map none) ∨ ∃ bm, F 1 = .map (some bm) := by
            rcases HMap.out with ⟨e, _⟩ | ⟨bm, _, _, e, _⟩
            · exact .inl e
            · exact .inr ⟨bm, e⟩
          rcases hmv with hF1 | ⟨bm, hF1⟩
          · rw [hF1] at m1
            have hmk : ∀ w : World, (Instr.makeMap 34 none).run Try.prog w = .ok (.map (some w.heap.size)) (w.alloc (.map #[] 0)) := fun _ => rfl
            obtain ⟨hst2, hk2⟩ := make_map HST.out hF1
            have HK2 : Hid _ := hk2
            have HW : Hid _ := hst2
            replace hF1 : (fun j => if j = 1 then Value.map (some wr.heap.size) else F j) 1 = .map (some wr.heap.size) := rfl
            clear hst2 hk2
            obtain ⟨c, hl, hc⟩ := look_run HW.out hF1 hInP.out hfne.out
            simp only at hl
            by_cases hm : (b, (v : Int)) ∈ tab
            · have HRes : Hid (addT tab (b, (v : Int)) = tab) := addT_of_mem hm
              have hcc := hc hm
              subst hcc
              rw [decide_eq_true hm] at hl
              clear hc hm
              go_wp2
              go_ret
              exact ⟨by rw [HRes.out]; rfl, by rw [HRes.out]; exact ⟨_, _, _, HW.out⟩, (hkept.trans HK2.out)⟩
            · obtain ⟨W, hu, p5, q5, H5⟩ := put_more HW.out hF1 hInP.out hltI hfsome.out hm hlen
              simp only at hu
              have HRes : Hid (num (addT tab (b, (v : Int))) (b, (v : Int)) = tab.length ∧ addT tab (b, (v : Int)) = tab ++ [(b, (v : Int))]) := ⟨by rw [addT_of_not hm]; exact num_new hm, addT_of_not hm⟩
              rw [decide_eq_false hm] at hl
              clear hc hm
              go_wp2
              go_ret
              refine ⟨by rw [HRes.out.1]; rfl, ?_, ?_⟩
              · rw [HRes.out.2]; exact H5.out.1
              · exact (hkept.trans HK2.out).trans H5.out.2
          · rw [hF1] at m1
            have HW := HST
            obtain ⟨c, hl, hc⟩ := look_run HW.out hF1 hInP.out hfne.out
            simp only at hl
            by_cases hm : (b, (v : Int)) ∈ tab
            · have HRes : Hid (addT tab (b, (v : Int)) = tab) := addT_of_mem hm
              have hcc := hc hm
              subst hcc
              rw [decide_eq_true hm] at hl
              clear hc hm
              go_wp2
              go_ret
              exact ⟨by rw [HRes.out]; rfl, by rw [HRes.out]; exact ⟨_, _, _, HW.out⟩, hkept⟩
            · obtain ⟨W, hu, p5, q5, H5⟩ := put_more HW.out hF1 hInP.out hltI hfsome.out hm hlen
              simp only at hu
              have HRes : Hid (num (addT tab (b, (v : Int))) (b, (v : Int)) = tab.length ∧ addT tab (b, (v : Int)) = tab ++ [(b, (v : Int))]) := ⟨by rw [addT_of_not hm]; exact num_new hm, addT_of_not hm⟩
              rw [decide_eq_false hm] at hl
              clear hc hm
              go_wp2
              go_ret
              refine ⟨by rw [HRes.out.1]; rfl, ?_, ?_⟩
              · rw [HRes.out.2]; exact H5.out.1
              · exact hkept.trans H5.out.2
    · have hltI : ¬ (v : Int) < (fl : Int) := by omega
      obtain ⟨a', l', c', W5, hr5, p5, q5, H5, hk5⟩ := grow_step hst (by omega)
      rw [hF0] at hr5 p5
      clear hst
      go_wp2_with (at_builtin; refine Lib.wpList_append_run _ rfl _ _ _ _ rfl _ _ rfl rfl _ _ (hr5 _) ?_)
      go_roundw
      case rel =>
        obtain ⟨F', xs', _, h1⟩ := H5.out
        exact ⟨⟨_, _, _, h1⟩, hkept.trans hk5⟩
      case measure =>
        obtain ⟨F', xs', _, h1⟩ := H5.out
        rw [hflof, h1.flOf]
        omega
end Go.Proofs.Qxb6603794a
