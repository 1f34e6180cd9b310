/-
  b1SameChat at two answers that read as the same messages.
-/
import Derived.Test.Qxb6603195aChatLaws
namespace Go.Proofs.Qxb6603195a
open Go.RowKit

/-- What a message reads as, cell by cell. -/
theorem chat_parts {w : World} {b : Nat} {X : List Ms} (h : ChatAt w b X) (k : Nat) (hk : k < X.length) (m : Ms) (hm : X.getD k ms0 = m) :
    w.cell? ⟨b, 4 * k, none⟩ = some (.string m.role) ∧ w.cell? ⟨b, 4 * k + 3, none⟩ = some (.string m.tid) ∧
    (∃ p, w.cell? ⟨b, 4 * k + 1, none⟩ = some (.pointer p) ∧ (ptrNil m = true → p = none) ∧ (ptrNil m = false → ∃ x, p = some ⟨x, 1, none⟩ ∧ w.cell? ⟨x, 1, none⟩ = some (.string m.content))) ∧
    ∃ a c g, w.cell? ⟨b, 4 * k + 2, none⟩ = some (.slice a m.calls.length c) ∧ (m.calls.length = 0 → a = none ∧ c = 0) ∧ (0 < m.calls.length → a = some ⟨g, 0, none⟩) ∧
      ∀ i, i < m.calls.length → w.cell? ⟨g, 4 * i, none⟩ = some (.string (m.calls.getD i cl0).id) ∧ w.cell? ⟨g, 4 * i + 1, none⟩ = some (.string fnB) ∧ w.cell? ⟨g, 4 * i + 2, none⟩ = some (.string (m.calls.getD i cl0).name) ∧ w.cell? ⟨g, 4 * i + 3, none⟩ = some (.string (m.calls.getD i cl0).args) := by
  obtain ⟨F, hrow, hF⟩ := h
  have h1 := hF k hk
  rw [hm] at h1
  obtain ⟨k0, ⟨p, k1, k2⟩, k3, k4, k5⟩ := h1
  have c : ∀ d, d < 4 → w.cell? ⟨b, 4 * k + d, none⟩ = some (F (4 * k + d)) := fun d hd => hrow.cell (by omega)
  have c0 := c 0 (by omega)
  rw [Nat.add_zero] at c0
  refine ⟨by rw [c0, k0], by rw [c 3 (by omega), k4], ⟨p, by rw [c 1 (by omega), k1], k2.1, fun hn => ?_⟩, ?_⟩
  · obtain ⟨x, h1, _, h3⟩ := k2.2 hn
    exact ⟨x, h1, h3⟩
  · have c2 := c 2 (by omega)
    by_cases h0 : m.calls.length = 0
    · rw [k5 h0] at c2
      exact ⟨none, 0, 0, by rw [c2, h0], fun _ => ⟨rfl, rfl⟩, fun hp => by omega, fun i hi => by omega⟩
    · rcases k3.2 with ⟨e, e0⟩ | ⟨g, cap, cur, e, hb, hg, hle, hmx, hcs, htk⟩
      · exact absurd e0 h0
      · have hcell := k3.cells (g := g) (by rw [e]; rfl)
        rw [e] at c2
        have hadd : ∀ j, (⟨g, 0, none⟩ : Addr).add j = ⟨g, j, none⟩ := fun j => by unfold Addr.add; split <;> simp_all
        refine ⟨_, cap, g, c2, fun hp => absurd hp h0, fun _ => rfl, fun i hi => ?_⟩
        obtain ⟨e0, e1, e2, e3⟩ := outCells_get m.calls i hi
        refine ⟨?_, ?_, ?_, ?_⟩
        · have := hcell _ _ e0
          rwa [hadd] at this
        · have := hcell _ _ e1
          rwa [hadd] at this
        · have := hcell _ _ e2
          rwa [hadd] at this
        · have := hcell _ _ e3
          rwa [hadd] at this

set_option maxRecDepth 100000 in
set_option maxHeartbeats 1000000 in
theorem same29 (b1 b2 : Nat) (X : List Ms) (w : World) (h1 : ChatAt w b1 X) (h2 : ChatAt w b2 X) (hsl : Slim X) :
    Calls Try.prog 29 #[.slice (some ⟨b1, 0, none⟩) X.length X.length, .slice (some ⟨b2, 0, none⟩) X.length X.length] w fun e w' => e = .returned (.bool true) ∧ Drawn w w' := by
  have hn : X.length ≤ 1048576 := hsl.2
  have hone := one_small X hsl.1
  have hp1 := chat_parts h1
  have hp2 := chat_parts h2
  obtain ⟨n, hN⟩ : ∃ n, X.length = n := ⟨_, rfl⟩
  rw [hN] at hp1 hp2 hn hone
  rw [hN]
  clear h1 h2 hN hsl
  have H1 : Hid _ := hp1
  have H2 : Hid _ := hp2
  clear hp1 hp2
  have hnil := fun (w : World) (a : Option Addr) (n c : Nat) => Lib.run_eql_slice_nil (P := Try.prog) w 49 54 a n c 0 0 Try.underlying49
  have hnil2 := fun (w : World) (a : Option Addr) (n c : Nat) => Lib.run_eql_slice_nil (P := Try.prog) w 52 79 a n c 0 0 Try.underlying52
  go_enter Try.func29, Try.ntmps29
  go_wp2
  go_loopw [5] (fun i wr => ∃ k : Nat, k ≤ n ∧ i = .int .i64 k ∧ Drawn w wr) (fun i _ => n - (intOf i).toNat)
  case atStart => exact ⟨0, Nat.zero_le _, rfl, Drawn.refl _⟩
  case round =>
    obtain ⟨k, hk, rfl, hd⟩ := hrel
    by_cases hlt : k < n
    · have hltI : (k : Int) < (n : Int) := by omega
      obtain ⟨r1, t1, ⟨p1, q1, z1, y1⟩, a1, c1, g1, s1, s1n, s1p, e1⟩ := H1.out k hlt _ rfl
      obtain ⟨r2, t2, ⟨p2, q2, z2, y2⟩, a2, c2, g2, s2, s2n, s2p, e2⟩ := H2.out k hlt _ rfl
      obtain ⟨m, hm⟩ : ∃ m, X.getD k ms0 = m := ⟨_, rfl⟩
      have hwm := hone k hlt
      rw [hm] at hwm r1 t1 z1 y1 s1 s1n s1p e1 r2 t2 z2 y2 s2 s2n s2p e2
      have j1 := idx49 (some ⟨b1, 0, none⟩) n n b1 0 (fun _ => rfl) k hltI
      have j2 := idx49 (some ⟨b2, 0, none⟩) n n b2 0 (fun _ => rfl) k hltI
      rw [Nat.zero_add] at j1 j2
      have S1 : Hid _ := s1
      have S2 : Hid _ := s2
      replace r1 := hd.cell r1
      replace t1 := hd.cell t1
      replace q1 := hd.cell q1
      replace s1 := hd.cell s1
      replace r2 := hd.cell r2
      replace t2 := hd.cell t2
      replace q2 := hd.cell q2
      replace s2 := hd.cell s2
      clear hm hone
      obtain ⟨role, content, nl, calls, tid, failed⟩ := m
      simp only at hwm r1 t1 z1 y1 s1 s1n s1p e1 r2 t2 z2 y2 s2 s2n s2p e2
      have E1 : Hid _ := e1
      have E2 : Hid _ := e2
      clear e1 e2
      cases hpn : ptrNil ⟨role, content, nl, calls, tid, failed⟩ with
      | true =>
        rw [z1 hpn] at q1
        rw [z2 hpn] at q2
        clear z1 z2 y1 y2
        have hp : 0 < calls.length := by
          simp only [ptrNil, Bool.and_eq_true, decide_eq_true_eq] at hpn
          exact hpn.2
        have es1 := s1p hp
        have es2 := s2p hp
        subst es1
        subst es2
        clear s1n s2n s1p s2p
        rename World => wy
        go_wp2
        go_quiet (fail)
        rename Nat => nq1
        go_wp2
        go_quiet (fail)
        rename Nat => nq2
        go_wp2
        go_quiet (fail)
        rename Nat => nq3
        go_wp2
        go_quiet (fail)
        rename Nat => nq4
        go_wp2
        have hd3 : Drawn w ((((wy.drewN nq1).drewN nq2).drewN nq3).drewN nq4) := (((hd.more nq1).more nq2).more nq3).more nq4
        generalize (((wy.drewN nq1).drewN nq2).drewN nq3).drewN nq4 = w3 at *
        clear r1 t1 q1 s1 r2 t2 q2 s2 hd
        go_loopw [6] (fun i wx => ∃ u : Nat, u ≤ calls.length ∧ i = .int .i64 u ∧ Drawn w wx) (fun i _ => calls.length - (intOf i).toNat)
        case atStart => exact ⟨0, Nat.zero_le _, rfl, hd3⟩
        case round =>
          clear hd3
          obtain ⟨u, hu, rfl, hdx⟩ := hrel
          have s1 := hdx.cell S1.out
          have s2 := hdx.cell S2.out
          by_cases hlu : u < calls.length
          · have hluI : (u : Int) < (calls.length : Int) := by omega
            obtain ⟨x0, x1, x2, x3⟩ := E1.out u hlu
            obtain ⟨v0, v1, v2, v3⟩ := E2.out u hlu
            replace x0 := hdx.cell x0
            replace x1 := hdx.cell x1
            replace x2 := hdx.cell x2
            replace x3 := hdx.cell x3
            replace v0 := hdx.cell v0
            replace v1 := hdx.cell v1
            replace v2 := hdx.cell v2
            replace v3 := hdx.cell v3
            have i1 := idx52 (some ⟨g1, 0, none⟩) calls.length c1 g1 0 (fun _ => rfl) u hluI
            have i2 := idx52 (some ⟨g2, 0, none⟩) calls.length c2 g2 0 (fun _ => rfl) u hluI
            simp only [Nat.zero_add] at i1 i2
            generalize calls.getD u cl0 = cl at *
            obtain ⟨id, name, args⟩ := cl
            simp only [fnB] at x0 x1 x2 x3 v0 v1 v2 v3
            go_wp2
            go_quiet (fail)
            go_wp2
            go_roundw
            case rel => exact ⟨u + 1, hlu, by go_num, hdx.more _⟩
            case measure => simp [intOf]; omega
          · go_wp2
            go_roundw
            case rel => exact ⟨k + 1, hlt, by go_num, hdx⟩
            case measure => simp [intOf]; omega
      | false =>
        obtain ⟨o1, rfl, d1⟩ := y1 hpn
        obtain ⟨o2, rfl, d2⟩ := y2 hpn
        replace d1 := hd.cell d1
        replace d2 := hd.cell d2
        clear z1 z2 y1 y2
        by_cases hL : calls.length = 0
        · obtain ⟨rfl, rfl⟩ := s1n hL
          obtain ⟨rfl, rfl⟩ := s2n hL
          clear s1n s2n s1p s2p
          rw [hL] at s1 s2 S1 S2
          clear E1 E2
          rename World => wy
          go_wp2
          go_quiet (fail)
          rename Nat => nq1
          go_wp2
          go_quiet (fail)
          rename Nat => nq2
          go_wp2
          go_quiet (fail)
          rename Nat => nq3
          go_wp2
          go_quiet (fail)
          rename Nat => nq4
          go_wp2
          have hd3 : Drawn w ((((wy.drewN nq1).drewN nq2).drewN nq3).drewN nq4) := (((hd.more nq1).more nq2).more nq3).more nq4
          generalize (((wy.drewN nq1).drewN nq2).drewN nq3).drewN nq4 = w3 at *
          clear r1 t1 q1 s1 r2 t2 q2 s2 hd
          have s1 := hd3.cell S1.out
          have s2 := hd3.cell S2.out
          refine wp_loop_rounds 1 ?_
          rw [rounds_succ]
          go_wp2
          go_roundw
          case rel => exact ⟨k + 1, hlt, by go_num, hd3⟩
          case measure => simp [intOf]; omega
        · have hp : 0 < calls.length := by omega
          have es1 := s1p hp
          have es2 := s2p hp
          subst es1
          subst es2
          clear s1n s2n s1p s2p
          rename World => wy
          go_wp2
          go_quiet (fail)
          rename Nat => nq1
          go_wp2
          go_quiet (fail)
          rename Nat => nq2
          go_wp2
          go_quiet (fail)
          rename Nat => nq3
          go_wp2
          go_quiet (fail)
          rename Nat => nq4
          go_wp2
          have hd3 : Drawn w ((((wy.drewN nq1).drewN nq2).drewN nq3).drewN nq4) := (((hd.more nq1).more nq2).more nq3).more nq4
          generalize (((wy.drewN nq1).drewN nq2).drewN nq3).drewN nq4 = w3 at *
          clear d1 d2 r1 t1 q1 s1 r2 t2 q2 s2 hd
          go_loopw [6] (fun i wx => ∃ u : Nat, u ≤ calls.length ∧ i = .int .i64 u ∧ Drawn w wx) (fun i _ => calls.length - (intOf i).toNat)
          case atStart => exact ⟨0, Nat.zero_le _, rfl, hd3⟩
          case round =>
            clear hd3
            obtain ⟨u, hu, rfl, hdx⟩ := hrel
            have s1 := hdx.cell S1.out
            have s2 := hdx.cell S2.out
            by_cases hlu : u < calls.length
            · have hluI : (u : Int) < (calls.length : Int) := by omega
              obtain ⟨x0, x1, x2, x3⟩ := E1.out u hlu
              obtain ⟨v0, v1, v2, v3⟩ := E2.out u hlu
              replace x0 := hdx.cell x0
              replace x1 := hdx.cell x1
              replace x2 := hdx.cell x2
              replace x3 := hdx.cell x3
              replace v0 := hdx.cell v0
              replace v1 := hdx.cell v1
              replace v2 := hdx.cell v2
              replace v3 := hdx.cell v3
              have i1 := idx52 (some ⟨g1, 0, none⟩) calls.length c1 g1 0 (fun _ => rfl) u hluI
              have i2 := idx52 (some ⟨g2, 0, none⟩) calls.length c2 g2 0 (fun _ => rfl) u hluI
              simp only [Nat.zero_add] at i1 i2
              generalize calls.getD u cl0 = cl at *
              obtain ⟨id, name, args⟩ := cl
              simp only [fnB] at x0 x1 x2 x3 v0 v1 v2 v3
              go_wp2
              go_quiet (fail)
              go_wp2
              go_roundw
              case rel => exact ⟨u + 1, hlu, by go_num, hdx.more _⟩
              case measure => simp [intOf]; omega
            · go_wp2
              go_roundw
              case rel => exact ⟨k + 1, hlt, by go_num, hdx⟩
              case measure => simp [intOf]; omega
    · go_wp2
      go_ret
      exact ⟨rfl, hd⟩
end Go.Proofs.Qxb6603195a
