/-
  FnAlternatingMatchesRunModel: the walk.
-/
import Derived.Test.Qxb6603195aAlt
import Derived.Test.Qxb6603195aZz14
import Derived.Test.Qxb6603195aJoined
import Derived.Test.Qxb6603195aCallsM
namespace Go.Proofs.Qxb6603195a
open Go.RowKit

set_option maxHeartbeats 400000 in
theorem alt16' (a : Option Addr) (c : Nat) (ms : List Ms) (w : World) (hm : MsgsAt w (fun _ => True) a ms) (hl : Slim ms) :
    Calls Try.prog 16 #[.slice a ms.length c] w fun e w' => ∃ b q, e = .returned (.slice (some ⟨b, 0, none⟩) (alt ms).length q) ∧ MsgsAt w' (fun _ => True) (some ⟨b, 0, none⟩) (alt ms) ∧ Below w.heap.size w w' := by
  have h := alt33 a c ms w hm hl
  clear hm hl
  generalize alt ms = X at *
  go_enter Try.func16, Try.ntmps16
  go_wp2_with fail
  refine h.mono ?_
  rintro e w' ⟨b, q, rfl, h1, h2⟩
  go_wp2
  go_ret
  exact ⟨b, q, rfl, h1, h2⟩

/-- So much of X is compared: k messages, made of the first i. -/
def Sofar (X ms : List Ms) (i k : Nat) : Prop := ∃ pre, X = pre ++ alt (ms.drop i) ∧ pre.length = k

/-- What the k-th message holds. -/
structure GotAt (X ms : List Ms) (i j k : Nat) (g : Ms) : Prop where
  lt : k < X.length
  get : X.getD k ms0 = g
  role : g.role = (ms.getD i ms0).role
  tid : g.tid = (ms.getD i ms0).tid
  failed : g.failed = (ms.getD i ms0).failed
  content : g.content.data.toList = joined (run ms i j)
  calls : g.calls = callsOf (run ms i j)
  nil1 : j = i + 1 → g.isNil = (ms.getD i ms0).isNil
  nil2 : j ≠ i + 1 → g.isNil = g.calls.isEmpty
  next : Sofar X ms j (k + 1)

theorem got_at {X ms : List Ms} {i j k : Nat} (h : Sofar X ms i k) (hr : RunEnd ms i j) : ∃ g, GotAt X ms i j k g := by
  obtain ⟨pre, hX, hk⟩ := h
  have hd := alt_drop ms i j hr
  obtain ⟨hij, hj, _, _, _⟩ := hr
  have hrun := run_cons ms i j hij hj
  obtain ⟨e0, e1, e2⟩ := mergeAll_role (ms.getD i ms0) (run ms (i + 1) j)
  have e3 := mergeAll_calls (ms.getD i ms0) (run ms (i + 1) j)
  have e4 := mergeAll_content (ms.getD i ms0) (run ms (i + 1) j)
  rw [← hrun] at e4
  refine ⟨mergeAll (ms.getD i ms0) (run ms (i + 1) j), ?_, ?_, e0, e1, e2, e4, ?_, fun e => ?_, fun e => ?_, pre ++ [mergeAll (ms.getD i ms0) (run ms (i + 1) j)], ?_, ?_⟩
  · rw [hX, hd]
    simp
    omega
  · rw [hX, hd, List.getD, List.getElem?_append_right (by omega), hk, Nat.sub_self]
    rfl
  · rw [e3, hrun]
    simp [callsOf]
  · subst e
    rw [run_self]
    rfl
  · have e5 := run_cons ms (i + 1) j (by omega) hj
    rw [e5]
    exact mergeAll_nil _ _ _
  · rw [hX, hd]
    simp
  · simp [hk]

theorem sofar_end {X ms : List Ms} {k : Nat} (h : Sofar X ms ms.length k) : X.length = k := by
  obtain ⟨pre, hX, hk⟩ := h
  rw [hX, List.drop_length]
  simpa [alt] using hk

theorem cnt_zero {g : Ms} {l : List Ms} (h : g.calls = callsOf l) : g.calls.isEmpty = ((cnt l : Int) == 0) := by
  have hl := callsOf_len l
  rw [← h] at hl
  rw [← hl]
  cases g.calls with
  | nil => rfl
  | cons x xs =>
    symm
    simp
    omega

set_option maxRecDepth 100000 in
set_option maxHeartbeats 1000000 in
theorem law4 (a : Option Addr) (c : Nat) (ms : List Ms) (w : World) (hn : ms.length ≤ maxLen) (hm : MsgsAt w (fun _ => True) a ms) :
    Calls Try.prog 4 #[.slice a ms.length c] w fun e w' => e = .returned (.bool true) ∧ Below w.heap.size w w' := by
  have h14 := zz14 a c ms _ w hn hm
  have h15 := fit15 a c ms _ w hm
  have h17 := tomsg17 a c ms _ w hm
  clear hn
  go_enter Try.func4, Try.ntmps4
  go_wp2_with fail
  refine h14.mono ?_
  rintro e w1 ⟨⟨r, rfl, hr⟩, rfl⟩
  cases r with
  | false =>
    go_wp2
    go_ret
    exact ⟨rfl, Below.refl _ _⟩
  | true =>
    have hl := hr rfl
    have h15 := h15 hl
    have h17 := h17 hl
    have hs := hl.slim
    clear hr hl
    go_wp2_with fail
    refine h15.mono ?_
    rintro e w2 ⟨⟨r, rfl, _⟩, rfl⟩
    cases r with
    | false =>
      go_wp2
      go_ret
      exact ⟨rfl, Below.refl _ _⟩
    | true =>
      go_wp2_with fail
      refine h17.mono ?_
      rintro e w3 ⟨a3, c3, rfl, hm3, hb3⟩
      have h16 := alt16' a3 c3 ms w3 hm3 hs
      have hXs := one_small (alt ms) hs.alt.1
      have hXl : (alt ms).length ≤ 1048576 := hs.alt.2
      have hst : Sofar (alt ms) ms 0 0 := ⟨[], rfl, rfl⟩
      have hn : ms.length ≤ 1048576 := hs.2
      generalize alt ms = X at *
      go_wp2_with fail
      refine h16.mono ?_
      rintro e w5 ⟨bg, q, rfl, hg5, hb5⟩
      have hm5 : MsgsAt w5 (fun _ => True) a ms := (hm.same (Below.sameTrue hb3)).same (Below.sameTrue hb5)
      have hbw : Below w2.heap.size w2 w5 := hb3.trans (hb5.mono hb3.size)
      clear hm hm3 h16 h15 h17 hs
      have HM5 : Hid (MsgsAt w5 (fun _ => True) a ms) := hm5
      have HBW : Hid (Below w2.heap.size w2 w5) := hbw
      have HN : Hid (ms.length ≤ 1048576) := hn
      obtain ⟨b, o, ha, hms⟩ := hm5
      obtain ⟨xb, xo, hxa, hxs⟩ := hg5
      have hidx := idx32 a ms.length c b o (fun hp => (ha hp).1)
      have hgidx := idx34 (some ⟨bg, 0, none⟩) X.length q xb xo (fun hp => (hxa hp).1)
      have HMs : Hid (∀ i, i < ms.length → MsAt w5 (fun _ => True) b (o + 5 * i) (ms.getD i ms0)) := hms
      have HXs : Hid (∀ i, i < X.length → MsAt w5 (fun _ => True) xb (xo + 5 * i) (X.getD i ms0)) := hxs
      have HOne : Hid _ := hXs
      clear ha hxa hms hxs hbw hb3 hb5 hXs
      have hnil := fun (w : World) (a : Option Addr) (n c : Nat) => Lib.run_eql_slice_nil (P := Try.prog) w 34 41 a n c 0 0 Try.underlying34
      go_wp2
      go_loopw [4, 5] (fun kv iv wr => ∃ i k : Nat, i ≤ ms.length ∧ kv = .int .i64 k ∧ iv = .int .i64 i ∧ Hid (Sofar X ms i k) ∧ Below w5.heap.size w5 wr) (fun _ iv _ => ms.length - (intOf iv).toNat)
      case atStart => exact ⟨0, 0, Nat.zero_le _, rfl, rfl, hst, Below.refl _ _⟩
      case round =>
        clear hst
        obtain ⟨i, k, hi, rfl, rfl, HSo, hbel⟩ := hrel
        by_cases hlt : i < ms.length
        · have hltI : (i : Int) < (ms.length : Int) := by omega
          have hrun := fun w => run18 a c ms (fun _ => True) w
          have h18 := run18 a c ms _ wr (HM5.out.same (Below.sameTrue hbel)) HN.out i hlt
          rename World => wy
          go_wp2_with fail
          refine h18.mono ?_
          rintro e w6 ⟨⟨j, rfl, hRE⟩, hd6⟩
          clear h18 hrun
          have hb6 : Below w5.heap.size w5 w6 := hbel.trans (hd6.below _)
          obtain ⟨g, hG⟩ := got_at HSo.out hRE
          have hij := hRE.1
          have hjn := hRE.2.1
          clear hRE hd6 hbel
          have hklt : k < X.length := hG.lt
          have hkI : (k : Int) < (X.length : Int) := by omega
          have hgm := HXs.out k hklt
          have hgs := HOne.out k hklt
          rw [hG.get] at hgm hgs
          obtain ⟨mi, hmi⟩ : ∃ m, ms.getD i ms0 = m := ⟨_, rfl⟩
          have hmm := HMs.out i hlt
          rw [hmi] at hmm
          have eR := hG.role
          have eT := hG.tid
          have eF := hG.failed
          have eC := hG.content
          have eK := hG.calls
          have eN1 := hG.nil1
          have eN2 := hG.nil2
          have eZ := cnt_zero hG.calls
          have HNx : Hid (Sofar X ms j (k + 1)) := hG.next
          rw [hmi] at eR eT eF eN1
          clear hG hmi
          obtain ⟨ca, cc, y2, hyc⟩ : ∃ ca cc, w5.cell? ⟨b, o + 5 * i + 2, none⟩ = some (.slice ca mi.calls.length cc) ∧ ca.isNone = mi.isNil := by
            obtain ⟨_, _, ⟨v, hv, hcs⟩, _, _⟩ := hmm
            obtain ⟨ca, cc, _, _, e, e2, _⟩ := hcs
            rw [e] at hv
            exact ⟨ca, cc, hv, e2⟩
          obtain ⟨ga, gc, x2, hgcs, hgn⟩ : ∃ ga gc, w5.cell? ⟨xb, xo + 5 * k + 2, none⟩ = some (.slice ga g.calls.length gc) ∧ CallsAt w5 (fun _ => True) (.slice ga g.calls.length gc) g.isNil g.calls ∧ ga.isNone = g.isNil := by
            obtain ⟨_, _, ⟨v, hv, hcs⟩, _, _⟩ := hgm
            obtain ⟨ga, gc, e⟩ := oneCell_calls hcs
            rw [e] at hv hcs
            have hcs' := hcs
            obtain ⟨ga', gc', _, _, e', e2, _⟩ := hcs'
            injection e' with e1 _ _
            exact ⟨ga, gc, hv, hcs, by rw [e1]; exact e2⟩
          obtain ⟨x0, x1, _, x3, x4⟩ := hgm
          obtain ⟨y0, _, _, y3, y4⟩ := hmm
          obtain ⟨grole, gcontent, gnl, gcalls, gtid, gfailed⟩ := g
          obtain ⟨role, content, nl, calls, tid, failed⟩ := mi
          simp only at eR eT eF eC eK eN1 eN2 eZ x0 x1 x2 x3 x4 y0 y2 y3 y4 hgs hgcs hgn hyc
          subst eR eT eF
          have Y : Hid (w5.cell? ⟨b, o + 5 * i, none⟩ = some (.string grole) ∧ w5.cell? ⟨b, o + 5 * i + 2, none⟩ = some (.slice ca calls.length cc) ∧ w5.cell? ⟨b, o + 5 * i + 3, none⟩ = some (.string gtid) ∧ w5.cell? ⟨b, o + 5 * i + 4, none⟩ = some (.bool gfailed)) := ⟨y0, y2, y3, y4⟩
          replace x0 := below_cell (Nat.le_refl _) hb6 x0
          replace x1 := below_cell (Nat.le_refl _) hb6 x1
          replace x2 := below_cell (Nat.le_refl _) hb6 x2
          replace x3 := below_cell (Nat.le_refl _) hb6 x3
          replace x4 := below_cell (Nat.le_refl _) hb6 x4
          have ji := hidx i hltI
          have jk := hgidx k hkI
          have HCS : Hid (CallsAt w5 (fun _ => True) (.slice ga gcalls.length gc) gnl gcalls) := hgcs
          have EC : Hid (gcontent.data.toList = joined (run ms i j)) := eC
          have EK : Hid (gcalls = callsOf (run ms i j)) := eK
          have EN1 : Hid (j = i + 1 → gnl = nl) := eN1
          have EN2 : Hid (j ≠ i + 1 → gnl = gcalls.isEmpty) := eN2
          have EZ : Hid (gcalls.isEmpty = ((cnt (run ms i j) : Int) == 0)) := eZ
          have HGN : Hid (ga.isNone = gnl) := hgn
          have HYC : Hid (ca.isNone = nl) := hyc
          clear eC eK eN1 eN2 eZ hgcs hgn hyc y0 y2 y3 y4 hidx hgidx hnil
          go_wp2
          have hbox := box5 w6 grole gcontent gtid gfailed ga gcalls.length gc
          obtain ⟨W, hW⟩ : ∃ W, w6.alloc (.cells #[.string grole, .string gcontent, .slice ga gcalls.length gc, .string gtid, .bool gfailed] 41) = W := ⟨_, rfl⟩
          have hbW : Below w5.heap.size w5 W := by rw [← hW]; exact hb6.alloc hb6.size _
          have hWs : w6.heap.size < W.heap.size := by rw [← hW]; simp
          rw [hW] at hbox
          rw [hW]
          obtain ⟨M, hM⟩ : ∃ M, w6.heap.size = M := ⟨_, rfl⟩
          rw [hM] at hbox hWs
          rw [hM]
          obtain ⟨b0, b1, b2, b3, b4, _⟩ := hbox
          clear hW hM x0 x1 x2 x3 x4 hb6
          obtain ⟨y0, y2, y3, y4⟩ := Y.out
          replace y0 := below_cell (Nat.le_refl _) hbW y0
          replace y3 := below_cell (Nat.le_refl _) hbW y3
          replace y4 := below_cell (Nat.le_refl _) hbW y4
          clear y2
          go_quiet (fail)
          have hd : Drawn W (W.drewN nq) := (Drawn.refl _).more nq
          have hbV : Below w5.heap.size w5 (W.drewN nq) := hbW.trans (hd.below _)
          have hVs : M < (W.drewN nq).heap.size := by rw [hd.heap]; exact hWs
          replace b1 := hd.cell b1
          replace b2 := hd.cell b2
          generalize W.drewN nq = V at *
          clear b0 b3 b4 y0 y3 y4 hbW hWs hd jk
          go_wp2_with fail
          refine (joined19 gcontent a c ms _ V (HM5.out.same (Below.sameTrue hbV)) HN.out i j (by omega) hjn EC.out (by omega)).mono ?_
          rintro e w8 ⟨rfl, rfl⟩
          go_wp2_with fail
          refine (calls20 (.slice ga gcalls.length gc) gnl gcalls _ a c ms _ w8 (HCS.out.same (Below.sameTrue hbV)) (HM5.out.same (Below.sameTrue hbV)) HN.out i j (by omega) hjn EK.out (by omega)).mono ?_
          rintro e w9 ⟨rfl, hb9⟩
          have hb59 : Below w5.heap.size w5 w9 := hbV.trans (hb9.mono hbV.size)
          have b2' := (hb9.cell (p := ⟨M, 2, none⟩) hVs).trans b2
          clear b1 b2 hbV hVs hb9
          have hng : ∀ w : World, (binOp .eql 39 (.slice ga gcalls.length gc) (.slice none 0 0)).run Try.prog w = .ok (.bool gnl) w := fun w => by
            rw [Lib.run_eql_slice_nil (P := Try.prog) w 39 74 ga gcalls.length gc 0 0 Try.underlying39, HGN.out]
          have hjI : (i : Int) < (j : Int) := by omega
          by_cases h1 : j = i + 1
          · have hnc : ∀ w : World, (binOp .eql 42 (.slice ca calls.length cc) (.slice none 0 0)).run Try.prog w = .ok (.bool nl) w := fun w => by
              rw [Lib.run_eql_slice_nil (P := Try.prog) w 42 73 ca calls.length cc 0 0 Try.underlying42, HYC.out]
            have hgn1 := EN1.out h1
            subst hgn1
            have y2 := below_cell (Nat.le_refl _) hb59 Y.out.2.1
            have hsub : ((j : Int) - (i : Int)) = 1 := by omega
            have HJ : Hid (j = i + 1) := h1
            clear h1
            go_wp2
            go_quiet (fail)
            have hfin : Below w5.heap.size w5 (w9.drewN nq) := hb59.trans (((Drawn.refl w9).more nq).below _)
            go_wp2
            go_roundw
            case rel => exact ⟨j, k + 1, hjn, by go_num, rfl, HNx.out, hfin⟩
            case measure => simp [intOf]; omega
          · have hsub : ((j : Int) - (i : Int) == 1) = false := beq_eq_false_iff_ne.2 (by omega)
            have hgn2 := EN2.out h1
            rw [EZ.out] at hgn2
            have hcn : cnt (run ms i j) ≤ 4000000 := by rw [← callsOf_len, ← EK.out]; omega
            have h21 := fun w' hbl => count21 a c ms _ w' (HM5.out.same (Below.sameTrue hbl)) HN.out i j (by omega) hjn hcn
            generalize cnt (run ms i j) = C at *
            cases hz : ((C : Int) == 0) with
            | true =>
              rw [hz] at hgn2
              subst hgn2
              go_wp2
              go_quiet ((go_at_call 21; exact Calls.quiet_of_same (h21 _ (hb59.trans (((Drawn.refl w9).more _).below _)))))
              have hfin : Below w5.heap.size w5 (w9.drewN nq) := hb59.trans (((Drawn.refl w9).more nq).below _)
              go_wp2
              go_roundw
              case rel => exact ⟨j, k + 1, hjn, by go_num, rfl, HNx.out, hfin⟩
              case measure => simp [intOf]; omega
            | false =>
              rw [hz] at hgn2
              subst hgn2
              go_wp2
              go_quiet ((go_at_call 21; exact Calls.quiet_of_same (h21 _ (hb59.trans (((Drawn.refl w9).more _).below _)))))
              have hfin : Below w5.heap.size w5 (w9.drewN nq) := hb59.trans (((Drawn.refl w9).more nq).below _)
              go_wp2
              go_roundw
              case rel => exact ⟨j, k + 1, hjn, by go_num, rfl, HNx.out, hfin⟩
              case measure => simp [intOf]; omega
        · have e : i = ms.length := by omega
          subst e
          have hxl := sofar_end HSo.out
          subst hxl
          clear hidx hgidx hnil
          go_wp2
          go_ret
          exact ⟨rfl, HBW.out.trans (hbel.mono HBW.out.size)⟩
end Go.Proofs.Qxb6603195a
