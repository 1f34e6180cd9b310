/-
  chatMessages: the walk.
-/
import Derived.Test.Qxb6603195aChatLaws
import Derived.Deep.RegionWith
namespace Go.Proofs.Qxb6603195a
open Go.RowKit

set_option maxRecDepth 100000 in
set_option maxHeartbeats 1000000 in
theorem chat35 (a : Option Addr) (c : Nat) (ms : List Ms) (w : World) (hm : MsgsAt w (fun _ => True) a ms) (hl : Slim ms) :
    Calls Try.prog 35 #[.slice a ms.length c] w fun e w' => ∃ b, e = .returned (.slice (some ⟨b, 0, none⟩) (alt ms).length (alt ms).length) ∧ ChatAt w' b (alt ms) ∧ Below w.heap.size w w' := by
  have halt := alt33 a c ms w hm hl
  have hsl := hl.alt
  clear hm hl
  generalize alt ms = X at *
  go_enter Try.func35, Try.ntmps35
  go_wp2_with fail
  refine halt.mono ?_
  rintro e w0 ⟨b, q, rfl, hms0, hbel0⟩
  clear halt
  have hn : X.length ≤ 1048576 := hsl.2
  have hone := one_small X hsl.1
  obtain ⟨b1, o, ha, hms⟩ := hms0
  obtain ⟨n, hN⟩ : ∃ n, X.length = n := ⟨_, rfl⟩
  rw [hN] at hn ha hms hone
  rw [hN]
  have HN : Hid (X.length = n) := hN
  clear hN hsl
  have hmk : ∀ w, (Instr.makeSlice 49 (.int .i64 (n : Int)) (.int .i64 (n : Int))).run Try.prog w = .ok (.slice (some ⟨w.heap.size, 0, none⟩) n n) (w.alloc (.cells (madeCells #[.string .empty, .pointer none, .slice none 0 0, .string .empty] (n * 4)) 54)) := mk_slice Try.underlying49 Try.info54 n n (Nat.le_refl _) (by omega) (by omega)
  have hidx := idx34 (some ⟨b, 0, none⟩) n q b1 o (fun hp => (ha hp).1)
  clear ha
  go_wp2
  have hst : Ch w0 (w0.alloc (.cells (madeCells #[.string .empty, .pointer none, .slice none 0 0, .string .empty] (n * 4)) 54)) w0.heap.size n X 0 :=
    ⟨⟨_, row_made w0 _ _ 54, fun j hj => by omega⟩, (Below.refl _ _).alloc (Nat.le_refl _) _, by simp⟩
  obtain ⟨B, hB⟩ : ∃ B, w0.heap.size = B := ⟨_, rfl⟩
  rw [hB] at hst
  rw [hB]
  have HBs : Hid (w0.heap.size = B) := hB
  clear hB hmk
  generalize w0.alloc (.cells (madeCells #[.string .empty, .pointer none, .slice none 0 0, .string .empty] (n * 4)) 54) = w1 at *
  go_loopw [16] (fun i wr => ∃ k : Nat, k ≤ n ∧ i = .int .i64 k ∧ Ch w0 wr B n X k) (fun i _ => n - (intOf i).toNat)
  case atStart => exact ⟨0, Nat.zero_le _, rfl, hst⟩
  case round =>
    obtain ⟨k, hk, rfl, ⟨F, hrow, hF⟩, hbel, hsz⟩ := hrel
    by_cases hlt : k < n
    · have hltI : (k : Int) < (n : Int) := by omega
      have hmk := hms k hlt
      have hwm := hone k hlt
      obtain ⟨m, hm⟩ : ∃ m, X.getD k ms0 = m := ⟨_, rfl⟩
      rw [hm] at hmk hwm
      have HM : Hid (X.getD k ms0 = m) := hm
      obtain ⟨ca, cc, b', o', g2, hnl, hca, hcl⟩ := msg_parts hmk
      obtain ⟨g0, g1, _, g3, g4⟩ := hmk
      replace g0 := below_cell (Nat.le_of_eq HBs.out) hbel g0
      replace g1 := below_cell (Nat.le_of_eq HBs.out) hbel g1
      replace g2 := below_cell (Nat.le_of_eq HBs.out) hbel g2
      replace g3 := below_cell (Nat.le_of_eq HBs.out) hbel g3
      replace g4 := below_cell (Nat.le_of_eq HBs.out) hbel g4
      have j0 := hidx k hltI
      have jo := idx49 (some ⟨B, 0, none⟩) n n B 0 (fun _ => rfl) k hltI
      rw [Nat.zero_add] at jo
      have HF : Hid (∀ j, j < k → ChF wr B F (4 * j) (X.getD j ms0)) := hF
      have HCL : Hid (∀ i, i < m.calls.length → ClAt w0 b' (o' + 3 * i) (m.calls.getD i cl0)) := hcl
      have HCA : Hid (0 < m.calls.length → ca = some ⟨b', o', none⟩) := hca
      clear hidx hms hm hone hF hcl hca hnl
      obtain ⟨role, content, nl, calls, tid, failed⟩ := m
      simp only at g0 g1 g2 g3 g4 hwm HCL HCA
      have f0 := hrow.frozen (4 * k)
      have f1 := hrow.frozen (4 * k + 1)
      have f2 := hrow.frozen (4 * k + 2)
      have f3 := hrow.frozen (4 * k + 3)
      have r0 := hrow.cell (i := 4 * k) (by omega)
      have r1 := hrow.cell (i := 4 * k + 1) (by omega)
      have r2 := hrow.cell (i := 4 * k + 2) (by omega)
      have r3 := hrow.cell (i := 4 * k + 3) (by omega)
      obtain ⟨y0, hy0⟩ : ∃ y, F (4 * k) = y := ⟨_, rfl⟩
      obtain ⟨y1, hy1⟩ : ∃ y, F (4 * k + 1) = y := ⟨_, rfl⟩
      obtain ⟨y2, hy2⟩ : ∃ y, F (4 * k + 2) = y := ⟨_, rfl⟩
      obtain ⟨y3, hy3⟩ : ∃ y, F (4 * k + 3) = y := ⟨_, rfl⟩
      rw [hy0] at r0
      rw [hy1] at r1
      rw [hy2] at r2
      rw [hy3] at r3
      clear hy0 hy1 hy2 hy3
      have HBel : Hid (Below B w0 wr) := hbel
      have HRow : Hid (wr.rowIs B 54 (n * 4) F) := hrow
      clear hrow hbel
      have jc := idx39 ca calls.length cc b' o' HCA.out
      rename World => wy
      obtain ⟨M, hM⟩ : ∃ M, wy.heap.size = M := ⟨_, rfl⟩
      have HMs : Hid (wy.heap.size = M) := hM
      have HBM : Hid (B < M) := by show B < M; rw [← hM]; exact hsz
      clear hM
      cases hE : content.toList.isEmpty with
      | true =>
        by_cases hc0 : 0 < calls.length
        · have hcI : (0 : Int) < (calls.length : Int) := by omega
          have hP : Hid ((none : Option Addr) = if ptrNil ⟨role, content, nl, calls, tid, failed⟩ then none else some ⟨M, 1, none⟩) := by
            show _ = _
            simp [ptrNil, hE, hc0]
          go_wp2
          rw [HMs.out]
          have hin := ch_lay_nil (n := n) (k := k) (role := role) (content := content) (tid := tid) (nl := nl) (failed := failed) (calls := calls) (ca := ca) (cc := cc) (L := calls.length) HRow.out HBel.out HBM.out HMs.out
          clear hsz hcI hc0 hE g0 g1 g2 g3 g4 f0 f1 f2 f3 r0 r1 r2 r3
          generalize World.alloc _ _ = w2 at *
          go_loopw [46] (fun i wx => ∃ (u : Nat) (v : Value), u ≤ calls.length ∧ i = .int .i64 u ∧ ChI w0 wy wx B n M F k ⟨role, content, nl, calls, tid, failed⟩ none v u) (fun i _ => calls.length - (intOf i).toNat)
          case atStart => exact ⟨0, _, Nat.zero_le _, rfl, hin⟩
          case round =>
            obtain ⟨u, v, hu, rfl, hI⟩ := hrel
            by_cases hlu : u < calls.length
            · have hluI : (u : Int) < (calls.length : Int) := by omega
              have HI : Hid (ChI w0 wy wr B n M F k ⟨role, content, nl, calls, tid, failed⟩ none v u) := hI
              obtain ⟨hsm, ⟨G, hrow, hG, k0, k1, k2, k3⟩, hown, hbx, hbel, hMs, _⟩ := hI
              obtain ⟨e0, e1, e2⟩ := HCL.out u hlu
              replace e0 := below_cell (Nat.le_of_eq HBs.out) hbel e0
              replace e1 := below_cell (Nat.le_of_eq HBs.out) hbel e1
              replace e2 := below_cell (Nat.le_of_eq HBs.out) hbel e2
              obtain ⟨cl, hcl'⟩ : ∃ m, calls.getD u cl0 = m := ⟨_, rfl⟩
              rw [hcl'] at e0 e1 e2
              have HC : Hid (calls.getD u cl0 = cl) := hcl'
              obtain ⟨id, name, args⟩ := cl
              simp only at e0 e1 e2
              have ju := jc u hluI
              have f2 := hrow.frozen (4 * k + 2)
              have r2 := hrow.cell (i := 4 * k + 2) (by omega)
              rw [k2] at r2
              clear hsm hrow hG k0 k1 k2 k3 hown hbx hbel hcl' jc hin
              go_wp2
              go_region
              go_wp2
              have hW : Below wr.heap.size wr ((wr.alloc (.cells #[.string id, .string name, .string args] 74)).alloc (.cells #[.string id, .string ⟨#[102, 117, 110, 99, 116, 105, 111, 110]⟩, .string name, .string args] 79)).drew := (((Below.refl _ _).alloc (Nat.le_refl _) _).alloc (by simp) _).drew
              have hnew : ((wr.alloc (.cells #[.string id, .string name, .string args] 74)).alloc (.cells #[.string id, .string ⟨#[102, 117, 110, 99, 116, 105, 111, 110]⟩, .string name, .string args] 79)).drew.heap[wr.heap.size + 1]? = some (.cells #[.string id, .string ⟨#[102, 117, 110, 99, 116, 105, 111, 110]⟩, .string name, .string args] 79 (0, 0)) := by
                have := heap_alloc_new (wr.alloc (.cells #[.string id, .string name, .string args] 74)) (.cells #[.string id, .string ⟨#[102, 117, 110, 99, 116, 105, 111, 110]⟩, .string name, .string args] 79)
                rw [size_alloc1] at this
                exact this
              generalize ((wr.alloc (.cells #[.string id, .string name, .string args] 74)).alloc (.cells #[.string id, .string ⟨#[102, 117, 110, 99, 116, 105, 111, 110]⟩, .string name, .string args] 79)).drew = W4 at *
              obtain ⟨a', l', c', W5, hr5, p5, q5, H5⟩ := ch_app HI.out hlt HMs.out HBM.out hlu (by simp only; omega) HC.out hW
              simp only [fnB] at hr5
              have r2' := below_cell (Nat.le_refl _) hW r2
              have r2'' : (W4.alloc (.cells #[.string id, .string ⟨#[102, 117, 110, 99, 116, 105, 111, 110]⟩, .string name, .string args] 79)).cell? ⟨B, 4 * k + 2, none⟩ = some v := below_cell (Nat.le_refl _) ((Below.refl _ _).alloc (Nat.le_refl _) _) r2'
              have x0 : W4.cell? ⟨wr.heap.size + 1, 0, none⟩ = some (.string id) := by rw [cell_of_row _ _ _ _ _ _ hnew]; rfl
              have x1 : W4.cell? ⟨wr.heap.size + 1, 1, none⟩ = some (.string ⟨#[102, 117, 110, 99, 116, 105, 111, 110]⟩) := by rw [cell_of_row _ _ _ _ _ _ hnew]; rfl
              have x2 : W4.cell? ⟨wr.heap.size + 1, 2, none⟩ = some (.string name) := by rw [cell_of_row _ _ _ _ _ _ hnew]; rfl
              have x3 : W4.cell? ⟨wr.heap.size + 1, 3, none⟩ = some (.string args) := by rw [cell_of_row _ _ _ _ _ _ hnew]; rfl
              clear hW hnew f2 r2 e0 e1 e2 ju j0 hMs
              generalize wr.heap.size + 1 = X2 at *
              go_region_law (refine step_append_run rfl _ _ _ rfl _ _ rfl rfl _ _ (hr5 _) ?_)
              all_goals
                go_wp2
                go_roundw
                case rel => exact ⟨u + 1, _, hlu, by go_num, H5.out⟩
                case measure => simp [intOf]; omega
            · have eu : u = calls.length := by omega
              subst eu
              clear jc jo hin
              go_wp2
              go_roundw
              case rel => exact ⟨k + 1, hlt, by go_num, ch_end hI rfl HBM.out HM.out HF.out hP.out⟩
              case measure => simp [intOf]; omega
        · have hcI : ¬ (0 : Int) < (calls.length : Int) := by omega
          have hP : Hid ((some ⟨M, 1, none⟩ : Option Addr) = if ptrNil ⟨role, content, nl, calls, tid, failed⟩ then none else some ⟨M, 1, none⟩) := by
            show _ = _
            simp [ptrNil, hc0]
          go_wp2
          rw [HMs.out]
          have hin := ch_lay (n := n) (k := k) (role := role) (content := content) (tid := tid) (nl := nl) (failed := failed) (calls := calls) (ca := ca) (cc := cc) (L := calls.length) HRow.out HBel.out HBM.out HMs.out
          clear hsz hcI hc0 hE g0 g1 g2 g3 g4 f0 f1 f2 f3 r0 r1 r2 r3
          generalize World.alloc _ _ = w2 at *
          go_loopw [46] (fun i wx => ∃ (u : Nat) (v : Value), u ≤ calls.length ∧ i = .int .i64 u ∧ ChI w0 wy wx B n M F k ⟨role, content, nl, calls, tid, failed⟩ (some ⟨M, 1, none⟩) v u) (fun i _ => calls.length - (intOf i).toNat)
          case atStart => exact ⟨0, _, Nat.zero_le _, rfl, hin⟩
          case round =>
            obtain ⟨u, v, hu, rfl, hI⟩ := hrel
            by_cases hlu : u < calls.length
            · have hluI : (u : Int) < (calls.length : Int) := by omega
              have HI : Hid (ChI w0 wy wr B n M F k ⟨role, content, nl, calls, tid, failed⟩ (some ⟨M, 1, none⟩) v u) := hI
              obtain ⟨hsm, ⟨G, hrow, hG, k0, k1, k2, k3⟩, hown, hbx, hbel, hMs, _⟩ := hI
              obtain ⟨e0, e1, e2⟩ := HCL.out u hlu
              replace e0 := below_cell (Nat.le_of_eq HBs.out) hbel e0
              replace e1 := below_cell (Nat.le_of_eq HBs.out) hbel e1
              replace e2 := below_cell (Nat.le_of_eq HBs.out) hbel e2
              obtain ⟨cl, hcl'⟩ : ∃ m, calls.getD u cl0 = m := ⟨_, rfl⟩
              rw [hcl'] at e0 e1 e2
              have HC : Hid (calls.getD u cl0 = cl) := hcl'
              obtain ⟨id, name, args⟩ := cl
              simp only at e0 e1 e2
              have ju := jc u hluI
              have f2 := hrow.frozen (4 * k + 2)
              have r2 := hrow.cell (i := 4 * k + 2) (by omega)
              rw [k2] at r2
              clear hsm hrow hG k0 k1 k2 k3 hown hbx hbel hcl' jc hin
              go_wp2
              go_region
              go_wp2
              have hW : Below wr.heap.size wr ((wr.alloc (.cells #[.string id, .string name, .string args] 74)).alloc (.cells #[.string id, .string ⟨#[102, 117, 110, 99, 116, 105, 111, 110]⟩, .string name, .string args] 79)).drew := (((Below.refl _ _).alloc (Nat.le_refl _) _).alloc (by simp) _).drew
              have hnew : ((wr.alloc (.cells #[.string id, .string name, .string args] 74)).alloc (.cells #[.string id, .string ⟨#[102, 117, 110, 99, 116, 105, 111, 110]⟩, .string name, .string args] 79)).drew.heap[wr.heap.size + 1]? = some (.cells #[.string id, .string ⟨#[102, 117, 110, 99, 116, 105, 111, 110]⟩, .string name, .string args] 79 (0, 0)) := by
                have := heap_alloc_new (wr.alloc (.cells #[.string id, .string name, .string args] 74)) (.cells #[.string id, .string ⟨#[102, 117, 110, 99, 116, 105, 111, 110]⟩, .string name, .string args] 79)
                rw [size_alloc1] at this
                exact this
              generalize ((wr.alloc (.cells #[.string id, .string name, .string args] 74)).alloc (.cells #[.string id, .string ⟨#[102, 117, 110, 99, 116, 105, 111, 110]⟩, .string name, .string args] 79)).drew = W4 at *
              obtain ⟨a', l', c', W5, hr5, p5, q5, H5⟩ := ch_app HI.out hlt HMs.out HBM.out hlu (by simp only; omega) HC.out hW
              simp only [fnB] at hr5
              have r2' := below_cell (Nat.le_refl _) hW r2
              have r2'' : (W4.alloc (.cells #[.string id, .string ⟨#[102, 117, 110, 99, 116, 105, 111, 110]⟩, .string name, .string args] 79)).cell? ⟨B, 4 * k + 2, none⟩ = some v := below_cell (Nat.le_refl _) ((Below.refl _ _).alloc (Nat.le_refl _) _) r2'
              have x0 : W4.cell? ⟨wr.heap.size + 1, 0, none⟩ = some (.string id) := by rw [cell_of_row _ _ _ _ _ _ hnew]; rfl
              have x1 : W4.cell? ⟨wr.heap.size + 1, 1, none⟩ = some (.string ⟨#[102, 117, 110, 99, 116, 105, 111, 110]⟩) := by rw [cell_of_row _ _ _ _ _ _ hnew]; rfl
              have x2 : W4.cell? ⟨wr.heap.size + 1, 2, none⟩ = some (.string name) := by rw [cell_of_row _ _ _ _ _ _ hnew]; rfl
              have x3 : W4.cell? ⟨wr.heap.size + 1, 3, none⟩ = some (.string args) := by rw [cell_of_row _ _ _ _ _ _ hnew]; rfl
              clear hW hnew f2 r2 e0 e1 e2 ju j0 hMs
              generalize wr.heap.size + 1 = X2 at *
              go_region_law (refine step_append_run rfl _ _ _ rfl _ _ rfl rfl _ _ (hr5 _) ?_)
              all_goals
                go_wp2
                go_roundw
                case rel => exact ⟨u + 1, _, hlu, by go_num, H5.out⟩
                case measure => simp [intOf]; omega
            · have eu : u = calls.length := by omega
              subst eu
              clear jc jo hin
              go_wp2
              go_roundw
              case rel => exact ⟨k + 1, hlt, by go_num, ch_end hI rfl HBM.out HM.out HF.out hP.out⟩
              case measure => simp [intOf]; omega
      | false =>
        have hP : Hid ((some ⟨M, 1, none⟩ : Option Addr) = if ptrNil ⟨role, content, nl, calls, tid, failed⟩ then none else some ⟨M, 1, none⟩) := by
          show _ = _
          simp [ptrNil, hE]
        go_wp2
        rw [HMs.out]
        have hin := ch_lay (n := n) (k := k) (role := role) (content := content) (tid := tid) (nl := nl) (failed := failed) (calls := calls) (ca := ca) (cc := cc) (L := calls.length) HRow.out HBel.out HBM.out HMs.out
        clear hsz hE g0 g1 g2 g3 g4 f0 f1 f2 f3 r0 r1 r2 r3
        generalize World.alloc _ _ = w2 at *
        go_loopw [46] (fun i wx => ∃ (u : Nat) (v : Value), u ≤ calls.length ∧ i = .int .i64 u ∧ ChI w0 wy wx B n M F k ⟨role, content, nl, calls, tid, failed⟩ (some ⟨M, 1, none⟩) v u) (fun i _ => calls.length - (intOf i).toNat)
        case atStart => exact ⟨0, _, Nat.zero_le _, rfl, hin⟩
        case round =>
          obtain ⟨u, v, hu, rfl, hI⟩ := hrel
          by_cases hlu : u < calls.length
          · have hluI : (u : Int) < (calls.length : Int) := by omega
            have HI : Hid (ChI w0 wy wr B n M F k ⟨role, content, nl, calls, tid, failed⟩ (some ⟨M, 1, none⟩) v u) := hI
            obtain ⟨hsm, ⟨G, hrow, hG, k0, k1, k2, k3⟩, hown, hbx, hbel, hMs, _⟩ := hI
            obtain ⟨e0, e1, e2⟩ := HCL.out u hlu
            replace e0 := below_cell (Nat.le_of_eq HBs.out) hbel e0
            replace e1 := below_cell (Nat.le_of_eq HBs.out) hbel e1
            replace e2 := below_cell (Nat.le_of_eq HBs.out) hbel e2
            obtain ⟨cl, hcl'⟩ : ∃ m, calls.getD u cl0 = m := ⟨_, rfl⟩
            rw [hcl'] at e0 e1 e2
            have HC : Hid (calls.getD u cl0 = cl) := hcl'
            obtain ⟨id, name, args⟩ := cl
            simp only at e0 e1 e2
            have ju := jc u hluI
            have f2 := hrow.frozen (4 * k + 2)
            have r2 := hrow.cell (i := 4 * k + 2) (by omega)
            rw [k2] at r2
            clear hsm hrow hG k0 k1 k2 k3 hown hbx hbel hcl' jc hin
            go_wp2
            go_region
            go_wp2
            have hW : Below wr.heap.size wr ((wr.alloc (.cells #[.string id, .string name, .string args] 74)).alloc (.cells #[.string id, .string ⟨#[102, 117, 110, 99, 116, 105, 111, 110]⟩, .string name, .string args] 79)).drew := (((Below.refl _ _).alloc (Nat.le_refl _) _).alloc (by simp) _).drew
            have hnew : ((wr.alloc (.cells #[.string id, .string name, .string args] 74)).alloc (.cells #[.string id, .string ⟨#[102, 117, 110, 99, 116, 105, 111, 110]⟩, .string name, .string args] 79)).drew.heap[wr.heap.size + 1]? = some (.cells #[.string id, .string ⟨#[102, 117, 110, 99, 116, 105, 111, 110]⟩, .string name, .string args] 79 (0, 0)) := by
              have := heap_alloc_new (wr.alloc (.cells #[.string id, .string name, .string args] 74)) (.cells #[.string id, .string ⟨#[102, 117, 110, 99, 116, 105, 111, 110]⟩, .string name, .string args] 79)
              rw [size_alloc1] at this
              exact this
            generalize ((wr.alloc (.cells #[.string id, .string name, .string args] 74)).alloc (.cells #[.string id, .string ⟨#[102, 117, 110, 99, 116, 105, 111, 110]⟩, .string name, .string args] 79)).drew = W4 at *
            obtain ⟨a', l', c', W5, hr5, p5, q5, H5⟩ := ch_app HI.out hlt HMs.out HBM.out hlu (by simp only; omega) HC.out hW
            simp only [fnB] at hr5
            have r2' := below_cell (Nat.le_refl _) hW r2
            have r2'' : (W4.alloc (.cells #[.string id, .string ⟨#[102, 117, 110, 99, 116, 105, 111, 110]⟩, .string name, .string args] 79)).cell? ⟨B, 4 * k + 2, none⟩ = some v := below_cell (Nat.le_refl _) ((Below.refl _ _).alloc (Nat.le_refl _) _) r2'
            have x0 : W4.cell? ⟨wr.heap.size + 1, 0, none⟩ = some (.string id) := by rw [cell_of_row _ _ _ _ _ _ hnew]; rfl
            have x1 : W4.cell? ⟨wr.heap.size + 1, 1, none⟩ = some (.string ⟨#[102, 117, 110, 99, 116, 105, 111, 110]⟩) := by rw [cell_of_row _ _ _ _ _ _ hnew]; rfl
            have x2 : W4.cell? ⟨wr.heap.size + 1, 2, none⟩ = some (.string name) := by rw [cell_of_row _ _ _ _ _ _ hnew]; rfl
            have x3 : W4.cell? ⟨wr.heap.size + 1, 3, none⟩ = some (.string args) := by rw [cell_of_row _ _ _ _ _ _ hnew]; rfl
            clear hW hnew f2 r2 e0 e1 e2 ju j0 hMs
            generalize wr.heap.size + 1 = X2 at *
            go_region_law (refine step_append_run rfl _ _ _ rfl _ _ rfl rfl _ _ (hr5 _) ?_)
            all_goals
              go_wp2
              go_roundw
              case rel => exact ⟨u + 1, _, hlu, by go_num, H5.out⟩
              case measure => simp [intOf]; omega
          · have eu : u = calls.length := by omega
            subst eu
            clear jc jo hin
            go_wp2
            go_roundw
            case rel => exact ⟨k + 1, hlt, by go_num, ch_end hI rfl HBM.out HM.out HF.out hP.out⟩
            case measure => simp [intOf]; omega
    · clear hidx hms
      go_wp2
      go_ret
      have e : k = n := by omega
      subst e
      refine ⟨B, by rw [HN.out]; rfl, ?_, ?_⟩
      · exact ⟨F, by rw [HN.out]; exact hrow, fun j hj => hF j (by rw [← HN.out]; exact hj)⟩
      · exact hbel0.trans (hbel.mono (by rw [← HBs.out]; exact hbel0.size))
end Go.Proofs.Qxb6603195a
