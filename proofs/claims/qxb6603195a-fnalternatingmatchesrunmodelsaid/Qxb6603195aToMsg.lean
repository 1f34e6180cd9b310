/-
  b1ToMessages: fresh memory that reads as the argument reads.
-/
import Derived.Test.Qxb6603195aFit
import Derived.StillTailTactics
namespace Go.Proofs.Qxb6603195a
open Go.RowKit

theorem Try.info41 : (Try.prog.info? 41).map (fun i => (i.zero, i.size, i.bytes)) = some (some (.agg #[.string .empty, .string .empty, .slice none 0 0, .string .empty, .bool false]), 5, 80) := by kernel_rfl
theorem Try.info74 : (Try.prog.info? 74).map (fun i => (i.zero, i.size, i.bytes)) = some (some (.agg #[.string .empty, .string .empty, .string .empty]), 3, 48) := by kernel_rfl

theorem mk_slice {t e size bytes : Nat} {z : Value} (ht : Try.prog.underlying t = some (.slice e)) (hinfo : (Try.prog.info? e).map (fun i => (i.zero, i.size, i.bytes)) = some (some z, size, bytes)) (l n : Nat) (hl : l ≤ n) (hb : bytes * n ≤ 281474976710656) (h63 : n ≤ 9223372036854775807) (w : World) :
    (Instr.makeSlice t (.int .i64 (l : Int)) (.int .i64 (n : Int))).run Try.prog w = .ok (.slice (some ⟨w.heap.size, 0, none⟩) l n) (w.alloc (.cells (madeCells z.cells (n * size)) e)) := by
  obtain ⟨i, hi, hzz⟩ := Option.map_eq_some_iff.1 hinfo
  simp only [Prod.mk.injEq] at hzz
  obtain ⟨hz, hs, hby⟩ := hzz
  have hr := run_make (P := Try.prog) w t e i z ht hi hz .i64 .i64 l n (by omega) (by omega) (by rw [hby]; omega) (by omega)
  rw [hs] at hr
  simpa using hr

theorem row_made (w : World) (zc : Array Value) (n : Nat) (t : TypeId) : (w.alloc (.cells (madeCells zc n) t)).rowIs w.heap.size t n (fun i => zc[i % zc.size]!) :=
  ⟨_, Go.Deep.blk_alloc_new _ _, size_madeCells _ _, fun i hi => by simp [madeCells, hi]⟩

/-- The cells F from o on hold the message m; its calls lie outside block B. -/
def MsF (w : World) (B : Nat) (F : Nat → Value) (o : Nat) (m : Ms) : Prop :=
  F o = .string m.role ∧ F (o + 1) = .string m.content ∧ CallsAt w (· ≠ B) (F (o + 2)) m.isNil m.calls ∧ F (o + 3) = .string m.tid ∧ F (o + 4) = .bool m.failed

/-- Block B holds the first k messages. -/
def Tm (w wr : World) (B n : Nat) (ms : List Ms) (k : Nat) : Prop :=
  (∃ F, wr.rowIs B 41 (n * 5) F ∧ ∀ j, j < k → MsF wr B F (5 * j) (ms.getD j ms0)) ∧ Below B w wr ∧ B < wr.heap.size

theorem below_cell {B : Nat} {w w' : World} (hB : w.heap.size ≤ B) (h : Below B w w') {p : Addr} {v : Value} (hp : w.cell? p = some v) : w'.cell? p = some v := by
  rw [h.cell (Nat.lt_of_lt_of_le (World.block_lt_of_cell? w p hp) hB)]
  exact hp

theorem Below.sameTrue {w w' : World} (h : Below w.heap.size w w') : Same (fun _ => True) w w' := fun b hb _ => h.block b hb

theorem same_setCell {B : Nat} (w : World) (o : Nat) (v : Value) : Same (· ≠ B) w (w.setCell ⟨B, o, none⟩ v) := fun _ _ hne => Below.heap_setCell _ _ _ _ hne
theorem same_drew (ok : Nat → Prop) (w : World) : Same ok w w.drew := fun _ _ _ => rfl
theorem Same.trans {ok : Nat → Prop} {w w1 w2 : World} (h : Same ok w w1) (k : Same ok w1 w2) (hs : w.heap.size ≤ w1.heap.size) : Same ok w w2 := fun b hb ho => (k b (Nat.lt_of_lt_of_le hb hs) ho).trans (h b hb ho)
theorem size_setCell (w : World) (a : Addr) (v : Value) : (w.setCell a v).heap.size = w.heap.size := by simp [World.setCell]

theorem MsF.same {w w' : World} {B : Nat} {F : Nat → Value} {o : Nat} {m : Ms} (h : MsF w B F o m) (hs : Same (· ≠ B) w w') : MsF w' B F o m :=
  ⟨h.1, h.2.1, h.2.2.1.same hs, h.2.2.2.1, h.2.2.2.2⟩

/-- Five stores: a message. -/
def put5 (w : World) (B o : Nat) (m : Ms) (v : Value) : World :=
  ((((w.setCell ⟨B, o, none⟩ (.string m.role)).setCell ⟨B, o + 1, none⟩ (.string m.content)).setCell ⟨B, o + 2, none⟩ v).setCell ⟨B, o + 3, none⟩ (.string m.tid)).setCell ⟨B, o + 4, none⟩ (.bool m.failed)

def putF (F : Nat → Value) (o : Nat) (m : Ms) (v : Value) (i : Nat) : Value :=
  if i = o + 4 then .bool m.failed else if i = o + 3 then .string m.tid else if i = o + 2 then v else if i = o + 1 then .string m.content else if i = o then .string m.role else F i

theorem put5_row {w : World} {B t n o : Nat} {F : Nat → Value} {m : Ms} {v : Value} (h : w.rowIs B t n F) : (put5 w B o m v).rowIs B t n (putF F o m v) :=
  (((((h.set o _).set (o + 1) _).set (o + 2) _).set (o + 3) _).set (o + 4) _).congr fun _ _ => rfl

theorem put5_size (w : World) (B o : Nat) (m : Ms) (v : Value) : (put5 w B o m v).heap.size = w.heap.size := by
  unfold put5
  simp only [size_setCell]

theorem put5_same (w : World) (B o : Nat) (m : Ms) (v : Value) : Same (· ≠ B) w (put5 w B o m v) := by
  intro b hb hne
  unfold put5
  rw [Below.heap_setCell _ _ _ _ hne, Below.heap_setCell _ _ _ _ hne, Below.heap_setCell _ _ _ _ hne, Below.heap_setCell _ _ _ _ hne, Below.heap_setCell _ _ _ _ hne]

theorem put5_below {w wr : World} {B o : Nat} {m : Ms} {v : Value} (h : Below B w wr) : Below B w (put5 wr B o m v) :=
  ((((h.setCell (p := ⟨B, o, none⟩) (Nat.le_refl _) _).setCell (p := ⟨B, o + 1, none⟩) (Nat.le_refl _) _).setCell (p := ⟨B, o + 2, none⟩) (Nat.le_refl _) _).setCell (p := ⟨B, o + 3, none⟩) (Nat.le_refl _) _).setCell (p := ⟨B, o + 4, none⟩) (Nat.le_refl _) _

theorem Tm.drew {w wr : World} {B n : Nat} {ms : List Ms} {k : Nat} (h : Tm w wr B n ms k) : Tm w wr.drew B n ms k := by
  obtain ⟨⟨F, hr, hF⟩, hb, hs⟩ := h
  exact ⟨⟨F, hr.drew, fun j hj => (hF j hj).same (same_drew _ _)⟩, hb.drew, hs⟩

theorem putF_self (F : Nat → Value) (o : Nat) (m : Ms) (v : Value) : putF F o m v o = .string m.role ∧ putF F o m v (o + 1) = .string m.content ∧ putF F o m v (o + 2) = v ∧ putF F o m v (o + 3) = .string m.tid ∧ putF F o m v (o + 4) = .bool m.failed := by
  refine ⟨?_, ?_, ?_, ?_, ?_⟩ <;> simp [putF]

theorem putF_other (F : Nat → Value) (o : Nat) (m : Ms) (v : Value) (i : Nat) (h : i < o ∨ o + 5 ≤ i) : putF F o m v i = F i := by
  unfold putF
  rw [if_neg (by omega), if_neg (by omega), if_neg (by omega), if_neg (by omega), if_neg (by omega)]

theorem tm_put0 {w wr : World} {B n : Nat} {ms : List Ms} {k : Nat} {m : Ms} {v : Value} (h : Tm w wr B n ms k) (hm : ms.getD k ms0 = m) (hv : CallsAt wr (· ≠ B) v m.isNil m.calls) : Tm w (put5 wr B (5 * k) m v) B n ms (k + 1) := by
  obtain ⟨⟨F, hrow, hF⟩, hb, hs⟩ := h
  have hsame := put5_same wr B (5 * k) m v
  have hr2 := put5_row (o := 5 * k) (m := m) (v := v) hrow
  have hb2 := put5_below (o := 5 * k) (m := m) (v := v) hb
  have hs2 : B < (put5 wr B (5 * k) m v).heap.size := by rw [put5_size]; exact hs
  have hself := putF_self F (5 * k) m v
  have hoth := putF_other F (5 * k) m v
  generalize put5 wr B (5 * k) m v = W at *
  generalize putF F (5 * k) m v = G at *
  refine ⟨⟨G, hr2, fun j hj => ?_⟩, hb2, hs2⟩
  by_cases e : j = k
  · subst e
    rw [hm]
    refine ⟨hself.1, hself.2.1, ?_, hself.2.2.2.1, hself.2.2.2.2⟩
    rw [hself.2.2.1]
    exact hv.same hsame
  · have h1 := (hF j (by omega)).same hsame
    refine ⟨(hoth (5 * j) (by omega)).trans h1.1, (hoth (5 * j + 1) (by omega)).trans h1.2.1, ?_, (hoth (5 * j + 3) (by omega)).trans h1.2.2.2.1, (hoth (5 * j + 4) (by omega)).trans h1.2.2.2.2⟩
    rw [hoth (5 * j + 2) (by omega)]
    exact h1.2.2.1

theorem tm_put {w wr : World} {B n : Nat} {ms : List Ms} {k : Nat} {m : Ms} {v : Value} (h : Tm w wr B n ms k) (hm : ms.getD k ms0 = m) (hv : CallsAt wr (· ≠ B) v m.isNil m.calls) : Tm w (put5 wr B (5 * k) m v).drew B n ms (k + 1) :=
  (tm_put0 h hm hv).drew

theorem Tm.later {w wr w2 : World} {B n : Nat} {ms : List Ms} {k : Nat} (h : Tm w wr B n ms k) (hb : Below wr.heap.size wr w2) : Tm w w2 B n ms k := by
  obtain ⟨⟨F, hrow, hF⟩, h2, h3⟩ := h
  exact ⟨⟨F, hrow.of_block (hb.block B h3), fun j hj => (hF j hj).same (fun b hbb _ => hb.block b hbb)⟩, h2.trans (hb.mono (Nat.le_of_lt h3)), Nat.lt_of_lt_of_le h3 hb.size⟩

theorem calls_nil (w : World) (ok : Nat → Prop) {cs : List Cl} (h : cs.length = 0) : CallsAt w ok (.slice none 0 0) true cs :=
  ⟨none, 0, 0, 0, by rw [h], rfl, fun _ => rfl, by omega, fun hp => by omega, fun i hi => by omega⟩

theorem tm_done {w wr : World} {B n : Nat} {ms : List Ms} (h : Tm w wr B n ms n) (hn : ms.length = n) : MsgsAt wr (fun _ => True) (some ⟨B, 0, none⟩) ms := by
  obtain ⟨⟨F, hrow, hF⟩, _, _⟩ := h
  refine ⟨B, 0, fun _ => ⟨rfl, trivial⟩, fun i hi => ?_⟩
  rw [hn] at hi
  have h1 := hF i hi
  have c : ∀ d, d < 5 → wr.cell? ⟨B, 5 * i + d, none⟩ = some (F (5 * i + d)) := fun d hd => hrow.cell (by omega)
  have c0 := c 0 (by omega)
  rw [Nat.add_zero] at c0
  rw [Nat.zero_add]
  exact ⟨by rw [c0, h1.1], by rw [c 1 (by omega), h1.2.1], ⟨_, c 2 (by omega), h1.2.2.1.weak (fun _ _ _ => trivial)⟩, by rw [c 3 (by omega), h1.2.2.2.1], by rw [c 4 (by omega), h1.2.2.2.2]⟩

/-- Block R holds the first u calls. -/
def Inr (wy wx : World) (R L : Nat) (cs : List Cl) (u : Nat) : Prop :=
  (∃ G, wx.rowIs R 74 (L * 3) G ∧ ∀ j, j < u → G (3 * j) = .string (cs.getD j cl0).id ∧ G (3 * j + 1) = .string (cs.getD j cl0).name ∧ G (3 * j + 2) = .string (cs.getD j cl0).args) ∧ Below R wy wx ∧ R < wx.heap.size

def put3 (w : World) (R o : Nat) (c : Cl) : World :=
  ((w.setCell ⟨R, o, none⟩ (.string c.id)).setCell ⟨R, o + 1, none⟩ (.string c.name)).setCell ⟨R, o + 2, none⟩ (.string c.args)

theorem inr_put {wy wx : World} {R L : Nat} {cs : List Cl} {u : Nat} {c : Cl} (h : Inr wy wx R L cs u) (hc : cs.getD u cl0 = c) : Inr wy (put3 wx R (3 * u) c).drew R L cs (u + 1) := by
  obtain ⟨⟨G, hrow, hG⟩, hb, hs⟩ := h
  have hr := (((hrow.set (3 * u) (.string c.id)).set (3 * u + 1) (.string c.name)).set (3 * u + 2) (.string c.args))
  refine ⟨⟨_, hr.drew, fun j hj => ?_⟩, (((hb.setCell (p := ⟨R, 3 * u, none⟩) (Nat.le_refl _) _).setCell (p := ⟨R, 3 * u + 1, none⟩) (Nat.le_refl _) _).setCell (p := ⟨R, 3 * u + 2, none⟩) (Nat.le_refl _) _).drew, ?_⟩
  · by_cases e : j = u
    · subst e
      rw [hc]
      refine ⟨?_, ?_, ?_⟩ <;> simp
    · have h1 := hG j (by omega)
      refine ⟨?_, ?_, ?_⟩
      · rw [← h1.1, if_neg (by omega), if_neg (by omega), if_neg (by omega)]
      · rw [← h1.2.1, if_neg (by omega), if_neg (by omega), if_neg (by omega)]
      · rw [← h1.2.2, if_neg (by omega), if_neg (by omega), if_neg (by omega)]
  · show R < (put3 wx R (3 * u) c).heap.size
    unfold put3
    rw [size_setCell, size_setCell, size_setCell]
    exact hs

theorem inr_done {wy wx : World} {R L : Nat} {cs : List Cl} (h : Inr wy wx R L cs L) (hL : cs.length = L) {ok : Nat → Prop} (hok : ok R) : CallsAt wx ok (.slice (some ⟨R, 0, none⟩) L L) false cs := by
  obtain ⟨⟨G, hrow, hG⟩, _, _⟩ := h
  refine ⟨some ⟨R, 0, none⟩, L, R, 0, by rw [hL], rfl, (fun h => by cases h), by omega, fun _ => ⟨rfl, hok⟩, fun i hi => ?_⟩
  rw [hL] at hi
  have h1 := hG i hi
  rw [Nat.zero_add]
  exact ⟨by rw [hrow.cell (by omega), h1.1], by rw [hrow.cell (by omega), h1.2.1], by rw [hrow.cell (by omega), h1.2.2]⟩

set_option maxRecDepth 100000 in
set_option maxHeartbeats 1000000 in
theorem tomsg17 (a : Option Addr) (c : Nat) (ms : List Ms) (ok : Nat → Prop) (w : World) (hm : MsgsAt w ok a ms) (hl : Light ms) :
    Calls Try.prog 17 #[.slice a ms.length c] w fun e w' => ∃ a' c', e = .returned (.slice a' ms.length c') ∧ MsgsAt w' (fun _ => True) a' ms ∧ Below w.heap.size w w' := by
  have hn : ms.length ≤ 1048576 := by unfold Light at hl; omega
  have hlm := hl.msg
  obtain ⟨b, o, ha, hms⟩ := hm
  obtain ⟨n, hN⟩ : ∃ n, ms.length = n := ⟨_, rfl⟩
  rw [hN] at hn ha hms hlm ⊢
  have HN : Hid (ms.length = n) := hN
  clear hN hl
  have hnil := fun w => Lib.run_eql_slice_nil (P := Try.prog) w 32 44 a n c 0 0 Try.underlying32
  have hneq := fun (w : World) (a : Option Addr) (n c : Nat) => run_neq_slice_nil_any (P := Try.prog) w 42 73 a n c 0 0 Try.underlying42
  have hmk := mk_slice Try.underlying34 Try.info41 n n (Nat.le_refl _) (by omega) (by omega)
  have hidx := idx32 a n c b o (fun hp => (ha hp).1)
  cases a with
  | none =>
    have h0 : n = 0 := by
      by_cases h : n = 0
      · exact h
      · have := (ha (by omega)).1; cases this
    subst h0
    clear hidx hmk hlm hms hneq
    go_enter Try.func17, Try.ntmps17
    go_wp2
    go_ret
    exact ⟨none, 0, rfl, ⟨0, 0, fun hp => by rw [HN.out] at hp; omega, fun i hi => by rw [HN.out] at hi; omega⟩, Below.refl _ _⟩
  | some p =>
    clear ha
    go_enter Try.func17, Try.ntmps17
    go_wp2
    have hst : Tm w (w.alloc (.cells (madeCells #[.string .empty, .string .empty, .slice none 0 0, .string .empty, .bool false] (n * 5)) 41)) w.heap.size n ms 0 :=
      ⟨⟨_, row_made w _ _ 41, fun j hj => by omega⟩, (Below.refl _ _).alloc (Nat.le_refl _) _, by simp⟩
    have HB : Hid (Below w.heap.size w w) := Below.refl _ _
    obtain ⟨B, hB⟩ : ∃ B, w.heap.size = B := ⟨_, rfl⟩
    rw [hB] at hst
    rw [hB]
    have HBs : Hid (w.heap.size = B) := hB
    clear hB HB
    generalize w.alloc (.cells (madeCells #[.string .empty, .string .empty, .slice none 0 0, .string .empty, .bool false] (n * 5)) 41) = w1 at *
    go_loopw [4] (fun i wr => ∃ k : Nat, k ≤ n ∧ i = .int .i64 k ∧ Tm w wr B n ms k) (fun i _ => n - (intOf i).toNat)
    case atStart => exact ⟨0, Nat.zero_le _, rfl, hst⟩
    case round =>
      obtain ⟨k, hk, rfl, ⟨F, hrow, hF⟩, hbel, hsz⟩ := hrel
      by_cases hlt : k < n
      · have hltI : (k : Int) < (n : Int) := by omega
        have hmk := hms k hlt
        have hwm := hlm k hlt
        obtain ⟨m, hm⟩ : ∃ m, ms.getD k ms0 = m := ⟨_, rfl⟩
        rw [hm] at hmk hwm
        obtain ⟨ca, cc, b', o', g2, hnl, hca, hcl⟩ := msg_parts hmk
        obtain ⟨g0, g1, _, g3, g4⟩ := hmk
        obtain ⟨role, content, nl, calls, tid, failed⟩ := m
        simp only at g0 g1 g2 g3 g4 hca hcl hnl
        have HM : Hid (ms.getD k ms0 = ⟨role, content, nl, calls, tid, failed⟩) := hm
        simp only [wM] at hwm
        obtain ⟨L, hL⟩ : ∃ L, calls.length = L := ⟨_, rfl⟩
        rw [hL] at g2 hca hcl hwm
        have HL : Hid (calls.length = L) := hL
        have j0 := hidx k hltI
        have jc := idx42 ca L cc b' o' hca
        have GW : Hid (w.cell? ⟨b, o + 5 * k, none⟩ = some (.string role) ∧ w.cell? ⟨b, o + 5 * k + 1, none⟩ = some (.string content) ∧ w.cell? ⟨b, o + 5 * k + 2, none⟩ = some (.slice ca L cc) ∧ w.cell? ⟨b, o + 5 * k + 3, none⟩ = some (.string tid) ∧ w.cell? ⟨b, o + 5 * k + 4, none⟩ = some (.bool failed)) := ⟨g0, g1, g2, g3, g4⟩
        clear g0 g1 g2 g3 g4
        obtain ⟨g0, g1, g2, g3, g4⟩ := GW.out
        replace g0 := below_cell (Nat.le_of_eq HBs.out) hbel g0
        replace g1 := below_cell (Nat.le_of_eq HBs.out) hbel g1
        replace g2 := below_cell (Nat.le_of_eq HBs.out) hbel g2
        replace g3 := below_cell (Nat.le_of_eq HBs.out) hbel g3
        replace g4 := below_cell (Nat.le_of_eq HBs.out) hbel g4
        have jo := idx34 (some ⟨B, 0, none⟩) n n B 0 (fun _ => rfl) k hltI
        rw [Nat.zero_add] at jo
        clear hidx hms hm hL hlm hmk hnil
        cases ca with
        | none =>
          clear jc hcl
          have hL0 : L = 0 := by
            by_cases h : L = 0
            · exact h
            · have := hca (by omega); cases this
          subst hL0
          have hnl' : nl = true := hnl.symm
          subst hnl'
          clear hnl
          have f0 := hrow.frozen (5 * k)
          have f1 := hrow.frozen (5 * k + 1)
          have f2 := hrow.frozen (5 * k + 2)
          have f3 := hrow.frozen (5 * k + 3)
          have f4 := hrow.frozen (5 * k + 4)
          have r0 := hrow.cell (i := 5 * k) (by omega)
          have r1 := hrow.cell (i := 5 * k + 1) (by omega)
          have r2 := hrow.cell (i := 5 * k + 2) (by omega)
          have r3 := hrow.cell (i := 5 * k + 3) (by omega)
          have r4 := hrow.cell (i := 5 * k + 4) (by omega)
          obtain ⟨y0, hy0⟩ : ∃ y, F (5 * k) = y := ⟨_, rfl⟩
          obtain ⟨y1, hy1⟩ : ∃ y, F (5 * k + 1) = y := ⟨_, rfl⟩
          obtain ⟨y2, hy2⟩ : ∃ y, F (5 * k + 2) = y := ⟨_, rfl⟩
          obtain ⟨y3, hy3⟩ : ∃ y, F (5 * k + 3) = y := ⟨_, rfl⟩
          obtain ⟨y4, hy4⟩ : ∃ y, F (5 * k + 4) = y := ⟨_, rfl⟩
          rw [hy0] at r0
          rw [hy1] at r1
          rw [hy2] at r2
          rw [hy3] at r3
          rw [hy4] at r4
          have hput := tm_put (w := w) (wr := wr) (n := n) (v := .slice none 0 0) ⟨⟨F, hrow, hF⟩, hbel, hsz⟩ HM.out (calls_nil _ _ HL.out)
          clear hy0 hy1 hy2 hy3 hy4 hca hrow hF
          go_wp2
          go_region
          all_goals
            go_wp2
            go_roundw
            case rel => exact ⟨k + 1, by omega, by go_num, hput⟩
            case measure => simp [intOf]; omega
        | some q =>
          have hnl' : nl = false := hnl.symm
          subst hnl'
          have hmk3 := mk_slice Try.underlying39 Try.info74 L L (Nat.le_refl _) (by omega) (by omega)
          have hst3 : Inr wr (wr.alloc (.cells (madeCells #[.string .empty, .string .empty, .string .empty] (L * 3)) 74)) wr.heap.size L calls 0 :=
            ⟨⟨_, row_made wr _ _ 74, fun j hj => by omega⟩, (Below.refl _ _).alloc (Nat.le_refl _) _, by simp⟩
          have HTm : Hid (Tm w wr B n ms k) := ⟨⟨F, hrow, hF⟩, hbel, hsz⟩
          have HBel : Hid (Below B w wr) := hbel
          have HCL : Hid (∀ i, i < L → ClAt w b' (o' + 3 * i) (calls.getD i cl0)) := hcl
          clear hrow hF hca hcl hnl
          rename World => wy
          go_wp2
          obtain ⟨R, hR⟩ : ∃ R, wy.heap.size = R := ⟨_, rfl⟩
          rw [hR] at hst3 hsz
          rw [hR]
          have HR : Hid (wy.heap.size = R) := hR
          clear hR g0 g1 g2 g3 g4 hmk3 hbel
          generalize wy.alloc (.cells (madeCells #[.string .empty, .string .empty, .string .empty] (L * 3)) 74) = w3 at *
          go_loopw [6] (fun i wx => ∃ u : Nat, u ≤ L ∧ i = .int .i64 u ∧ Inr wy wx R L calls u) (fun i _ => L - (intOf i).toNat)
          case atStart => exact ⟨0, Nat.zero_le _, rfl, hst3⟩
          case round =>
            obtain ⟨u, hu, rfl, hin⟩ := hrel
            have hbx : Below B w wr := HBel.out.trans (hin.2.1.mono (by omega))
            obtain ⟨g0, g1, g2, g3, g4⟩ := GW.out
            replace g2 := below_cell (Nat.le_of_eq HBs.out) hbx g2
            by_cases hlu : u < L
            · have hluI : (u : Int) < (L : Int) := by omega
              obtain ⟨e0, e1, e2⟩ := HCL.out u hlu
              replace e0 := below_cell (Nat.le_of_eq HBs.out) hbx e0
              replace e1 := below_cell (Nat.le_of_eq HBs.out) hbx e1
              replace e2 := below_cell (Nat.le_of_eq HBs.out) hbx e2
              obtain ⟨cl, hcl'⟩ : ∃ m, calls.getD u cl0 = m := ⟨_, rfl⟩
              rw [hcl'] at e0 e1 e2
              have hp3 := inr_put hin hcl'
              obtain ⟨⟨G, hrow3, _⟩, _, _⟩ := hin
              obtain ⟨id, name, args⟩ := cl
              simp only at e0 e1 e2
              have ju := jc u hluI
              have jr := idx39 (some ⟨R, 0, none⟩) L L R 0 (fun _ => rfl) u hluI
              rw [Nat.zero_add] at jr
              have f0 := hrow3.frozen (3 * u)
              have f1 := hrow3.frozen (3 * u + 1)
              have f2 := hrow3.frozen (3 * u + 2)
              have r0 := hrow3.cell (i := 3 * u) (by omega)
              have r1 := hrow3.cell (i := 3 * u + 1) (by omega)
              have r2 := hrow3.cell (i := 3 * u + 2) (by omega)
              obtain ⟨y0, hy0⟩ : ∃ y, G (3 * u) = y := ⟨_, rfl⟩
              obtain ⟨y1, hy1⟩ : ∃ y, G (3 * u + 1) = y := ⟨_, rfl⟩
              obtain ⟨y2, hy2⟩ : ∃ y, G (3 * u + 2) = y := ⟨_, rfl⟩
              rw [hy0] at r0
              rw [hy1] at r1
              rw [hy2] at r2
              clear hy0 hy1 hy2 hrow3 hcl' jc g0 g1 g3 g4 hbx
              go_wp2
              go_region
              all_goals
                go_wp2
                go_roundw
                case rel => exact ⟨u + 1, by omega, by go_num, hp3⟩
                case measure => simp [intOf]; omega
            · have eu : u = L := by omega
              subst eu
              replace g0 := below_cell (Nat.le_of_eq HBs.out) hbx g0
              replace g1 := below_cell (Nat.le_of_eq HBs.out) hbx g1
              replace g3 := below_cell (Nat.le_of_eq HBs.out) hbx g3
              replace g4 := below_cell (Nat.le_of_eq HBs.out) hbx g4
              have htm2 : Tm w wr B n ms k := HTm.out.later (by rw [HR.out]; exact hin.2.1)
              have hcs : CallsAt wr (· ≠ B) (.slice (some ⟨R, 0, none⟩) u u) false calls := inr_done hin HL.out (by omega)
              have hput := tm_put htm2 HM.out hcs
              obtain ⟨⟨F, hrow, hF⟩, _, _⟩ := htm2
              have f0 := hrow.frozen (5 * k)
              have f1 := hrow.frozen (5 * k + 1)
              have f2 := hrow.frozen (5 * k + 2)
              have f3 := hrow.frozen (5 * k + 3)
              have f4 := hrow.frozen (5 * k + 4)
              have r0 := hrow.cell (i := 5 * k) (by omega)
              have r1 := hrow.cell (i := 5 * k + 1) (by omega)
              have r2 := hrow.cell (i := 5 * k + 2) (by omega)
              have r3 := hrow.cell (i := 5 * k + 3) (by omega)
              have r4 := hrow.cell (i := 5 * k + 4) (by omega)
              obtain ⟨y0, hy0⟩ : ∃ y, F (5 * k) = y := ⟨_, rfl⟩
              obtain ⟨y1, hy1⟩ : ∃ y, F (5 * k + 1) = y := ⟨_, rfl⟩
              obtain ⟨y2, hy2⟩ : ∃ y, F (5 * k + 2) = y := ⟨_, rfl⟩
              obtain ⟨y3, hy3⟩ : ∃ y, F (5 * k + 3) = y := ⟨_, rfl⟩
              obtain ⟨y4, hy4⟩ : ∃ y, F (5 * k + 4) = y := ⟨_, rfl⟩
              rw [hy0] at r0
              rw [hy1] at r1
              rw [hy2] at r2
              rw [hy3] at r3
              rw [hy4] at r4
              clear hy0 hy1 hy2 hy3 hy4 hrow hF jc hcs hin hbx
              go_wp2
              go_region
              all_goals
                go_wp2
                go_roundw
                case rel => exact ⟨k + 1, by omega, by go_num, hput⟩
                case measure => simp [intOf]; omega
      · clear hidx hms hlm
        go_wp2
        go_ret
        have e : k = n := by omega
        subst e
        exact ⟨_, _, rfl, tm_done ⟨⟨F, hrow, hF⟩, hbel, hsz⟩ HN.out, by rw [HBs.out]; exact hbel⟩
end Go.Proofs.Qxb6603195a
