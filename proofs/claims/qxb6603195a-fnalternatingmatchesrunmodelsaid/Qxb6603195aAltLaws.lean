/-
  alternating: what the walk leans on.
-/
import Derived.Test.Qxb6603195aAltPlain
import Derived.Test.Qxb6603195aShelf
namespace Go.Proofs.Qxb6603195a
open Go.RowKit

theorem oneCell_calls {w : World} {ok : Nat → Prop} {v : Value} {nl : Bool} {cs : List Cl} (h : CallsAt w ok v nl cs) : ∃ a c, v = .slice a cs.length c := by
  obtain ⟨a, c, _, _, h1, _⟩ := h
  exact ⟨a, c, h1⟩

theorem Tm.congr {w wr : World} {B n : Nat} {ms ms' : List Ms} {k : Nat} (h : Tm w wr B n ms k) (e : ∀ j, j < k → ms.getD j ms0 = ms'.getD j ms0) : Tm w wr B n ms' k := by
  obtain ⟨⟨F, hr, hF⟩, hb, hs⟩ := h
  exact ⟨⟨F, hr, fun j hj => by rw [← e j hj]; exact hF j hj⟩, hb, hs⟩

/-- A message more, by whatever road the five cells were written. -/
theorem tm_more {w wr W : World} {B n : Nat} {X : List Ms} {F : Nat → Value} {m : Ms} {v : Value} (hb : Below B w W) (hsz : B < W.heap.size)
    (hF : ∀ j, j < X.length → MsF wr B F (5 * j) (X.getD j ms0)) (hv : CallsAt wr (· ≠ B) v m.isNil m.calls) (hsame : Same (· ≠ B) wr W) (hrow : W.rowIs B 41 (n * 5) (putF F (5 * X.length) m v)) : Tm w W B n (X ++ [m]) (X.length + 1) := by
  have hself := putF_self F (5 * X.length) m v
  have hoth := putF_other F (5 * X.length) m v
  refine ⟨⟨_, hrow, fun j hj => ?_⟩, hb, hsz⟩
  by_cases e : j = X.length
  · have eg : (X ++ [m]).getD j ms0 = m := by rw [e, List.getD, List.getElem?_append_right (Nat.le_refl _)]; simp
    rw [eg, e]
    refine ⟨hself.1, hself.2.1, ?_, hself.2.2.2.1, hself.2.2.2.2⟩
    rw [hself.2.2.1]
    exact hv.same hsame
  · have eg : (X ++ [m]).getD j ms0 = X.getD j ms0 := by rw [List.getD, List.getD, List.getElem?_append_left (by omega)]
    rw [eg]
    have h1 := (hF j (by omega)).same hsame
    refine ⟨(hoth (5 * j) (by omega)).trans h1.1, (hoth (5 * j + 1) (by omega)).trans h1.2.1, ?_, (hoth (5 * j + 3) (by omega)).trans h1.2.2.2.1, (hoth (5 * j + 4) (by omega)).trans h1.2.2.2.2⟩
    rw [hoth (5 * j + 2) (by omega)]
    exact h1.2.2.1

theorem splice_row {w : World} {B t N : Nat} {F : Nat → Value} {cur : Array Value} (hcur : w.heap[B]? = some (.cells cur t (0, 0))) (hs : cur.size = N) (hF : ∀ i, i < N → cur[i]? = some (F i)) (o : Nat) (news : List Value) (ho : o + news.length ≤ N) :
    (w.setRow B (cur.toList.take o ++ news ++ cur.toList.drop (o + news.length)).toArray).rowIs B t N (fun i => if o ≤ i ∧ i < o + news.length then news.getD (i - o) (.bool false) else F i) := by
  have hlen : cur.toList.length = N := by simpa using hs
  refine ⟨_, setRow_heap w B cur _ t (0, 0) hcur, ?_, fun i hi => ?_⟩
  · simp
    omega
  · have hFi := hF i hi
    have hFi' : cur.toList[i]? = some (F i) := by simpa using hFi
    rw [List.getElem?_toArray]
    show _ = some (if o ≤ i ∧ i < o + news.length then news.getD (i - o) (Value.bool false) else F i)
    by_cases h1 : i < o
    · rw [if_neg (by omega), List.append_assoc, List.getElem?_append_left (by simp; omega), List.getElem?_take, if_pos h1]
      exact hFi'
    · have hto : (cur.toList.take o).length = o := by rw [List.length_take]; omega
      rw [List.append_assoc, List.getElem?_append_right (by omega), hto]
      by_cases h2 : i < o + news.length
      · rw [if_pos (by omega), List.getElem?_append_left (by omega), List.getD]
        rw [List.getElem?_eq_getElem (by omega)]
        rfl
      · rw [if_neg (by omega), List.getElem?_append_right (by omega), List.getElem?_drop]
        rw [show o + news.length + (i - o - news.length) = i by omega]
        exact hFi'

/-- append within the capacity: one message behind the others. -/
theorem app_room {w2 : World} {B n len : Nat} {F : Nat → Value} (hrow : w2.rowIs B 41 (n * 5) F) (hlen : len < n) (role content tid : ByteArray) (failed : Bool) (m : Ms) (hm : m.role = role ∧ m.content = content ∧ m.tid = tid ∧ m.failed = failed) (a : Option Addr) (L q : Nat) :
    ∃ W, (∀ ty, (Builtin.append_ #[34, 34] ty #[.slice (some ⟨B, 0, none⟩) len n, .slice (some ⟨w2.heap.size, 0, none⟩) 1 1]).run Try.prog (w2.alloc (.cells #[.string role, .string content, .slice a L q, .string tid, .bool failed] 41)) = .ok (.slice (some ⟨B, 0, none⟩) (len + 1) n) W) ∧
      W.rowIs B 41 (n * 5) (putF F (5 * len) m (.slice a L q)) ∧ w2.grownBy W (some B) ∧ w2.heap.size < W.heap.size := by
  obtain ⟨i0, hi, hz0, hz1, hz2⟩ := info_parts Try.info41
  obtain ⟨cur, hcur, hcs, hcF⟩ := hrow.alloc (.cells #[.string role, .string content, .slice a L q, .string tid, .bool failed] 41)
  have hnews : ∀ j u, ([.string role, .string content, .slice a L q, .string tid, .bool failed] : List Value)[j]? = some u → (w2.alloc (.cells #[.string role, .string content, .slice a L q, .string tid, .bool failed] 41)).cell? ((⟨w2.heap.size, 0, none⟩ : Addr).add j) = some u := fun j u hj => by
    have hadd : (⟨w2.heap.size, 0, none⟩ : Addr).add j = ⟨w2.heap.size, j, none⟩ := by unfold Addr.add; split <;> simp_all
    rw [hadd, cell_of_row _ _ _ _ _ _ (heap_alloc_new w2 _)]
    simpa using hj
  have hr := fun ty => run_append_room (P := Try.prog) (w2.alloc (.cells #[.string role, .string content, .slice a L q, .string tid, .bool failed] 41)) 34 ty 41 i0 Try.underlying34 hi B len n cur hcur ⟨w2.heap.size, 0, none⟩ 1 1 _ (by rw [hz1]; rfl) hnews (by
    intro u hu
    simp only [List.mem_cons, List.not_mem_nil, or_false] at hu
    rcases hu with h | h | h | h | h <;> (rw [h]; rfl)) (by omega) (by rw [hz1, hcs]; simp; omega)
  have hsp := splice_row hcur hcs hcF (len * i0.size) [.string role, .string content, .slice a L q, .string tid, .bool failed] (by rw [hz1]; simp; omega)
  refine ⟨_, hr, hsp.congr (fun j hj => ?_), ⟨rfl, rfl, rfl, ?_, fun k hk hne => ?_⟩, ?_⟩
  · obtain ⟨e0, e1, e2, e3⟩ := hm
    rw [hz1]
    simp only [List.length_cons, List.length_nil]
    by_cases hin : len * 5 ≤ j ∧ j < len * 5 + 5
    · rw [if_pos (by omega)]
      obtain ⟨d, hd, hjd⟩ : ∃ d, d < 5 ∧ j = 5 * len + d := ⟨j - 5 * len, by omega, by omega⟩
      have hself := putF_self F (5 * len) m (.slice a L q)
      have e : j - len * 5 = d := by omega
      rw [e, hjd]
      match d, hd with
      | 0, _ => rw [Nat.add_zero, hself.1, e0]; rfl
      | 1, _ => rw [hself.2.1, e1]; rfl
      | 2, _ => rw [hself.2.2.1]; rfl
      | 3, _ => rw [hself.2.2.2.1, e2]; rfl
      | 4, _ => rw [hself.2.2.2.2, e3]; rfl
    · rw [if_neg (by omega), putF_other _ _ _ _ _ (by omega)]
  · simp
  · rw [setRow_other _ _ _ _ (fun e => hne (by rw [e])), heap_alloc_old w2 _ hk]
  · simp

theorem idxlast (B len n : Nat) (h : 1 ≤ len) (w : World) : (Instr.indexAt 34 (.slice (some ⟨B, 0, none⟩) len n) (.int .i64 ((len : Int) - 1))).run Try.prog w = .ok (.pointer (some ⟨B, 5 * (len - 1), none⟩)) w := by
  have := idx34 (some ⟨B, 0, none⟩) len n B 0 (fun _ => rfl) (len - 1) (by omega) w
  rw [Nat.zero_add] at this
  rw [← this]
  congr 3
  omega

theorem drawn_frozen {w w' : World} (h : Drawn w w') (p : Addr) : w'.frozen? p = w.frozen? p := by
  obtain ⟨m, rfl⟩ := h
  rfl

theorem tbox (w : World) (s1 s2 : ByteArray) :
    (w.alloc (.cells #[.string s1, .string s2] 9)).drew.cell? ⟨w.heap.size, 0, none⟩ = some (.string s1) ∧ (w.alloc (.cells #[.string s1, .string s2] 9)).drew.cell? ⟨w.heap.size, 1, none⟩ = some (.string s2) ∧
    (w.alloc (.cells #[.string s1, .string s2] 9)).drew.frozen? ⟨w.heap.size, 0, none⟩ = false ∧ (w.alloc (.cells #[.string s1, .string s2] 9)).drew.frozen? ⟨w.heap.size, 1, none⟩ = false := by
  have h : (w.alloc (.cells #[.string s1, .string s2] 9)).drew.heap[w.heap.size]? = some (.cells #[.string s1, .string s2] 9 (0, 0)) := heap_alloc_new w _
  refine ⟨?_, ?_, ?_, ?_⟩
  · rw [cell_of_row _ _ _ _ _ _ h]; rfl
  · rw [cell_of_row _ _ _ _ _ _ h]; rfl
  · unfold World.frozen?; rw [h]; rfl
  · unfold World.frozen?; rw [h]; rfl

theorem keep_le (s1 s2 : ByteArray) : (keep s1 s2).length ≤ 2 := by
  unfold keep
  exact List.length_filter_le _ _

theorem join39 (T : Nat) (s1 s2 : ByteArray) (w : World) (hc : ∀ j x, (keep s1 s2)[j]? = some x → w.cell? ⟨T, 0 + j, none⟩ = some (.string x)) (hT : T < w.heap.size) (h1 : s1.size ≤ 4000000) (h2 : s2.size ≤ 4000000) :
    Calls Try.prog 39 #[.slice (some ⟨T, 0, none⟩) (keep s1 s2).length 2, .string ⟨#[10, 10]⟩] w fun e w' => e = .returned (.string (joinB s1 s2)) ∧ Below w.heap.size w w' := by
  have hk := keep_le s1 s2
  have hj := join_len s1 s2
  unfold joinB at hj
  rw [size_mk] at hj
  exact Try.strings_Join T 0 2 (keep s1 s2) sep w hc hT (by omega) hk (by omega)

theorem box5 (w : World) (role content tid : ByteArray) (failed : Bool) (a : Option Addr) (L q : Nat) :
    (w.alloc (.cells #[.string role, .string content, .slice a L q, .string tid, .bool failed] 41)).cell? ⟨w.heap.size, 0, none⟩ = some (.string role) ∧
    (w.alloc (.cells #[.string role, .string content, .slice a L q, .string tid, .bool failed] 41)).cell? ⟨w.heap.size, 1, none⟩ = some (.string content) ∧
    (w.alloc (.cells #[.string role, .string content, .slice a L q, .string tid, .bool failed] 41)).cell? ⟨w.heap.size, 2, none⟩ = some (.slice a L q) ∧
    (w.alloc (.cells #[.string role, .string content, .slice a L q, .string tid, .bool failed] 41)).cell? ⟨w.heap.size, 3, none⟩ = some (.string tid) ∧
    (w.alloc (.cells #[.string role, .string content, .slice a L q, .string tid, .bool failed] 41)).cell? ⟨w.heap.size, 4, none⟩ = some (.bool failed) ∧ True := by
  refine ⟨?_, ?_, ?_, ?_, ?_, trivial⟩ <;> (rw [cell_of_row _ _ _ _ _ _ (heap_alloc_new w _)]; rfl)

theorem Drawn.cell {w w' : World} (h : Drawn w w') {p : Addr} {v : Value} (hp : w.cell? p = some v) : w'.cell? p = some v := by
  obtain ⟨m, rfl⟩ := h
  exact hp
theorem Drawn.row {w w' : World} (h : Drawn w w') {b t n : Nat} {f : Nat → Value} (hr : w.rowIs b t n f) : w'.rowIs b t n f := by
  obtain ⟨m, rfl⟩ := h
  exact hr
theorem Drawn.heap {w w' : World} (h : Drawn w w') : w'.heap = w.heap := by
  obtain ⟨m, rfl⟩ := h
  rfl

theorem app_done {w wr W w2 : World} {B n M len : Nat} {X ms : List Ms} {F : Nat → Value} {m : Ms} {role content tid : ByteArray} {failed : Bool} {ca : Option Addr} {L cc : Nat} (_hN : ms.length = n) (hbel : Below B w wr) (_hB : w.heap.size = B) (hWB : Below M wr W) (hM : wr.heap.size = M) (hsz : B < M) (hd : Drawn W w2)
    (hWR : W.rowIs B 41 (n * 5) F) (hF : ∀ j, j < X.length → MsF wr B F (5 * j) (X.getD j ms0)) (hcs : CallsAt wr (· ≠ B) (.slice ca L cc) m.isNil m.calls) (hX : X.length = len) (hlen : len < n)
    (e0 : m.role = role) (e1 : m.content = content) (e2 : m.tid = tid) (e3 : m.failed = failed) :
    ∃ W3, (∀ ty, (Builtin.append_ #[34, 34] ty #[.slice (some ⟨B, 0, none⟩) len n, .slice (some ⟨w2.heap.size, 0, none⟩) 1 1]).run Try.prog (w2.alloc (.cells #[.string role, .string content, .slice ca L cc, .string tid, .bool failed] 41)) = .ok (.slice (some ⟨B, 0, none⟩) (len + 1) n) W3) ∧ Tm w W3 B n (X ++ [m]) (len + 1) := by
  obtain ⟨W3, hr, hrow3, hg, hs⟩ := app_room (hd.row hWR) hlen role content tid failed m ⟨e0, e1, e2, e3⟩ ca L cc
  have hWs : M ≤ W.heap.size := by rw [← hM]; exact hWB.size
  have h2s : w2.heap.size = W.heap.size := by rw [hd.heap]
  have hsame : Same (· ≠ B) wr W3 := fun x hx hne => by
    rw [hM] at hx
    rw [hg.block x (by rw [h2s]; omega) (fun e => hne (Option.some.inj e)), hd.heap, hWB.block x hx]
  refine ⟨W3, hr, ?_⟩
  subst hX
  refine tm_more ?_ (by omega) hF hcs hsame hrow3
  exact ((hbel.trans (hWB.mono (Nat.le_of_lt hsz))).trans (hd.below B)).grown hg (by rw [h2s]; omega) (fun j hj => by cases hj; exact Nat.le_refl _)

theorem alt_app' {Y X : List Ms} {m : Ms} (h : Y = altStep X m) (ha : apartB X m = true) : Y = X ++ [m] := by
  rw [h, altStep, if_pos ha]
theorem alt_app {Y X : List Ms} {m : Ms} {len : Nat} (h : Y = altStep X m) (ha : apartB X m = true) (hl : X.length = len) : Hid (Y.length = len + 1) := by
  show Y.length = len + 1
  rw [alt_app' h ha]
  simp [hl]

theorem alt_done {wr : World} {B n : Nat} {X : List Ms} {F : Nat → Value} (hrow : wr.rowIs B 41 (n * 5) F) (hF : ∀ j, j < X.length → MsF wr B F (5 * j) (X.getD j ms0)) (hle : X.length ≤ n) : MsgsAt wr (fun _ => True) (some ⟨B, 0, none⟩) X := by
  refine ⟨B, 0, fun _ => ⟨rfl, trivial⟩, fun i hi => ?_⟩
  have h1 := hF i hi
  have c : ∀ d, d < 5 → wr.cell? ⟨B, 5 * i + d, none⟩ = some (F (5 * i + d)) := fun d hd => hrow.cell (by omega)
  have c0 := c 0 (by omega)
  rw [Nat.add_zero] at c0
  rw [Nat.zero_add]
  exact ⟨by rw [c0, h1.1], by rw [c 1 (by omega), h1.2.1], ⟨_, c 2 (by omega), h1.2.2.1.weak (fun _ _ _ => trivial)⟩, by rw [c 3 (by omega), h1.2.2.2.1], by rw [c 4 (by omega), h1.2.2.2.2]⟩

theorem getD_set_self (X : List Ms) (i : Nat) (m : Ms) (h : i < X.length) : (X.set i m).getD i ms0 = m := by
  simp [List.getD, h]
theorem getD_set_other (X : List Ms) (i j : Nat) (m : Ms) (h : i ≠ j) : (X.set i m).getD j ms0 = X.getD j ms0 := by
  simp [List.getD, h]

theorem merge_done {w wr w6 w' : World} {B n P len : Nat} {X : List Ms} {F : Nat → Value} {x m : Ms} {v : Value} (hbw : Below B w w') (hsz : B < w'.heap.size)
    (hrow : w6.rowIs B 41 (n * 5) (fun j => if j = P + 1 then .string (joinB x.content m.content) else F j)) (hblk : w'.heap[B]? = w6.heap[B]?) (hsame : Same (· ≠ B) wr w')
    (hF : ∀ j, j < X.length → MsF wr B F (5 * j) (X.getD j ms0)) (hX : X.length = len) (_h1 : 1 ≤ len) (hP : 5 * (len - 1) = P) (hx : lastM X = x)
    (hv : CallsAt w' (· ≠ B) v (x.calls ++ m.calls).isEmpty (x.calls ++ m.calls)) :
    Tm w (w'.setCell ⟨B, P + 2, none⟩ v) B n (X.set (len - 1) (mergeM x m)) len := by
  have hs2 := same_setCell (B := B) w' (P + 2) v
  have hs3 : Same (· ≠ B) wr (w'.setCell ⟨B, P + 2, none⟩ v) := fun b hb hne => by
    rw [Below.heap_setCell _ _ _ _ hne, hsame b hb hne]
  refine ⟨⟨_, (hrow.of_block hblk).set (P + 2) v, fun j hj => ?_⟩, hbw.setCell (p := ⟨B, P + 2, none⟩) (Nat.le_refl _) _, by rw [size_setCell]; exact hsz⟩
  by_cases e : j = len - 1
  · subst e
    rw [getD_set_self _ _ _ (by omega), hP]
    have hxl := hF (len - 1) (by omega)
    have exl : X.getD (len - 1) ms0 = x := by rw [← hx, ← hX]; rfl
    rw [exl, hP] at hxl
    obtain ⟨k0, k1, k2, k3, k4⟩ := hxl
    refine ⟨?_, ?_, ?_, ?_, ?_⟩ <;> dsimp only
    · rw [if_neg (by omega), if_neg (by omega)]; exact k0
    · rw [if_neg (by omega), if_pos rfl]; rfl
    · rw [if_pos rfl]
      exact hv.same hs2
    · rw [if_neg (by omega), if_neg (by omega)]; exact k3
    · rw [if_neg (by omega), if_neg (by omega)]; exact k4
  · rw [getD_set_other _ _ _ _ (by omega)]
    have h2 := (hF j (by omega)).same hs3
    obtain ⟨k0, k1, k2, k3, k4⟩ := h2
    refine ⟨?_, ?_, ?_, ?_, ?_⟩ <;> dsimp only
    · rw [if_neg (by omega), if_neg (by omega)]; exact k0
    · rw [if_neg (by omega), if_neg (by omega)]; exact k1
    · rw [if_neg (by omega), if_neg (by omega)]; exact k2
    · rw [if_neg (by omega), if_neg (by omega)]; exact k3
    · rw [if_neg (by omega), if_neg (by omega)]; exact k4

theorem merge_call {w wr w6 : World} {B n P len : Nat} {X : List Ms} {F : Nat → Value} {x m : Ms} {xa ca : Option Addr} {xc cc : Nat} (hBr : B < wr.heap.size)
    (hsame : Same (· ≠ B) wr w6) (hrow : w6.rowIs B 41 (n * 5) (fun j => if j = P + 1 then .string (joinB x.content m.content) else F j)) (hbel : Below B w w6) (hs6 : wr.heap.size ≤ w6.heap.size)
    (hF : ∀ j, j < X.length → MsF wr B F (5 * j) (X.getD j ms0)) (hX : X.length = len) (h1 : 1 ≤ len) (hle : len ≤ n) (hP : 5 * (len - 1) = P) (hx : lastM X = x) (hxv : F (P + 2) = .slice xa x.calls.length xc)
    (hcs : CallsAt wr (· ≠ B) (.slice ca m.calls.length cc) m.isNil m.calls) (hsm : x.calls.length + m.calls.length ≤ 1073741824) :
    Calls Try.prog 40 #[.slice (some ⟨w6.heap.size, 0, none⟩) 2 2] (w6.alloc (.cells #[.slice xa x.calls.length xc, .slice ca m.calls.length cc] 39)).drew fun e w' => ∃ a' L' c', e = .returned (.slice a' L' c') ∧ w'.cell? ⟨B, P + 2, none⟩ = some (.slice xa x.calls.length xc) ∧ w'.frozen? ⟨B, P + 2, none⟩ = false ∧
      Hid (Tm w (w'.setCell ⟨B, P + 2, none⟩ (.slice a' L' c')) B n (X.set (len - 1) (mergeM x m)) len) := by
  have hxl := hF (len - 1) (by omega)
  have exl : X.getD (len - 1) ms0 = x := by rw [← hx, ← hX]; rfl
  rw [exl, hP] at hxl
  have hxs := hxl.2.2.1
  rw [hxv] at hxs
  obtain ⟨W, hW⟩ : ∃ W, (w6.alloc (.cells #[.slice xa x.calls.length xc, .slice ca m.calls.length cc] 39)).drew = W := ⟨_, rfl⟩
  have hb6 : Below w6.heap.size w6 W := by rw [← hW]; exact ((Below.refl _ _).alloc (Nat.le_refl _) _).drew
  have hsz : W.heap.size = w6.heap.size + 1 := by rw [← hW]; simp
  have hnew : W.heap[w6.heap.size]? = some (.cells #[.slice xa x.calls.length xc, .slice ca m.calls.length cc] 39 (0, 0)) := by rw [← hW]; exact heap_alloc_new w6 _
  have c0 : W.cell? ⟨w6.heap.size, 0, none⟩ = some (.slice xa x.calls.length xc) := by rw [cell_of_row _ _ _ _ _ _ hnew]; rfl
  have c1 : W.cell? ⟨w6.heap.size, 1, none⟩ = some (.slice ca m.calls.length cc) := by rw [cell_of_row _ _ _ _ _ _ hnew]; rfl
  rw [hW]
  clear hW hnew
  have hsW : Same (· ≠ B) wr W := fun b hb hne => (hb6.block b (by omega)).trans (hsame b hb hne)
  refine (cat40 w6.heap.size _ _ _ _ x.calls m.calls (· ≠ B) W c0 c1 (hxs.same hsW) (hcs.same hsW) hsm).mono ?_
  rintro e w' ⟨a', c', rfl, hca, hb'⟩
  have hb6' : Below w6.heap.size w6 w' := hb6.trans (hb'.mono (by omega))
  refine ⟨a', _, c', rfl, ?_, ?_, ?_⟩
  · rw [hb6'.cell (p := ⟨B, P + 2, none⟩) (show B < _ by omega), hrow.cell (by omega), if_neg (by omega), hxv]
  · rw [hb6'.frozen (p := ⟨B, P + 2, none⟩) (show B < _ by omega)]
    exact hrow.frozen _
  · refine merge_done (hbel.trans (hb6'.mono (by omega))) (Nat.lt_of_lt_of_le (show B < w6.heap.size by omega) hb6'.size) hrow (hb6'.block B (by omega)) (fun b hb hne => (hb6'.block b (by omega)).trans (hsame b hb hne)) hF hX h1 hP hx ?_
    exact hca.weak (fun b hb hle => by omega)

theorem alt_mrg {Y X : List Ms} {m x : Ms} (h : Y = altStep X m) (ha : apartB X m = false) (hx : lastM X = x) {len : Nat} (hl : X.length = len) : Y = X.set (len - 1) (mergeM x m) := by
  rw [h, altStep, if_neg (by rw [ha]; simp), hx, hl]

end Go.Proofs.Qxb6603195a
