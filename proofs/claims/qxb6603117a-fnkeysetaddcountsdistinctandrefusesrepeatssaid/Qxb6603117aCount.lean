/-
  FnKeySetAddCountsDistinctAndRefusesRepeats: the plain law (last occurrences are as many as the distinct keys) and the walk.
-/
import Derived.Test.Qxb6603117aFirst
namespace Go.Proofs.Qxb6603117a
open Go.RowKit

theorem length_le_of_sub {α : Type} [DecidableEq α] : ∀ (l m : List α), l.Nodup → (∀ x, x ∈ l → x ∈ m) → l.length ≤ m.length
  | [], _, _, _ => Nat.zero_le _
  | a :: t, m, hn, hs => by
    obtain ⟨ha, ht⟩ := List.nodup_cons.1 hn
    have ham : a ∈ m := hs a (by simp)
    have h1 := length_le_of_sub t (m.erase a) ht (fun x hx => by
      have hxa : x ≠ a := fun e => ha (by rw [← e]; exact hx)
      exact (List.mem_erase_of_ne hxa).2 (hs x (by simp [hx])))
    rw [List.length_erase_of_mem ham] at h1
    have : 0 < m.length := List.length_pos_of_mem ham
    simp
    omega

/-- Of the first k keys those that are none of the keys behind them. -/
def lasts (K : Nat → List Int) (n k : Nat) : List Nat := (List.range k).filter fun i => !seenA K n i

theorem lasts_succ (K : Nat → List Int) (n k : Nat) : lasts K n (k + 1) = lasts K n k ++ (if seenA K n k then [] else [k]) := by
  unfold lasts
  rw [List.range_succ, List.filter_append]
  congr 1
  cases h : seenA K n k <;> simp [h]

theorem lasts_le (K : Nat → List Int) (n k : Nat) : (lasts K n k).length ≤ k := by
  have := List.length_filter_le (fun i => !seenA K n i) (List.range k)
  simpa [lasts] using this

theorem seenA_iff (K : Nat → List Int) (n i : Nat) : seenA K n i = true ↔ ∃ j, j < n ∧ i < j ∧ K j = K i := by
  unfold seenA
  rw [List.any_eq_true]
  constructor
  · rintro ⟨j, hj, h⟩
    simp at h
    exact ⟨j, List.mem_range.1 hj, h.1, h.2⟩
  · rintro ⟨j, hj, h1, h2⟩
    exact ⟨j, List.mem_range.2 hj, by simp [h1, h2]⟩

theorem last_of (K : Nat → List Int) (n : Nat) : ∀ (f j : Nat), j < n → n - j ≤ f → ∃ i, i < n ∧ K i = K j ∧ seenA K n i = false
  | 0, j, hj, hf => by omega
  | f + 1, j, hj, hf => by
    cases h : seenA K n j with
    | false => exact ⟨j, hj, rfl, h⟩
    | true =>
      obtain ⟨j', h1, h2, h3⟩ := (seenA_iff K n j).1 h
      obtain ⟨i, hi, he, hs⟩ := last_of K n f j' h1 (by omega)
      exact ⟨i, hi, he.trans h3, hs⟩

theorem map_nodup {f : Nat → List Int} : ∀ (l : List Nat), l.Nodup → (∀ i, i ∈ l → ∀ j, j ∈ l → f i = f j → i = j) → (l.map f).Nodup
  | [], _, _ => List.nodup_nil
  | a :: t, hn, hi => by
    obtain ⟨ha, ht⟩ := List.nodup_cons.1 hn
    rw [List.map_cons, List.nodup_cons]
    refine ⟨fun h => ?_, map_nodup t ht (fun i h1 j h2 => hi i (by simp [h1]) j (by simp [h2]))⟩
    obtain ⟨b, hb, e⟩ := List.mem_map.1 h
    have := hi b (by simp [hb]) a (by simp) e
    exact ha (by rw [← this]; exact hb)

theorem lasts_count {seen : List (List Int)} {K : Nat → List Int} {n : Nat} (h : Sn seen K n) : (lasts K n n).length = seen.length := by
  have hnd : (lasts K n n).Nodup := List.Pairwise.filter _ List.nodup_range
  have hmem : ∀ i, i ∈ lasts K n n → i < n ∧ seenA K n i = false := fun i hi => by
    have := List.mem_filter.1 hi
    exact ⟨List.mem_range.1 this.1, by simpa using this.2⟩
  have hinj : ∀ i, i ∈ lasts K n n → ∀ j, j ∈ lasts K n n → K i = K j → i = j := fun i hi j hj e => by
    obtain ⟨h1, h2⟩ := hmem i hi
    obtain ⟨h3, h4⟩ := hmem j hj
    rcases Nat.lt_trichotomy i j with hlt | heq | hgt
    · have := (seenA_iff K n i).2 ⟨j, h3, hlt, e.symm⟩
      rw [h2] at this
      cases this
    · exact heq
    · have := (seenA_iff K n j).2 ⟨i, h1, hgt, e⟩
      rw [h4] at this
      cases this
  have hmn := map_nodup (f := K) _ hnd hinj
  have e1 : ((lasts K n n).map K).length = (lasts K n n).length := by simp
  have l1 := length_le_of_sub _ seen hmn (fun x hx => by
    obtain ⟨i, hi, e⟩ := List.mem_map.1 hx
    exact (h.1 x).2 ⟨i, (hmem i hi).1, e⟩)
  have l2 := length_le_of_sub seen ((lasts K n n).map K) h.2.2 (fun x hx => by
    obtain ⟨j, hj, e⟩ := (h.1 x).1 hx
    obtain ⟨i, hi, he, hs⟩ := last_of K n (n - j) j hj (Nat.le_refl _)
    exact List.mem_map.2 ⟨i, List.mem_filter.2 ⟨List.mem_range.2 hi, by simp [hs]⟩, he.trans e⟩)
  omega

/-- After the first pass: nothing is new. -/
theorem sn_old {seen : List (List Int)} {K : Nat → List Int} {n k : Nat} (h : Sn seen K n) (hk : k < n) : isNew seen (K k) = false ∧ addK seen (K k) = seen := by
  have hm : K k ∈ seen := (h.1 _).2 ⟨k, hk, rfl⟩
  have hc : seen.contains (K k) = true := by rw [List.contains_iff_mem]; exact hm
  exact ⟨by unfold isNew; rw [hc]; rfl, by unfold addK; rw [if_pos hc]⟩

theorem addK_len (seen : List (List Int)) (xs : List Int) : (addK seen xs).length = seen.length + (if isNew seen xs then 1 else 0) := by
  unfold addK isNew
  cases h : seen.contains xs <;> simp

theorem drawn_trans {w w' w2 : World} (h : Drawn w w') (k : Drawn w' w2) : Drawn w w2 := by
  obtain ⟨m1, rfl⟩ := h
  obtain ⟨m2, rfl⟩ := k
  exact ⟨_, World.drewN_drewN _ _ _⟩

/-- After k keys of the first pass: how many were new is how many there are. -/
def St1 (w2 wr : World) (S : Nat) (K : Nat → List Int) (k : Nat) (f : Int) : Prop := Below S w2 wr ∧ ∃ seen, KSet wr S seen ∧ Sn seen K k ∧ f = seen.length

set_option maxHeartbeats 400000 in
theorem walk5 (a : Option Addr) (n c : Nat) (K : Nat → List Int) (w : World) (hn : n ≤ maxLen) (hK : Keys w a n K) (hnil : a = none → n = 0) :
    Calls Try.prog 5 #[.slice a n c] w fun e w' => e = .returned (.bool true) ∧ Below w.heap.size w w' := by
  obtain ⟨A, L, C, hc, hLm, hLK, hL0⟩ := keys_slices hK
  go_enter Try.func5, Try.ntmps5
  go_wp2_with fail
  refine (zz15 a n c A L C _ hn hLm hc).mono ?_
  rintro e w1 ⟨⟨r, rfl, hr⟩, rfl⟩
  cases r with
  | false =>
    clear hc hLm hLK hL0 hr
    go_wp2
    go_ret
    exact ⟨rfl, Below.refl _ _⟩
  | true =>
  have hL : ∀ i, L i ≤ 1048576 := fun i => by
    by_cases hi : i < n
    · exact hr rfl i hi
    · rw [hL0 i (by omega)]; omega
  clear hr
  go_wp2_with fail
  refine (fit10 a n c A L C _ hn hL hc).mono ?_
  rintro e w1 ⟨⟨r, rfl, hr⟩, rfl⟩
  cases r with
  | false =>
    clear hc hLm hLK hL0 hr
    go_wp2
    go_ret
    exact ⟨rfl, Below.refl _ _⟩
  | true =>
  have hn2 : n ≤ 1024 := hr rfl
  have hKl : ∀ i, i < n → (K i).length ≤ 1048576 := fun i hi => by rw [← hLK i hi]; exact hL i
  clear hr hc hLm hLK hL0 hL hn
  go_wp2_with fail
  refine (clone11 a n c K _ hn2 hK hKl hnil).mono ?_
  rintro e w2 ⟨a', c', rfl, hK2, hb2⟩
  clear hK hKl hnil
  go_wp2_with fail
  refine (new12 _).mono ?_
  rintro e w3 ⟨rfl, hks, hb3, hs3⟩
  obtain ⟨S, hS⟩ : ∃ S, w2.heap.size = S := ⟨_, rfl⟩
  rw [hS] at hks hb3 hs3
  rw [hS]
  have HS : Hid (w2.heap.size = S) := hS
  clear hS
  have hbw : Below w1.heap.size w1 w2 := hb2
  have hwS : w1.heap.size ≤ S := by rw [← HS.out]; exact hb2.size
  clear hb2
  go_wp2_with fail
  go_loopw [4, 5] (fun f i wr => ∃ (k : Nat) (t : Int), k ≤ n ∧ i = .int .i64 k ∧ f = .int .i64 t ∧ 0 ≤ t ∧ t ≤ k ∧ St1 w2 wr S K k t) (fun _ i _ => n - (intOf i).toNat)
  case atStart => exact ⟨0, 0, Nat.zero_le _, rfl, rfl, by omega, by omega, hb3, _, hks, sn_zero K, by simp⟩
  case round =>
    obtain ⟨k, t, hk, rfl, rfl, ht0, htk, hbr, seen, hset, hsn, hts⟩ := hrel
    have HT : Hid (t = seen.length) := hts
    clear hts hks
    by_cases hlt : k < n
    · have hltI : (k : Int) < (n : Int) := by omega
      have hKr : Keys wr a' n K := hK2.of_below (Nat.le_of_eq HS.out) hbr
      obtain ⟨V, ⟨b, off, ha, hc⟩, hkey⟩ := hKr
      have g1 := hc k hlt
      have j1 := idx28 a' n c' b off ha k hltI
      have kk := hkey k hlt
      obtain ⟨vk, hvk⟩ : ∃ v, V k = v := ⟨_, rfl⟩
      rw [hvk] at g1 kk
      have hsn1 := sn_step hsn
      have hal := addK_len seen (K k)
      have hlen : seen.length ≤ 1024 := Nat.le_trans hsn.2.1 (by omega)
      clear hc hkey hvk ha hsn
      obtain ⟨r, hr⟩ : ∃ r, isNew seen (K k) = r := ⟨_, rfl⟩
      rw [hr] at hal
      have HR : Hid (isNew seen (K k) = r) := hr
      have HA : Hid ((addK seen (K k)).length = seen.length + if r = true then 1 else 0) := hal
      clear hr hal
      go_wp2_with fail
      refine (add13 S vk (K k) seen _ kk hset hlen).mono ?_
      rintro e w4 ⟨he, hset1, hb4⟩
      rw [HR.out] at he
      subst he
      have hb5 : Below S w2 w4 := hbr.trans hb4
      clear hset hbr hb4 g1 j1 kk
      cases r
      · go_wp2
        go_roundw
        case rel => exact ⟨k + 1, t, by omega, by go_num, rfl, by omega, by omega, hb5, _, hset1, hsn1, by rw [HA.out, HT.out]; simp⟩
        case measure => simp [intOf]; omega
      · go_wp2
        go_roundw
        case rel => exact ⟨k + 1, t + 1, by omega, by go_num, rfl, by omega, by omega, hb5, _, hset1, hsn1, by rw [HA.out, HT.out]; simp⟩
        case measure => simp [intOf]; omega
    · have ek : k = n := by omega
      subst ek
      have hKr : Keys wr a' k K := hK2.of_below (Nat.le_of_eq HS.out) hbr
      have hfin : Hid ((lasts K k k).length = seen.length) := lasts_count hsn
      rename World => wy
      go_wp2
      go_loopw [6, 7] (fun d i wr => ∃ (q : Nat) (t : Int), q ≤ k ∧ i = .int .i64 q ∧ d = .int .i64 t ∧ 0 ≤ t ∧ t ≤ q ∧ Hid (t = (lasts K k q).length) ∧ Drawn wy wr) (fun _ i _ => k - (intOf i).toNat)
      case atStart => exact ⟨0, 0, Nat.zero_le _, rfl, rfl, by omega, by omega, by simp [Hid, lasts], Drawn.refl _⟩
      case round =>
        obtain ⟨q, d, hq, rfl, rfl, hd0, hdq, HD, hdr⟩ := hrel
        by_cases hlt2 : q < k
        · have hltI : (q : Int) < (k : Int) := by omega
          have hKq : Keys wr a' k K := hKr.of_below (Nat.le_refl _) (hdr.below _)
          have hls := lasts_succ K k q
          go_wp2_with fail
          refine (seen16 a' k c' q K _ hn2 hKq hlt2).mono ?_
          rintro e w5 ⟨he, hd5⟩
          obtain ⟨r, hr⟩ : ∃ r, seenA K k q = r := ⟨_, rfl⟩
          rw [hr] at he hls
          subst he
          have hdr5 : Drawn wy w5 := drawn_trans hdr hd5
          have HL : Hid (lasts K k (q + 1) = lasts K k q ++ if r = true then [] else [q]) := hls
          clear hls hr hd5 hdr hKq
          cases r
          · go_wp2
            go_roundw
            case rel => exact ⟨q + 1, d + 1, by omega, by go_num, rfl, by omega, by omega, by show d + 1 = _; rw [HL.out, HD.out]; simp, hdr5⟩
            case measure => simp [intOf]; omega
          · go_wp2
            go_roundw
            case rel => exact ⟨q + 1, d, by omega, by go_num, rfl, by omega, by omega, by show d = _; rw [HL.out, HD.out]; simp, hdr5⟩
            case measure => simp [intOf]; omega
        · have eq : q = k := by omega
          have HD2 : Hid (d = (lasts K k k).length) := by
            have := HD.out
            rw [eq] at this
            exact this
          clear HD eq
          have htd : Hid (t = d) := by show t = d; rw [HD2.out, HT.out, hfin.out]
          have hne : (t != d) = false := by rw [htd.out]; simp
          have hset2 : KSet wr S seen := hdr.kset hset
          have hbr2 : Below S w2 wr := hbr.trans (hdr.below S)
          rename World => wz
          go_wp2
          go_loopw [8] (fun i wr => ∃ q : Nat, q ≤ k ∧ i = .int .i64 q ∧ KSet wr S seen ∧ Below S w2 wr) (fun i _ => k - (intOf i).toNat)
          case atStart => exact ⟨0, Nat.zero_le _, rfl, hset2, hbr2⟩
          case round =>
            obtain ⟨x, hx, rfl, hset3, hbr3⟩ := hrel
            by_cases hlt3 : x < k
            · have hltI : (x : Int) < (k : Int) := by omega
              have hKx : Keys wr a' k K := hK2.of_below (Nat.le_of_eq HS.out) hbr3
              obtain ⟨V, ⟨b, off, ha, hc⟩, hkey⟩ := hKx
              have g1 := hc x hlt3
              have j1 := idx28 a' k c' b off ha x hltI
              have kk := hkey x hlt3
              obtain ⟨vk, hvk⟩ : ∃ v, V x = v := ⟨_, rfl⟩
              rw [hvk] at g1 kk
              have hlen : seen.length ≤ 1024 := Nat.le_trans hsn.2.1 (by omega)
              obtain ⟨ho1, ho2⟩ := sn_old hsn hlt3
              clear hc hkey hvk ha
              go_wp2_with fail
              refine (add13 S vk (K x) seen _ kk hset3 hlen).mono ?_
              rintro e w6 ⟨he, hset6, hb6⟩
              rw [ho1] at he
              rw [ho2] at hset6
              subst he
              have hb7 : Below S w2 w6 := hbr3.trans hb6
              clear ho1 ho2 hset3 hbr3 hb6 g1 j1 kk
              go_wp2
              go_roundw
              case rel => exact ⟨x + 1, by omega, by go_num, hset6, hb7⟩
              case measure => simp [intOf]; omega
            · clear hset3
              go_wp2
              go_ret
              exact ⟨rfl, hbw.trans (hbr3.mono hwS)⟩

end Go.Proofs.Qxb6603117a
