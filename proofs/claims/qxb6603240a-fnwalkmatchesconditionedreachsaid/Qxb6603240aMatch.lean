/- FnWalkMatchesConditionedReach (function 3): the walk of the law. -/
import Derived.Test.Qxb6603240aLeaf
import Derived.Test.Qxb6603240aReach
import Derived.Test.Qxb6603240aZZWalk
namespace Go.Proofs.Qxb6603240a
open Go.RowKit
set_option linter.unusedVariables false

def RTrue3 (w : World) (e : Ending) (w' : World) : Prop := e = .returned (.bool true) ∧ Below w.heap.size w w'

/-- A clone of whatever slice of int32. -/
def ClonedM (w : World) (n : Nat) (f : Nat → Int) (e : Ending) (w' : World) : Prop :=
  ∃ qa : Option Addr, e = .returned (.slice qa n n) ∧ ((qa = none ∧ n = 0) ∨ (qa = some ⟨w.heap.size, 0, none⟩ ∧ row32 w' w.heap.size n f)) ∧ Below w.heap.size w w'

theorem cloneM_any (sa : Option Addr) (sb so n c : Nat) (f : Nat → Int) (B : Nat) (w : World) (h : IsI32 w B sa sb so n c f) (hB : B ≤ w.heap.size) (hn : n ≤ 2000000) :
    Calls Try.prog 12 #[.slice sa n c] w fun e w' => ClonedM w n f e w' := by
  cases sa with
  | none =>
    obtain ⟨rfl, rfl⟩ := h.nil rfl
    refine (clone_nil w).mono ?_
    rintro e w' ⟨h1, rfl⟩
    exact ⟨none, h1, .inl ⟨rfl, rfl⟩, Below.refl _ _⟩
  | some a =>
    refine (clone_some a sb so n c f B w h hB hn).mono ?_
    rintro e w' ⟨h1, h2, h3, h4⟩
    exact ⟨_, h1, .inr ⟨rfl, h2⟩, h3⟩

theorem wrap32_bd3 (x : Int) : -2147483648 ≤ wrap32 x ∧ wrap32 x ≤ 2147483647 := by unfold wrap32; omega
theorem belowN3 {B : Nat} {a w : World} (h : Below B a w) (n : Nat) : Below B a (w.drewN n) := ⟨h.os, h.tape, h.output, h.size, h.block⟩

/-- What stands behind ZZWalk, as it is read from there on. -/
structure Fin3 (W : World) (B n an : Nat) (L : Nat → Nat) (Z : Nat → Nat → Int) (fr ab wb lb qb qc : Nat) (want : Nat → Int) (low : Nat → Bool) (qs : List Nat) (par : List (Nat × Nat)) : Prop where
  awayR : row32 W ab an want
  wantR : row32 W wb an want
  lowR : rowB W lb n low
  queue : ∃ g : Nat → Int, row32 W qb qc g ∧ ∀ (i z : Nat), qs[i]? = some z → g i = z
  lt : ∀ z, z ∈ qs → z < n
  nodup : qs.Nodup
  head : qs[0]? = some fr
  lowC : ∀ z, z < n → (low z = true ↔ (z ∈ qs ∧ z ≠ fr))
  len : qs.length = 1 + Bf.cntLow low n
  tr : ∃ k j, Bf.Tr L Z k j (want, qs) par
  bd : ∀ (i z : Nat), qs[i]? = some z → -2147483648 ≤ want z ∧ want z + 1 ≤ 2147483647

theorem Fin3.qcell {W : World} {B n an : Nat} {L : Nat → Nat} {Z : Nat → Nat → Int} {fr ab wb lb qb qc : Nat} {want : Nat → Int} {low : Nat → Bool} {qs : List Nat} {par : List (Nat × Nat)} (h : Fin3 W B n an L Z fr ab wb lb qb qc want low qs par) {i z : Nat} (hi : qs[i]? = some z) (hq : i < qc) :
    W.cell? ⟨qb, i, none⟩ = some (.int .i32 (z : Int)) := by
  obtain ⟨g, hg, hz⟩ := h.queue
  rw [hg.cell hq, hz i z hi]

theorem uniq {l : List Nat} (h : l.Nodup) {i j x : Nat} (hi : l[i]? = some x) (hj : l[j]? = some x) : i = j := by
  obtain ⟨h1, e1⟩ := List.getElem?_eq_some_iff.1 hi
  obtain ⟨h2, e2⟩ := List.getElem?_eq_some_iff.1 hj
  have hp := List.pairwise_iff_getElem.1 h
  rcases Nat.lt_trichotomy i j with hlt | heq | hlt
  · exact absurd (e1.trans e2.symm) (hp i j h1 h2 hlt)
  · exact heq
  · exact absurd (e2.trans e1.symm) (hp j i h2 h1 hlt)

/-- What the law keeps of the entry before: none yet; or by which entry and which link it was come to. -/
def Prev (par : List (Nat × Nat)) (p : Nat) (a b : Int) : Prop := (p = 1 ∧ a = -1 ∧ b = -1) ∨ ∃ P K : Nat, 2 ≤ p ∧ par[p - 2]? = some (P, K) ∧ a = P ∧ b = K

theorem prev_lt {L : Nat → Nat} {Z : Nat → Nat → Int} {k j : Nat} {st : (Nat → Int) × List Nat} {par : List (Nat × Nat)} (h : Bf.Tr L Z k j st par) {p P K : Nat} {a b : Int} (hp : 1 ≤ p) (hv : Prev par p a b) (hc : par[p - 1]? = some (P, K)) :
    a < P ∨ (a = P ∧ b < K) := by
  rcases hv with ⟨_, h1, _⟩ | ⟨P', K', h1, h2, h3, h4⟩
  · exact .inl (by omega)
  · have := h.srt (p - 2) P' K' P K h2 (by rw [show p - 2 + 1 = p - 1 by omega]; exact hc)
    omega

/-- The next entry of the queue, and all that is asked of it. -/
theorem next_entry {W : World} {B n an : Nat} {L : Nat → Nat} {Z : Nat → Nat → Int} {fr ab wb lb qb qc : Nat} {want : Nat → Int} {low : Nat → Bool} {qs : List Nat} {par : List (Nat × Nat)} (h : Fin3 W B n an L Z fr ab wb lb qb qc want low qs par) {p : Nat} (h1 : 1 ≤ p) (hp : p < qs.length) :
    ∃ z y P K : Nat, qs[p]? = some z ∧ qs[P]? = some y ∧ par[p - 1]? = some (P, K) ∧ P < p ∧ K < L y ∧ (Z y K).toNat = z ∧ want z = want y + 1 ∧ (∀ (q y' : Nat), q < P → qs[q]? = some y' → ∀ j', j' < L y' → (Z y' j').toNat ≠ z) ∧ (∀ j', j' < K → (Z y j').toNat ≠ z) ∧
      z < n ∧ y < n ∧ low z = true ∧ (∀ i, i < p → qs[i]? ≠ some z) ∧ (-2147483648 ≤ want y ∧ want y + 1 ≤ 2147483647) := by
  obtain ⟨k, j, ht⟩ := h.tr
  have hl : qs.length = par.length + 1 := ht.len
  obtain ⟨⟨P, K⟩, hPK⟩ : ∃ x, par[p - 1]? = some x := ⟨_, List.getElem?_eq_getElem (by omega)⟩
  obtain ⟨_, o2, y, z, o3, o4, o5, o6, o7, o8, o9⟩ := ht.ok (p - 1) P K hPK
  rw [show p - 1 + 1 = p by omega] at o4
  have o3' : qs[P]? = some y := o3
  have o4' : qs[p]? = some z := o4
  have hz := h.lt z (List.mem_of_getElem? o4')
  have hno : ∀ i, i < p → qs[i]? ≠ some z := fun i hi e => by have := uniq h.nodup e o4'; omega
  refine ⟨z, y, P, K, o4', o3', hPK, by omega, o5, o6, o7, o8, o9, hz, h.lt y (List.mem_of_getElem? o3'), (h.lowC z hz).2 ⟨List.mem_of_getElem? o4', fun e => ?_⟩, hno, h.bd P y o3'⟩
  subst e
  exact hno 0 (by omega) h.head

theorem found_no {n : Nat} {f : Nat → Int} {v r : Int} (h : Found n f v r) (hn : ∀ j, j < n → f j ≠ v) : r = -1 := by
  rcases h with ⟨h, _⟩ | ⟨j, h1, _, h2, _⟩
  · exact h
  · exact absurd h2 (hn j h1)

theorem found_at {n : Nat} {f : Nat → Int} {v r : Int} (h : Found n f v r) {k : Nat} (hk : k < n) (hf : f k = v) (hn : ∀ j, j < k → f j ≠ v) : r = k := by
  rcases h with ⟨_, h⟩ | ⟨j, h1, h2, h3, h4⟩
  · exact absurd hf (h k hk)
  · rcases Nat.lt_trichotomy j k with hlt | heq | hlt
    · exact absurd h3 (hn j hlt)
    · rw [h2, heq]
    · exact absurd hf (h4 k hlt)

set_option maxHeartbeats 8000000 in
set_option maxRecDepth 100000 in
theorem match_any (ga sa qa : Option Addr) (gb go n c sb so an sc qb qo qn qc : Nat) (A : Nat → Option Addr) (RB RO L C : Nat → Nat) (Z : Nat → Nat → Int) (f g : Nat → Int) (lift fr : Int) (w : World)
    (hL : IsLinks w w.heap.size ga gb go n c A RB RO L C Z) (hA : IsI32 w w.heap.size sa sb so an sc f) (hQ : IsI32 w w.heap.size qa qb qo qn qc g)
    (hZ : ∀ i, i < n → ∀ j, j < L i → -2147483648 ≤ Z i j ∧ Z i j ≤ 2147483647) (haw : ∀ i, i < an → -2147483648 ≤ f i ∧ f i ≤ 2147483647) (hl1 : -2147483648 ≤ lift) (hl2 : lift ≤ 2147483647) (hf1 : -2147483648 ≤ fr) (hf2 : fr ≤ 2147483647) :
    Calls Try.prog 3 #[.slice ga n c, .slice sa an sc, .int .i32 lift, .slice qa qn qc, .int .i32 fr] w fun e w' => RTrue3 w e w' := by
  have HAW := hide haw
  clear haw
  have ham : an ≤ 9223372036854775807 := Nat.le_trans hA.le hA.max
  have hqm : qn ≤ 9223372036854775807 := Nat.le_trans hQ.le hQ.max
  have hnm : n ≤ 9223372036854775807 := Nat.le_trans hL.le hL.max
  go_enter Try.func3, Try.ntmps3
  go_wp2_with fail
  refine (zz8_any ga gb go n c A RB RO L C Z sa qa an sc qn qc lift fr _ _ hL ham hqm).mono ?_
  rintro e w1 ⟨rfl, b, rfl, _⟩
  cases b
  · go_wp2
    go_ret
    exact ⟨rfl, Below.refl _ _⟩
  by_cases h1 : (1048576 : Int) < (n : Int)
  · go_wp2
    go_ret
    exact ⟨rfl, Below.refl _ _⟩
  by_cases h2 : (1048576 : Int) < (an : Int)
  · go_wp2
    go_ret
    exact ⟨rfl, Below.refl _ _⟩
  by_cases h3 : (1048576 : Int) < (qn : Int)
  · go_wp2
    go_ret
    exact ⟨rfl, Below.refl _ _⟩
  go_wp2_with fail
  refine (linksBytes_any ga gb go n c A RB RO L C Z _ _ hL).mono ?_
  rintro e w2 ⟨rfl, t, rfl, ht1, ht2, ht3⟩
  have HT := hide ht3
  clear ht3
  by_cases h4 : (1048576 : Int) < t + 4 * (an : Int) + 4 * (qn : Int)
  · go_wp2
    go_ret
    exact ⟨rfl, Below.refl _ _⟩
  have hn8 := (unhide HT (by omega)).1
  have hLb : ∀ i, i < n → L i ≤ 2000000 := fun i hi => by have := (unhide HT (by omega)).2 i hi; omega
  clear HT
  by_cases h5 : n = 0
  · subst h5
    go_wp2
    go_ret
    exact ⟨rfl, Below.refl _ _⟩
  have h5z : ((n : Int) == 0) = false := by simp; omega
  by_cases h6 : fr < 0
  · go_wp2
    go_ret
    exact ⟨rfl, Below.refl _ _⟩
  by_cases h7 : (n : Int) ≤ fr
  · go_wp2
    go_ret
    exact ⟨rfl, Below.refl _ _⟩
  by_cases h8 : (an : Int) < (n : Int)
  · go_wp2
    go_ret
    exact ⟨rfl, Below.refl _ _⟩
  go_wp2_with fail
  refine (linksInRange_any ga gb go n c A RB RO L C Z n _ _ hL hnm hZ).mono ?_
  rintro e w3 ⟨rfl, b, rfl, hb⟩
  cases b
  · go_wp2
    go_ret
    exact ⟨rfl, Below.refl _ _⟩
  have hZn := hb rfl
  clear hb
  obtain ⟨base, hb⟩ : ∃ base, wrap32 (-lift) = base := ⟨_, rfl⟩
  have hbd := wrap32_bd3 (-lift)
  rw [hb] at hbd
  obtain ⟨hb1, hb2⟩ := hbd
  by_cases h9 : (2147483647 : Int) < base + (n : Int)
  · go_wp2
    go_ret
    exact ⟨rfl, Below.refl _ _⟩
  go_wp2_with fail
  obtain rfl := hL.adr (by omega)
  obtain ⟨frN, rfl⟩ : ∃ k : Nat, fr = (k : Int) := ⟨fr.toNat, by omega⟩
  refine (cloneLinks_some ⟨gb, go, none⟩ gb go n c A RB RO L C Z _ _ hL (Nat.le_refl _) (by omega) hLb).mono ?_
  rintro e w4 ⟨rfl, hbel4, A', RB', hL4⟩
  have hA4 := hA.keep hbel4
  have hQ4 := hQ.keep hbel4
  have hz4 := hbel4.size
  obtain rfl := hA.adr (by omega)
  clear hL hA hQ hZ
  go_wp2_with fail
  refine (clone_some ⟨sb, so, none⟩ sb so an sc f w3.heap.size w4 hA4 hz4 (by omega)).mono ?_
  rintro e w5 ⟨rfl, hA5, hbel5, hz5⟩
  have hQ5 := hQ4.keep (hbel5.mono hz4)
  clear hA4 hQ4
  go_wp2_with fail
  refine (cloneM_any qa qb qo qn qc g w3.heap.size w5 hQ5 (by omega) (by omega)).mono ?_
  rintro e w6 ⟨qa', rfl, hq6, hbel6⟩
  have hL6 := hL4.keep ((hbel5.trans (hbel6.mono (by omega))))
  have hA6 := hA5.keep hbel6 (by omega)
  have hz6 := hbel6.size
  have hQ6 : (qa' = none ∧ qn = 0) ∨ (qa' = some ⟨w5.heap.size, 0, none⟩ ∧ row32 w6 w5.heap.size qn g) := hq6
  have hB6 : Below w3.heap.size w3 w6 := hbel4.trans ((hbel5.mono hz4).trans (hbel6.mono (by omega)))
  have hz5' : w4.heap.size + 1 ≤ w5.heap.size := by omega
  clear hq6 hQ5 hL4 hA5 hbel4 hbel5 hbel6 hz5
  -- aw := cloneI32(away)
  go_wp2_with fail
  refine (clone_some ⟨w4.heap.size, 0, none⟩ _ _ an an f _ w6 (hA6.is (by omega)) (by omega) (by omega)).mono ?_
  rintro e w7 ⟨rfl, hW7, hbel7, hz7⟩
  have hL7 := hL6.keep (hbel7.mono (by omega))
  have hA7 := hA6.keep hbel7 (by omega)
  have hB7 : Below w3.heap.size w3 w7 := hB6.trans (hbel7.mono (by omega))
  have hQ7 : (qa' = none ∧ qn = 0) ∨ (qa' = some ⟨w5.heap.size, 0, none⟩ ∧ row32 w7 w5.heap.size qn g ∧ w5.heap.size < w6.heap.size) := by
    rcases hQ6 with h | ⟨h1, h2⟩
    · exact .inl h
    · exact .inr ⟨h1, h2.keep hbel7 h2.lt, h2.lt⟩
  have hz7' : w6.heap.size + 1 ≤ w7.heap.size := by omega
  clear hL6 hA6 hB6 hQ6 hbel7 hz7
  -- want, lowered := reachModel(..)
  go_wp2_with fail
  refine (reach_any _ _ _ _ n n _ _ an an A' RB' (fun _ => 0) L L Z f base frN w7 (hL7.mono (by omega)) ((hA7.is (by omega)).mono (by omega)) (by omega) (by omega) (by omega) (by omega) hb1 (by omega) hLb hZn (unhide HAW)).mono ?_
  rintro e w8 ⟨want, low, rfl, hWa8, hLo8, hbel8, hWant, hz8⟩
  have hL8 := hL7.keep (hbel8.mono (by omega))
  have hW8 := hW7.keep hbel8 (by omega)
  have hB8 : Below w3.heap.size w3 w8 := hB7.trans (hbel8.mono (by omega))
  have hQ8 : QIn w8 w4.heap.size w6.heap.size qa' qn := by
    rcases hQ7 with h | ⟨h1, h2, h3⟩
    · exact .inl h
    · exact .inr ⟨w5.heap.size, g, h1, h2.keep hbel8 (by omega), by omega, by omega, by omega⟩
  have hqa8 : ∀ x : Nat, qa' = some ⟨x, 0, none⟩ → w4.heap.size ≤ x ∧ x < w6.heap.size := fun x hx => by
    rcases hQ7 with ⟨h1, h2⟩ | ⟨h1, h2, h3⟩
    · rw [h1] at hx; cases hx
    · rw [h1] at hx; simp at hx; omega
  have HWant := hide hWant
  clear hL7 hA7 hB7 hQ7 hW7 hbel8 hWant HAW
  -- ZZWalk
  go_wp2_with fail
  refine (zwalk_any _ _ _ n n A' RB' (fun _ => 0) L L Z w4.heap.size w8 hL8 w6.heap.size an qn qn frN qa' lift base f hW8 hQ8 (Nat.le_refl _) (by omega) (by omega) (by omega) (by omega) (by omega) hb hb1 (by omega) hLb hZn).mono ?_
  rintro e w9 ⟨K, qb1, qc1, hK, rfl, hq1, hq2, hA9, hg9, hD, hqa9, hqo, hk9⟩
  have hB1 : w4.heap.size ≤ qb1 := by
    rcases hqo with h | h
    · exact (hqa8 qb1 h).1
    · omega
  have hne : qb1 ≠ w7.heap.size ∧ qb1 ≠ w7.heap.size + 1 := by
    rcases hqo with h | h
    · have := (hqa8 qb1 h).2; omega
    · omega
  have hzn : ∀ y, y < n → ∀ i, i < L y → (Z y i).toNat < n := fun y hy i hi => by have := hZn y hy i hi; omega
  obtain ⟨hMc, par, hTr⟩ := Bf.out_more (base := base) (aw0 := f) (by omega : frN < n) hzn K (Nat.le_of_eq hK)
  obtain ⟨hWe, hLw⟩ := Bf.want_is hD hK (by omega) hMc (unhide HWant)
  have hsz := Bf.size_is hD.core hLw
  have hfun : (Bf.out L Z base frN f K).1 = want := funext hWe
  have hFin : Fin3 w9 w4.heap.size n an L Z frN w6.heap.size w7.heap.size (w7.heap.size + 1) qb1 qc1 want low (Bf.out L Z base frN f K).2 par := by
    refine ⟨hA9.congr (fun i _ => hWe i), hWa8.kept hk9 (by simp; omega), World.rowIs.of_block hLo8 (hk9.block _ (by omega) (by simp; omega)), hg9, hD.core.lt, hD.core.nodup, hD.core.head, hLw, hsz, ⟨K, 0, ?_⟩, ?_⟩
    · rw [← hfun]; exact hTr
    · intro i z hi
      have h1 := hD.core.le i z hi
      have h2 := (List.getElem?_eq_some_iff.1 hi).1
      have h3 := hD.core.len
      have h4 := hD.core.mono 0 i frN z (Nat.zero_le _) hD.core.head hi
      rw [hD.core.start, hWe z] at h4
      rw [hWe z] at h1
      omega
  have hL9 := hL8.keep (hk9.below (by omega) (by simp; omega))
  have hB9 : Below w3.heap.size w3 w9 := hB8.trans (hk9.below (by omega) (by simp; omega))
  have hKn := hD.core.len
  rw [← hK] at hKn
  obtain ⟨qs, hqs⟩ : ∃ q, q = (Bf.out L Z base frN f K).2 := ⟨_, rfl⟩
  rw [← hqs] at hFin hK
  have HK := hide hK
  have HF := hide hFin
  have HL := hide hL9
  have HB := hide hB9
  have HZ := hide hZn
  clear hFin hK hL9 hB9 hZn hqs hsz hfun hLw hWe hMc hTr hzn hD hg9 hA9 hk9 hL8 hW8 hB8 hQ8 hqa8 hqo hWa8 hLo8 HWant
  go_wp2
  -- ████ away, entry by entry
  go_loopg [19] an (fun gk i wr => (∃ nq, wr = w9.drewN nq) ∧ ∃ k : Nat, k ≤ an ∧ gk = an - k ∧ i = .int .i64 k)
  case atStart => exact ⟨⟨0, rfl⟩, 0, Nat.zero_le _, rfl, rfl⟩
  case round =>
  obtain ⟨⟨nq0, rfl⟩, k, hk, rfl, rfl⟩ := hrel
  by_cases hlt : k < an
  · have i2 : (k : Int) < (an : Int) := by omega
    have e1 := (unhide HF).awayR.cell hlt
    have e2 := (unhide HF).wantR.cell hlt
    go_wp2
    go_quiet (fail)
    go_wp2
    go_roundg (an - (k + 1))
    case measure => go_light; omega
    case rel => go_light; exact ⟨⟨_, rfl⟩, k + 1, by omega, rfl, by simp⟩
  have i2 : ¬ ((k : Int) < (an : Int)) := by omega
  go_wp2
  clear i2 hlt hk
  -- ████ the queue, entry by entry
  go_loopg [20] K (fun gk i wr => (∃ nq, wr = w9.drewN nq) ∧ ∃ k : Nat, k ≤ K ∧ gk = K - k ∧ i = .int .i64 k)
  case atStart => exact ⟨⟨_, rfl⟩, 0, Nat.zero_le _, rfl, rfl⟩
  case round =>
  obtain ⟨⟨nq1, rfl⟩, k1, hk1, rfl, rfl⟩ := hrel
  by_cases hlt : k1 < K
  · have i2 : (k1 : Int) < (K : Int) := by omega
    obtain ⟨g9, hg9, _⟩ := (unhide HF).queue
    have e1 := hg9.cell (i := k1) (by omega)
    clear hg9
    go_wp2
    go_quiet (fail)
    go_wp2
    go_roundg (K - (k1 + 1))
    case measure => go_light; omega
    case rel => go_light; exact ⟨⟨_, rfl⟩, k1 + 1, by omega, rfl, by simp⟩
  have i2 : ¬ ((k1 : Int) < (K : Int)) := by omega
  go_wp2
  clear i2 hlt hk1
  -- ████ the size
  go_loopg [21, 22] n (fun gk x i wr => (∃ nq, wr = w9.drewN nq) ∧ ∃ z : Nat, z ≤ n ∧ gk = n - z ∧ i = .int .i64 z ∧ x = .int .i64 ((1 + Bf.cntLow low z : Nat) : Int))
  case atStart => exact ⟨⟨_, rfl⟩, 0, Nat.zero_le _, rfl, rfl, rfl⟩
  case round =>
  obtain ⟨⟨nq2, rfl⟩, z, hz, rfl, rfl, rfl⟩ := hrel
  by_cases hlt : z < n
  · have i2 : (z : Int) < (n : Int) := by omega
    have e1 := (unhide HF).lowR.cell hlt
    have hc := Bf.cntLow_le low z
    have HS : Hid (Bf.cntLow low (z + 1) = Bf.cntLow low z + if low z then 1 else 0) := rfl
    obtain ⟨x, hx⟩ : ∃ x, x = Bf.cntLow low z := ⟨_, rfl⟩
    rw [← hx] at HS hc ⊢
    clear hx
    cases hlz : low z
    · rw [hlz] at HS e1
      go_wp2
      go_roundg (n - (z + 1))
      case measure => go_light; omega
      case rel => go_light; exact ⟨⟨_, rfl⟩, z + 1, by omega, rfl, by simp, by rw [HS.out]; simp⟩
    · rw [hlz] at HS e1
      go_wp2
      go_roundg (n - (z + 1))
      case measure => go_light; omega
      case rel => go_light; exact ⟨⟨_, rfl⟩, z + 1, by omega, rfl, by simp, by rw [HS.out]; simp; omega⟩
  have i2 : ¬ ((z : Int) < (n : Int)) := by omega
  obtain rfl : n = z := by omega
  have hsz : 1 + Bf.cntLow low n = K := by rw [unhide HK]; exact (unhide HF).len.symm
  rw [hsz]
  have e0 := (unhide HF).qcell (unhide HF).head (by omega)
  have hmk := run_make_row' (P := Try.prog) 29 4 (.bool false) 1 Try.underlying29 Try.info4 rfl .i64 .i64 n (by omega) (by omega)
  have n1 : rowB ((w9.drewN nq2).alloc (.cells (madeCells #[.bool false] n) 4)) w9.heap.size n (fun _ => false) := World.rowIs_made (w9.drewN nq2) (.bool false) n 4
  have y1 := n1.cell (i := frN) (by omega)
  have y2 := n1.frozen frN
  have hKp : (0 : Int) < (K : Int) := by
    have := (List.getElem?_eq_some_iff.1 (unhide HF).head).1
    have := unhide HK
    omega
  have S0 : rowB (((w9.drewN nq2).alloc (.cells (madeCells #[.bool false] n) 4)).setCell ⟨w9.heap.size, frN, none⟩ (.bool true)) w9.heap.size n (fun j => if j = frN then true else false) := n1.set frN true
  have S1 : Below w9.heap.size w9 (((w9.drewN nq2).alloc (.cells (madeCells #[.bool false] n) 4)).setCell ⟨w9.heap.size, frN, none⟩ (.bool true)) := ((belowN3 (Below.refl _ w9) nq2).alloc (Nat.le_refl _) _).setCell (Nat.le_refl _) _
  have HS0 := hide S0
  have HS1 := hide S1
  have i6 : (frN : Int) < (n : Int) := by omega
  clear hsz n1 S0 S1 i2 hlt hz
  go_wp2
  clear hmk y1 y2 e0
  go_loopg [24, 25, 26] (K - 1) (fun gk pv kv i wr => ∃ (p : Nat) (a b : Int) (sn : Nat → Bool), 1 ≤ p ∧ p ≤ K ∧ gk = K - p ∧ i = .int .i64 p ∧ pv = .int .i64 a ∧ kv = .int .i64 b ∧ Prev par p a b ∧ rowB wr w9.heap.size n sn ∧
    (∀ z, z < n → (sn z = true ↔ ∃ i, i < p ∧ qs[i]? = some z)) ∧ Below w9.heap.size w9 wr)
  case atStart =>
    refine ⟨1, -1, -1, _, Nat.le_refl _, by omega, rfl, rfl, rfl, rfl, .inl ⟨rfl, rfl, rfl⟩, unhide HS0, fun z hz => ?_, unhide HS1⟩
    have hh := (unhide HF).head
    by_cases e : z = frN
    · subst e
      simp only [if_true, true_iff]
      exact ⟨0, by omega, hh⟩
    · simp only [e, if_false, Bool.false_eq_true, false_iff]
      rintro ⟨i, h1, h2⟩
      have : i = 0 := by omega
      subst this
      rw [hh] at h2
      exact e (Option.some.inj h2).symm
  case round =>
  clear HS0 HS1
  obtain ⟨p, a, b, sn, hp1, hpK, rfl, rfl, rfl, rfl, hPv, hSn, hSc, hB⟩ := hrel
  by_cases hlt : p < K
  · have i2 : (p : Int) < (K : Int) := by omega
    obtain ⟨z, y, P, Kk, hz, hy, hPK, hPp, hKL, hZK, hww, hfst, hfst2, hzn, hyn, hlz, hnz, hwb1, hwb2⟩ := next_entry (unhide HF) hp1 (by have := unhide HK; omega)
    obtain ⟨kk0, jj0, hTr⟩ := (unhide HF).tr
    have hpl := prev_lt hTr hp1 hPv hPK
    have hq9 := (unhide HF).queue
    obtain ⟨g9, hg9, hgz⟩ := hq9
    have hql := hg9.lt
    have e1 : wr.cell? ⟨qb1, p, none⟩ = some (.int .i32 (z : Int)) := by rw [(hg9.keep hB hql).cell (by omega), hgz p z hz]
    have hsz : sn z = false := by
      cases h : sn z
      · rfl
      · obtain ⟨i, h1, h2⟩ := (hSc z hzn).1 h
        exact absurd h2 (hnz i h1)
    have e2 := hSn.cell hzn
    rw [hsz] at e2
    have e3 := hSn.frozen z
    have e4 := ((unhide HF).lowR.keep hB (unhide HF).lowR.lt).cell hzn
    rw [hlz] at e4
    have i3 : ¬ ((z : Int) < 0) := by omega
    have i4 : ¬ ((n : Int) ≤ (z : Int)) := by omega
    have i5 : (z : Int) < (n : Int) := by omega
    have hBs : Below w9.heap.size w9 (wr.setCell ⟨w9.heap.size, z, none⟩ (.bool true)) := hB.setCell (Nat.le_refl _) _
    have hSs := hSn.set z true
    have HSS := hide (show rowB (wr.setCell ⟨w9.heap.size, z, none⟩ (.bool true)) w9.heap.size n (fun j => if j = z then true else sn j) ∧ ∀ x, x < n → ((fun j => if j = z then true else sn j) x = true ↔ ∃ i, i < p + 1 ∧ qs[i]? = some x) from ⟨hSs, fun x hx => by
      by_cases e : x = z
      · subst e
        simp only [if_true, true_iff]
        exact ⟨p, by omega, hz⟩
      · simp only [e, if_false]
        rw [hSc x hx]
        constructor
        · rintro ⟨i, h1, h2⟩; exact ⟨i, by omega, h2⟩
        · rintro ⟨i, h1, h2⟩
          refine ⟨i, ?_, h2⟩
          have : i ≠ p := fun ei => by subst ei; rw [hz] at h2; exact e (Option.some.inj h2).symm
          omega⟩)
    have HBS := hide hBs
    have HPL := hide hpl
    have HPK := hide (show Prev par (p + 1) (P : Int) (Kk : Int) from .inr ⟨P, Kk, by omega, by rw [show p + 1 - 2 = p - 1 by omega]; exact hPK, rfl, rfl⟩)
    have HFS := hide (And.intro hfst (And.intro hfst2 (And.intro hZK hww)))
    have HYZ := hide (And.intro hy hz)
    have HQ := hide (And.intro hg9 hgz)
    clear hSn hSc hB hPv hPK hTr hpl hg9 hgz hsz hBs hSs hfst hfst2 hZK hww hy hz hnz hlz
    go_wp2
    clear e1 e2 e3 e4
    obtain ⟨ws, hws⟩ : ∃ ws, ws = wr.setCell ⟨w9.heap.size, z, none⟩ (.bool true) := ⟨_, rfl⟩
    rw [← hws] at HSS HBS ⊢
    clear hws
    have hBw := unhide HBS
    have HLs := hide ((unhide HL).keep (hBw.mono (by omega)))
    have HQs := hide (show ∀ i x : Nat, qs[i]? = some x → i < qc1 → ws.cell? ⟨qb1, i, none⟩ = some (.int .i32 (x : Int)) from fun i x h1 h2 => by rw [((unhide HQ).1.keep hBw hql).cell h2, (unhide HQ).2 i x h1])
    have hwR := (unhide HF).wantR.keep hBw (unhide HF).wantR.lt
    have HWz := hide (hwR.cell (i := z) (by omega))
    have HWy := hide (hwR.cell (i := y) (by omega))
    clear hBw hwR
    go_loopg [28, 29, 30] p (fun gk pv kv i wi => wi = ws ∧ ∃ q : Nat, q ≤ P ∧ gk = p - q ∧ i = .int .i64 q ∧ pv = .int .i64 (-1) ∧ kv = .int .i64 (-1))
    case atStart => exact ⟨rfl, 0, Nat.zero_le _, rfl, rfl, rfl, rfl⟩
    case round =>
    obtain ⟨hwi, q, hq, rfl, rfl, rfl, rfl⟩ := hrel
    subst hwi
    have i7 : (q : Int) < (p : Int) := by omega
    have i8 : (q : Int) < (K : Int) := by omega
    obtain ⟨y', hy'⟩ : ∃ y', qs[q]? = some y' := ⟨_, List.getElem?_eq_getElem (by have := unhide HK; omega)⟩
    have hyn' : y' < n := (unhide HF).lt y' (List.mem_of_getElem? hy')
    have e1 := unhide HQs q y' hy' (by omega)
    have e2 := (unhide HLs).row y' hyn'
    rw [Nat.zero_add] at e2
    have hRw := (unhide HLs).rows y' hyn'
    have i9 : (y' : Int) < (n : Int) := by omega
    have HY' := hide hy'
    clear hy'
    go_wp2_with fail
    refine (indexOf_any _ _ _ (L y') (L y') (Z y') (z : Int) _ _ hRw).mono ?_
    rintro e w' ⟨hw', r, rfl, hfnd⟩
    subst hw'
    obtain ⟨hfst, hfst2, hZK, hww⟩ := unhide HFS
    by_cases hqP : q < P
    · obtain rfl : r = -1 := found_no hfnd (fun j hj he => hfst q y' hqP (unhide HY') j hj (by rw [he]; rfl))
      clear hfst hfst2 hZK hww hfnd hRw e1 e2
      go_wp2
      go_roundg (p - (q + 1))
      case measure => go_light; omega
      case rel => go_light; exact ⟨rfl, q + 1, by omega, rfl, by simp, rfl, rfl⟩
    · obtain rfl : q = P := by omega
      have hyy : y' = y := by
        have h1 := unhide HY'
        rw [(unhide HYZ).1] at h1
        exact (Option.some.inj h1).symm
      subst hyy
      have hz0 := unhide HZ y' hyn' Kk hKL
      obtain rfl : r = (Kk : Int) := found_at hfnd hKL (by omega) (fun j hj he => hfst2 j hj (by rw [he]; rfl))
      have e3 := unhide HWz
      have e4 := unhide HWy
      rw [hww] at e3
      have hLk := hLb y' hyn'
      obtain ⟨dy, hdy⟩ : ∃ dy, dy = want y' := ⟨_, rfl⟩
      rw [← hdy] at e3 e4 hwb1 hwb2
      have i10 : (z : Int) < (an : Int) := by omega
      have i11 : (y' : Int) < (an : Int) := by omega
      have i12 : (Kk : Int) ≤ 2000000 := by omega
      clear hfst hfst2 hZK hww hfnd hRw e2 hz0 hdy HWz HWy HFS
      rcases unhide HPL with hpl | ⟨hpl, hpl2⟩
      · have b1 : ((q : Int) == a) = false := by simp; omega
        go_wp2
        go_quiet (fail)
        go_wp2
        go_roundg (K - (p + 1))
        case measure => go_light; omega
        case rel => go_light; exact ⟨p + 1, q, Kk, _, by omega, by omega, rfl, by simp, rfl, rfl, unhide HPK, (unhide HSS).1, (unhide HSS).2, belowN3 (unhide HBS) _⟩
      · subst hpl
        go_wp2
        go_quiet (fail)
        go_wp2
        go_roundg (K - (p + 1))
        case measure => go_light; omega
        case rel => go_light; exact ⟨p + 1, q, Kk, _, by omega, by omega, rfl, by simp, rfl, rfl, unhide HPK, (unhide HSS).1, (unhide HSS).2, belowN3 (unhide HBS) _⟩
  · have i2 : ¬ ((p : Int) < (K : Int)) := by omega
    have F : Hid (Below w3.heap.size w3 wr) := (unhide HB).trans (hB.mono (unhide HB).size)
    clear hPv hSn hSc hB
    go_wp2
    go_ret
    exact ⟨rfl, F.out⟩

end Go.Proofs.Qxb6603240a
