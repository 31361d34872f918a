/- FnWalkTwiceFromSameStartChangesNothing (function 4): the walk of the law. -/
import Derived.Test.Qxb6603240aLeaf
import Derived.Test.Qxb6603240aCloneLinks
import Derived.Test.Qxb6603240aZZWalk
namespace Go.Proofs.Qxb6603240a
open Go.RowKit
set_option linter.unusedVariables false

def RTrue (w : World) (e : Ending) (w' : World) : Prop := e = .returned (.bool true) ∧ Below w.heap.size w w'

/-- A clone of whatever slice of int32. -/
def Cloned (w : World) (n : Nat) (f : Nat → Int) (e : Ending) (w' : World) : Prop :=
  ∃ qa : Option Addr, e = .returned (.slice qa n n) ∧ ((qa = none ∧ n = 0) ∨ (qa = some ⟨w.heap.size, 0, none⟩ ∧ row32 w' w.heap.size n f)) ∧ Below w.heap.size w w'

theorem clone_any (sa : Option Addr) (sb so n c : Nat) (f : Nat → Int) (B : Nat) (w : World) (h : IsI32 w B sa sb so n c f) (hB : B ≤ w.heap.size) (hn : n ≤ 2000000) :
    Calls Try.prog 12 #[.slice sa n c] w fun e w' => Cloned w n f e w' := by
  cases sa with
  | none =>
    obtain ⟨rfl, rfl⟩ := h.nil rfl
    refine (clone_nil w).mono ?_
    rintro e w' ⟨h1, rfl⟩
    exact ⟨none, h1, .inl ⟨rfl, rfl⟩, Below.refl _ _⟩
  | some a =>
    refine (clone_some a sb so n c f B w h hB hn).mono ?_
    rintro e w' ⟨h1, h2, h3, h4⟩
    exact ⟨_, h1, .inr ⟨rfl, h2⟩, h3⟩

theorem wrap32_bd (x : Int) : -2147483648 ≤ wrap32 x ∧ wrap32 x ≤ 2147483647 := by unfold wrap32; omega

theorem belowN {B : Nat} {a w : World} (h : Below B a w) (n : Nat) : Below B a (w.drewN n) := ⟨h.os, h.tape, h.output, h.size, h.block⟩

set_option maxHeartbeats 2000000 in
theorem twice_any (ga sa qa : Option Addr) (gb go n c sb so an sc qb qo qn qc : Nat) (A : Nat → Option Addr) (RB RO L C : Nat → Nat) (Z : Nat → Nat → Int) (f g : Nat → Int) (lift fr : Int) (w : World)
    (hL : IsLinks w w.heap.size ga gb go n c A RB RO L C Z) (hA : IsI32 w w.heap.size sa sb so an sc f) (hQ : IsI32 w w.heap.size qa qb qo qn qc g)
    (hZ : ∀ i, i < n → ∀ j, j < L i → -2147483648 ≤ Z i j ∧ Z i j ≤ 2147483647) (hl1 : -2147483648 ≤ lift) (hl2 : lift ≤ 2147483647) (hf1 : -2147483648 ≤ fr) (hf2 : fr ≤ 2147483647) :
    Calls Try.prog 4 #[.slice ga n c, .slice sa an sc, .int .i32 lift, .slice qa qn qc, .int .i32 fr] w fun e w' => RTrue w e w' := by
  have ham : an ≤ 9223372036854775807 := Nat.le_trans hA.le hA.max
  have hqm : qn ≤ 9223372036854775807 := Nat.le_trans hQ.le hQ.max
  have hnm : n ≤ 9223372036854775807 := Nat.le_trans hL.le hL.max
  go_enter Try.func4, Try.ntmps4
  go_wp2_with fail
  refine (zz16_any ga gb go n c A RB RO L C Z sa qa an sc qn qc lift fr _ _ hL ham hqm).mono ?_
  rintro e w1 ⟨rfl, b, rfl, _⟩
  cases b
  · go_wp2
    go_ret
    exact ⟨rfl, Below.refl _ _⟩
  by_cases h1 : (1048576 : Int) < (n : Int)
  · go_wp2
    go_ret
    exact ⟨rfl, Below.refl _ _⟩
  by_cases h2 : (1048576 : Int) < (an : Int)
  · go_wp2
    go_ret
    exact ⟨rfl, Below.refl _ _⟩
  by_cases h3 : (1048576 : Int) < (qn : Int)
  · go_wp2
    go_ret
    exact ⟨rfl, Below.refl _ _⟩
  go_wp2_with fail
  refine (linksBytes_any ga gb go n c A RB RO L C Z _ _ hL).mono ?_
  rintro e w2 ⟨rfl, t, rfl, ht1, ht2, ht3⟩
  have HT := hide ht3
  clear ht3
  by_cases h4 : (1048576 : Int) < t + 4 * (an : Int) + 4 * (qn : Int)
  · go_wp2
    go_ret
    exact ⟨rfl, Below.refl _ _⟩
  have hn8 := (unhide HT (by omega)).1
  have hLb : ∀ i, i < n → L i ≤ 2000000 := fun i hi => by have := (unhide HT (by omega)).2 i hi; omega
  clear HT
  by_cases h5 : n = 0
  · subst h5
    go_wp2
    go_ret
    exact ⟨rfl, Below.refl _ _⟩
  have h5z : ((n : Int) == 0) = false := by simp; omega
  by_cases h6 : fr < 0
  · go_wp2
    go_ret
    exact ⟨rfl, Below.refl _ _⟩
  by_cases h7 : (n : Int) ≤ fr
  · go_wp2
    go_ret
    exact ⟨rfl, Below.refl _ _⟩
  by_cases h8 : (an : Int) < (n : Int)
  · go_wp2
    go_ret
    exact ⟨rfl, Below.refl _ _⟩
  go_wp2_with fail
  refine (linksInRange_any ga gb go n c A RB RO L C Z n _ _ hL hnm hZ).mono ?_
  rintro e w3 ⟨rfl, b, rfl, hb⟩
  cases b
  · go_wp2
    go_ret
    exact ⟨rfl, Below.refl _ _⟩
  have hZn := hb rfl
  clear hb
  obtain ⟨base, hb⟩ : ∃ base, wrap32 (-lift) = base := ⟨_, rfl⟩
  have hbd := wrap32_bd (-lift)
  rw [hb] at hbd
  obtain ⟨hb1, hb2⟩ := hbd
  by_cases h9 : (2147483647 : Int) < base + (n : Int)
  · go_wp2
    go_ret
    exact ⟨rfl, Below.refl _ _⟩
  go_wp2_with fail
  obtain rfl := hL.adr (by omega)
  obtain ⟨frN, rfl⟩ : ∃ k : Nat, fr = (k : Int) := ⟨fr.toNat, by omega⟩
  refine (cloneLinks_some ⟨gb, go, none⟩ gb go n c A RB RO L C Z _ _ hL (Nat.le_refl _) (by omega) hLb).mono ?_
  rintro e w4 ⟨rfl, hbel4, A', RB', hL4⟩
  have hA4 := hA.keep hbel4
  have hQ4 := hQ.keep hbel4
  have hz4 := hbel4.size
  obtain rfl := hA.adr (by omega)
  clear hL hA hQ hZ
  go_wp2_with fail
  refine (clone_some ⟨sb, so, none⟩ sb so an sc f w3.heap.size w4 hA4 hz4 (by omega)).mono ?_
  rintro e w5 ⟨rfl, hA5, hbel5, hz5⟩
  have hQ5 := hQ4.keep (hbel5.mono hz4)
  clear hA4 hQ4
  go_wp2_with fail
  refine (clone_any qa qb qo qn qc g w3.heap.size w5 hQ5 (by omega) (by omega)).mono ?_
  rintro e w6 ⟨qa', rfl, hq6, hbel6⟩
  have hL6 := hL4.keep ((hbel5.trans (hbel6.mono (by omega))))
  have hA6 := hA5.keep hbel6 (by omega)
  have hQ6 : QIn w6 w4.heap.size w4.heap.size qa' qn := by
    rcases hq6 with ⟨h1, h2⟩ | ⟨h1, h2⟩
    · exact .inl ⟨h1, h2⟩
    · exact .inr ⟨w5.heap.size, g, h1, h2, by omega, by omega, by omega⟩
  have hqa6 : ∀ x : Nat, qa' = some ⟨x, 0, none⟩ → w4.heap.size ≤ x := fun x hx => by
    rcases hq6 with ⟨h1, h2⟩ | ⟨h1, h2⟩
    · rw [h1] at hx; cases hx
    · rw [h1] at hx; simp at hx; omega
  have hz6 := hbel6.size
  have hB6 : Below w3.heap.size w3 w6 := hbel4.trans ((hbel5.mono hz4).trans (hbel6.mono (by omega)))
  clear hq6 hQ5 hL4 hA5 hbel4 hbel5 hbel6
  go_wp2_with fail
  refine (zwalk_any _ _ _ n n A' RB' (fun _ => 0) L L Z w4.heap.size w6 hL6 w4.heap.size an qn qn frN qa' lift base f hA6 hQ6 (Nat.le_refl _) (Nat.le_refl _) (by omega) (by omega) (by omega) (by omega) hb hb1 (by omega) hLb hZn).mono ?_
  rintro e w7 ⟨K, qb1, qc1, hK, rfl, hq1, hq2, hA7, ⟨g7, hg7, hgz7⟩, hD, hqa7, hqo, hk7⟩
  have hB1 : w4.heap.size ≤ qb1 := by
    rcases hqo with h | h
    · exact hqa6 qb1 h
    · omega
  have hK0 : 0 < K := by
    have h1 := (List.getElem?_eq_some_iff.1 hD.core.head).1
    omega
  have hKn := hD.core.len
  rw [← hK] at hKn
  have hAgain := Bf.again hD hK0
  have hz7 := hk7.size
  have hL7 := hL6.keep (hk7.below (by omega) (by simp; omega))
  have hB7 : Below w3.heap.size w3 w7 := hB6.trans (hk7.below (by omega) (by simp; omega))
  obtain ⟨aw1, haw⟩ : ∃ a, a = (Bf.out L Z base frN f K).1 := ⟨_, rfl⟩
  rw [← haw] at hA7 hAgain
  have hql := hg7.lt
  have HAg := hide hAgain
  clear hAgain haw hD hgz7 hK hqo hqa6 hB6 hL6 hA6 hQ6 hk7
  go_wp2_with fail
  refine (clone_some ⟨w4.heap.size, 0, none⟩ _ _ an an aw1 _ w7 (hA7.is (by omega)) (by omega) (by omega)).mono ?_
  rintro e w8 ⟨rfl, hS8, hbel8, hz8⟩
  have hL8 := hL7.keep (hbel8.mono (by omega))
  have hA8 := hA7.keep hbel8 (by omega)
  have hQ8 : QIn w8 w4.heap.size w4.heap.size (some ⟨qb1, 0, none⟩) qc1 := .inr ⟨qb1, g7, rfl, hg7.keep hbel8 hql, hq2, hB1, hqa7⟩
  have hB8 : Below w3.heap.size w3 w8 := hB7.trans (hbel8.mono (by omega))
  clear hL7 hA7 hg7 hbel8 hB7
  go_wp2_with fail
  refine (zwalk_any _ _ _ n n A' RB' (fun _ => 0) L L Z w4.heap.size w8 hL8 w4.heap.size an K qc1 frN (some ⟨qb1, 0, none⟩) lift base aw1 hA8 hQ8 (by omega) (Nat.le_refl _) (by omega) (by omega) (by omega) (by omega) hb hb1 (by omega) hLb hZn).mono ?_
  rintro e w9 ⟨K2, qb2, qc2, hK2, rfl, hq3, hq4, hA9, ⟨g9, hg9, hgz9⟩, hD2, hqa9, hqo2, hk9⟩
  rw [unhide HAg] at hK2 hA9 hgz9
  simp only [List.length_cons, List.length_nil] at hK2
  subst hK2
  have hg0 := hgz9 0 frN (by simp)
  have hS9 : row32 w9 w7.heap.size an aw1 := hS8.kept hk9 (by
    have : w7.heap.size ≠ qb2 := by
      rcases hqo2 with h | h
      · simp at h; omega
      · omega
    simp; omega)
  have hB9 : Below w3.heap.size w3 w9 := hB8.trans (hk9.below (by omega) (by
    have : w3.heap.size ≤ qb2 := by
      rcases hqo2 with h | h
      · simp at h; omega
      · omega
    simp; omega))
  have r0 : w9.cell? ⟨qb2, 0, none⟩ = some (.int .i32 (frN : Int)) := by rw [hg9.cell (by omega), hg0]
  clear hL8 hA8 hQ8 hB8 hS8 hD2 hgz9 hg9 HAg hqo2 hk9 hg0 hLb hZn
  go_wp2
  clear r0
  go_loopg [20] an (fun gk i wr => ∃ k : Nat, k ≤ an ∧ gk = an - k ∧ i = .int .i64 k ∧ row32 wr w4.heap.size an aw1 ∧ row32 wr w7.heap.size an aw1 ∧ Below w3.heap.size w3 wr)
  case atStart => exact ⟨0, Nat.zero_le _, rfl, rfl, hA9, hS9, hB9⟩
  case round =>
    obtain ⟨k, hk, rfl, rfl, hAr, hSr, hBr⟩ := hrel
    clear hA9 hS9 hB9
    by_cases hlt : k < an
    · have i1 : (k : Int) < (an : Int) := by omega
      have e1 := hAr.cell hlt
      have e2 := hSr.cell hlt
      have R := hide (And.intro hAr (And.intro hSr hBr))
      clear hAr hSr hBr
      go_wp2
      go_quiet (fail)
      go_wp2
      go_roundg (an - (k + 1))
      case measure => go_light; omega
      case rel => go_light; exact ⟨k + 1, by omega, rfl, by simp, (unhide R).1, (unhide R).2.1, belowN (unhide R).2.2 _⟩
    · have i1 : ¬ ((k : Int) < (an : Int)) := by omega
      have R := hide hBr
      clear hAr hSr hBr
      go_wp2
      go_ret
      exact ⟨rfl, unhide R⟩

end Go.Proofs.Qxb6603240a
