/- FnCountLinksMatchesTallyOverLiveSet (function 6): the walk of the law. -/
import Derived.Test.Qxb6603240aLeaf
import Derived.Test.Qxb6603240aZZCount
import Derived.Test.Qxb6603240aTallyPlain
namespace Go.Proofs.Qxb6603240a
open Go.RowKit
set_option linter.unusedVariables false

def RTrue6 (w : World) (e : Ending) (w' : World) : Prop := e = .returned (.bool true) ∧ Below w.heap.size w w'

/-- A clone of whatever slice of int32. -/
def ClonedI (w : World) (n : Nat) (f : Nat → Int) (e : Ending) (w' : World) : Prop :=
  ∃ qa : Option Addr, e = .returned (.slice qa n n) ∧ ((qa = none ∧ n = 0) ∨ (qa = some ⟨w.heap.size, 0, none⟩ ∧ row32 w' w.heap.size n f)) ∧ Below w.heap.size w w'

theorem cloneI_any (sa : Option Addr) (sb so n c : Nat) (f : Nat → Int) (B : Nat) (w : World) (h : IsI32 w B sa sb so n c f) (hB : B ≤ w.heap.size) (hn : n ≤ 2000000) :
    Calls Try.prog 12 #[.slice sa n c] w fun e w' => ClonedI w n f e w' := by
  cases sa with
  | none =>
    obtain ⟨rfl, rfl⟩ := h.nil rfl
    refine (clone_nil w).mono ?_
    rintro e w' ⟨h1, rfl⟩
    exact ⟨none, h1, .inl ⟨rfl, rfl⟩, Below.refl _ _⟩
  | some a =>
    refine (clone_some a sb so n c f B w h hB hn).mono ?_
    rintro e w' ⟨h1, h2, h3, h4⟩
    exact ⟨_, h1, .inr ⟨rfl, h2⟩, h3⟩

set_option maxHeartbeats 2000000 in
theorem tally_any (ga sa la : Option Addr) (gb go n c sb so an sc lb lo m mc : Nat) (A : Nat → Option Addr) (RB RO L C : Nat → Nat) (Z : Nat → Nat → Int) (g : Nat → Int) (f : Nat → Bool) (w : World)
    (hL : IsLinks w w.heap.size ga gb go n c A RB RO L C Z) (hA : IsI32 w w.heap.size sa sb so an sc g) (hF : IsB w w.heap.size la lb lo m mc f)
    (hZ : ∀ i, i < n → ∀ j, j < L i → -2147483648 ≤ Z i j ∧ Z i j ≤ 2147483647) :
    Calls Try.prog 6 #[.slice ga n c, .slice sa an sc, .slice la m mc] w fun e w' => RTrue6 w e w' := by
  have ham : an ≤ 9223372036854775807 := Nat.le_trans hA.le hA.max
  have hmm : m ≤ 9223372036854775807 := Nat.le_trans hF.le hF.max
  have hnm : n ≤ 9223372036854775807 := Nat.le_trans hL.le hL.max
  go_enter Try.func6, Try.ntmps6
  go_wp2_with fail
  refine (zz18_any ga gb go n c A RB RO L C Z sa la an sc m mc _ _ hL ham hmm).mono ?_
  rintro e w1 ⟨rfl, b, rfl, _⟩
  cases b
  · go_wp2
    go_ret
    exact ⟨rfl, Below.refl _ _⟩
  by_cases h1 : (1048576 : Int) < (n : Int)
  · go_wp2
    go_ret
    exact ⟨rfl, Below.refl _ _⟩
  by_cases h2 : (1048576 : Int) < (an : Int)
  · go_wp2
    go_ret
    exact ⟨rfl, Below.refl _ _⟩
  by_cases h3 : (1048576 : Int) < (m : Int)
  · go_wp2
    go_ret
    exact ⟨rfl, Below.refl _ _⟩
  go_wp2_with fail
  refine (linksBytes_any ga gb go n c A RB RO L C Z _ _ hL).mono ?_
  rintro e w2 ⟨rfl, t, rfl, ht1, ht2, ht3⟩
  have HT := hide ht3
  clear ht3
  by_cases h4 : (1048576 : Int) < t + 4 * (an : Int) + (m : Int)
  · go_wp2
    go_ret
    exact ⟨rfl, Below.refl _ _⟩
  have hn8 := (unhide HT (by omega)).1
  have hLb : ∀ i, i < n → L i ≤ 2000000 := fun i hi => by have := (unhide HT (by omega)).2 i hi; omega
  clear HT
  have hneq := fun w => run_neq_slice_nil_any (P := Try.prog) w 29 4 la m mc 0 0 Try.underlying29
  cases la with
  | none =>
    obtain ⟨rfl, rfl⟩ := hF.nil rfl
    go_wp2_with fail
    refine (cloneLinks_any ga gb go n c A RB RO L C Z _ _ hL (Nat.le_refl _) (by omega) hLb).mono ?_
    rintro e w4 ⟨ga4, gb4, A4, RB4, rfl, hbel4, hL4⟩
    have hA4 := hA.keep hbel4
    have hz4 := hbel4.size
    clear hL hA hF hneq
    go_wp2_with fail
    refine (cloneI_any sa sb so an sc g _ w4 hA4 hz4 (by omega)).mono ?_
    rintro e w5 ⟨qa5, rfl, hq5, hbel5⟩
    have hz5 := hbel5.size
    have hF5 : IsB w5 w5.heap.size none 0 0 0 0 f := ⟨fun _ => ⟨rfl, rfl⟩, fun h => absurd h (Nat.lt_irrefl _), Nat.le_refl _, by omega, fun i h => absurd h (Nat.not_lt_zero _), fun h => absurd h (Nat.lt_irrefl _)⟩
    have hL5 := hL4.keep hbel5
    have hB5 : Below w2.heap.size w2 w5 := hbel4.trans (hbel5.mono hz4)
    clear hA4 hL4 hbel4
    go_wp2_with fail
    refine (cloneB_any none 0 0 0 0 f _ w5 hF5 (Nat.le_refl _) (by omega)).mono ?_
    rintro e w6 h6
    obtain ⟨rfl, rfl⟩ : e = .returned (.slice none 0 0) ∧ w6 = w5 := by
      rcases h6 with ⟨_, h⟩ | ⟨h, _⟩
      · exact h
      · cases h
    have hQ6 : QC w6 w4.heap.size qa5 an := by
      rcases hq5 with ⟨h1, h2⟩ | ⟨h1, h2⟩
      · exact .inl ⟨h1, h2⟩
      · exact .inr ⟨_, g, h1, h2, by omega, Nat.le_refl _⟩
    clear h6 hq5 hbel5
    go_wp2_with fail
    refine (zcount_any ga4 gb4 0 n n A4 RB4 (fun _ => 0) L L Z w4.heap.size w6 hL5 none 0 0 0 0 f hF5 an an qa5 hQ6 (fun _ _ h => absurd h (Nat.lt_irrefl _)) (Nat.le_refl _) (by omega) (by omega) hLb (fun h => by cases h)).mono ?_
    rintro e w7 ⟨ra, rb, rc, rfl, r1, r2, r3, r4, r5⟩
    have hL7 := hL5.keep (r4.below (by omega) (by simp; omega))
    have hB7 : Below w2.heap.size w2 w7 := hB5.trans (r4.below (by omega) (by simp; omega))
    have hle7 := hL7.max
    have hR := hide r5
    have heq := fun w => Lib.run_eql_slice_nil (P := Try.prog) w 29 4 none 0 0 0 0 Try.underlying29
    clear r4 r5 hQ6 hF5 hL5 hB5
    go_wp2
    go_loopg [8] n (fun gk i wr => wr = w7 ∧ ∃ k : Nat, k ≤ n ∧ gk = n - k ∧ i = .int .i64 k)
    case atStart => exact ⟨rfl, 0, Nat.zero_le _, rfl, rfl⟩
    case round =>
      obtain ⟨rfl, k, hk, rfl, rfl⟩ := hrel
      by_cases hlt : k < n
      · have i1 : (k : Int) < (n : Int) := by omega
        obtain ⟨rfl, ⟨g7, q1, q2⟩, _⟩ := unhide hR (by omega)
        obtain rfl := hL7.adr (by omega)
        have e1 := hL7.row k hlt
        rw [Nat.zero_add] at e1
        have e2 : wr.cell? ⟨rb, k, none⟩ = some (.int .i32 (L k : Int)) := by rw [q1.cell (by omega), q2 k hlt]; rfl
        have hLk := hLb k hlt
        clear q1 q2
        go_wp2
        go_roundg (n - (k + 1))
        case measure => go_light; omega
        case rel => go_light; exact ⟨rfl, k + 1, by omega, rfl, by simp⟩
      · have i1 : ¬ ((k : Int) < (n : Int)) := by omega
        go_wp2
        go_ret
        exact ⟨rfl, hB7⟩
  | some lad =>
    go_wp2_with fail
    refine (linksInRange_any ga gb go n c A RB RO L C Z m _ _ hL hmm hZ).mono ?_
    rintro e w3 ⟨rfl, b, rfl, hb⟩
    cases b
    · go_wp2
      go_ret
      exact ⟨rfl, Below.refl _ _⟩
    have hZn := hb rfl
    have HZ := hide hZn
    clear hb hZ hZn
    go_wp2_with fail
    refine (cloneLinks_any ga gb go n c A RB RO L C Z _ _ hL (Nat.le_refl _) (by omega) hLb).mono ?_
    rintro e w4 ⟨ga4, gb4, A4, RB4, rfl, hbel4, hL4⟩
    have hA4 := hA.keep hbel4
    have hF4 := hF.keep hbel4
    have hz4 := hbel4.size
    clear hL hA hF hneq
    go_wp2_with fail
    refine (cloneI_any sa sb so an sc g _ w4 hA4 hz4 (by omega)).mono ?_
    rintro e w5 ⟨qa5, rfl, hq5, hbel5⟩
    have hz5 := hbel5.size
    have hF5 := hF4.keep (hbel5.mono hz4)
    have hL5 := hL4.keep hbel5
    have hB5 : Below w3.heap.size w3 w5 := hbel4.trans (hbel5.mono hz4)
    clear hA4 hL4 hbel4 hF4
    go_wp2_with fail
    refine (cloneB_any (some lad) lb lo m mc f _ w5 hF5 (by omega) (by omega)).mono ?_
    rintro e w6 h6
    obtain ⟨rfl, hR6, hbel6, hz6⟩ : e = .returned (.slice (some ⟨w5.heap.size, 0, none⟩) m m) ∧ rowB w6 w5.heap.size m f ∧ Below w5.heap.size w5 w6 ∧ w6.heap.size = w5.heap.size + 1 := by
      rcases h6 with ⟨h, _⟩ | ⟨_, h⟩
      · cases h
      · exact h
    have hqlt : ∀ qb : Nat, qa5 = some ⟨qb, 0, none⟩ → qb < w5.heap.size := fun qb hq => by
      rcases hq5 with ⟨h1, h2⟩ | ⟨h1, h2⟩
      · rw [h1] at hq; cases hq
      · rw [h1] at hq; simp at hq; have := h2.lt; omega
    have hQ6 : QC w6 w4.heap.size qa5 an := by
      rcases hq5 with ⟨h1, h2⟩ | ⟨h1, h2⟩
      · exact .inl ⟨h1, h2⟩
      · exact .inr ⟨_, g, h1, h2.keep hbel6 h2.lt, by omega, Nat.le_refl _⟩
    have hL6 := hL5.keep (hbel6.mono hz5)
    have hF6 : IsB w6 w6.heap.size (some ⟨w5.heap.size, 0, none⟩) w5.heap.size 0 m m f := (hR6.is (by omega)).mono (by omega)
    have hB6 : Below w3.heap.size w3 w6 := hB5.trans (hbel6.mono (by omega))
    clear h6 hq5 hbel5 hbel6 hL5 hF5 hB5
    go_wp2_with fail
    refine (zcount_any ga4 gb4 0 n n A4 RB4 (fun _ => 0) L L Z w4.heap.size w6 hL6 (some ⟨w5.heap.size, 0, none⟩) w5.heap.size 0 m m f hF6 an an qa5 hQ6 (fun qb hq _ => by have := hqlt qb hq; omega) (Nat.le_refl _) (by omega) (by omega) hLb (fun _ => unhide HZ)).mono ?_
    rintro e w7 ⟨ra, rb, rc, rfl, r1, r2, r3, r4, r5⟩
    have hL7 := hL6.keep (r4.below (by omega) (by simp; omega))
    have hB7 : Below w3.heap.size w3 w7 := hB6.trans (r4.below (by omega) (by simp; omega))
    have hle7 := hL7.max
    have hl7 : 0 < n → rowB w7 w5.heap.size m f := fun hp => by
      obtain ⟨_, _, h⟩ := r5 hp
      refine World.rowIs.of_block hR6 (r4.block _ (by omega) ?_)
      have : w5.heap.size ≠ rb := by
        rcases h with h | h
        · have := hqlt rb h; omega
        · omega
      simp [this]
    have hR := hide r5
    have hl8 := hide hl7
    have heq := fun w => Lib.run_eql_slice_nil (P := Try.prog) w 29 4 (some ⟨w5.heap.size, 0, none⟩) m m 0 0 Try.underlying29
    clear r4 r5 hQ6 hF6 hL6 hB6 hl7 hR6 hqlt
    go_wp2
    go_loopg [8] n (fun gk i wr => wr = w7 ∧ ∃ k : Nat, k ≤ n ∧ gk = n - k ∧ i = .int .i64 k)
    case atStart => exact ⟨rfl, 0, Nat.zero_le _, rfl, rfl⟩
    case round =>
      obtain ⟨rfl, k, hk, rfl, rfl⟩ := hrel
      by_cases hlt : k < n
      · have i1 : (k : Int) < (n : Int) := by omega
        obtain ⟨rfl, ⟨g7, q1, q2⟩, _⟩ := unhide hR (by omega)
        have hlv := unhide hl8 (by omega)
        have hlc := hide (fun v (hv : v < m) => hlv.cell hv)
        obtain rfl := hL7.adr (by omega)
        have e1 := hL7.row k hlt
        rw [Nat.zero_add] at e1
        have e2 : wr.cell? ⟨rb, k, none⟩ = some (.int .i32 (cntTo f (Z k) (L k) : Int)) := by rw [q1.cell (by omega), q2 k hlt]; rfl
        have hcl := cntTo_le f (Z k) (L k)
        have hLk := hLb k hlt
        have hRow := hL7.rows k hlt
        have hRa := hRow.adr
        have hRc := hide hRow.cell
        have hzk := hide (unhide HZ k hlt)
        have HT : Hid (tal f (Z k) (L k) m = cntTo f (Z k) (L k)) := tal_eq f (Z k) (L k) m (unhide HZ k hlt)
        obtain ⟨Ak, hAk⟩ : ∃ Ak, Ak = A4 k := ⟨_, rfl⟩
        rw [← hAk] at e1 hRa
        obtain ⟨ct, hct⟩ : ∃ ct, ct = cntTo f (Z k) (L k) := ⟨_, rfl⟩
        rw [← hct] at e2 hcl HT
        clear q1 q2 hlv hAk hRow hct
        have e1' := e1
        have Hbel := hide hB7
        have HL7 := hide hL7
        clear hB7 hL7 e1'
        go_wp2
        clear e1
        go_loopg [10, 11] m (fun gk x i wi => wi = wr ∧ ∃ v : Nat, v ≤ m ∧ gk = m - v ∧ i = .int .i64 v ∧ x = .int .i64 (tal f (Z k) (L k) v))
        case atStart => exact ⟨rfl, 0, Nat.zero_le _, rfl, rfl, rfl⟩
        case round =>
          obtain ⟨rfl, v, hv, rfl, rfl, rfl⟩ := hrel
          have htl := tal_le f (Z k) (L k) v
          by_cases hvl : v < m
          · have i2 : (v : Int) < (m : Int) := by omega
            have e3 := unhide hlc v hvl
            have HS : Hid (tal f (Z k) (L k) (v + 1) = tal f (Z k) (L k) v + if f v then eqTo (Z k) v (L k) else 0) := rfl
            obtain ⟨tv, htv⟩ : ∃ tv, tv = tal f (Z k) (L k) v := ⟨_, rfl⟩
            rw [← htv] at HS htl ⊢
            clear htv
            cases hfv : f v
            · rw [hfv] at HS e3
              go_wp2
              go_roundg (m - (v + 1))
              case measure => go_light; omega
              case rel => go_light; exact ⟨rfl, v + 1, by omega, rfl, by simp, by rw [HS.out]; simp⟩
            · rw [hfv] at HS e3
              go_wp2
              go_loopg [10, 12] (L k) (fun gk x i wi => wi = wr ∧ ∃ q : Nat, q ≤ L k ∧ gk = L k - q ∧ i = .int .i64 q ∧ x = .int .i64 ((tv + eqTo (Z k) v q : Nat) : Int))
              case atStart => exact ⟨rfl, 0, Nat.zero_le _, rfl, rfl, by simp [eqTo]⟩
              case round =>
                obtain ⟨rfl, q, hq, rfl, rfl, rfl⟩ := hrel
                have hel := eqTo_le (Z k) v q
                by_cases hql : q < L k
                · have i3 : (q : Int) < (L k : Int) := by omega
                  obtain rfl := hRa (by omega)
                  have e4 := unhide hRc q hql
                  rw [Nat.zero_add] at e4
                  obtain ⟨z1, z2⟩ := unhide hzk q hql
                  have HE : Hid (eqTo (Z k) v (q + 1) = eqTo (Z k) v q + if Z k q = (v : Int) then 1 else 0) := rfl
                  obtain ⟨ev, hev⟩ : ∃ ev, ev = eqTo (Z k) v q := ⟨_, rfl⟩
                  rw [← hev] at HE hel ⊢
                  clear hev hRa
                  by_cases hzv : Z k q = (v : Int)
                  · have hb : (Z k q == (v : Int)) = true := by simp [hzv]
                    have HE2 : Hid (eqTo (Z k) v (q + 1) = ev + 1) := by have := HE.out; rw [if_pos hzv] at this; exact this
                    clear hzv HE
                    go_wp2
                    go_roundg (L k - (q + 1))
                    case measure => go_light; omega
                    case rel => go_light; exact ⟨rfl, q + 1, by omega, rfl, by simp, by rw [HE2.out]; congr 1⟩
                  · have hb : (Z k q == (v : Int)) = false := by simp [hzv]
                    have HE2 : Hid (eqTo (Z k) v (q + 1) = ev) := by have := HE.out; rw [if_neg hzv] at this; exact this
                    clear hzv HE
                    go_wp2
                    go_roundg (L k - (q + 1))
                    case measure => go_light; omega
                    case rel => go_light; exact ⟨rfl, q + 1, by omega, rfl, by simp, by rw [HE2.out]⟩
                · have i3 : ¬ ((q : Int) < (L k : Int)) := by omega
                  obtain rfl : q = L k := by omega
                  go_wp2
                  go_roundg (m - (v + 1))
                  case measure => go_light; omega
                  case rel => go_light; exact ⟨rfl, v + 1, by omega, rfl, by simp, by rw [HS.out]; simp⟩
          · have i2 : ¬ ((v : Int) < (m : Int)) := by omega
            obtain rfl : v = m := by omega
            have hTT := HT.out
            rw [hTT] at htl ⊢
            clear hTT
            go_wp2
            go_roundg (n - (k + 1))
            case measure => go_light; omega
            case rel => go_light; exact ⟨rfl, k + 1, by omega, rfl, by simp⟩
      · have i1 : ¬ ((k : Int) < (n : Int)) := by omega
        go_wp2
        go_ret
        exact ⟨rfl, hB7⟩

end Go.Proofs.Qxb6603240a
