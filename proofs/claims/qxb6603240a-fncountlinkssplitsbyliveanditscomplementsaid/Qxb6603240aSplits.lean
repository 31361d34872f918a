/- FnCountLinksSplitsByLiveAndItsComplement (function 7): the walk of the law. -/
import Derived.Test.Qxb6603240aLeaf
import Derived.Test.Qxb6603240aZZCount
namespace Go.Proofs.Qxb6603240a
open Go.RowKit
set_option linter.unusedVariables false

def RTrue7 (w : World) (e : Ending) (w' : World) : Prop := e = .returned (.bool true) ∧ Below w.heap.size w w'

/-- A clone of whatever slice of int32. -/
def ClonedS (w : World) (n : Nat) (f : Nat → Int) (e : Ending) (w' : World) : Prop :=
  ∃ qa : Option Addr, e = .returned (.slice qa n n) ∧ ((qa = none ∧ n = 0) ∨ (qa = some ⟨w.heap.size, 0, none⟩ ∧ row32 w' w.heap.size n f)) ∧ Below w.heap.size w w'

theorem cloneS_any (sa : Option Addr) (sb so n c : Nat) (f : Nat → Int) (B : Nat) (w : World) (h : IsI32 w B sa sb so n c f) (hB : B ≤ w.heap.size) (hn : n ≤ 2000000) :
    Calls Try.prog 12 #[.slice sa n c] w fun e w' => ClonedS w n f e w' := by
  cases sa with
  | none =>
    obtain ⟨rfl, rfl⟩ := h.nil rfl
    refine (clone_nil w).mono ?_
    rintro e w' ⟨h1, rfl⟩
    exact ⟨none, h1, .inl ⟨rfl, rfl⟩, Below.refl _ _⟩
  | some a =>
    refine (clone_some a sb so n c f B w h hB hn).mono ?_
    rintro e w' ⟨h1, h2, h3, h4⟩
    exact ⟨_, h1, .inr ⟨rfl, h2⟩, h3⟩

/-! ### The plain law -/
theorem cnt_split (f : Nat → Bool) (z : Nat → Int) (k : Nat) : cntTo f z k + cntTo (fun v => !f v) z k = k := by
  induction k with
  | zero => rfl
  | succ k ih =>
    show cntTo f z k + _ + (cntTo (fun v => !f v) z k + _) = _
    cases h : f (z k).toNat <;> simp [h] <;> omega

theorem cnt_all (z : Nat → Int) (k : Nat) : cntTo (fun _ => true) z k = k := by
  induction k with
  | zero => rfl
  | succ k ih => show cntTo (fun _ => true) z k + _ = _; rw [ih]; simp

theorem cnt_congr {f g : Nat → Bool} {z : Nat → Int} {k m : Nat} (h : ∀ j, j < k → 0 ≤ z j ∧ z j < m) (e : ∀ v, v < m → f v = g v) : cntTo f z k = cntTo g z k := by
  induction k with
  | zero => rfl
  | succ k ih =>
    show cntTo f z k + _ = cntTo g z k + _
    have hk := h k (by omega)
    rw [ih (fun j hj => h j (by omega)), e (z k).toNat (by omega)]

theorem ClonedS.is {w w' : World} {n : Nat} {f : Nat → Int} {qa : Option Addr} (h : (qa = none ∧ n = 0) ∨ (qa = some ⟨w.heap.size, 0, none⟩ ∧ row32 w' w.heap.size n f)) (hn : n ≤ 2000000) : IsI32 w' w'.heap.size qa w.heap.size 0 n n f := by
  rcases h with ⟨rfl, rfl⟩ | ⟨rfl, h⟩
  · exact ⟨fun _ => ⟨rfl, rfl⟩, fun h => absurd h (Nat.lt_irrefl _), Nat.le_refl _, by omega, fun i h => absurd h (Nat.not_lt_zero _), fun h => absurd h (Nat.lt_irrefl _)⟩
  · exact (h.is (by omega)).mono h.lt

/-- A result of ZZCountLinks, as it reads. -/
def Res (W : World) (n : Nat) (cnt : Nat → Nat) (ra : Option Addr) (rb rc : Nat) : Prop := 0 < n → ra = some ⟨rb, 0, none⟩ ∧ rb < W.heap.size ∧ ∃ g : Nat → Int, row32 W rb rc g ∧ ∀ i, i < n → g i = cnt i

theorem Res.keep {W W' : World} {n : Nat} {cnt : Nat → Nat} {ra : Option Addr} {rb rc : Nat} (h : Res W n cnt ra rb rc) (hb : Below W.heap.size W W') : Res W' n cnt ra rb rc := fun hn => by
  obtain ⟨h1, h2, g, h3, h4⟩ := h hn
  exact ⟨h1, Nat.lt_of_lt_of_le h2 hb.size, g, h3.keep hb h2, h4⟩

theorem Res.cell {W : World} {n : Nat} {cnt : Nat → Nat} {ra : Option Addr} {rb rc : Nat} (h : Res W n cnt ra rb rc) (hr : n ≤ rc) {i : Nat} (hi : i < n) : W.cell? ⟨rb, i, none⟩ = some (.int .i32 (cnt i : Int)) := by
  obtain ⟨h1, h2, g, h3, h4⟩ := h (by omega)
  rw [h3.cell (by omega), h4 i hi]

/-- What one stage 'ZZCountLinks(links, cloneI32(count), ..)' leaves: w the world ahead of the clone. -/
def Staged (w : World) (n : Nat) (cnt : Nat → Nat) (e : Ending) (w' : World) : Prop :=
  ∃ (ra : Option Addr) (rb rc : Nat), e = .returned (.slice ra n rc) ∧ n ≤ rc ∧ rc ≤ 9223372036854775807 ∧ Res w' n cnt ra rb rc ∧ Below w.heap.size w w'

theorem stage (ga : Option Addr) (gb go n c : Nat) (A : Nat → Option Addr) (RB RO L C : Nat → Nat) (Z : Nat → Nat → Int) (w w1 : World) (hL : IsLinks w w.heap.size ga gb go n c A RB RO L C Z)
    (la : Option Addr) (lb lo m mc : Nat) (f : Nat → Bool) (hF : IsB w w.heap.size la lb lo m mc f) (an : Nat) (qa : Option Addr) (g : Nat → Int)
    (hq : (qa = none ∧ an = 0) ∨ (qa = some ⟨w.heap.size, 0, none⟩ ∧ row32 w1 w.heap.size an g)) (hb : Below w.heap.size w w1) (han : an ≤ 2000000)
    (hn : n ≤ 1000000) (hL2 : ∀ i, i < n → L i ≤ 2000000) (hZ : la.isSome = true → ∀ i, i < n → ∀ j, j < L i → 0 ≤ Z i j ∧ Z i j < m) :
    Calls Try.prog 20 #[.slice ga n c, .slice qa an an, .slice la m mc] w1 fun e w' => Staged w n (cntOf la f L Z) e w' := by
  have hQ : QC w1 w.heap.size qa an := by
    rcases hq with ⟨h1, h2⟩ | ⟨h1, h2⟩
    · exact .inl ⟨h1, h2⟩
    · exact .inr ⟨_, g, h1, h2, by omega, Nat.le_refl _⟩
  have hlq : ∀ qb, qa = some ⟨qb, 0, none⟩ → 0 < m → lb ≠ qb := fun qb h hm => by
    have h1 := hF.blk hm
    rcases hq with ⟨h2, _⟩ | ⟨h2, _⟩
    · rw [h2] at h; cases h
    · rw [h2] at h; simp at h; omega
  refine (zcount_any ga gb go n c A RB RO L C Z w.heap.size w1 (hL.keep hb) la lb lo m mc f ((hF.keep hb).mono hb.size) an an qa hQ hlq (Nat.le_refl _) hb.size hn hL2 hZ).mono ?_
  rintro e w' ⟨ra, rb, rc, h1, h2, h3, h4, h5, h6⟩
  refine ⟨ra, rb, rc, h1, h2, h3, fun hp => ?_, hb.trans (h5.below hb.size (by simp; omega))⟩
  obtain ⟨q1, ⟨g', q2, q3⟩, _⟩ := h6 hp
  exact ⟨q1, q2.lt, g', q2, q3⟩

/-- 'comp' and 'all' when v places are filled. -/
structure CA (w wr : World) (m : Nat) (f : Nat → Bool) (lb v : Nat) : Prop where
  live : rowB wr lb m f
  comp : rowB wr w.heap.size m (fun i => if i < v then !f i else false)
  all : rowB wr (w.heap.size + 1) m (fun i => if i < v then true else false)
  below : Below w.heap.size w wr
  size : wr.heap.size = w.heap.size + 2

theorem fill_step {g : Nat → Bool} {v j : Nat} : (if j = v then g v else if j < v then g j else false) = if j < v + 1 then g j else false := by
  by_cases e : j = v
  · subst e; simp
  · rw [if_neg e]
    by_cases hlt : j < v
    · rw [if_pos hlt, if_pos (by omega)]
    · rw [if_neg hlt, if_neg (by omega)]

theorem ca_start (w : World) (m : Nat) (f : Nat → Bool) (lb : Nat) (h : rowB w lb m f) : CA w ((w.alloc (.cells (madeCells #[.bool false] m) 4)).alloc (.cells (madeCells #[.bool false] m) 4)) m f lb 0 := by
  have h1 : rowB (w.alloc (.cells (madeCells #[.bool false] m) 4)) w.heap.size m (fun i => if i < 0 then !f i else false) := (World.rowIs_made w (.bool false) m 4).congr (fun j _ => by simp)
  have h2 : rowB ((w.alloc (.cells (madeCells #[.bool false] m) 4)).alloc (.cells (madeCells #[.bool false] m) 4)) (w.alloc (.cells (madeCells #[.bool false] m) 4)).heap.size m (fun i => if i < 0 then true else false) :=
    (World.rowIs_made _ (.bool false) m 4).congr (fun j _ => by simp)
  have hs : (w.alloc (.cells (madeCells #[.bool false] m) 4)).heap.size = w.heap.size + 1 := by simp
  rw [hs] at h2
  exact ⟨(h.alloc _).alloc _, h1.alloc _, h2, ((Below.refl _ _).alloc (Nat.le_refl _) _).alloc (by simp) _, by simp⟩

theorem ca_step {w wr : World} {m : Nat} {f : Nat → Bool} {lb v : Nat} (h : CA w wr m f lb v) (hl : lb < w.heap.size) :
    CA w ((wr.setCell ⟨w.heap.size, v, none⟩ (.bool (!f v))).setCell ⟨w.heap.size + 1, v, none⟩ (.bool true)) m f lb (v + 1) := by
  refine ⟨(h.live.setOther (by show lb ≠ w.heap.size; omega) _).setOther (by show lb ≠ w.heap.size + 1; omega) _, ?_, ?_, (h.below.setCell (Nat.le_refl _) _).setCell (by show w.heap.size ≤ w.heap.size + 1; omega) _, by simpa using h.size⟩
  · exact ((h.comp.set v _).congr (fun j _ => fill_step (g := fun i => !f i))).setOther (by show w.heap.size ≠ w.heap.size + 1; omega) _
  · exact ((h.all.setOther (by show w.heap.size + 1 ≠ w.heap.size; omega) _).set v true).congr (fun j _ => fill_step (g := fun _ => true))

set_option maxHeartbeats 4000000 in
set_option maxRecDepth 100000 in
theorem splits_any (ga sa la : Option Addr) (gb go n c sb so an sc lb lo m mc : Nat) (A : Nat → Option Addr) (RB RO L C : Nat → Nat) (Z : Nat → Nat → Int) (g : Nat → Int) (f : Nat → Bool) (w : World)
    (hL : IsLinks w w.heap.size ga gb go n c A RB RO L C Z) (hA : IsI32 w w.heap.size sa sb so an sc g) (hF : IsB w w.heap.size la lb lo m mc f)
    (hZ : ∀ i, i < n → ∀ j, j < L i → -2147483648 ≤ Z i j ∧ Z i j ≤ 2147483647) :
    Calls Try.prog 7 #[.slice ga n c, .slice sa an sc, .slice la m mc] w fun e w' => RTrue7 w e w' := by
  have ham : an ≤ 9223372036854775807 := Nat.le_trans hA.le hA.max
  have hmm : m ≤ 9223372036854775807 := Nat.le_trans hF.le hF.max
  have hnm : n ≤ 9223372036854775807 := Nat.le_trans hL.le hL.max
  go_enter Try.func7, Try.ntmps7
  go_wp2_with fail
  refine (zz21_any ga gb go n c A RB RO L C Z sa la an sc m mc _ _ hL ham hmm).mono ?_
  rintro e w1 ⟨rfl, b, rfl, _⟩
  cases b
  · go_wp2
    go_ret
    exact ⟨rfl, Below.refl _ _⟩
  by_cases h1 : (1048576 : Int) < (n : Int)
  · go_wp2
    go_ret
    exact ⟨rfl, Below.refl _ _⟩
  by_cases h2 : (1048576 : Int) < (an : Int)
  · go_wp2
    go_ret
    exact ⟨rfl, Below.refl _ _⟩
  by_cases h3 : (1048576 : Int) < (m : Int)
  · go_wp2
    go_ret
    exact ⟨rfl, Below.refl _ _⟩
  go_wp2_with fail
  refine (linksBytes_any ga gb go n c A RB RO L C Z _ _ hL).mono ?_
  rintro e w2 ⟨rfl, t, rfl, ht1, ht2, ht3⟩
  have HT := hide ht3
  clear ht3
  by_cases h4 : (1048576 : Int) < t + 4 * (an : Int) + (m : Int)
  · go_wp2
    go_ret
    exact ⟨rfl, Below.refl _ _⟩
  have hn8 := (unhide HT (by omega)).1
  have hLb : ∀ i, i < n → L i ≤ 2000000 := fun i hi => by have := (unhide HT (by omega)).2 i hi; omega
  clear HT
  have hneq := fun w => Lib.run_eql_slice_nil (P := Try.prog) w 29 4 la m mc 0 0 Try.underlying29
  cases la with
  | none =>
    obtain ⟨rfl, rfl⟩ := hF.nil rfl
    go_wp2
    go_ret
    exact ⟨rfl, Below.refl _ _⟩
  | some lad =>
    go_wp2_with fail
    refine (linksInRange_any ga gb go n c A RB RO L C Z m _ _ hL hmm hZ).mono ?_
    rintro e w3 ⟨rfl, b, rfl, hb⟩
    cases b
    · go_wp2
      go_ret
      exact ⟨rfl, Below.refl _ _⟩
    have hZn := hb rfl
    have HZ := hide hZn
    clear hb hZ hZn
    go_wp2_with fail
    refine (cloneLinks_any ga gb go n c A RB RO L C Z _ _ hL (Nat.le_refl _) (by omega) hLb).mono ?_
    rintro e w4 ⟨ga4, gb4, A4, RB4, rfl, hbel4, hL4⟩
    have hA4 := hA.keep hbel4
    have hF4 := hF.keep hbel4
    have hz4 := hbel4.size
    clear hL hA hF hneq
    go_wp2_with fail
    refine (cloneS_any sa sb so an sc g _ w4 hA4 hz4 (by omega)).mono ?_
    rintro e w5 ⟨qa5, rfl, hq5, hbel5⟩
    have hz5 := hbel5.size
    have hF5 := hF4.keep (hbel5.mono hz4)
    have hL5 := (hL4.keep hbel5).mono hz5
    have hI5 := ClonedS.is hq5 (by omega)
    have hB5 : Below w3.heap.size w3 w5 := hbel4.trans (hbel5.mono hz4)
    clear hA4 hL4 hbel4 hF4 hq5 hbel5
    go_wp2_with fail
    refine (cloneB_any (some lad) lb lo m mc f _ w5 hF5 (by omega) (by omega)).mono ?_
    rintro e w6 h6
    obtain ⟨rfl, hR6, hbel6, hz6⟩ : e = .returned (.slice (some ⟨w5.heap.size, 0, none⟩) m m) ∧ rowB w6 w5.heap.size m f ∧ Below w5.heap.size w5 w6 ∧ w6.heap.size = w5.heap.size + 1 := by
      rcases h6 with ⟨h, _⟩ | ⟨_, h⟩
      · cases h
      · exact h
    have hL6 := (hL5.keep hbel6).mono hbel6.size
    have hI6 := (hI5.keep hbel6).mono hbel6.size
    have hB6 : Below w3.heap.size w3 w6 := hB5.trans (hbel6.mono (by omega))
    have hmk := run_make_row' (P := Try.prog) 29 4 (.bool false) 1 Try.underlying29 Try.info4 rfl .i64 .i64 m (by omega) (by omega)
    have hCA := ca_start w6 m f w5.heap.size hR6
    have hlb6 : w5.heap.size < w6.heap.size := by omega
    have hz6' : w5.heap.size + 1 ≤ w6.heap.size := by omega
    clear h6 hbel6 hL5 hF5 hB5 hI5 hR6 hz6
    go_wp2
    clear hmk
    go_loopg [10] m (fun gk i wr => ∃ v : Nat, v ≤ m ∧ gk = m - v ∧ i = .int .i64 v ∧ CA w6 wr m f w5.heap.size v)
    case atStart => exact ⟨0, Nat.zero_le _, rfl, rfl, hCA⟩
    case round =>
      obtain ⟨v, hv, rfl, rfl, hC⟩ := hrel
      clear hCA
      by_cases hvl : v < m
      · have i1 : (v : Int) < (m : Int) := by omega
        have e1 := hC.live.cell hvl
        have e2 := hC.comp.cell hvl
        have e3 := hC.comp.frozen v
        have e4 := fun x => (hC.all.setOther (a := ⟨w6.heap.size, v, none⟩) (by show w6.heap.size + 1 ≠ w6.heap.size; omega) x).cell hvl
        have e5 := fun x => (hC.all.setOther (a := ⟨w6.heap.size, v, none⟩) (by show w6.heap.size + 1 ≠ w6.heap.size; omega) x).frozen v
        have HC := hide (ca_step hC hlb6)
        have HK := hide (And.intro hL6 (And.intro hI6 hB6))
        clear hC hL6 hI6 hB6
        go_wp2
        go_roundg (m - (v + 1))
        case measure => go_light; omega
        case rel => go_light; exact ⟨v + 1, by omega, rfl, by simp, unhide HC⟩
      · have i1 : ¬ ((v : Int) < (m : Int)) := by omega
        obtain rfl : v = m := by omega
        have hLr := (hL6.keep hC.below).mono hC.below.size
        have hIr := (hI6.keep hC.below).mono hC.below.size
        have hBr : Below w3.heap.size w3 wr := hB6.trans (hC.below.mono (by omega))
        have hzr := hC.size
        have hF1 : IsB wr wr.heap.size (some ⟨w5.heap.size, 0, none⟩) w5.heap.size 0 v v f := (hC.live.is (by omega)).mono (by omega)
        have hF2 : IsB wr wr.heap.size (some ⟨w6.heap.size, 0, none⟩) w6.heap.size 0 v v (fun i => !f i) := ((hC.comp.congr (fun i hi => by rw [if_pos hi])).is (by omega)).mono (by omega)
        have hF4 : IsB wr wr.heap.size (some ⟨w6.heap.size + 1, 0, none⟩) (w6.heap.size + 1) 0 v v (fun _ => true) := ((hC.all.congr (fun i hi => by rw [if_pos hi])).is (by omega)).mono (by omega)
        have hF3 : IsB wr wr.heap.size none 0 0 0 0 (fun _ => true) := ⟨fun _ => ⟨rfl, rfl⟩, fun h => absurd h (Nat.lt_irrefl _), Nat.le_refl _, by omega, fun i h => absurd h (Nat.not_lt_zero _), fun h => absurd h (Nat.lt_irrefl _)⟩
        have hzr' : w6.heap.size + 2 ≤ wr.heap.size := by omega
        clear hC hL6 hI6 hB6 hzr
        -- c1
        go_wp2_with fail
        refine (cloneS_any qa5 _ _ an an g _ wr hIr (Nat.le_refl _) (by omega)).mono ?_
        rintro e wa ⟨qa1, rfl, hq1, hba⟩
        go_wp2_with fail
        refine (stage ga4 gb4 0 n n A4 RB4 (fun _ => 0) L L Z wr wa hLr _ _ _ v v f hF1 an qa1 g hq1 hba (by omega) (by omega) hLb (fun _ => unhide HZ)).mono ?_
        rintro e wb ⟨ra1, rb1, rc1, rfl, s1, s2, R1, hbb⟩
        have hLb1 := (hLr.keep hbb).mono hbb.size
        have hIb1 := (hIr.keep hbb).mono hbb.size
        have hF2b := (hF2.keep hbb).mono hbb.size
        have hF3b := (hF3.keep hbb).mono hbb.size
        have hF4b := (hF4.keep hbb).mono hbb.size
        have hBb : Below w3.heap.size w3 wb := hBr.trans (hbb.mono hBr.size)
        clear hLr hIr hF1 hF2 hF3 hF4 hq1 hba hBr hbb
        -- c2
        go_wp2_with fail
        refine (cloneS_any qa5 _ _ an an g _ wb hIb1 (Nat.le_refl _) (by omega)).mono ?_
        rintro e wc ⟨qa2, rfl, hq2, hbc⟩
        go_wp2_with fail
        refine (stage ga4 gb4 0 n n A4 RB4 (fun _ => 0) L L Z wb wc hLb1 _ _ _ v v (fun i => !f i) hF2b an qa2 g hq2 hbc (by omega) (by omega) hLb (fun _ => unhide HZ)).mono ?_
        rintro e wd ⟨ra2, rb2, rc2, rfl, s3, s4, R2, hbd⟩
        have hLd := (hLb1.keep hbd).mono hbd.size
        have hId := (hIb1.keep hbd).mono hbd.size
        have hF3d := (hF3b.keep hbd).mono hbd.size
        have hF4d := (hF4b.keep hbd).mono hbd.size
        have R1d := R1.keep hbd
        have hBd : Below w3.heap.size w3 wd := hBb.trans (hbd.mono hBb.size)
        clear hLb1 hIb1 hF2b hF3b hF4b hq2 hbc hBb hbd R1
        -- c3
        go_wp2_with fail
        refine (cloneS_any qa5 _ _ an an g _ wd hId (Nat.le_refl _) (by omega)).mono ?_
        rintro e we ⟨qa3, rfl, hq3, hbe⟩
        go_wp2_with fail
        refine (stage ga4 gb4 0 n n A4 RB4 (fun _ => 0) L L Z wd we hLd none 0 0 0 0 (fun _ => true) hF3d an qa3 g hq3 hbe (by omega) (by omega) hLb (fun h => by cases h)).mono ?_
        rintro e wf ⟨ra3, rb3, rc3, rfl, s5, s6, R3, hbf⟩
        have hLf := (hLd.keep hbf).mono hbf.size
        have hIf := (hId.keep hbf).mono hbf.size
        have hF4f := (hF4d.keep hbf).mono hbf.size
        have R1f := R1d.keep hbf
        have R2f := R2.keep hbf
        have hBf : Below w3.heap.size w3 wf := hBd.trans (hbf.mono hBd.size)
        clear hLd hId hF3d hF4d hq3 hbe hBd hbf R1d R2
        -- c4
        go_wp2_with fail
        refine (cloneS_any qa5 _ _ an an g _ wf hIf (Nat.le_refl _) (by omega)).mono ?_
        rintro e wg ⟨qa4, rfl, hq4, hbg⟩
        go_wp2_with fail
        refine (stage ga4 gb4 0 n n A4 RB4 (fun _ => 0) L L Z wf wg hLf _ _ _ v v (fun _ => true) hF4f an qa4 g hq4 hbg (by omega) (by omega) hLb (fun _ => unhide HZ)).mono ?_
        rintro e wh ⟨ra4, rb4, rc4, rfl, s7, s8, R4, hbh⟩
        have R1h := R1f.keep hbh
        have R2h := R2f.keep hbh
        have R3h := R3.keep hbh
        have hBh : Below w3.heap.size w3 wh := hBf.trans (hbh.mono hBf.size)
        clear hLf hIf hF4f hq4 hbg hBf hbh R1f R2f R3
        have HR := hide (And.intro R1h (And.intro R2h (And.intro R3h R4)))
        have HB := hide hBh
        clear R1h R2h R3h R4 hBh
        go_wp2
        go_loopg [16] n (fun gk i wr => (∃ nq, wr = wh.drewN nq) ∧ ∃ k : Nat, k ≤ n ∧ gk = n - k ∧ i = .int .i64 k)
        case atStart => exact ⟨⟨0, rfl⟩, 0, Nat.zero_le _, rfl, rfl⟩
        case round =>
          obtain ⟨⟨nq0, rfl⟩, k, hk, rfl, rfl⟩ := hrel
          by_cases hlt : k < n
          · have i2 : (k : Int) < (n : Int) := by omega
            obtain ⟨R1, R2, R3, R4⟩ := unhide HR
            obtain ⟨rfl, _⟩ := R1 (by omega)
            obtain ⟨rfl, _⟩ := R2 (by omega)
            obtain ⟨rfl, _⟩ := R3 (by omega)
            obtain ⟨rfl, _⟩ := R4 (by omega)
            have f1 := R1.cell s1 hlt
            have f2 := R2.cell s3 hlt
            have f3 := R3.cell s5 hlt
            have f4 := R4.cell s7 hlt
            have hLk := hLb k hlt
            have hs := cnt_split f (Z k) (L k)
            have ha : cntTo (fun _ => true) (Z k) (L k) = L k := cnt_all _ _
            simp only [cntOf] at f1 f2 f3 f4
            rw [ha] at f4
            obtain ⟨x1, hx1⟩ : ∃ x, x = cntTo f (Z k) (L k) := ⟨_, rfl⟩
            obtain ⟨x2, hx2⟩ : ∃ x, x = cntTo (fun i => !f i) (Z k) (L k) := ⟨_, rfl⟩
            rw [← hx1] at f1 hs
            rw [← hx2] at f2 hs
            have t1 : decide ((x1 : Int) < 0) = false := by simp
            have t2 : decide ((L k : Int) < (x1 : Int)) = false := by simp; omega
            have t3 : ((x1 : Int) + (x2 : Int) != (L k : Int)) = false := by simp; omega
            have t4 : x1 ≤ L k := by omega
            have t5 : x2 ≤ L k := by omega
            clear hx1 hx2 hs ha R1 R2 R3 R4
            go_wp2
            go_quiet (fail)
            go_wp2
            go_quiet (fail)
            go_wp2
            go_quiet (fail)
            go_wp2
            go_roundg (n - (k + 1))
            case measure => go_light; omega
            case rel => go_light; exact ⟨⟨_, rfl⟩, k + 1, by omega, rfl, by simp⟩
          · have i2 : ¬ ((k : Int) < (n : Int)) := by omega
            go_wp2
            go_ret
            exact ⟨rfl, (unhide HB).os, (unhide HB).tape, (unhide HB).output, (unhide HB).size, (unhide HB).block⟩

end Go.Proofs.Qxb6603240a
