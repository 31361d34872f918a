/- (*backbone).countLinks (function 23), by its contract. -/
import Derived.Test.Qxb6603240aGrow
import Derived.Test.Qxb6603240aBools
import Derived.Deep.RegionWith
import Derived.Deep.DeepCutAuto
namespace Go.Proofs.Qxb6603240a
open Go.RowKit
set_option linter.unusedVariables false

/-- How many of the first k links are live. -/
def cntTo (f : Nat → Bool) (z : Nat → Int) : Nat → Nat
  | 0 => 0
  | k + 1 => cntTo f z k + if f (z k).toNat then 1 else 0
theorem cntTo_le (f : Nat → Bool) (z : Nat → Int) (k : Nat) : cntTo f z k ≤ k := by
  induction k with
  | zero => exact Nat.le_refl _
  | succ k ih => unfold cntTo; split <;> omega

/-- The count of place i: all its links where live is nil. -/
def cntOf (la : Option Addr) (f : Nat → Bool) (L : Nat → Nat) (Z : Nat → Nat → Int) (i : Nat) : Nat :=
  match la with
  | none => L i
  | some _ => cntTo f (Z i) (L i)

/-- The count slice that is handed in. -/
def CIn (w : World) (B sb : Nat) (qa : Option Addr) (qc : Nat) : Prop :=
  (qa = none ∧ qc = 0) ∨ ∃ (qb : Nat) (g : Nat → Int), qa = some ⟨qb, 0, none⟩ ∧ row32 w qb qc g ∧ qc ≤ 9223372036854775807 ∧ B ≤ qb ∧ qb ≠ sb

def Grew3 (w : World) (B sb : Nat) (qa : Option Addr) (n : Nat) (e : Ending) (w' : World) : Prop :=
  ∃ (ra : Option Addr) (rb rc : Nat), e = .returned (.slice ra 0 rc) ∧ n ≤ rc ∧ rc ≤ 9223372036854775807 ∧ Below w.heap.size w w' ∧ B ≤ rb ∧ (0 < n → ra = some ⟨rb, 0, none⟩ ∧ (∃ g : Nat → Int, row32 w' rb rc g) ∧ rb ≠ sb ∧ (qa = some ⟨rb, 0, none⟩ ∨ w.heap.size ≤ rb))

theorem grow3 (w : World) (B sb : Nat) (qa : Option Addr) (qc n : Nat) (h : CIn w B sb qa qc) (hbig : n ≤ 2000000) (hB : B ≤ w.heap.size) (hs : sb < w.heap.size) :
    Calls Try.prog 24 #[.slice qa 0 qc, .int .i64 n] w fun e w' => Grew3 w B sb qa n e w' := by
  by_cases h0 : n = 0
  · subst h0
    have hqc : qc ≤ 9223372036854775807 := by
      rcases h with ⟨h1, h2⟩ | ⟨qb, g, _, _, hc, _⟩
      · omega
      · exact hc
    refine (grow_room qa qc 0 w hqc (Nat.zero_le _)).mono ?_
    rintro e w' ⟨h5, rfl⟩
    exact ⟨qa, w'.heap.size, qc, h5, Nat.zero_le _, hqc, Below.refl _ _, hB, fun h => absurd h (Nat.lt_irrefl _)⟩
  rcases h with ⟨rfl, rfl⟩ | ⟨qb, g, rfl, hr, hc, h1, h2⟩
  · refine (grow_new none 0 n (fun _ => 0) w (by omega) hbig (fun _ => rfl) (fun a h => by cases h)).mono ?_
    rintro e w' ⟨G, g, h1, h2, h3, h4, h5, h6⟩
    exact ⟨_, w.heap.size, G, h3, h1, h2, h5, hB, fun _ => ⟨rfl, ⟨g, h4⟩, by omega, .inr (Nat.le_refl _)⟩⟩
  · by_cases hroom : n ≤ qc
    · refine (grow_room _ qc n w hc hroom).mono ?_
      rintro e w' ⟨h5, rfl⟩
      exact ⟨_, qb, qc, h5, hroom, hc, Below.refl _ _, h1, fun _ => ⟨rfl, ⟨g, hr⟩, h2, .inl rfl⟩⟩
    · refine (grow_new _ qc n g w (by omega) hbig (fun h => by cases h) (fun a h j hj => ?_)).mono ?_
      · cases h
        have := hr.cell hj
        rw [show (Addr.add ⟨qb, 0, none⟩ j) = ⟨qb, j, none⟩ from by cases j <;> simp [Addr.add]]
        exact this
      · rintro e w' ⟨G, g, h1, h2, h3, h4, h5, h6⟩
        exact ⟨_, w.heap.size, G, h3, h1, h2, h5, hB, fun _ => ⟨rfl, ⟨g, h4⟩, by omega, .inr (Nat.le_refl _)⟩⟩

/-- What countLinks leaves. -/
def Counted (w : World) (B n : Nat) (cnt : Nat → Nat) (qa : Option Addr) (sb : Nat) (e : Ending) (w' : World) : Prop :=
  ∃ (ra : Option Addr) (rb rc : Nat), e = .returned (.slice ra n rc) ∧ n ≤ rc ∧ rc ≤ 9223372036854775807 ∧ B ≤ rb ∧ Kept w w' [sb, rb] ∧
    (0 < n → ra = some ⟨rb, 0, none⟩ ∧ (∃ g : Nat → Int, row32 w' rb rc g ∧ ∀ i, i < n → g i = cnt i) ∧ rb ≠ sb ∧ (qa = some ⟨rb, 0, none⟩ ∨ w.heap.size ≤ rb))

/-- Behind 'b.count = slices.Grow(b.count[:0], len(b.links))[:len(b.links)]'. -/
def After (w : World) (B sb : Nat) (qa : Option Addr) (n : Nat) (S : Nat → Value) (wx : World) : Prop :=
  ∃ (ra : Option Addr) (rb rc : Nat), n ≤ rc ∧ rc ≤ 9223372036854775807 ∧ B ≤ rb ∧ Kept w wx [sb, rb] ∧ wx.rowIs sb 41 6 (fun i => if i = 5 then .slice ra n rc else S i) ∧
    (0 < n → ra = some ⟨rb, 0, none⟩ ∧ (∃ g : Nat → Int, row32 wx rb rc g) ∧ rb ≠ sb ∧ (qa = some ⟨rb, 0, none⟩ ∨ w.heap.size ≤ rb))

theorem after_of {w w1 wx : World} {B sb : Nat} {qa ra : Option Addr} {n rb rc : Nat} {S : Nat → Value} (hS : w.rowIs sb 41 6 S) (h1 : n ≤ rc) (h2 : rc ≤ 9223372036854775807) (h3 : Below w.drew.heap.size w.drew w1) (h4 : B ≤ rb)
    (h5 : 0 < n → ra = some ⟨rb, 0, none⟩ ∧ (∃ g : Nat → Int, row32 w1 rb rc g) ∧ rb ≠ sb ∧ (qa = some ⟨rb, 0, none⟩ ∨ w.drew.heap.size ≤ rb)) (hx : wx = w1.setCell ⟨sb, 5, none⟩ (.slice ra n rc)) : After w B sb qa n S wx := by
  subst hx
  have hb : Below w.heap.size w w1 := (Below.refl _ w).drew.trans h3
  refine ⟨ra, rb, rc, h1, h2, h4, (Kept.of_below hb _).setCell (by simp) _, (World.rowIs.of_block hS (hb.block sb hS.lt)).set 5 _, fun hn => ?_⟩
  obtain ⟨q1, ⟨g, q2⟩, q3, q4⟩ := h5 hn
  exact ⟨q1, ⟨g, q2.setOther (by exact q3) _⟩, q3, q4⟩

set_option maxHeartbeats 2000000 in
theorem count_any (ga : Option Addr) (gb go n c : Nat) (A : Nat → Option Addr) (RB RO L C : Nat → Nat) (Z : Nat → Nat → Int) (B : Nat) (w : World) (hL : IsLinks w B ga gb go n c A RB RO L C Z)
    (la : Option Addr) (lb lo m mc : Nat) (f : Nat → Bool) (hF : IsB w w.heap.size la lb lo m mc f)
    (sb qn qc : Nat) (qa : Option Addr) (S : Nat → Value) (hS : w.rowIs sb 41 6 S) (hS0 : S 0 = .slice ga n c) (hS5 : S 5 = .slice qa qn qc)
    (hQ : CIn w B sb qa qc) (hls : 0 < m → lb ≠ sb) (hlq : ∀ qb, qa = some ⟨qb, 0, none⟩ → 0 < m → lb ≠ qb) (hqn : qn ≤ qc) (hBs : B ≤ sb) (hn : n ≤ 1000000) (hL2 : ∀ i, i < n → L i ≤ 2000000) (hZ : la.isSome = true → ∀ i, i < n → ∀ j, j < L i → 0 ≤ Z i j ∧ Z i j < m) :
    Calls Try.prog 23 #[.pointer (some ⟨sb, 0, none⟩), .slice la m mc] w fun e w' => Counted w B n (cntOf la f L Z) qa sb e w' := by
  have c0 : w.cell? ⟨sb, 0, none⟩ = some (.slice ga n c) := by rw [hS.cell (by omega), hS0]
  have c5 : w.cell? ⟨sb, 5, none⟩ = some (.slice qa qn qc) := by rw [hS.cell (by omega), hS5]
  have f5 := hS.frozen 5
  have hsl := hS.lt
  have hle := hL.le
  have hmax := hL.max
  have hqc : qc ≤ 9223372036854775807 := by
    rcases hQ with ⟨h1, h2⟩ | ⟨qb, g, _, _, hc, _⟩
    · omega
    · exact hc
  have hg := grow3 w.drew B sb qa qc n hQ (by omega) (by exact Nat.le_trans hBs (Nat.le_of_lt hsl)) hsl
  clear hS0 hS5
  go_enter Try.func23, Try.ntmps23
  go_wp2
  go_cut [] (fun wx => After w B sb qa n S wx)
  case first =>
    go_region_with (go_at_call 24; refine hg.mono ?_; rintro e w1 ⟨ra, rb, rc, rfl, g1, g2, g3, g4, g5⟩; have t0 : w1.cell? ⟨sb, 0, none⟩ = some (.slice ga n c) := (g3.cell (p := ⟨sb, 0, none⟩) hsl).trans c0; have t5 : w1.cell? ⟨sb, 5, none⟩ = some (.slice qa qn qc) := (g3.cell (p := ⟨sb, 5, none⟩) hsl).trans c5; have u5 : w1.frozen? ⟨sb, 5, none⟩ = false := (g3.frozen (p := ⟨sb, 5, none⟩) hsl).trans f5)
    all_goals (go_wp2_with fail; go_meet; exact after_of hS g1 g2 g3 g4 g5 rfl)
  case rest =>
  obtain ⟨ra, rb, rc, g1, g2, g4, hk, hSw, g5⟩ := hcut
  have d0 : wc.cell? ⟨sb, 0, none⟩ = some (.slice ga n c) := by
    have h1 := hSw.cell (i := 0) (by omega)
    have h2 := hS.cell (i := 0) (by omega)
    rw [c0] at h2
    rw [h1]; exact h2.symm
  have hLB : ∀ wr, Kept w wr [sb, rb] → IsLinks wr B ga gb go n c A RB RO L C Z := fun wr hk => hL.keep (hk.below (by omega) (by simp; omega))
  have hFB : ∀ wr, Kept w wr [sb, rb] → (qa = some ⟨rb, 0, none⟩ ∨ w.heap.size ≤ rb) → IsB wr w.heap.size la lb lo m mc f := fun wr hk hq => hF.kept (Nat.le_refl _) hk (fun hp => by
    have h1 := hls hp
    have h2 : lb ≠ rb := by
      rcases hq with h | h
      · exact hlq rb h hp
      · have := hF.blk hp; omega
    simp [h1, h2])
  have hW0 : 0 < n → ra = some ⟨rb, 0, none⟩ ∧ (∃ g : Nat → Int, row32 wc rb rc g ∧ ∀ i, i < 0 → g i = cntOf la f L Z i) ∧ rb ≠ sb ∧ (qa = some ⟨rb, 0, none⟩ ∨ w.heap.size ≤ rb) := fun h => by
    obtain ⟨q1, ⟨g, q2⟩, q3, q4⟩ := g5 h
    exact ⟨q1, ⟨g, q2, fun i hi => absurd hi (Nat.not_lt_zero _)⟩, q3, q4⟩
  have hfa := hF.adr
  have hfm := Nat.le_trans hF.le hF.max
  clear hS hg c0 c5 f5 hQ hL g5 hls hlq
  go_wp2
  clear d0
  go_loopg [35] n (fun gk i wr => ∃ k : Nat, k ≤ n ∧ gk = n - k ∧ i = .int .i64 k ∧ Kept w wr [sb, rb] ∧ wr.rowIs sb 41 6 (fun i => if i = 5 then .slice ra n rc else S i) ∧
    (0 < n → ra = some ⟨rb, 0, none⟩ ∧ (∃ g : Nat → Int, row32 wr rb rc g ∧ ∀ i, i < k → g i = cntOf la f L Z i) ∧ rb ≠ sb ∧ (qa = some ⟨rb, 0, none⟩ ∨ w.heap.size ≤ rb)))
  case atStart => exact ⟨0, Nat.zero_le _, rfl, rfl, hk, hSw, hW0⟩
  case round =>
    obtain ⟨k, hkn, rfl, rfl, hkr, hSr, hW⟩ := hrel
    clear hk hSw hW0
    have d5 : wr.cell? ⟨sb, 5, none⟩ = some (.slice ra n rc) := hSr.cell (i := 5) (by omega)
    by_cases hlt : k < n
    · have i1 : (k : Int) < (n : Int) := by omega
      obtain ⟨rfl, ⟨g, hg, hgc⟩, hrs, hqo⟩ := hW (by omega)
      have hLw := hLB wr hkr
      obtain rfl := hLw.adr (by omega)
      have e1 := hLw.row k hlt
      have hR := hLw.rows k hlt
      have hRa := hR.adr
      have hRc := hR.cell
      have hLk := hL2 k hlt
      obtain ⟨Ak, hAk⟩ : ∃ Ak, Ak = A k := ⟨_, rfl⟩
      rw [← hAk] at e1 hRa
      have s1 := hg.cell (i := k) (by omega)
      have s2 := hg.frozen k
      have HFIN : ∀ x : Nat, x = cntOf la f L Z k → ∃ g' : Nat → Int, row32 (wr.setCell ⟨rb, k, none⟩ (.int .i32 (x : Int))) rb rc g' ∧ ∀ i, i < k + 1 → g' i = cntOf la f L Z i := fun x hx => by
        refine ⟨_, hg.set k x, fun i hi => ?_⟩
        by_cases e : i = k
        · subst e; simp [hx]
        · rw [if_neg e]; exact hgc i (by omega)
      have HF := hide HFIN
      have HS : ∀ v, (wr.setCell ⟨rb, k, none⟩ v).rowIs sb 41 6 (fun i => if i = 5 then .slice (some ⟨rb, 0, none⟩) n rc else S i) := fun v => hSr.setOther (by exact fun e => hrs e.symm) _
      have HK : ∀ v, Kept w (wr.setCell ⟨rb, k, none⟩ v) [sb, rb] := fun v => hkr.setCell (by simp) _
      have HHS := hide HS
      have HHK := hide HK
      clear hg hgc hAk hR hLw hW HFIN HS HK hSr
      have hnl := fun w => Lib.run_eql_slice_nil (P := Try.prog) w 29 4 la m mc 0 0 Try.underlying29
      cases la with
      | none =>
        clear hRc hRa hFB hLB
        go_wp2
        go_roundg (n - (k + 1))
        case measure => go_light; omega
        case rel => go_light; exact ⟨k + 1, by omega, rfl, by simp, unhide HHK _, unhide HHS _, fun _ => ⟨by first | rfl | trivial, unhide HF (L k) rfl, hrs, hqo⟩⟩
      | some lad =>
        have hZk := hZ rfl k hlt
        have hFw := hFB wr hkr hqo
        have HFc := hide hFw.cell
        have HFa := hide hFw.adr
        have hZK := hide hZk
        clear hFw hFB hLB hZ hL2 hZk
        go_wp2
        go_loopg [7, 53] (L k) (fun gk x i wi => wi = wr ∧ ∃ j : Nat, j ≤ L k ∧ gk = L k - j ∧ i = .int .i64 j ∧ x = .int .i32 (cntTo f (Z k) j))
        case atStart => exact ⟨rfl, 0, Nat.zero_le _, rfl, rfl, rfl⟩
        case round =>
          obtain ⟨rfl, j, hj, rfl, rfl, rfl⟩ := hrel
          have hcl := cntTo_le f (Z k) j
          by_cases hjl : j < L k
          · have i2 : (j : Int) < (L k : Int) := by omega
            obtain rfl := hRa (by omega)
            have e2 := hRc j hjl
            obtain ⟨z1, z2⟩ := unhide hZK j hjl
            obtain ⟨z, hz⟩ : ∃ z : Nat, Z k j = z := ⟨(Z k j).toNat, by omega⟩
            have hzm : z < m := by omega
            have e3 := unhide HFc z hzm
            have e4 := unhide HFa (by omega)
            obtain rfl : lad = ⟨lb, lo, none⟩ := by simpa using e4
            have HN : Hid (cntTo f (Z k) (j + 1) = cntTo f (Z k) j + if f z then 1 else 0) := by
              show cntTo f (Z k) j + (if f (Z k j).toNat then 1 else 0) = _
              rw [hz]; rfl
            rw [hz] at e2
            have i3 : (z : Int) < (m : Int) := by omega
            obtain ⟨x, hx⟩ : ∃ x, x = cntTo f (Z k) j := ⟨_, rfl⟩
            rw [← hx] at HN hcl ⊢
            clear hRa hRc hz e4 hx z1 z2
            cases hfz : f z
            · rw [hfz] at HN e3
              go_wp2
              go_roundg (L k - (j + 1))
              case measure => go_light; omega
              case rel => go_light; exact ⟨rfl, j + 1, by omega, rfl, by simp, by rw [HN.out]; simp⟩
            · rw [hfz] at HN e3
              go_wp2
              go_roundg (L k - (j + 1))
              case measure => go_light; omega
              case rel => go_light; exact ⟨rfl, j + 1, by omega, rfl, by simp, by rw [HN.out]; simp⟩
          · have i2 : ¬ ((j : Int) < (L k : Int)) := by omega
            obtain rfl : j = L k := by omega
            clear hRa hRc
            go_wp2
            go_roundg (n - (k + 1))
            case measure => go_light; omega
            case rel => go_light; exact ⟨k + 1, by omega, rfl, by simp, unhide HHK _, unhide HHS _, fun _ => ⟨by first | rfl | trivial, unhide HF _ rfl, hrs, hqo⟩⟩
    · have i1 : ¬ ((k : Int) < (n : Int)) := by omega
      obtain rfl : k = n := by omega
      have F : Hid (Counted w B k (cntOf la f L Z) qa sb (.returned (.slice ra k rc)) wr) := ⟨ra, rb, rc, rfl, g1, g2, g4, hkr, hW⟩
      clear hkr hSr hW hLB hFB hZ hL2
      go_wp2
      go_ret
      exact F.out

end Go.Proofs.Qxb6603240a
