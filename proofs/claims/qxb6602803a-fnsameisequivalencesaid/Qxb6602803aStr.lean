/- Slices of strings: same (function 25), ZZsame (18), sqlsinkB1ListBytes (17), sqlsinkB1Clone (19). -/
import Derived.Test.Qxb6602803aProg
import Derived.WalkKit
import Derived.WalkSpells
import Derived.WalkLawsBesides
import Derived.Deep.LoopGhost
import Derived.Deep.OwnRows
import Derived.Deep.Light
import Derived.Deep.QuietTactic
import Derived.Deep.DeepCutAuto
import Derived.BigQuiet
import Derived.Laws.CopyOwn
namespace Go.Proofs.Qxb6602803a
open Go.RowKit
set_option linter.unusedVariables false

theorem hide {p : Prop} (h : p) : Hid p := h

theorem below_dn {B : Nat} {a w : World} (h : Below B a w) (n : Nat) : Below B a (w.drewN n) := h.trans ⟨rfl, rfl, rfl, Nat.le_refl _, fun _ _ => rfl⟩
theorem below_after {a b c : World} (h : Below a.heap.size a b) (k : Below b.heap.size b c) : Below a.heap.size a c :=
  h.trans ⟨k.os, k.tape, k.output, k.size, fun i hi => k.block i (Nat.lt_of_lt_of_le hi h.size)⟩

/-- A slice of strings that is read in w: n elements S, in a block below B. -/
structure IsS (w : World) (B : Nat) (sa : Option Addr) (sb so n c : Nat) (S : Nat → ByteArray) : Prop where
  nil : sa = none → n = 0 ∧ c = 0
  adr : 0 < n → sa = some ⟨sb, so, none⟩
  le : n ≤ c
  max : c ≤ 9223372036854775807
  cell : ∀ i, i < n → w.cell? ⟨sb, so + i, none⟩ = some (.string (S i))
  blk : 0 < n → sb < B

theorem IsS.keep {w w' : World} {B : Nat} {sa : Option Addr} {sb so n c : Nat} {S : Nat → ByteArray} (h : IsS w B sa sb so n c S) (hb : Below B w w') : IsS w' B sa sb so n c S :=
  ⟨h.nil, h.adr, h.le, h.max, fun i hi => by rw [hb.cell (p := ⟨sb, so + i, none⟩) (h.blk (by omega))]; exact h.cell i hi, h.blk⟩
theorem IsS.mono {w : World} {B B' : Nat} {sa : Option Addr} {sb so n c : Nat} {S : Nat → ByteArray} (h : IsS w B sa sb so n c S) (hb : B ≤ B') : IsS w B' sa sb so n c S :=
  ⟨h.nil, h.adr, h.le, h.max, h.cell, fun i => by have := h.blk i; omega⟩
theorem isS_nil (w : World) (B b o : Nat) (S : Nat → ByteArray) : IsS w B none b o 0 0 S :=
  ⟨fun _ => ⟨rfl, rfl⟩, fun h => absurd h (Nat.lt_irrefl _), Nat.le_refl _, by omega, fun i h => absurd h (Nat.not_lt_zero _), fun h => absurd h (Nat.lt_irrefl _)⟩
theorem isS_row {w : World} {b n : Nat} {t : TypeId} {S : Nat → ByteArray} (h : w.rowIs b t n (fun i => .string (S i))) (hm : n ≤ 9223372036854775807) : IsS w (b + 1) (some ⟨b, 0, none⟩) b 0 n n S :=
  ⟨(fun e => by cases e), fun _ => rfl, Nat.le_refl _, hm, fun i hi => by rw [Nat.zero_add]; exact h.cell hi, fun _ => Nat.lt_succ_self _⟩

open Classical in
/-- Are two lists the same? -/
noncomputable def sameB (n m : Nat) (S T : Nat → ByteArray) : Bool := decide (n = m ∧ ∀ i, i < n → (S i).toList = (T i).toList)

def SameIs (w : World) (b : Bool) (e : Ending) (w' : World) : Prop := e = .returned (.bool b) ∧ Below w.heap.size w w'

set_option maxHeartbeats 1000000 in
theorem same_any (B n m c d sb so tb tp : Nat) (sa ta : Option Addr) (S T : Nat → ByteArray) (w : World) (h1 : IsS w B sa sb so n c S) (h2 : IsS w B ta tb tp m d T) (hB : B ≤ w.heap.size) :
    Calls Try.prog 25 #[.slice sa n c, .slice ta m d] w fun e w' => SameIs w (sameB n m S T) e w' := by
  have H1 := hide h1
  have H2 := hide h2
  have l1 := h1.le
  have m1 := h1.max
  have l2 := h2.le
  have m2 := h2.max
  clear h1 h2
  by_cases hnm : n = m
  case neg =>
    have F : Hid (SameIs w (sameB n m S T) (.returned (.bool false)) w) := ⟨by rw [show sameB n m S T = false by simp [sameB, hnm]], Below.refl _ _⟩
    have hnz : ((n : Int) == (m : Int)) = false := by simp; omega
    have hnz2 : ((n : Int) != (m : Int)) = true := by simp; omega
    go_enter Try.func25, Try.ntmps25
    go_wp2_with fail
    go_ret
    exact F.out
  subst hnm
  go_enter Try.func25, Try.ntmps25
  go_wp2_with fail
  go_loopg [13] n (fun gk v wr => ∃ k : Nat, k ≤ n ∧ gk = n - k ∧ v = .int .i64 k ∧ (∀ i, i < k → (S i).toList = (T i).toList) ∧ Below w.heap.size w wr)
  case atStart =>
    go_light
    exact ⟨0, Nat.zero_le _, rfl, rfl, fun i h => absurd h (Nat.not_lt_zero _), Below.refl _ _⟩
  case round =>
    obtain ⟨k, hk, rfl, rfl, hst, hbl⟩ := hrel
    have HS := hide hst
    have HB := hide hbl
    clear hst hbl
    by_cases hlt : k < n
    · have hlz : (k : Int) < (n : Int) := by omega
      obtain rfl := H1.out.adr (by omega)
      obtain rfl := H2.out.adr (by omega)
      obtain ⟨x, hx⟩ : ∃ x, x = S k := ⟨_, rfl⟩
      obtain ⟨y, hy⟩ : ∃ y, y = T k := ⟨_, rfl⟩
      have g1 : wr.cell? ⟨sb, so + k, none⟩ = some (.string x) := by rw [hx]; exact (H1.out.keep (B := B) ⟨HB.out.os, HB.out.tape, HB.out.output, HB.out.size, fun i hi => HB.out.block i (by omega)⟩).cell k hlt
      have g2 : wr.cell? ⟨tb, tp + k, none⟩ = some (.string y) := by rw [hy]; exact (H2.out.keep (B := B) ⟨HB.out.os, HB.out.tape, HB.out.output, HB.out.size, fun i hi => HB.out.block i (by omega)⟩).cell k hlt
      have HX := hide hx
      have HY := hide hy
      clear hx hy
      by_cases hxy : x.toList = y.toList
      · have hxb : (x.toList == y.toList) = true := by rw [hxy]; simp
        have HXY := hide hxy
        clear hxy
        go_wp2_with fail
        go_quiet (fail)
        go_wp2_with fail
        go_roundg (n - (k + 1))
        case measure => go_light; omega
        case rel =>
          go_light
          refine ⟨k + 1, by omega, rfl, by simp, fun i hi => ?_, below_dn HB.out nq⟩
          by_cases e : i = k
          · subst e; rw [← HX.out, ← HY.out]; exact HXY.out
          · exact HS.out i (by omega)
      · have F : Hid (sameB n n S T = false) := by
          simp only [sameB, true_and, decide_eq_false_iff_not]
          exact fun h => hxy (by rw [HX.out, HY.out]; exact h k hlt)
        have hxb : (x.toList == y.toList) = false := by simpa using hxy
        clear hxy
        go_wp2_with fail
        go_quiet (fail)
        go_wp2_with fail
        go_ret
        exact ⟨by rw [F.out]; rfl, below_dn HB.out nq⟩
    · have hlz : ¬ ((k : Int) < (n : Int)) := by omega
      have F : Hid (sameB n n S T = true) := by
        simp only [sameB, true_and, decide_eq_true_iff]
        exact fun i hi => HS.out i (by omega)
      go_wp2_with fail
      go_ret
      exact ⟨by rw [F.out]; rfl, HB.out⟩

set_option maxHeartbeats 400000 in
theorem zzsame_any (B n m c d sb so tb tp : Nat) (sa ta : Option Addr) (S T : Nat → ByteArray) (w : World) (h1 : IsS w B sa sb so n c S) (h2 : IsS w B ta tb tp m d T) (hB : B ≤ w.heap.size) :
    Calls Try.prog 18 #[.slice sa n c, .slice ta m d] w fun e w' => SameIs w (sameB n m S T) e w' := by
  go_enter Try.func18, Try.ntmps18
  go_wp2_with fail
  refine (same_any B n m c d sb so tb tp sa ta S T w h1 h2 hB).mono ?_
  rintro e w1 ⟨rfl, hb⟩
  clear h1 h2
  go_wp2_with fail
  go_ret
  exact ⟨rfl, hb⟩

end Go.Proofs.Qxb6602803a
