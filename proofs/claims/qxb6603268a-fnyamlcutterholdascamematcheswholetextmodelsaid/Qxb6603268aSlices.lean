/- Slices that are read; runOf (function 35). -/
import Derived.Test.Qxb6603268aHoldAid
namespace Go.Proofs.Qxb6603268a
open Go.RowKit Cu
set_option linter.unusedVariables false

/-- A slice that is read in w: n elements F of one cell each, in a block below B. -/
structure IsV (w : World) (B : Nat) (sa : Option Addr) (sb so n c : Nat) (F : Nat → Value) : Prop where
  nil : sa = none → n = 0 ∧ c = 0
  adr : 0 < n → sa = some ⟨sb, so, none⟩
  le : n ≤ c
  max : c ≤ 9223372036854775807
  cell : ∀ i, i < n → w.cell? ⟨sb, so + i, none⟩ = some (F i)
  blk : 0 < n → sb < B

theorem IsV.keep {w w' : World} {B : Nat} {sa : Option Addr} {sb so n c : Nat} {F : Nat → Value} (h : IsV w B sa sb so n c F) (hb : Below B w w') : IsV w' B sa sb so n c F :=
  ⟨h.nil, h.adr, h.le, h.max, fun i hi => by rw [hb.cell (p := ⟨sb, so + i, none⟩) (h.blk (by omega))]; exact h.cell i hi, h.blk⟩
theorem IsV.mono {w : World} {B B' : Nat} {sa : Option Addr} {sb so n c : Nat} {F : Nat → Value} (h : IsV w B sa sb so n c F) (hb : B ≤ B') : IsV w B' sa sb so n c F :=
  ⟨h.nil, h.adr, h.le, h.max, h.cell, fun i => by have := h.blk i; omega⟩
theorem isV_nil (w : World) (B b o : Nat) (F : Nat → Value) : IsV w B none b o 0 0 F :=
  ⟨fun _ => ⟨rfl, rfl⟩, fun h => absurd h (Nat.lt_irrefl _), Nat.le_refl _, by omega, fun i h => absurd h (Nat.not_lt_zero _), fun h => absurd h (Nat.lt_irrefl _)⟩
theorem isV_row {w : World} {b n : Nat} {t : TypeId} {F : Nat → Value} (h : w.rowIs b t n F) (hm : n ≤ 9223372036854775807) : IsV w (b + 1) (some ⟨b, 0, none⟩) b 0 n n F :=
  ⟨(fun e => by cases e), fun _ => rfl, Nat.le_refl _, hm, fun i hi => by rw [Nat.zero_add]; exact h.cell hi, fun _ => Nat.lt_succ_self _⟩

/-- How many at the head are b. -/
def RunOf (w : World) (f : Nat → Int) (k n : Nat) (b : Int) (e : Ending) (w' : World) : Prop := ∃ m : Nat, e = .returned (.int .i64 m) ∧ w' = w ∧ m ≤ n - k ∧ (∀ i, i < m → f (k + i) = b) ∧ (k + m < n → f (k + m) ≠ b)

set_option maxHeartbeats 400000 in
theorem runOf_any (sb so n c k : Nat) (f : Nat → Int) (b : Int) (w : World) (hk : k ≤ n) (hn : n ≤ 3000000) (hcell : ∀ i, i < n → w.cell? ⟨sb, so + i, none⟩ = some (.int .u8 (f i))) :
    Calls Try.prog 35 #[.slice (some ⟨sb, so + k, none⟩) (n - k) c, .int .u8 b] w fun e w' => RunOf w f k n b e w' := by
  obtain ⟨N, hN⟩ : ∃ N, N = n - k := ⟨_, rfl⟩
  rw [← hN]
  have hN3 : N ≤ 3000000 := by omega
  have HN := hide hN
  clear hN
  go_enter Try.func35, Try.ntmps35
  go_wp2
  go_loopg [5] N (fun gk i wr => ∃ m : Nat, m ≤ N ∧ gk = N - m ∧ i = .int .i64 m ∧ wr = w ∧ ∀ i, i < m → f (k + i) = b)
  case atStart => exact ⟨0, Nat.zero_le _, rfl, rfl, rfl, fun i h => absurd h (Nat.not_lt_zero _)⟩
  case round =>
    obtain ⟨m, hm, rfl, rfl, rfl, hf⟩ := hrel
    have HF := hide hf
    clear hf
    by_cases hlt : m < N
    · have hlz : (m : Int) < (N : Int) := by omega
      obtain ⟨x, hx⟩ : ∃ x, x = f (k + m) := ⟨_, rfl⟩
      have g0 : wr.cell? ⟨sb, so + k + m, none⟩ = some (.int .u8 x) := by
        have := hcell (k + m) (by have := HN.out; omega)
        rw [hx, Nat.add_assoc]; exact this
      by_cases hxb : x = b
      · subst hxb
        have HX := hide hx
        clear hx hcell
        go_wp2
        go_roundg (N - (m + 1))
        case measure => go_light; omega
        case rel =>
          go_light
          refine ⟨m + 1, by omega, rfl, by simp, rfl, fun i hi => ?_⟩
          by_cases e : i = m
          · subst e; exact HX.out.symm
          · exact HF.out i (by omega)
      · have hxb1 : (x == b) = false := by simpa using hxb
        have F : Hid (RunOf wr f k n b (.returned (.int .i64 m)) wr) := ⟨m, rfl, rfl, by have := HN.out; omega, HF.out, fun _ => by rw [← hx]; exact hxb⟩
        clear hx hcell
        go_wp2
        go_ret
        exact F.out
    · have hlz : ¬ ((m : Int) < (N : Int)) := by omega
      have F : Hid (RunOf wr f k n b (.returned (.int .i64 m)) wr) := ⟨m, rfl, rfl, by have := HN.out; omega, HF.out, fun h => absurd h (by have := HN.out; omega)⟩
      clear hcell
      go_wp2
      go_ret
      exact F.out

end Go.Proofs.Qxb6603268a
