/- Slices of bools; cloneBool (function 19), by its contract; cloneLinks at whatever links. -/
import Derived.Test.Qxb6603240aCloneLinks
namespace Go.Proofs.Qxb6603240a
open Go.RowKit
set_option linter.unusedVariables false

/-- A slice of bools that is read in w: n elements f, in a block below B. -/
structure IsB (w : World) (B : Nat) (sa : Option Addr) (sb so n c : Nat) (f : Nat → Bool) : Prop where
  nil : sa = none → n = 0 ∧ c = 0
  adr : 0 < n → sa = some ⟨sb, so, none⟩
  le : n ≤ c
  max : c ≤ 9223372036854775807
  cell : ∀ i, i < n → w.cell? ⟨sb, so + i, none⟩ = some (.bool (f i))
  blk : 0 < n → sb < B

theorem IsB.keep {w w' : World} {B : Nat} {sa : Option Addr} {sb so n c : Nat} {f : Nat → Bool} (h : IsB w B sa sb so n c f) (hb : Below B w w') : IsB w' B sa sb so n c f :=
  ⟨h.nil, h.adr, h.le, h.max, fun i hi => by rw [hb.cell (p := ⟨sb, so + i, none⟩) (h.blk (by omega))]; exact h.cell i hi, h.blk⟩

theorem IsB.mono {w : World} {B B' : Nat} {sa : Option Addr} {sb so n c : Nat} {f : Nat → Bool} (h : IsB w B sa sb so n c f) (hb : B ≤ B') : IsB w B' sa sb so n c f :=
  ⟨h.nil, h.adr, h.le, h.max, h.cell, fun i => by have := h.blk i; omega⟩

theorem IsB.kept {w w' : World} {B : Nat} {sa : Option Addr} {sb so n c : Nat} {f : Nat → Bool} {l : List Nat} (h : IsB w B sa sb so n c f) (hB : B ≤ w.heap.size) (hk : Kept w w' l) (hn : 0 < n → sb ∉ l) : IsB w' B sa sb so n c f :=
  ⟨h.nil, h.adr, h.le, h.max, fun i hi => by
    rw [World.cell?_of_block (w := w) (w' := w') (a := ⟨sb, so + i, none⟩) (hk.block sb (by have := h.blk (by omega); omega) (hn (by omega)))]; exact h.cell i hi, h.blk⟩

/-- A row of bools of the call's own. -/
def rowB (w : World) (b n : Nat) (f : Nat → Bool) : Prop := w.rowIs b 4 n (fun i => .bool (f i))
theorem rowB.cell {w : World} {b n : Nat} {f : Nat → Bool} (h : rowB w b n f) {i : Nat} (hi : i < n) : w.cell? ⟨b, i, none⟩ = some (.bool (f i)) := World.rowIs.cell h hi
theorem rowB.frozen {w : World} {b n : Nat} {f : Nat → Bool} (h : rowB w b n f) (i : Nat) : w.frozen? ⟨b, i, none⟩ = false := World.rowIs.frozen h i
theorem rowB.congr {w : World} {b n : Nat} {f g : Nat → Bool} (h : rowB w b n f) (e : ∀ i, i < n → f i = g i) : rowB w b n g := World.rowIs.congr h (fun i hi => by rw [e i hi])
theorem rowB.set {w : World} {b n : Nat} {f : Nat → Bool} (h : rowB w b n f) (i : Nat) (x : Bool) : rowB (w.setCell ⟨b, i, none⟩ (.bool x)) b n (fun j => if j = i then x else f j) :=
  (World.rowIs.set h i (.bool x)).congr (fun j _ => by dsimp only; split <;> rfl)
theorem rowB.setOther {w : World} {b n : Nat} {f : Nat → Bool} (h : rowB w b n f) {a : Addr} (ha : b ≠ a.block) (v : Value) : rowB (w.setCell a v) b n f := World.rowIs.setOther h ha v
theorem rowB.alloc {w : World} {b n : Nat} {f : Nat → Bool} (h : rowB w b n f) (o : Obj) : rowB (w.alloc o) b n f := World.rowIs.alloc h o
theorem rowB.keep {w w' : World} {B b n : Nat} {f : Nat → Bool} (h : rowB w b n f) (hb : Below B w w') (hlt : b < B) : rowB w' b n f := World.rowIs.of_block h (hb.block b hlt)
theorem rowB.lt {w : World} {b n : Nat} {f : Nat → Bool} (h : rowB w b n f) : b < w.heap.size := World.rowIs.lt h
theorem rowB.is {w : World} {b n : Nat} {f : Nat → Bool} (h : rowB w b n f) (hm : n ≤ 9223372036854775807) : IsB w (b + 1) (some ⟨b, 0, none⟩) b 0 n n f :=
  ⟨(fun e => by cases e), fun _ => rfl, Nat.le_refl _, hm, fun i hi => by rw [Nat.zero_add]; exact World.rowIs.cell h hi, fun _ => Nat.lt_succ_self _⟩

theorem cloneB_step {w wr : World} {n : Nat} {f : Nat → Bool} {k : Nat} (h : rowB wr w.heap.size n (fun i => if i < k then f i else false)) (hb : Below w.heap.size w wr) :
    rowB (wr.setCell ⟨w.heap.size, k, none⟩ (.bool (f k))) w.heap.size n (fun i => if i < k + 1 then f i else false) ∧ Below w.heap.size w (wr.setCell ⟨w.heap.size, k, none⟩ (.bool (f k))) := by
  refine ⟨(h.set k (f k)).congr (fun j _ => ?_), hb.setCell (Nat.le_refl _) _⟩
  by_cases e : j = k
  · subst e; simp
  · rw [if_neg e]
    by_cases hlt : j < k
    · rw [if_pos hlt, if_pos (by omega)]
    · rw [if_neg hlt, if_neg (by omega)]

/-- A clone of whatever slice of bools. -/
def ClonedB (w : World) (sa : Option Addr) (n : Nat) (f : Nat → Bool) (e : Ending) (w' : World) : Prop :=
  (sa = none ∧ e = .returned (.slice none 0 0) ∧ w' = w) ∨ (sa.isSome = true ∧ e = .returned (.slice (some ⟨w.heap.size, 0, none⟩) n n) ∧ rowB w' w.heap.size n f ∧ Below w.heap.size w w' ∧ w'.heap.size = w.heap.size + 1)

set_option maxHeartbeats 400000 in
theorem cloneB_any (sa : Option Addr) (sb so n c : Nat) (f : Nat → Bool) (B : Nat) (w : World) (h : IsB w B sa sb so n c f) (hB : B ≤ w.heap.size) (hn : n ≤ 2000000) :
    Calls Try.prog 19 #[.slice sa n c] w fun e w' => ClonedB w sa n f e w' := by
  cases sa with
  | none =>
    obtain ⟨rfl, rfl⟩ := h.nil rfl
    have hnil := fun w => Lib.run_eql_slice_nil (P := Try.prog) w 29 4 none 0 0 0 0 Try.underlying29
    clear h
    go_enter Try.func19, Try.ntmps19
    go_wp2
    go_ret
    exact .inl ⟨rfl, rfl, rfl⟩
  | some a =>
  have hnil := fun w => Lib.run_eql_slice_nil (P := Try.prog) w 29 4 (some a) n c 0 0 Try.underlying29
  have hmk := run_make_row' (P := Try.prog) 29 4 (.bool false) 1 Try.underlying29 Try.info4 rfl .i64 .i64 n (by omega) (by omega)
  have hadr := h.adr
  have hblk := h.blk
  have hcl := h.cell
  have hR0 : rowB (w.alloc (.cells (madeCells #[.bool false] n) 4)) w.heap.size n (fun i => if i < 0 then f i else false) := (World.rowIs_made w (.bool false) n 4).congr (fun j _ => by simp)
  have hB0 : Below w.heap.size w (w.alloc (.cells (madeCells #[.bool false] n) 4)) := (Below.refl _ _).alloc (Nat.le_refl _) _
  clear h
  go_enter Try.func19, Try.ntmps19
  go_wp2
  clear hmk hnil
  go_loopg [4] n (fun g i wr => ∃ k : Nat, k ≤ n ∧ g = n - k ∧ i = .int .i64 k ∧ rowB wr w.heap.size n (fun i => if i < k then f i else false) ∧ Below w.heap.size w wr ∧ wr.heap.size = w.heap.size + 1)
  case atStart => exact ⟨0, Nat.zero_le _, rfl, rfl, hR0, hB0, by simp⟩
  case round =>
    obtain ⟨k, hk, rfl, rfl, hR, hBe, hsz⟩ := hrel
    clear hR0 hB0
    by_cases hlt : k < n
    · have hlz : (k : Int) < (n : Int) := by omega
      obtain rfl : a = ⟨sb, so, none⟩ := by have := hadr (by omega); simpa using this
      have g0 : wr.cell? ⟨sb, so + k, none⟩ = some (.bool (f k)) := by rw [hBe.cell (p := ⟨sb, so + k, none⟩) (by have := hblk (by omega); show sb < _; omega)]; exact hcl k hlt
      have g1 := hR.cell hlt
      have g2 := hR.frozen k
      have S := cloneB_step hR hBe
      clear hcl hR hBe hadr hblk
      go_wp2
      go_roundg (n - (k + 1))
      case measure => go_light; omega
      case rel => go_light; exact ⟨k + 1, by omega, rfl, by simp, S.1, S.2, by simpa using hsz⟩
    · have hlz : ¬ ((k : Int) < (n : Int)) := by omega
      go_wp2
      go_ret
      obtain rfl : k = n := by omega
      exact .inr ⟨rfl, rfl, hR.congr (fun j hj => by rw [if_pos hj]), hBe, hsz⟩

/-- cloneLinks at whatever links. -/
def ClonedL (w : World) (n : Nat) (L : Nat → Nat) (Z : Nat → Nat → Int) (e : Ending) (w' : World) : Prop :=
  ∃ ga gb A RB, e = .returned (.slice ga n n) ∧ Below w.heap.size w w' ∧ IsLinks w' w'.heap.size ga gb 0 n n A RB (fun _ => 0) L L Z

theorem cloneLinks_any (ga : Option Addr) (gb go n c : Nat) (A : Nat → Option Addr) (RB RO L C : Nat → Nat) (Z : Nat → Nat → Int) (B : Nat) (w : World) (h : IsLinks w B ga gb go n c A RB RO L C Z) (hB : B ≤ w.heap.size) (hn : n ≤ 2000000)
    (hL : ∀ i, i < n → L i ≤ 2000000) : Calls Try.prog 11 #[.slice ga n c] w fun e w' => ClonedL w n L Z e w' := by
  cases ga with
  | none =>
    obtain ⟨rfl, rfl⟩ := h.nil rfl
    refine (cloneLinks_nil w).mono ?_
    rintro e w' ⟨h1, rfl⟩
    exact ⟨none, 0, fun _ => none, fun _ => 0, h1, Below.refl _ _, fun _ => ⟨rfl, rfl⟩, fun h => absurd h (Nat.lt_irrefl _), Nat.le_refl _, by omega, fun i h => absurd h (Nat.not_lt_zero _), fun h => absurd h (Nat.lt_irrefl _), fun i h => absurd h (Nat.not_lt_zero _)⟩
  | some a =>
    refine (cloneLinks_some a gb go n c A RB RO L C Z B w h hB hn hL).mono ?_
    rintro e w' ⟨h1, h2, A', RB', h3⟩
    exact ⟨_, _, A', RB', h1, h2, h3⟩

end Go.Proofs.Qxb6603240a
