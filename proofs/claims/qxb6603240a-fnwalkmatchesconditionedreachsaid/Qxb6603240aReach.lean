/- indexOfI32 (function 15) and reachModel (function 13), by their contracts. -/
import Derived.Test.Qxb6603240aBools
import Derived.Test.Qxb6603240aPlain2
namespace Go.Proofs.Qxb6603240a
open Go.RowKit
set_option linter.unusedVariables false

/-- The first place of v among the first n, or -1. -/
def Found (n : Nat) (f : Nat → Int) (v r : Int) : Prop := (r = -1 ∧ ∀ j, j < n → f j ≠ v) ∨ ∃ j : Nat, j < n ∧ r = j ∧ f j = v ∧ ∀ j', j' < j → f j' ≠ v
def RetFound (n : Nat) (f : Nat → Int) (v : Int) (e : Ending) : Prop := ∃ r : Int, e = .returned (.int .i64 r) ∧ Found n f v r

set_option maxHeartbeats 400000 in
theorem indexOf_any (sa : Option Addr) (sb so n c : Nat) (f : Nat → Int) (v : Int) (B : Nat) (w : World) (h : IsI32 w B sa sb so n c f) :
    Calls Try.prog 15 #[.slice sa n c, .int .i32 v] w fun e w' => w' = w ∧ RetFound n f v e := by
  have hadr := h.adr
  have hcl := h.cell
  have hle := h.le
  have hmax := h.max
  clear h
  go_enter Try.func15, Try.ntmps15
  go_wp2
  go_loopg [5] n (fun g i wr => wr = w ∧ ∃ k : Nat, k ≤ n ∧ g = n - k ∧ i = .int .i64 k ∧ ∀ j, j < k → f j ≠ v)
  case atStart => exact ⟨rfl, 0, Nat.zero_le _, rfl, rfl, fun j hj => absurd hj (Nat.not_lt_zero _)⟩
  case round =>
    obtain ⟨rfl, k, hk, rfl, rfl, hj⟩ := hrel
    have HJ := hide hj
    clear hj
    by_cases hlt : k < n
    · have hlz : (k : Int) < (n : Int) := by omega
      obtain rfl := hadr (by omega)
      have g0 := hcl k hlt
      obtain ⟨x, hx⟩ : ∃ x, x = f k := ⟨_, rfl⟩
      rw [← hx] at g0
      have HX := hide hx
      clear hcl hadr hx
      by_cases e : x = v
      · have F : Hid (Found n f v (k : Int)) := .inr ⟨k, hlt, rfl, by rw [← unhide HX]; exact e, unhide HJ⟩
        have hb : (x == v) = true := by simp [e]
        clear e
        go_wp2
        go_ret
        exact ⟨rfl, _, rfl, F.out⟩
      · have hb : (x == v) = false := by simp [e]
        have HE := hide e
        clear e
        go_wp2
        go_roundg (n - (k + 1))
        case measure => go_light; omega
        case rel =>
          go_light
          refine ⟨rfl, k + 1, by omega, rfl, by simp, fun j hj => ?_⟩
          by_cases ej : j = k
          · subst ej; rw [← unhide HX]; exact unhide HE
          · exact unhide HJ j (by omega)
    · have hlz : ¬ ((k : Int) < (n : Int)) := by omega
      obtain rfl : k = n := by omega
      have F : Hid (Found k f v (-1)) := .inl ⟨rfl, unhide HJ⟩
      go_wp2
      go_ret
      exact ⟨rfl, _, rfl, F.out⟩

/-! ### The reach sets, plainly -/
open Bf

/-- The next set when y rows and j links of row y are gone through. -/
structure NX (L : Nat → Nat) (Z : Nat → Nat → Int) (lim : Int) (aw0 : Nat → Int) (cur : Nat → Bool) (y j : Nat) (nx : Nat → Bool) (s : Bool) : Prop where
  mem : ∀ z, nx z = true ↔ (lim < aw0 z ∧ ((∃ y', y' < y ∧ cur y' = true ∧ ∃ j', j' < L y' ∧ (Z y' j').toNat = z) ∨ (cur y = true ∧ ∃ j', j' < j ∧ (Z y j').toNat = z)))
  any : s = true ↔ ∃ z, nx z = true

theorem NX.start (L : Nat → Nat) (Z : Nat → Nat → Int) (lim : Int) (aw0 : Nat → Int) (cur : Nat → Bool) : NX L Z lim aw0 cur 0 0 (fun _ => false) false := by
  refine ⟨fun z => ⟨(fun h => by cases h), ?_⟩, ⟨(fun h => by cases h), (fun ⟨z, h⟩ => by cases h)⟩⟩
  rintro ⟨_, ⟨y', h, _⟩ | ⟨_, j', h, _⟩⟩
  · exact absurd h (Nat.not_lt_zero _)
  · exact absurd h (Nat.not_lt_zero _)

theorem NX.yes {L : Nat → Nat} {Z : Nat → Nat → Int} {lim : Int} {aw0 : Nat → Int} {cur : Nat → Bool} {y j : Nat} {nx : Nat → Bool} {s : Bool} (h : NX L Z lim aw0 cur y j nx s) (hc : cur y = true) (z : Nat) (hz : (Z y j).toNat = z) (hl : lim < aw0 z) :
    NX L Z lim aw0 cur y (j + 1) (fun i => if i = z then true else nx i) true := by
  refine ⟨fun x => ?_, ⟨fun _ => ⟨z, by simp⟩, fun _ => rfl⟩⟩
  by_cases e : x = z
  · subst e
    simp only [if_true, true_iff]
    exact ⟨hl, .inr ⟨hc, j, by omega, hz⟩⟩
  · simp only [e, if_false]
    rw [h.mem x]
    constructor
    · rintro ⟨a, b | ⟨b, j', c, d⟩⟩
      · exact ⟨a, .inl b⟩
      · exact ⟨a, .inr ⟨b, j', by omega, d⟩⟩
    · rintro ⟨a, b | ⟨b, j', c, d⟩⟩
      · exact ⟨a, .inl b⟩
      · by_cases ej : j' = j
        · subst ej; exact absurd (d.symm.trans hz) e
        · exact ⟨a, .inr ⟨b, j', by omega, d⟩⟩

theorem NX.no {L : Nat → Nat} {Z : Nat → Nat → Int} {lim : Int} {aw0 : Nat → Int} {cur : Nat → Bool} {y j : Nat} {nx : Nat → Bool} {s : Bool} (h : NX L Z lim aw0 cur y j nx s) (z : Nat) (hz : (Z y j).toNat = z) (hl : ¬ lim < aw0 z) :
    NX L Z lim aw0 cur y (j + 1) nx s := by
  refine ⟨fun x => ?_, h.any⟩
  rw [h.mem x]
  constructor
  · rintro ⟨a, b | ⟨b, j', c, d⟩⟩
    · exact ⟨a, .inl b⟩
    · exact ⟨a, .inr ⟨b, j', by omega, d⟩⟩
  · rintro ⟨a, b | ⟨b, j', c, d⟩⟩
    · exact ⟨a, .inl b⟩
    · by_cases ej : j' = j
      · subst ej
        have : x = z := d.symm.trans hz
        subst this
        exact absurd a hl
      · exact ⟨a, .inr ⟨b, j', by omega, d⟩⟩

theorem NX.row {L : Nat → Nat} {Z : Nat → Nat → Int} {lim : Int} {aw0 : Nat → Int} {cur : Nat → Bool} {y : Nat} {nx : Nat → Bool} {s : Bool} (h : NX L Z lim aw0 cur y (L y) nx s) (hc : cur y = true) : NX L Z lim aw0 cur (y + 1) 0 nx s := by
  refine ⟨fun x => ?_, h.any⟩
  rw [h.mem x]
  constructor
  · rintro ⟨a, ⟨y', b, c⟩ | ⟨b, c⟩⟩
    · exact ⟨a, .inl ⟨y', by omega, c⟩⟩
    · exact ⟨a, .inl ⟨y, by omega, b, c⟩⟩
  · rintro ⟨a, ⟨y', b, c⟩ | ⟨_, j', b, _⟩⟩
    · by_cases e : y' = y
      · subst e; exact ⟨a, .inr c⟩
      · exact ⟨a, .inl ⟨y', by omega, c⟩⟩
    · exact absurd b (Nat.not_lt_zero _)

theorem NX.skip {L : Nat → Nat} {Z : Nat → Nat → Int} {lim : Int} {aw0 : Nat → Int} {cur : Nat → Bool} {y : Nat} {nx : Nat → Bool} {s : Bool} (h : NX L Z lim aw0 cur y 0 nx s) (hc : cur y = false) : NX L Z lim aw0 cur (y + 1) 0 nx s := by
  refine ⟨fun x => ?_, h.any⟩
  rw [h.mem x]
  constructor
  · rintro ⟨a, ⟨y', b, c⟩ | ⟨b, c⟩⟩
    · exact ⟨a, .inl ⟨y', by omega, c⟩⟩
    · rw [hc] at b; cases b
  · rintro ⟨a, ⟨y', b, c⟩ | ⟨_, j', b, _⟩⟩
    · by_cases e : y' = y
      · subst e; rw [hc] at c; cases c.1
      · exact ⟨a, .inl ⟨y', by omega, c⟩⟩
    · exact absurd b (Nat.not_lt_zero _)

/-- The whole next set is the chains' ends. -/
theorem NX.chain {n : Nat} {L : Nat → Nat} {Z : Nat → Nat → Int} {base : Int} {fr : Nat} {aw0 : Nat → Int} {cur nx : Nat → Bool} {k : Nat} {s : Bool} (h : NX L Z (base + ((k + 1 : Nat) : Int)) aw0 cur n 0 nx s)
    (hc : ∀ y, y < n → (cur y = true ↔ Chain n L Z base fr aw0 k y)) (z : Nat) : nx z = true ↔ Chain n L Z base fr aw0 (k + 1) z := by
  rw [h.mem z]
  constructor
  · rintro ⟨a, ⟨y', b, c, d⟩ | ⟨_, j', b, _⟩⟩
    · exact ⟨⟨y', b, (hc y' b).1 c, d⟩, a⟩
    · exact absurd b (Nat.not_lt_zero _)
  · rintro ⟨⟨y', b, c, d⟩, a⟩
    exact ⟨a, .inl ⟨y', b, (hc y' b).2 c, d⟩⟩

/-- What is known of z when the chains of fewer than k links are gone through. -/
def At (n : Nat) (L : Nat → Nat) (Z : Nat → Nat → Int) (base : Int) (fr : Nat) (aw0 : Nat → Int) (k z : Nat) (wz : Int) (lz : Bool) : Prop :=
  (lz = true ∧ ∃ i : Nat, 1 ≤ i ∧ i < k ∧ Chain n L Z base fr aw0 i z ∧ (∀ i', 1 ≤ i' → i' < i → ¬ Chain n L Z base fr aw0 i' z) ∧ wz = base + (i : Int)) ∨
    (lz = false ∧ (∀ i, 1 ≤ i → i < k → ¬ Chain n L Z base fr aw0 i z) ∧ wz = aw0 z)

theorem At.new {n : Nat} {L : Nat → Nat} {Z : Nat → Nat → Int} {base : Int} {fr : Nat} {aw0 : Nat → Int} {k z : Nat} {wz : Int} (h : At n L Z base fr aw0 k z wz false) (hk : 1 ≤ k) (hc : Chain n L Z base fr aw0 k z) :
    At n L Z base fr aw0 (k + 1) z (base + (k : Int)) true := by
  rcases h with ⟨h, _⟩ | ⟨_, h, _⟩
  · cases h
  · exact .inl ⟨rfl, k, hk, by omega, hc, fun i' h1 h2 => h i' h1 h2, rfl⟩

theorem At.old {n : Nat} {L : Nat → Nat} {Z : Nat → Nat → Int} {base : Int} {fr : Nat} {aw0 : Nat → Int} {k z : Nat} {wz : Int} (h : At n L Z base fr aw0 k z wz true) : At n L Z base fr aw0 (k + 1) z wz true := by
  rcases h with ⟨_, i, h1, h2, h3⟩ | ⟨h, _⟩
  · exact .inl ⟨rfl, i, h1, by omega, h3⟩
  · cases h

theorem At.none {n : Nat} {L : Nat → Nat} {Z : Nat → Nat → Int} {base : Int} {fr : Nat} {aw0 : Nat → Int} {k z : Nat} {wz : Int} {lz : Bool} (h : At n L Z base fr aw0 k z wz lz) (hc : ¬ Chain n L Z base fr aw0 k z) : At n L Z base fr aw0 (k + 1) z wz lz := by
  rcases h with ⟨h0, i, h1, h2, h3⟩ | ⟨h0, h1, h2⟩
  · exact .inl ⟨h0, i, h1, by omega, h3⟩
  · refine .inr ⟨h0, fun i a b => ?_, h2⟩
    by_cases e : i = k
    · subst e; exact hc
    · exact h1 i a (by omega)

/-- Where no chain of k links is, none is longer. -/
theorem no_longer {n : Nat} {L : Nat → Nat} {Z : Nat → Nat → Int} {base : Int} {fr : Nat} {aw0 : Nat → Int} {k : Nat} (h : ∀ z, ¬ Chain n L Z base fr aw0 k z) : ∀ (i z : Nat), k ≤ i → ¬ Chain n L Z base fr aw0 i z
  | 0, z, hi => by
    have : k = 0 := by omega
    subst this; exact h z
  | i + 1, z, hi => by
    by_cases e : k = i + 1
    · subst e; exact h z
    · rintro ⟨⟨y, _, hc, _⟩, _⟩
      exact no_longer h i y (by omega) hc

theorem At.final {n : Nat} {L : Nat → Nat} {Z : Nat → Nat → Int} {base : Int} {fr : Nat} {aw0 : Nat → Int} {k z : Nat} {wz : Int} {lz : Bool} (h : At n L Z base fr aw0 k z wz lz) (hk : n ≤ k ∨ ∀ i, k ≤ i → ¬ Chain n L Z base fr aw0 i z) :
    (lz = true ∧ ∃ i : Nat, 1 ≤ i ∧ Chain n L Z base fr aw0 i z ∧ (∀ i', 1 ≤ i' → i' < i → ¬ Chain n L Z base fr aw0 i' z) ∧ wz = base + (i : Int)) ∨ (lz = false ∧ (∀ i, 1 ≤ i → i < n → ¬ Chain n L Z base fr aw0 i z) ∧ wz = aw0 z) := by
  rcases h with ⟨h0, i, h1, h2, h3⟩ | ⟨h0, h1, h2⟩
  · exact .inl ⟨h0, i, h1, h3⟩
  · refine .inr ⟨h0, fun i a b => ?_, h2⟩
    by_cases e : i < k
    · exact h1 i a e
    · rcases hk with hk | hk
      · omega
      · exact hk i (by omega)

/-- The model's own memory at its outer loop's head. -/
structure RM (w wr : World) (n an : Nat) (L : Nat → Nat) (Z : Nat → Nat → Int) (base : Int) (fr : Nat) (aw0 : Nat → Int) (k cb : Nat) (cur : Nat → Bool) (want : Nat → Int) (low : Nat → Bool) : Prop where
  curR : rowB wr cb n cur
  wantR : row32 wr w.heap.size an want
  lowR : rowB wr (w.heap.size + 1) n low
  cb1 : w.heap.size + 1 < cb
  below : Below w.heap.size w wr
  curC : ∀ y, y < n → (cur y = true ↔ Chain n L Z base fr aw0 k y)
  start : want fr = base
  lowfr : low fr = false
  each : ∀ z, z < n → z ≠ fr → At n L Z base fr aw0 (k + 1) z (want z) (low z)
  beyond : ∀ z, n ≤ z → want z = aw0 z

/-- The third loop: v places are gone through. -/
structure ZL (w wr : World) (n an : Nat) (L : Nat → Nat) (Z : Nat → Nat → Int) (base : Int) (fr : Nat) (aw0 : Nat → Int) (k nb : Nat) (nx : Nat → Bool) (v : Nat) (want : Nat → Int) (low : Nat → Bool) : Prop where
  nxR : rowB wr nb n nx
  wantR : row32 wr w.heap.size an want
  lowR : rowB wr (w.heap.size + 1) n low
  nb1 : w.heap.size + 1 < nb
  below : Below w.heap.size w wr
  nxC : ∀ y, y < n → (nx y = true ↔ Chain n L Z base fr aw0 (k + 1) y)
  start : want fr = base
  lowfr : low fr = false
  each : ∀ z, z < n → z ≠ fr → At n L Z base fr aw0 (if z < v then k + 2 else k + 1) z (want z) (low z)
  beyond : ∀ z, n ≤ z → want z = aw0 z

section
variable {w wr : World} {n an : Nat} {L : Nat → Nat} {Z : Nat → Nat → Int} {base : Int} {fr : Nat} {aw0 : Nat → Int} {k nb v : Nat} {nx : Nat → Bool} {want : Nat → Int} {low : Nat → Bool}

theorem ZL.set (h : ZL w wr n an L Z base fr aw0 k nb nx v want low) (hv : v < n) (hx : nx v = true) (hf : v ≠ fr) (hl : low v = false) :
    ZL w ((wr.setCell ⟨w.heap.size + 1, v, none⟩ (.bool true)).setCell ⟨w.heap.size, v, none⟩ (.int .i32 (base + ((k + 1 : Nat) : Int)))) n an L Z base fr aw0 k nb nx (v + 1) (fun j => if j = v then base + ((k + 1 : Nat) : Int) else want j) (fun j => if j = v then true else low j) := by
  have hb1 := h.nb1
  refine ⟨(h.nxR.setOther (by show nb ≠ w.heap.size + 1; omega) _).setOther (by show nb ≠ w.heap.size; omega) _, (h.wantR.setOther (by show w.heap.size ≠ w.heap.size + 1; omega) _).set v _, (h.lowR.set v true).setOther (by show w.heap.size + 1 ≠ w.heap.size; omega) _,
    hb1, (h.below.setCell (by show w.heap.size ≤ w.heap.size + 1; omega) _).setCell (Nat.le_refl _) _, h.nxC, ?_, ?_, fun z hz hzf => ?_, fun z hz => ?_⟩
  · rw [if_neg (fun e => hf e.symm)]; exact h.start
  · rw [if_neg (fun e => hf e.symm)]; exact h.lowfr
  · have hz0 := h.each z hz hzf
    by_cases e : z = v
    · subst e
      simp only [if_true]
      rw [if_neg (Nat.lt_irrefl _), hl] at hz0
      rw [if_pos (Nat.lt_succ_self _)]
      exact hz0.new (by omega) ((h.nxC z hz).1 hx)
    · simp only [e, if_false]
      by_cases hlt : z < v
      · rw [if_pos hlt] at hz0; rw [if_pos (by omega)]; exact hz0
      · rw [if_neg hlt] at hz0; rw [if_neg (by omega)]; exact hz0
  · rw [if_neg (by omega)]; exact h.beyond z hz

theorem ZL.pass (h : ZL w wr n an L Z base fr aw0 k nb nx v want low) (hv : v < n) (hx : nx v = false ∨ v = fr ∨ low v = true) : ZL w wr n an L Z base fr aw0 k nb nx (v + 1) want low := by
  refine ⟨h.nxR, h.wantR, h.lowR, h.nb1, h.below, h.nxC, h.start, h.lowfr, fun z hz hzf => ?_, h.beyond⟩
  have hz0 := h.each z hz hzf
  by_cases e : z = v
  · subst e
    rw [if_neg (Nat.lt_irrefl _)] at hz0
    rw [if_pos (Nat.lt_succ_self _)]
    rcases hx with hx | hx | hx
    · exact hz0.none (fun hc => by rw [(h.nxC z hz).2 hc] at hx; cases hx)
    · exact absurd hx hzf
    · rw [hx] at hz0 ⊢; exact hz0.old
  · by_cases hlt : z < v
    · rw [if_pos hlt] at hz0; rw [if_pos (by omega)]; exact hz0
    · rw [if_neg hlt] at hz0; rw [if_neg (by omega)]; exact hz0

theorem ZL.finish (h : ZL w wr n an L Z base fr aw0 k nb nx n want low) : RM w wr n an L Z base fr aw0 (k + 1) nb nx want low :=
  ⟨h.nxR, h.wantR, h.lowR, h.nb1, h.below, h.nxC, h.start, h.lowfr, fun z hz hzf => by have := h.each z hz hzf; rw [if_pos hz] at this; exact this, h.beyond⟩

theorem RM.wants {cb : Nat} {cur : Nat → Bool} (h : RM w wr n an L Z base fr aw0 k cb cur want low) (hk : n ≤ k + 1 ∨ ∀ z, ¬ Chain n L Z base fr aw0 (k + 1) z) : Want n L Z base fr aw0 want low :=
  ⟨h.start, h.lowfr, fun z hz hzf => (h.each z hz hzf).final (by
    rcases hk with hk | hk
    · exact .inl hk
    · exact .inr (fun i hi => no_longer hk i z hi)), h.beyond⟩
end

/-- Two new rows of bools. -/
theorem two_new (v : World) (N n : Nat) (hN : v.heap.size = N) :
    rowB ((v.alloc (.cells (madeCells #[.bool false] n) 4)).alloc (.cells (madeCells #[.bool false] n) 4)) N n (fun _ => false) ∧ rowB ((v.alloc (.cells (madeCells #[.bool false] n) 4)).alloc (.cells (madeCells #[.bool false] n) 4)) (N + 1) n (fun _ => false) := by
  have h1 : rowB (v.alloc (.cells (madeCells #[.bool false] n) 4)) v.heap.size n (fun _ => false) := World.rowIs_made v (.bool false) n 4
  have h2 : rowB ((v.alloc (.cells (madeCells #[.bool false] n) 4)).alloc (.cells (madeCells #[.bool false] n) 4)) (v.alloc (.cells (madeCells #[.bool false] n) 4)).heap.size n (fun _ => false) := World.rowIs_made _ (.bool false) n 4
  have hs : (v.alloc (.cells (madeCells #[.bool false] n) 4)).heap.size = v.heap.size + 1 := by simp
  rw [hs, hN] at h2
  rw [hN] at h1
  exact ⟨h1.alloc _, h2⟩

/-- What the model leaves. -/
def Reached (w : World) (n an : Nat) (L : Nat → Nat) (Z : Nat → Nat → Int) (base : Int) (fr : Nat) (aw0 : Nat → Int) (e : Ending) (w' : World) : Prop :=
  ∃ (want : Nat → Int) (low : Nat → Bool), e = .returned (.tuple #[.slice (some ⟨w.heap.size, 0, none⟩) an an, .slice (some ⟨w.heap.size + 1, 0, none⟩) n n]) ∧ row32 w' w.heap.size an want ∧ rowB w' (w.heap.size + 1) n low ∧ Below w.heap.size w w' ∧
    Want n L Z base fr aw0 want low ∧ w.heap.size + 1 < w'.heap.size

set_option maxHeartbeats 4000000 in
set_option maxRecDepth 100000 in
theorem reach_any (ga sa : Option Addr) (gb go n c sb so an sc : Nat) (A : Nat → Option Addr) (RB RO L C : Nat → Nat) (Z : Nat → Nat → Int) (aw0 : Nat → Int) (base : Int) (fr : Nat) (w : World)
    (hL : IsLinks w w.heap.size ga gb go n c A RB RO L C Z) (hA : IsI32 w w.heap.size sa sb so an sc aw0) (hfr : fr < n) (hna : n ≤ an) (hn : n ≤ 1000000) (han : an ≤ 2000000) (hb1 : -2147483648 ≤ base) (hb2 : base + n ≤ 2147483647)
    (hL2 : ∀ i, i < n → L i ≤ 2000000) (hZ : ∀ i, i < n → ∀ j, j < L i → 0 ≤ Z i j ∧ Z i j < n) (haw : ∀ i, i < an → -2147483648 ≤ aw0 i ∧ aw0 i ≤ 2147483647) :
    Calls Try.prog 13 #[.slice ga n c, .slice sa an sc, .int .i32 base, .int .i32 fr] w fun e w' => Reached w n an L Z base fr aw0 e w' := by
  obtain rfl := hA.adr (by omega)
  obtain rfl := hL.adr (by omega)
  have hmk := run_make_row' (P := Try.prog) 29 4 (.bool false) 1 Try.underlying29 Try.info4 rfl .i64 .i64 n (by omega) (by omega)
  have hzn : ∀ y, y < n → ∀ i, i < L y → (Z y i).toNat < n := fun y hy i hi => by have := hZ y hy i hi; omega
  have HZN := hide hzn
  have HZ := hide hZ
  have HAW := hide haw
  have hle := hL.le
  have hmax := hL.max
  have hale := hA.le
  have hamax := hA.max
  clear hzn hZ haw
  go_enter Try.func13, Try.ntmps13
  go_wp2_with fail
  refine (clone_some _ _ _ an sc aw0 _ w hA (Nat.le_refl _) han).mono ?_
  rintro e w1 ⟨rfl, hW1, hbel1, hz1⟩
  have f1 : (fr : Int) < (an : Int) := by omega
  have f2 : (fr : Int) < (n : Int) := by omega
  have x1 := hW1.cell (i := fr) (by omega)
  have x2 := hW1.frozen fr
  obtain ⟨n1, n2⟩ := two_new (w1.setCell ⟨w.heap.size, fr, none⟩ (.int .i32 base)) (w.heap.size + 1) n (by simpa using hz1)
  have y1 := n2.cell hfr
  have y2 := n2.frozen fr
  have s1 : (((w1.setCell ⟨w.heap.size, fr, none⟩ (.int .i32 base)).alloc (.cells (madeCells #[.bool false] n) 4)).alloc (.cells ((madeCells #[.bool false] n).setIfInBounds fr (.bool true)) 4)) =
      (((w1.setCell ⟨w.heap.size, fr, none⟩ (.int .i32 base)).alloc (.cells (madeCells #[.bool false] n) 4)).alloc (.cells (madeCells #[.bool false] n) 4)).setCell ⟨w.heap.size + 1 + 1, fr, none⟩ (.bool true) := by
    rw [World.setCell_alloc_at _ _ _ _ _ (by simp [hz1])]
  have R0 : RM w (((w1.setCell ⟨w.heap.size, fr, none⟩ (.int .i32 base)).alloc (.cells (madeCells #[.bool false] n) 4)).alloc (.cells ((madeCells #[.bool false] n).setIfInBounds fr (.bool true)) 4)) n an L Z base fr aw0 0 (w.heap.size + 1 + 1)
      (fun j => if j = fr then true else false) (upd aw0 fr base) (fun _ => false) := by
    rw [s1]
    refine ⟨n2.set fr true, (((hW1.set fr base).alloc _).alloc _).setOther (by show w.heap.size ≠ w.heap.size + 1 + 1; omega) _, n1.setOther (by show w.heap.size + 1 ≠ w.heap.size + 1 + 1; omega) _, by omega,
      (((hbel1.setCell (Nat.le_refl _) _).alloc (by simp [hz1]) _).alloc (by simp [hz1]; omega) _).setCell (by show w.heap.size ≤ w.heap.size + 1 + 1; omega) _, fun y hy => ?_, upd_same _ _ _, rfl, fun z hz hzf => .inr ⟨rfl, fun i h1 h2 => by omega, upd_other _ _ hzf⟩, fun z hz => upd_other _ _ (by omega)⟩
    by_cases e : y = fr
    · subst e; simp [Chain]
    · simp [e, Chain]
  have HR := hide R0
  clear s1 R0
  go_wp2
  clear x1 x2 y1 y2 n1 n2 hz1 hW1 hbel1
  have hLB : ∀ wr, Below w.heap.size w wr → IsLinks wr w.heap.size (some ⟨gb, go, none⟩) gb go n c A RB RO L C Z := fun wr hk => hL.keep hk
  have hAB : ∀ wr, Below w.heap.size w wr → IsI32 wr w.heap.size (some ⟨sb, so, none⟩) sb so an sc aw0 := fun wr hk => hA.keep hk
  have HLB := hide hLB
  have HAB := hide hAB
  clear hLB hAB hL hA
  go_loopg [13, 14] (n - 1) (fun gk cv i wr => ∃ (K k cb : Nat) (cur : Nat → Bool) (want : Nat → Int) (low : Nat → Bool), K ≤ n ∧ gk = n - K ∧ i = .int .i64 K ∧ (k + 1 ≤ K ∧ K ≤ k + 1) ∧ cv = .slice (some ⟨cb, 0, none⟩) n n ∧ RM w wr n an L Z base fr aw0 k cb cur want low)
  case atStart => exact ⟨1, 0, _, _, _, _, by omega, rfl, rfl, ⟨Nat.le_refl _, Nat.le_refl _⟩, rfl, unhide HR⟩
  case round =>
    obtain ⟨K, k, cb, cur, want, low, hk, rfl, rfl, ⟨hk1, hk2⟩, rfl, hR⟩ := hrel
    clear HR
    by_cases hlt : K < n
    · have i1 : (K : Int) < (n : Int) := by omega
      have hcl := hR.curR.lt
      have hcb := hR.cb1
      -- the next set
      have N0 : rowB (wr.alloc (.cells (madeCells #[.bool false] n) 4)) wr.heap.size n (fun _ => false) := World.rowIs_made wr (.bool false) n 4
      have B0 : Below wr.heap.size wr (wr.alloc (.cells (madeCells #[.bool false] n) 4)) := (Below.refl _ _).alloc (Nat.le_refl _) _
      have hwr := hR.below.size
      obtain ⟨wo, rfl⟩ : ∃ wo : World, wo = wr := ⟨_, rfl⟩
      have HRR := hide hR
      have HB := hide hR.below
      have HCu := hide hR.curR
      clear hR
      go_wp2
      -- ████ the rows y
      go_loopg [16, 18] n (fun gk sv i wi => ∃ (y : Nat) (nx : Nat → Bool) (s : Bool), y ≤ n ∧ gk = n - y ∧ i = .int .i64 y ∧ sv = .bool s ∧ rowB wi wo.heap.size n nx ∧ Below wo.heap.size wo wi ∧ NX L Z (base + ((k + 1 : Nat) : Int)) aw0 cur y 0 nx s)
      case atStart => exact ⟨0, _, _, Nat.zero_le _, rfl, rfl, rfl, N0, B0, NX.start _ _ _ _ _⟩
      case round =>
        obtain ⟨y, nx, s, hy, rfl, rfl, rfl, hN, hB, hX⟩ := hrel
        clear N0 B0
        by_cases hyl : y < n
        · have i2 : (y : Int) < (n : Int) := by omega
          have e1 := ((unhide HCu).keep hB hcl).cell hyl
          cases hcy : cur y
          · rw [hcy] at e1
            have S := hide (And.intro hN (And.intro hB (hX.skip hcy)))
            clear hN hB hX hcy
            go_wp2
            go_roundg (n - (y + 1))
            case measure => go_light; omega
            case rel => go_light; exact ⟨y + 1, nx, s, by omega, rfl, by simp, rfl, (unhide S).1, (unhide S).2.1, (unhide S).2.2⟩
          · rw [hcy] at e1
            have hBw : Below w.heap.size w wr := (unhide HB).trans (hB.mono (by omega))
            have hLw := unhide HLB wr hBw
            have e2 := hLw.row y hyl
            have hRw := hLw.rows y hyl
            have hRa := hRw.adr
            have hLy := hL2 y hyl
            have hRm := hRw.max
            obtain ⟨Ay, hAy⟩ : ∃ Ay, Ay = A y := ⟨_, rfl⟩
            rw [← hAy] at e2 hRa
            have HCY := hide hcy
            have HX := hide hX
            clear hLw hRw hAy hBw hcy hX
            go_wp2
            clear e1 e2
            -- ████ the links of y
            go_loopg [16, 20] (L y) (fun gk sv i wi => ∃ (j : Nat) (nx : Nat → Bool) (s : Bool), j ≤ L y ∧ gk = L y - j ∧ i = .int .i64 j ∧ sv = .bool s ∧ rowB wi wo.heap.size n nx ∧ Below wo.heap.size wo wi ∧ NX L Z (base + ((k + 1 : Nat) : Int)) aw0 cur y j nx s)
            case atStart => exact ⟨0, _, _, Nat.zero_le _, rfl, rfl, rfl, hN, hB, unhide HX⟩
            case round =>
              clear hN hB HX
              obtain ⟨j, nx, s, hj, rfl, rfl, rfl, hN, hB, hX⟩ := hrel
              by_cases hjl : j < L y
              · have i3 : (j : Int) < (L y : Int) := by omega
                obtain rfl := hRa (by omega)
                have hBw : Below w.heap.size w wr := (unhide HB).trans (hB.mono (by omega))
                have e3 := ((unhide HLB wr hBw).rows y hyl).cell j hjl
                obtain ⟨z1, z2⟩ := unhide HZ y hyl j hjl
                obtain ⟨z, hz⟩ : ∃ z : Nat, Z y j = z := ⟨(Z y j).toNat, by omega⟩
                have hzn : z < n := by omega
                have e4 := (unhide HAB wr hBw).cell z (by omega)
                obtain ⟨b1, b2⟩ := unhide HAW z (by omega)
                rw [hz] at e3
                have HZT : Hid ((Z y j).toNat = z) := by show (Z y j).toNat = z; rw [hz]; rfl
                have i4 : (z : Int) < (an : Int) := by omega
                have i5 : (z : Int) < (n : Int) := by omega
                have e5 := hN.cell hzn
                have e6 := hN.frozen z
                by_cases hdl : base + (K : Int) < aw0 z
                · have S := hide (And.intro (hN.set z true) (And.intro (hB.setCell (p := ⟨wo.heap.size, z, none⟩) (Nat.le_refl _) (.bool true)) (hX.yes (unhide HCY) z (unhide HZT) (by omega))))
                  clear hN hB hX hz z1 z2 hBw hRa
                  go_wp2
                  go_roundg (L y - (j + 1))
                  case measure => go_light; omega
                  case rel => go_light; exact ⟨j + 1, _, true, by omega, rfl, by simp, rfl, (unhide S).1, (unhide S).2.1, (unhide S).2.2⟩
                · have S := hide (And.intro hN (And.intro hB (hX.no z (unhide HZT) (by omega))))
                  clear hN hB hX hz z1 z2 hBw hRa
                  go_wp2
                  go_roundg (L y - (j + 1))
                  case measure => go_light; omega
                  case rel => go_light; exact ⟨j + 1, _, s, by omega, rfl, by simp, rfl, (unhide S).1, (unhide S).2.1, (unhide S).2.2⟩
              · have i3 : ¬ ((j : Int) < (L y : Int)) := by omega
                obtain rfl : j = L y := by omega
                have S := hide (And.intro hN (And.intro hB (hX.row (unhide HCY))))
                clear hN hB hX hRa
                go_wp2
                go_roundg (n - (y + 1))
                case measure => go_light; omega
                case rel => go_light; exact ⟨y + 1, nx, s, by omega, rfl, by simp, rfl, (unhide S).1, (unhide S).2.1, (unhide S).2.2⟩
        · have i2 : ¬ ((y : Int) < (n : Int)) := by omega
          obtain rfl : y = n := by omega
          have hR := unhide HRR
          have hch := hX.chain hR.curC
          cases s
          · -- none: break
            have hnone : ∀ z, ¬ Chain y L Z base fr aw0 (k + 1) z := fun z hc => by
              have h1 := (hch z).2 hc
              have h2 := hX.any.2 ⟨z, h1⟩
              cases h2
            have F : Hid (Reached w y an L Z base fr aw0 (.returned (.tuple #[.slice (some ⟨w.heap.size, 0, none⟩) an an, .slice (some ⟨w.heap.size + 1, 0, none⟩) y y])) wr) :=
              ⟨want, low, rfl, hR.wantR.keep hB (by omega), hR.lowR.keep hB (by omega), hR.below.trans (hB.mono (by omega)), hR.wants (.inr hnone), by have := hB.size; omega⟩
            clear hN hB hX hR hch hnone
            go_wp2
            go_ret2
            exact F.out
          · have Z0 : ZL w wr y an L Z base fr aw0 k wo.heap.size nx 0 want low :=
              ⟨hN, hR.wantR.keep hB (by omega), hR.lowR.keep hB (by omega), by omega, hR.below.trans (hB.mono (by omega)), fun z _ => hch z, hR.start, hR.lowfr, fun z hz hzf => by rw [if_neg (Nat.not_lt_zero _)]; exact hR.each z hz hzf, hR.beyond⟩
            clear hN hB hX hR hch
            have HZ0 := hide Z0
            clear Z0
            go_wp2
            -- ████ the places z
            go_loopg [22] y (fun gk i wi => ∃ (v : Nat) (want : Nat → Int) (low : Nat → Bool), v ≤ y ∧ gk = y - v ∧ i = .int .i64 v ∧ ZL w wi y an L Z base fr aw0 k wo.heap.size nx v want low)
            case atStart => exact ⟨0, _, _, Nat.zero_le _, rfl, rfl, unhide HZ0⟩
            case round =>
              clear HZ0
              obtain ⟨v, want, low, hv, rfl, rfl, hZl⟩ := hrel
              by_cases hvl : v < y
              · have i3 : (v : Int) < (y : Int) := by omega
                have i4 : (v : Int) < (an : Int) := by omega
                have e1 := hZl.nxR.cell hvl
                have e2 := hZl.lowR.cell hvl
                have e3 := hZl.lowR.frozen v
                have e4 := fun x => (hZl.wantR.setOther (a := ⟨w.heap.size + 1, v, none⟩) (by show w.heap.size ≠ w.heap.size + 1; omega) x).cell (i := v) (by omega)
                have e5 := fun x => (hZl.wantR.setOther (a := ⟨w.heap.size + 1, v, none⟩) (by show w.heap.size ≠ w.heap.size + 1; omega) x).frozen v
                cases hxv : nx v
                · rw [hxv] at e1
                  have S := hide (hZl.pass hvl (.inl hxv))
                  clear hZl hxv
                  go_wp2
                  go_roundg (y - (v + 1))
                  case measure => go_light; omega
                  case rel => go_light; exact ⟨v + 1, want, low, by omega, rfl, by simp, unhide S⟩
                · rw [hxv] at e1
                  by_cases hvf : v = fr
                  · have S := hide (hZl.pass hvl (.inr (.inl hvf)))
                    have hb : ((v : Int) != (fr : Int)) = false := by simp; omega
                    clear hZl hxv hvf
                    go_wp2
                    go_roundg (y - (v + 1))
                    case measure => go_light; omega
                    case rel => go_light; exact ⟨v + 1, want, low, by omega, rfl, by simp, unhide S⟩
                  · have hb : ((v : Int) != (fr : Int)) = true := by simp; omega
                    cases hlv : low v
                    · rw [hlv] at e2
                      have S0 := hZl.set hvl hxv hvf hlv
                      rw [show (((k + 1 : Nat) : Int)) = (K : Int) from by omega] at S0
                      have S := hide S0
                      clear S0
                      clear hZl hxv hvf hlv
                      go_wp2
                      go_roundg (y - (v + 1))
                      case measure => go_light; omega
                      case rel => go_light; exact ⟨v + 1, _, _, by omega, rfl, by simp, unhide S⟩
                    · rw [hlv] at e2
                      have S := hide (hZl.pass hvl (.inr (.inr hlv)))
                      clear hZl hxv hvf hlv
                      go_wp2
                      go_roundg (y - (v + 1))
                      case measure => go_light; omega
                      case rel => go_light; exact ⟨v + 1, want, low, by omega, rfl, by simp, unhide S⟩
              · have i3 : ¬ ((v : Int) < (y : Int)) := by omega
                obtain rfl : v = y := by omega
                have S := hide hZl.finish
                clear hZl
                go_wp2
                go_roundg (v - (K + 1))
                case measure => go_light; omega
                case rel => go_light; exact ⟨K + 1, k + 1, _, nx, want, low, by omega, rfl, by simp, ⟨by omega, by omega⟩, rfl, unhide S⟩
    · have i1 : ¬ ((K : Int) < (n : Int)) := by omega
      have F : Hid (Reached w n an L Z base fr aw0 (.returned (.tuple #[.slice (some ⟨w.heap.size, 0, none⟩) an an, .slice (some ⟨w.heap.size + 1, 0, none⟩) n n])) wr) :=
        ⟨want, low, rfl, hR.wantR, hR.lowR, hR.below, hR.wants (.inl (by omega)), hR.lowR.lt⟩
      clear hR
      go_wp2
      go_ret2
      exact F.out

end Go.Proofs.Qxb6603240a
