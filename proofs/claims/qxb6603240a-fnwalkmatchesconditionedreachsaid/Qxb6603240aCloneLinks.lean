/- cloneLinks (function 11), by its contract. -/
import Derived.Test.Qxb6603240aClone
namespace Go.Proofs.Qxb6603240a
open Go.RowKit

/-- k rows are copied. -/
structure CL (w wr : World) (n : Nat) (L : Nat → Nat) (Z : Nat → Nat → Int) (k : Nat) (A : Nat → Option Addr) (RB : Nat → Nat) : Prop where
  top : wr.rowIs w.heap.size 23 n (fun i => if i < k then .slice (A i) (L i) (L i) else .slice none 0 0)
  rows : ∀ i, i < k → IsI32 wr wr.heap.size (A i) (RB i) 0 (L i) (L i) (Z i)
  own : ∀ i, i < k → 0 < L i → w.heap.size < RB i
  below : Below w.heap.size w wr
  size : w.heap.size < wr.heap.size

theorem cl_start (w : World) (n : Nat) (L : Nat → Nat) (Z : Nat → Nat → Int) : CL w (w.alloc (.cells (madeCells #[.slice none 0 0] n) 23)) n L Z 0 (fun _ => none) (fun _ => 0) :=
  ⟨(World.rowIs_made w (.slice none 0 0) n 23).congr (fun j _ => by simp), fun i hi => absurd hi (Nat.not_lt_zero _), fun i hi => absurd hi (Nat.not_lt_zero _), (Below.refl _ _).alloc (Nat.le_refl _) _, by simp⟩

theorem top_step {k : Nat} {L : Nat → Nat} {A : Nat → Option Addr} (A' : Option Addr) (j : Nat) :
    (if j = k then Value.slice A' (L k) (L k) else if j < k then .slice (A j) (L j) (L j) else .slice none 0 0) =
      if j < k + 1 then .slice ((fun i => if i = k then A' else A i) j) (L j) (L j) else .slice none 0 0 := by
  by_cases e : j = k
  · subst e; simp
  · rw [if_neg e]
    by_cases hlt : j < k
    · rw [if_pos hlt, if_pos (by omega)]; simp [e]
    · rw [if_neg hlt, if_neg (by omega)]

theorem cl_nil {w wr : World} {n : Nat} {L : Nat → Nat} {Z : Nat → Nat → Int} {k : Nat} {A : Nat → Option Addr} {RB : Nat → Nat} (h : CL w wr n L Z k A RB) (h0 : L k = 0) :
    CL w (wr.setCell ⟨w.heap.size, k, none⟩ (.slice none 0 0)) n L Z (k + 1) (fun i => if i = k then none else A i) (fun i => if i = k then 0 else RB i) := by
  have hs : (wr.setCell ⟨w.heap.size, k, none⟩ (.slice none 0 0)).heap.size = wr.heap.size := by simp
  refine ⟨(h.top.set k (.slice none 0 0)).congr (fun j _ => ?_), fun i hi => ?_, fun i hi hp => ?_, h.below.setCell (Nat.le_refl _) _, by rw [hs]; exact h.size⟩
  · have := top_step (k := k) (L := L) (A := A) none j
    rw [h0] at this
    exact this
  · rw [hs]
    by_cases e : i = k
    · subst e
      simp only [if_true, h0]
      exact ⟨fun _ => ⟨rfl, rfl⟩, fun hp => absurd hp (Nat.lt_irrefl _), Nat.le_refl _, by omega, fun i hi => absurd hi (Nat.not_lt_zero _), fun hp => absurd hp (Nat.lt_irrefl _)⟩
    · simp only [e, if_false]
      exact (h.rows i (by omega)).setCell (fun hp => by have := h.own i (by omega) hp; show RB i ≠ w.heap.size; omega) _
  · by_cases e : i = k
    · subst e; omega
    · simp only [e, if_false]; exact h.own i (by omega) hp

theorem cl_row {w wr w1 : World} {n : Nat} {L : Nat → Nat} {Z : Nat → Nat → Int} {k : Nat} {A : Nat → Option Addr} {RB : Nat → Nat} (h : CL w wr n L Z k A RB) (hl : L k ≤ 2000000)
    (hr : row32 w1 wr.heap.size (L k) (Z k)) (hb : Below wr.heap.size wr w1) (hsz : w1.heap.size = wr.heap.size + 1) :
    CL w (w1.setCell ⟨w.heap.size, k, none⟩ (.slice (some ⟨wr.heap.size, 0, none⟩) (L k) (L k))) n L Z (k + 1) (fun i => if i = k then some ⟨wr.heap.size, 0, none⟩ else A i) (fun i => if i = k then wr.heap.size else RB i) := by
  have hs : (w1.setCell ⟨w.heap.size, k, none⟩ (.slice (some ⟨wr.heap.size, 0, none⟩) (L k) (L k))).heap.size = wr.heap.size + 1 := by simpa using hsz
  have h0 := h.size
  refine ⟨((World.rowIs.of_block h.top (hb.block _ h0)).set k _).congr (fun j _ => top_step _ j), fun i hi => ?_, fun i hi hp => ?_, (h.below.trans (hb.mono (by omega))).setCell (Nat.le_refl _) _, by rw [hs]; omega⟩
  · rw [hs]
    by_cases e : i = k
    · subst e
      simp only [if_true]
      exact (hr.is (by omega)).setCell (fun _ => by show wr.heap.size ≠ w.heap.size; omega) _
    · simp only [e, if_false]
      exact ((((h.rows i (by omega)).keep hb).mono (Nat.le_succ _))).setCell (fun hp => by have := h.own i (by omega) hp; show RB i ≠ w.heap.size; omega) _
  · by_cases e : i = k
    · subst e; simpa using h0
    · simp only [e, if_false]; exact h.own i (by omega) hp

set_option maxHeartbeats 400000 in
theorem cloneLinks_nil (w : World) : Calls Try.prog 11 #[.slice none 0 0] w fun e w' => e = .returned (.slice none 0 0) ∧ w' = w := by
  have hnil := fun w => Lib.run_eql_slice_nil (P := Try.prog) w 22 23 none 0 0 0 0 Try.underlying22
  go_enter Try.func11, Try.ntmps11
  go_wp2
  go_ret
  exact ⟨rfl, rfl⟩

set_option maxHeartbeats 800000 in
theorem cloneLinks_some (a : Addr) (gb go n c : Nat) (A : Nat → Option Addr) (RB RO L C : Nat → Nat) (Z : Nat → Nat → Int) (B : Nat) (w : World) (h : IsLinks w B (some a) gb go n c A RB RO L C Z) (hB : B ≤ w.heap.size) (hn : n ≤ 2000000)
    (hL : ∀ i, i < n → L i ≤ 2000000) :
    Calls Try.prog 11 #[.slice (some a) n c] w fun e w' => e = .returned (.slice (some ⟨w.heap.size, 0, none⟩) n n) ∧ Below w.heap.size w w' ∧
      ∃ A' RB', IsLinks w' w'.heap.size (some ⟨w.heap.size, 0, none⟩) w.heap.size 0 n n A' RB' (fun _ => 0) L L Z := by
  have hnil := fun w => Lib.run_eql_slice_nil (P := Try.prog) w 22 23 (some a) n c 0 0 Try.underlying22
  have hmk := run_make_row' (P := Try.prog) 22 23 (.slice none 0 0) 24 Try.underlying22 Try.info23 rfl .i64 .i64 n (by omega) (by omega)
  have hadr := h.adr
  have hblk := h.blk
  have hrow := h.row
  have hrows := h.rows
  have h0 := cl_start w n L Z
  clear h
  go_enter Try.func11, Try.ntmps11
  go_wp2
  clear hmk hnil
  go_loopg [4] n (fun g i wr => ∃ k : Nat, k ≤ n ∧ g = n - k ∧ i = .int .i64 k ∧ ∃ A' RB', CL w wr n L Z k A' RB')
  case atStart => exact ⟨0, Nat.zero_le _, rfl, rfl, _, _, h0⟩
  case round =>
    obtain ⟨k, hk, rfl, rfl, A', RB', hC⟩ := hrel
    clear h0
    by_cases hlt : k < n
    · have hlz : (k : Int) < (n : Int) := by omega
      obtain rfl : a = ⟨gb, go, none⟩ := by have := hadr (by omega); simpa using this
      have hgb := hblk (by omega)
      have hrk := hrows k hlt
      have hrk' := (hrk.mono hB).keep hC.below
      have hLk := hL k hlt
      have g0 : wr.cell? ⟨gb, go + k, none⟩ = some (.slice (A k) (L k) (C k)) := by rw [hC.below.cell (p := ⟨gb, go + k, none⟩) (by show gb < _; omega)]; exact hrow k hlt
      have hCs := hC.size
      cases hA : A k with
      | none =>
        obtain ⟨hL0, hC0⟩ := hrk.nil hA
        rw [hA, hL0, hC0] at g0
        have g1 := hC.top.cell hlt
        have g2 := hC.top.frozen k
        have S := cl_nil hC hL0
        clear hrow hrows hadr hblk hrk hrk' hC hCs hL0 hC0 hA
        go_wp2_with (go_at_call 12; refine (clone_nil _).mono ?_; rintro e w1 ⟨rfl, rfl⟩)
        go_roundg (n - (k + 1))
        case measure => go_light; omega
        case rel => go_light; exact ⟨k + 1, by omega, rfl, by simp, _, _, S⟩
      | some a' =>
        rw [hA] at g0 hrk'
        clear hrow hrows hadr hblk hrk hA
        go_wp2_with fail
        refine (clone_some a' _ _ (L k) (C k) (Z k) w.heap.size wr hrk' (by omega) hLk).mono ?_
        rintro e w1 ⟨rfl, hr, hb, hsz⟩
        have g1 := (World.rowIs.of_block hC.top (hb.block _ hCs)).cell hlt
        have g2 := (World.rowIs.of_block hC.top (hb.block _ hCs)).frozen k
        have S := cl_row hC hLk hr hb hsz
        clear hrk' hC hr hb hsz hCs
        go_wp2
        go_roundg (n - (k + 1))
        case measure => go_light; omega
        case rel => go_light; exact ⟨k + 1, by omega, rfl, by simp, _, _, S⟩
    · have hlz : ¬ ((k : Int) < (n : Int)) := by omega
      go_wp2
      go_ret
      obtain rfl : k = n := by omega
      refine ⟨rfl, hC.below, A', RB', ⟨(fun e => by cases e), fun _ => rfl, Nat.le_refl _, by omega, fun i hi => ?_, fun _ => hC.size, hC.rows⟩⟩
      rw [Nat.zero_add, hC.top.cell hi, if_pos hi]

end Go.Proofs.Qxb6603240a
