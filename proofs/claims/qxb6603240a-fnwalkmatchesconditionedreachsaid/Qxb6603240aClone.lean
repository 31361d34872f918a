/- cloneI32 (function 12), by its contract. -/
import Derived.Test.Qxb6603240aMem
namespace Go.Proofs.Qxb6603240a
open Go.RowKit

set_option maxHeartbeats 400000 in
theorem clone_nil (w : World) : Calls Try.prog 12 #[.slice none 0 0] w fun e w' => e = .returned (.slice none 0 0) ∧ w' = w := by
  have hnil := fun w => Lib.run_eql_slice_nil (P := Try.prog) w 23 21 none 0 0 0 0 Try.underlying23
  go_enter Try.func12, Try.ntmps12
  go_wp2
  go_ret
  exact ⟨rfl, rfl⟩

/-- The new row when k cells are copied. -/
theorem clone_step {w wr : World} {n : Nat} {f : Nat → Int} {k : Nat} (h : row32 wr w.heap.size n (fun i => if i < k then f i else 0)) (hb : Below w.heap.size w wr) :
    row32 (wr.setCell ⟨w.heap.size, k, none⟩ (.int .i32 (f k))) w.heap.size n (fun i => if i < k + 1 then f i else 0) ∧ Below w.heap.size w (wr.setCell ⟨w.heap.size, k, none⟩ (.int .i32 (f k))) := by
  refine ⟨(h.set k (f k)).congr (fun j _ => ?_), hb.setCell (Nat.le_refl _) _⟩
  by_cases e : j = k
  · subst e; simp
  · rw [if_neg e]
    by_cases hlt : j < k
    · rw [if_pos hlt, if_pos (by omega)]
    · rw [if_neg hlt, if_neg (by omega)]

set_option maxHeartbeats 400000 in
theorem clone_some (a : Addr) (sb so n c : Nat) (f : Nat → Int) (B : Nat) (w : World) (h : IsI32 w B (some a) sb so n c f) (hB : B ≤ w.heap.size) (hn : n ≤ 2000000) :
    Calls Try.prog 12 #[.slice (some a) n c] w fun e w' => e = .returned (.slice (some ⟨w.heap.size, 0, none⟩) n n) ∧ row32 w' w.heap.size n f ∧ Below w.heap.size w w' ∧ w'.heap.size = w.heap.size + 1 := by
  have hnil := fun w => Lib.run_eql_slice_nil (P := Try.prog) w 23 21 (some a) n c 0 0 Try.underlying23
  have hmk := run_make_row' (P := Try.prog) 23 21 (.int .i32 0) 4 Try.underlying23 Try.info21 rfl .i64 .i64 n (by omega) (by omega)
  have hadr := h.adr
  have hblk := h.blk
  have hcl := h.cell
  have hR0 : row32 (w.alloc (.cells (madeCells #[.int .i32 0] n) 21)) w.heap.size n (fun i => if i < 0 then f i else 0) := (World.rowIs_made w (.int .i32 0) n 21).congr (fun j _ => by simp)
  have hB0 : Below w.heap.size w (w.alloc (.cells (madeCells #[.int .i32 0] n) 21)) := (Below.refl _ _).alloc (Nat.le_refl _) _
  clear h
  go_enter Try.func12, Try.ntmps12
  go_wp2
  clear hmk hnil
  go_loopg [4] n (fun g i wr => ∃ k : Nat, k ≤ n ∧ g = n - k ∧ i = .int .i64 k ∧ row32 wr w.heap.size n (fun i => if i < k then f i else 0) ∧ Below w.heap.size w wr ∧ wr.heap.size = w.heap.size + 1)
  case atStart => exact ⟨0, Nat.zero_le _, rfl, rfl, hR0, hB0, by simp⟩
  case round =>
    obtain ⟨k, hk, rfl, rfl, hR, hBe, hsz⟩ := hrel
    clear hR0 hB0
    by_cases hlt : k < n
    · have hlz : (k : Int) < (n : Int) := by omega
      obtain rfl : a = ⟨sb, so, none⟩ := by have := hadr (by omega); simpa using this
      have g0 : wr.cell? ⟨sb, so + k, none⟩ = some (.int .i32 (f k)) := by rw [hBe.cell (p := ⟨sb, so + k, none⟩) (by have := hblk (by omega); show sb < _; omega)]; exact hcl k hlt
      have g1 := hR.cell hlt
      have g2 := hR.frozen k
      have S := clone_step hR hBe
      clear hcl hR hBe hadr hblk
      go_wp2
      go_roundg (n - (k + 1))
      case measure => go_light; omega
      case rel => go_light; exact ⟨k + 1, by omega, rfl, by simp, S.1, S.2, by simpa using hsz⟩
    · have hlz : ¬ ((k : Int) < (n : Int)) := by omega
      go_wp2
      go_ret
      obtain rfl : k = n := by omega
      exact ⟨rfl, hR.congr (fun j hj => by rw [if_pos hj]), hBe, hsz⟩

end Go.Proofs.Qxb6603240a
