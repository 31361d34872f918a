/- The clones (functions 12, 13, 14), by their contracts. -/
import Derived.Test.Qxb6603268aSlices
namespace Go.Proofs.Qxb6603268a
open Go.RowKit Cu
set_option linter.unusedVariables false

theorem Try.inf5 : (Try.prog.info? 5).map (fun i => (i.zero, i.size, i.bytes)) = some (some (.int .u8 0), 1, 1) := by kernel_rfl
theorem Try.inf3 : (Try.prog.info? 3).map (fun i => (i.zero, i.size, i.bytes)) = some (some (.int .i64 0), 1, 8) := by kernel_rfl
theorem Try.inf4 : (Try.prog.info? 4).map (fun i => (i.zero, i.size, i.bytes)) = some (some (.bool false), 1, 1) := by kernel_rfl

/-- A clone: a new row that holds the same. -/
def Cloned (w : World) (n : Nat) (F : Nat → Value) (e : Ending) (w' : World) : Prop :=
  ∃ ga gb, e = .returned (.slice ga n n) ∧ Below w.heap.size w w' ∧ IsV w' w'.heap.size ga gb 0 n n F

theorem clone_step {w wr : World} {n : Nat} {t : TypeId} {F : Nat → Value} {z : Value} {k : Nat} (h : wr.rowIs w.heap.size t n (fun i => if i < k then F i else z)) (hb : Below w.heap.size w wr) :
    (wr.setCell ⟨w.heap.size, k, none⟩ (F k)).rowIs w.heap.size t n (fun i => if i < k + 1 then F i else z) ∧ Below w.heap.size w (wr.setCell ⟨w.heap.size, k, none⟩ (F k)) := by
  refine ⟨(World.rowIs.set h k (F k)).congr (fun j _ => ?_), hb.setCell (Nat.le_refl _) _⟩
  by_cases e : j = k
  · subst e; simp
  · rw [if_neg e]
    by_cases hlt : j < k
    · rw [if_pos hlt, if_pos (by omega)]
    · rw [if_neg hlt, if_neg (by omega)]

theorem cloned_nil (w : World) (F : Nat → Value) : Cloned w 0 F (.returned (.slice none 0 0)) w := ⟨none, 0, rfl, Below.refl _ _, isV_nil _ _ _ _ _⟩

set_option maxHeartbeats 400000 in
theorem cloneY_any (sa : Option Addr) (sb so n c : Nat) (f : Nat → Int) (B : Nat) (w : World) (h : IsV w B sa sb so n c (fun i => .int .u8 (f i))) (hB : B ≤ w.heap.size) (hn : n ≤ 2000000) :
    Calls Try.prog 12 #[.slice sa n c] w fun e w' => Cloned w n (fun i => .int .u8 (f i)) e w' := by
  cases sa with
  | none =>
    obtain ⟨rfl, rfl⟩ := h.nil rfl
    have hnil := fun w => Lib.run_eql_slice_nil (P := Try.prog) w 25 5 none 0 0 0 0 Try.underlying25
    clear h
    go_enter Try.func12, Try.ntmps12
    go_wp2
    go_ret
    exact cloned_nil w _
  | some a =>
  have hnil := fun w => Lib.run_eql_slice_nil (P := Try.prog) w 25 5 (some a) n c 0 0 Try.underlying25
  have hmk := run_make_row' (P := Try.prog) 25 5 (.int .u8 0) 1 Try.underlying25 Try.inf5 rfl .i64 .i64 n (by omega) (by omega)
  have hadr := h.adr
  have hblk := h.blk
  have hcl := h.cell
  have hR0 : (w.alloc (.cells (madeCells #[.int .u8 0] n) 5)).rowIs w.heap.size 5 n (fun i => if i < 0 then .int .u8 (f i) else .int .u8 0) := (World.rowIs_made w (.int .u8 0) n 5).congr (fun j _ => by simp)
  have hB0 : Below w.heap.size w (w.alloc (.cells (madeCells #[.int .u8 0] n) 5)) := (Below.refl _ _).alloc (Nat.le_refl _) _
  clear h
  go_enter Try.func12, Try.ntmps12
  go_wp2
  clear hmk hnil
  go_loopg [4] n (fun g i wr => ∃ k : Nat, k ≤ n ∧ g = n - k ∧ i = .int .i64 k ∧ wr.rowIs w.heap.size 5 n (fun i => if i < k then .int .u8 (f i) else .int .u8 0) ∧ Below w.heap.size w wr ∧ wr.heap.size = w.heap.size + 1)
  case atStart => exact ⟨0, Nat.zero_le _, rfl, rfl, hR0, hB0, by simp⟩
  case round =>
    obtain ⟨k, hk, rfl, rfl, hR, hBe, hsz⟩ := hrel
    clear hR0 hB0
    by_cases hlt : k < n
    · have hlz : (k : Int) < (n : Int) := by omega
      obtain rfl : a = ⟨sb, so, none⟩ := by have := hadr (by omega); simpa using this
      have g0 : wr.cell? ⟨sb, so + k, none⟩ = some (.int .u8 (f k)) := by rw [hBe.cell (p := ⟨sb, so + k, none⟩) (by have := hblk (by omega); show sb < _; omega)]; exact hcl k hlt
      have g1 : wr.cell? ⟨w.heap.size, k, none⟩ = some (.int .u8 0) := by have := World.rowIs.cell hR hlt; simpa using this
      have g2 := World.rowIs.frozen hR k
      have S := clone_step (F := fun i => .int .u8 (f i)) hR hBe
      have HS := hide S
      clear hcl hR hBe hadr hblk S
      go_wp2
      go_roundg (n - (k + 1))
      case measure => go_light; omega
      case rel => go_light; exact ⟨k + 1, by omega, rfl, by simp, HS.out.1, HS.out.2, by simpa using hsz⟩
    · have hlz : ¬ ((k : Int) < (n : Int)) := by omega
      have F : Hid (Cloned w n (fun i => .int .u8 (f i)) (.returned (.slice (some ⟨w.heap.size, 0, none⟩) n n)) wr) := by
        obtain rfl : k = n := by omega
        have hR' : wr.rowIs w.heap.size 5 k (fun i => .int .u8 (f i)) := hR.congr (fun j hj => by rw [if_pos hj])
        exact ⟨_, _, rfl, hBe, (isV_row hR' (by omega)).mono (by omega)⟩
      clear hcl hR hBe hadr hblk
      go_wp2
      go_ret
      exact F.out

set_option maxHeartbeats 400000 in
theorem cloneI_any (sa : Option Addr) (sb so n c : Nat) (f : Nat → Int) (B : Nat) (w : World) (h : IsV w B sa sb so n c (fun i => .int .i64 (f i))) (hB : B ≤ w.heap.size) (hn : n ≤ 2000000) :
    Calls Try.prog 13 #[.slice sa n c] w fun e w' => Cloned w n (fun i => .int .i64 (f i)) e w' := by
  cases sa with
  | none =>
    obtain ⟨rfl, rfl⟩ := h.nil rfl
    have hnil := fun w => Lib.run_eql_slice_nil (P := Try.prog) w 26 3 none 0 0 0 0 Try.underlying26
    clear h
    go_enter Try.func13, Try.ntmps13
    go_wp2
    go_ret
    exact cloned_nil w _
  | some a =>
  have hnil := fun w => Lib.run_eql_slice_nil (P := Try.prog) w 26 3 (some a) n c 0 0 Try.underlying26
  have hmk := run_make_row' (P := Try.prog) 26 3 (.int .i64 0) 8 Try.underlying26 Try.inf3 rfl .i64 .i64 n (by omega) (by omega)
  have hadr := h.adr
  have hblk := h.blk
  have hcl := h.cell
  have hR0 : (w.alloc (.cells (madeCells #[.int .i64 0] n) 3)).rowIs w.heap.size 3 n (fun i => if i < 0 then .int .i64 (f i) else .int .i64 0) := (World.rowIs_made w (.int .i64 0) n 3).congr (fun j _ => by simp)
  have hB0 : Below w.heap.size w (w.alloc (.cells (madeCells #[.int .i64 0] n) 3)) := (Below.refl _ _).alloc (Nat.le_refl _) _
  clear h
  go_enter Try.func13, Try.ntmps13
  go_wp2
  clear hmk hnil
  go_loopg [4] n (fun g i wr => ∃ k : Nat, k ≤ n ∧ g = n - k ∧ i = .int .i64 k ∧ wr.rowIs w.heap.size 3 n (fun i => if i < k then .int .i64 (f i) else .int .i64 0) ∧ Below w.heap.size w wr ∧ wr.heap.size = w.heap.size + 1)
  case atStart => exact ⟨0, Nat.zero_le _, rfl, rfl, hR0, hB0, by simp⟩
  case round =>
    obtain ⟨k, hk, rfl, rfl, hR, hBe, hsz⟩ := hrel
    clear hR0 hB0
    by_cases hlt : k < n
    · have hlz : (k : Int) < (n : Int) := by omega
      obtain rfl : a = ⟨sb, so, none⟩ := by have := hadr (by omega); simpa using this
      have g0 : wr.cell? ⟨sb, so + k, none⟩ = some (.int .i64 (f k)) := by rw [hBe.cell (p := ⟨sb, so + k, none⟩) (by have := hblk (by omega); show sb < _; omega)]; exact hcl k hlt
      have g1 : wr.cell? ⟨w.heap.size, k, none⟩ = some (.int .i64 0) := by have := World.rowIs.cell hR hlt; simpa using this
      have g2 := World.rowIs.frozen hR k
      have S := clone_step (F := fun i => .int .i64 (f i)) hR hBe
      have HS := hide S
      clear hcl hR hBe hadr hblk S
      go_wp2
      go_roundg (n - (k + 1))
      case measure => go_light; omega
      case rel => go_light; exact ⟨k + 1, by omega, rfl, by simp, HS.out.1, HS.out.2, by simpa using hsz⟩
    · have hlz : ¬ ((k : Int) < (n : Int)) := by omega
      have F : Hid (Cloned w n (fun i => .int .i64 (f i)) (.returned (.slice (some ⟨w.heap.size, 0, none⟩) n n)) wr) := by
        obtain rfl : k = n := by omega
        have hR' : wr.rowIs w.heap.size 3 k (fun i => .int .i64 (f i)) := hR.congr (fun j hj => by rw [if_pos hj])
        exact ⟨_, _, rfl, hBe, (isV_row hR' (by omega)).mono (by omega)⟩
      clear hcl hR hBe hadr hblk
      go_wp2
      go_ret
      exact F.out

set_option maxHeartbeats 400000 in
theorem cloneB_any (sa : Option Addr) (sb so n c : Nat) (f : Nat → Bool) (B : Nat) (w : World) (h : IsV w B sa sb so n c (fun i => .bool (f i))) (hB : B ≤ w.heap.size) (hn : n ≤ 2000000) :
    Calls Try.prog 14 #[.slice sa n c] w fun e w' => Cloned w n (fun i => .bool (f i)) e w' := by
  cases sa with
  | none =>
    obtain ⟨rfl, rfl⟩ := h.nil rfl
    have hnil := fun w => Lib.run_eql_slice_nil (P := Try.prog) w 27 4 none 0 0 0 0 Try.underlying27
    clear h
    go_enter Try.func14, Try.ntmps14
    go_wp2
    go_ret
    exact cloned_nil w _
  | some a =>
  have hnil := fun w => Lib.run_eql_slice_nil (P := Try.prog) w 27 4 (some a) n c 0 0 Try.underlying27
  have hmk := run_make_row' (P := Try.prog) 27 4 (.bool false) 1 Try.underlying27 Try.inf4 rfl .i64 .i64 n (by omega) (by omega)
  have hadr := h.adr
  have hblk := h.blk
  have hcl := h.cell
  have hR0 : (w.alloc (.cells (madeCells #[.bool false] n) 4)).rowIs w.heap.size 4 n (fun i => if i < 0 then .bool (f i) else .bool false) := (World.rowIs_made w (.bool false) n 4).congr (fun j _ => by simp)
  have hB0 : Below w.heap.size w (w.alloc (.cells (madeCells #[.bool false] n) 4)) := (Below.refl _ _).alloc (Nat.le_refl _) _
  clear h
  go_enter Try.func14, Try.ntmps14
  go_wp2
  clear hmk hnil
  go_loopg [4] n (fun g i wr => ∃ k : Nat, k ≤ n ∧ g = n - k ∧ i = .int .i64 k ∧ wr.rowIs w.heap.size 4 n (fun i => if i < k then .bool (f i) else .bool false) ∧ Below w.heap.size w wr ∧ wr.heap.size = w.heap.size + 1)
  case atStart => exact ⟨0, Nat.zero_le _, rfl, rfl, hR0, hB0, by simp⟩
  case round =>
    obtain ⟨k, hk, rfl, rfl, hR, hBe, hsz⟩ := hrel
    clear hR0 hB0
    by_cases hlt : k < n
    · have hlz : (k : Int) < (n : Int) := by omega
      obtain rfl : a = ⟨sb, so, none⟩ := by have := hadr (by omega); simpa using this
      have g0 : wr.cell? ⟨sb, so + k, none⟩ = some (.bool (f k)) := by rw [hBe.cell (p := ⟨sb, so + k, none⟩) (by have := hblk (by omega); show sb < _; omega)]; exact hcl k hlt
      have g1 : wr.cell? ⟨w.heap.size, k, none⟩ = some (.bool false) := by have := World.rowIs.cell hR hlt; simpa using this
      have g2 := World.rowIs.frozen hR k
      have S := clone_step (F := fun i => .bool (f i)) hR hBe
      have HS := hide S
      clear hcl hR hBe hadr hblk S
      go_wp2
      go_roundg (n - (k + 1))
      case measure => go_light; omega
      case rel => go_light; exact ⟨k + 1, by omega, rfl, by simp, HS.out.1, HS.out.2, by simpa using hsz⟩
    · have hlz : ¬ ((k : Int) < (n : Int)) := by omega
      have F : Hid (Cloned w n (fun i => .bool (f i)) (.returned (.slice (some ⟨w.heap.size, 0, none⟩) n n)) wr) := by
        obtain rfl : k = n := by omega
        have hR' : wr.rowIs w.heap.size 4 k (fun i => .bool (f i)) := hR.congr (fun j hj => by rw [if_pos hj])
        exact ⟨_, _, rfl, hBe, (isV_row hR' (by omega)).mono (by omega)⟩
      clear hcl hR hBe hadr hblk
      go_wp2
      go_ret
      exact F.out

end Go.Proofs.Qxb6603268a
