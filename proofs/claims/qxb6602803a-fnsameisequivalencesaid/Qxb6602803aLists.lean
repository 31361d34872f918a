/- sqlsinkB1ListBytes (17), sqlsinkB1Clone (19), zzBytes (16). -/
import Derived.Test.Qxb6602803aStr
namespace Go.Proofs.Qxb6602803a
open Go.RowKit
set_option linter.unusedVariables false

def Num (w : World) (n : Nat) (S : Nat → ByteArray) (e : Ending) (w' : World) : Prop := (∃ z : Nat, e = .returned (.int .i64 z) ∧ z ≤ 1048577 ∧ (z ≤ 1048576 → ∀ i, i < n → (S i).size ≤ 1048576)) ∧ w' = w

set_option maxHeartbeats 1000000 in
theorem listBytes_any (B n c sb so : Nat) (sa : Option Addr) (S : Nat → ByteArray) (w : World) (h1 : IsS w B sa sb so n c S) (hn : n ≤ 65536) :
    Calls Try.prog 17 #[.slice sa n c] w fun e w' => Num w n S e w' := by
  have H1 := hide h1
  have l1 := h1.le
  have m1 := h1.max
  clear h1
  go_enter Try.func17, Try.ntmps17
  go_wp2_with fail
  go_loopg [3, 4] n (fun gk t v wr => ∃ (k T : Nat), k ≤ n ∧ gk = n - k ∧ v = .int .i64 k ∧ t = .int .i64 T ∧ T ≤ 1048576 ∧ wr = w ∧ ∀ i, i < k → (S i).size ≤ 1048576)
  case atStart =>
    go_light
    exact ⟨0, 0, Nat.zero_le _, rfl, rfl, rfl, by omega, rfl, fun i h => absurd h (Nat.not_lt_zero _)⟩
  case round =>
    obtain ⟨k, T, hk, rfl, rfl, rfl, hT, hww, hall⟩ := hrel
    rw [hww]
    have HA := hide hall
    clear hww hall
    by_cases hlt : k < n
    · have hlz : (k : Int) < (n : Int) := by omega
      obtain rfl := H1.out.adr (by omega)
      obtain ⟨x, hx⟩ : ∃ x, x = S k := ⟨_, rfl⟩
      have g1 : w.cell? ⟨sb, so + k, none⟩ = some (.string x) := by rw [hx]; exact H1.out.cell k hlt
      have HX := hide hx
      clear hx
      obtain ⟨z, hz⟩ : ∃ z, z = x.size := ⟨_, rfl⟩
      by_cases hz1 : 1048576 < z
      · have hzz : (1048576 : Int) < (x.size : Int) := by omega
        go_wp2_with fail
        go_ret
        exact ⟨⟨1048577, rfl, by omega, fun h => by omega⟩, rfl⟩
      · have hzz : ¬ (1048576 : Int) < (x.size : Int) := by omega
        have v1 : IntKind.i64.wrap (16 + (x.size : Int)) = 16 + (x.size : Int) := by rw [IntKind.wrap_i64]; omega
        have v2 : IntKind.i64.wrap ((T : Int) + (16 + (x.size : Int))) = (T : Int) + (16 + (x.size : Int)) := by rw [IntKind.wrap_i64]; omega
        by_cases hz2 : 1048576 < T + (16 + z)
        · have hzt : (1048576 : Int) < (T : Int) + (16 + (x.size : Int)) := by omega
          go_wp2_with fail
          go_ret
          exact ⟨⟨1048577, rfl, by omega, fun h => by omega⟩, rfl⟩
        · have hzt : ¬ (1048576 : Int) < (T : Int) + (16 + (x.size : Int)) := by omega
          go_wp2_with fail
          go_roundg (n - (k + 1))
          case measure => go_light; omega
          case rel => go_light; exact ⟨k + 1, T + (16 + x.size), by omega, rfl, by simp, by simp, by omega, rfl, fun i hi => by
            by_cases e : i = k
            · subst e; rw [← HX.out]; omega
            · exact HA.out i (by omega)⟩
    · have hlz : ¬ ((k : Int) < (n : Int)) := by omega
      go_wp2_with fail
      go_ret
      exact ⟨⟨T, rfl, by omega, fun _ i hi => HA.out i (by omega)⟩, rfl⟩

def ClonedS (w : World) (sa : Option Addr) (n : Nat) (S : Nat → ByteArray) (e : Ending) (w' : World) : Prop :=
  (sa = none ∧ e = .returned (.slice none 0 0) ∧ w' = w) ∨ (sa.isSome = true ∧ e = .returned (.slice (some ⟨w.heap.size, 0, none⟩) n n) ∧ w'.rowIs w.heap.size 9 n (fun i => .string (S i)) ∧ Below w.heap.size w w' ∧ w'.heap.size = w.heap.size + 1)

theorem clone_step {w wr : World} {n : Nat} {t : TypeId} {F : Nat → Value} {z : Value} {k : Nat} (h : wr.rowIs w.heap.size t n (fun i => if i < k then F i else z)) (hb : Below w.heap.size w wr) :
    (wr.setCell ⟨w.heap.size, k, none⟩ (F k)).rowIs w.heap.size t n (fun i => if i < k + 1 then F i else z) ∧ Below w.heap.size w (wr.setCell ⟨w.heap.size, k, none⟩ (F k)) := by
  refine ⟨(World.rowIs.set h k (F k)).congr (fun j _ => ?_), hb.setCell (Nat.le_refl _) _⟩
  by_cases e : j = k
  · subst e; simp
  · rw [if_neg e]
    by_cases hlt : j < k
    · rw [if_pos hlt, if_pos (by omega)]
    · rw [if_neg hlt, if_neg (by omega)]

theorem Try.inf9 : (Try.prog.info? 9).map (fun i => (i.zero, i.size, i.bytes)) = some (some (.string ByteArray.empty), 1, 16) := by kernel_rfl

set_option maxHeartbeats 400000 in
theorem clone_any (sa : Option Addr) (sb so n c : Nat) (S : Nat → ByteArray) (B : Nat) (w : World) (h : IsS w B sa sb so n c S) (hB : B ≤ w.heap.size) (hn : n ≤ 2000000) :
    Calls Try.prog 19 #[.slice sa n c] w fun e w' => ClonedS w sa n S e w' := by
  cases sa with
  | none =>
    obtain ⟨rfl, rfl⟩ := h.nil rfl
    have hnil := fun w => Lib.run_eql_slice_nil (P := Try.prog) w 31 9 none 0 0 0 0 Try.underlying31
    clear h
    go_enter Try.func19, Try.ntmps19
    go_wp2
    go_ret
    exact .inl ⟨rfl, rfl, rfl⟩
  | some a =>
  have hnil := fun w => Lib.run_eql_slice_nil (P := Try.prog) w 31 9 (some a) n c 0 0 Try.underlying31
  have hmk := run_make_row' (P := Try.prog) 31 9 (.string ByteArray.empty) 16 Try.underlying31 Try.inf9 rfl .i64 .i64 n (by omega) (by omega)
  have hadr := h.adr
  have hblk := h.blk
  have hcl := h.cell
  have hR0 : (w.alloc (.cells (madeCells #[.string ByteArray.empty] n) 9)).rowIs w.heap.size 9 n (fun i => if i < 0 then .string (S i) else .string ByteArray.empty) := (World.rowIs_made w (.string ByteArray.empty) n 9).congr (fun j _ => by simp)
  have hB0 : Below w.heap.size w (w.alloc (.cells (madeCells #[.string ByteArray.empty] n) 9)) := (Below.refl _ _).alloc (Nat.le_refl _) _
  clear h
  go_enter Try.func19, Try.ntmps19
  go_wp2
  clear hmk hnil
  go_loopg [4] n (fun g i wr => ∃ k : Nat, k ≤ n ∧ g = n - k ∧ i = .int .i64 k ∧ wr.rowIs w.heap.size 9 n (fun i => if i < k then .string (S i) else .string ByteArray.empty) ∧ Below w.heap.size w wr ∧ wr.heap.size = w.heap.size + 1)
  case atStart => exact ⟨0, Nat.zero_le _, rfl, rfl, hR0, hB0, by simp⟩
  case round =>
    obtain ⟨k, hk, rfl, rfl, hR, hBe, hsz⟩ := hrel
    clear hR0 hB0
    by_cases hlt : k < n
    · have hlz : (k : Int) < (n : Int) := by omega
      obtain rfl : a = ⟨sb, so, none⟩ := by have := hadr (by omega); simpa using this
      have g0 : wr.cell? ⟨sb, so + k, none⟩ = some (.string (S k)) := by rw [hBe.cell (p := ⟨sb, so + k, none⟩) (by have := hblk (by omega); show sb < _; omega)]; exact hcl k hlt
      have g1 : wr.cell? ⟨w.heap.size, k, none⟩ = some (.string ByteArray.empty) := by have := World.rowIs.cell hR hlt; simpa using this
      have g2 := World.rowIs.frozen hR k
      have S := clone_step (F := fun i => .string (S i)) hR hBe
      have HS := hide S
      clear hcl hR hBe hadr hblk S
      go_wp2
      go_roundg (n - (k + 1))
      case measure => go_light; omega
      case rel => go_light; exact ⟨k + 1, by omega, rfl, by simp, HS.out.1, HS.out.2, by simpa using hsz⟩
    · have hlz : ¬ ((k : Int) < (n : Int)) := by omega
      have F : Hid (ClonedS w (some a) n S (.returned (.slice (some ⟨w.heap.size, 0, none⟩) n n)) wr) := by
        obtain rfl : k = n := by omega
        exact .inr ⟨rfl, rfl, hR.congr (fun j hj => by rw [if_pos hj]), hBe, hsz⟩
      clear hcl hR hBe hadr hblk
      go_wp2
      go_ret
      exact F.out

end Go.Proofs.Qxb6602803a
