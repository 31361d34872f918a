/- slices.Grow[[]int32,int32] (function 24), at a slice of length 0. -/
import Derived.Test.Qxb6603240aMem
import Derived.Lib.Walk
import Derived.Lib.SliceRun
import Derived.Lib.AppendZerosOnto
namespace Go.Proofs.Qxb6603240a
open Go.RowKit Go.Lib
set_option linter.unusedVariables false

set_option maxHeartbeats 400000 in
theorem grow_room (base : Option Addr) (c n : Nat) (w : World) (hc63 : c ≤ 9223372036854775807) (hroom : n ≤ c) :
    Calls Try.prog 24 #[.slice base 0 c, .int .i64 n] w fun e w' => e = .returned (.slice base 0 c) ∧ w' = w := by
  go_enter Try.func24, Try.ntmps24
  go_wp2
  go_ret
  exact ⟨rfl, rfl⟩

theorem zeros_get (n i : Nat) (h : i < n) : (Builtin.zeroCells #[Value.int .i32 0] n)[i]? = some (.int .i32 0) := by
  simp [Builtin.zeroCells, h, Nat.mod_one]

theorem zeros_size (n : Nat) : (Builtin.zeroCells #[Value.int .i32 0] n).size = n := by simp [Builtin.zeroCells]

theorem grown_row (w : World) (c n G : Nat) (f : Nat → Int) (hn : c ≤ n) (hG : n ≤ G) :
    row32 (w.alloc (.cells (((List.range c).map fun i => Value.int .i32 (f i)).toArray ++ Builtin.zeroCells #[.int .i32 0] (n - c) ++ Builtin.zeroCells #[.int .i32 0] (G - n)) 21)) w.heap.size G (fun i => if i < c then f i else 0) := by
  have hs : (((List.range c).map fun i => Value.int .i32 (f i)).toArray ++ Builtin.zeroCells #[.int .i32 0] (n - c) ++ Builtin.zeroCells #[.int .i32 0] (G - n)).size = G := by
    simp only [Array.size_append, zeros_size, List.size_toArray, List.length_map, List.length_range]; omega
  have h := World.rowIs_alloc w (((List.range c).map fun i => Value.int .i32 (f i)).toArray ++ Builtin.zeroCells #[.int .i32 0] (n - c) ++ Builtin.zeroCells #[.int .i32 0] (G - n)) 21 (fun i => .int .i32 (if i < c then f i else 0)) (fun i hi => by
    rw [hs] at hi
    have s1 : ((List.range c).map fun i => Value.int .i32 (f i)).toArray.size = c := by simp
    rw [Array.getElem?_append, Array.size_append, s1, zeros_size]
    by_cases h1 : i < c + (n - c)
    · rw [if_pos h1, Array.getElem?_append, s1]
      by_cases h2 : i < c
      · rw [if_pos h2, if_pos h2]; simp [h2]
      · rw [if_neg h2, if_neg h2]; exact zeros_get _ _ (by omega)
    · rw [if_neg h1, if_neg (by omega)]; exact zeros_get _ _ (by omega))
  rw [hs] at h
  exact h

theorem append_fact (base : Option Addr) (c n : Nat) (f : Nat → Int) (w : World) (hroom : c < n) (hbig : n ≤ 2000000) (hnil : base = none → c = 0)
    (hcs : ∀ a, base = some a → ∀ j, j < c → w.cell? (a.add j) = some (.int .i32 (f j))) (ty : TypeId) :
    (Builtin.append_ #[23, 3] ty #[.slice base c c, .int .i64 ((n : Int) - (c : Int))]).run Try.prog w =
      .ok (.slice (some ⟨w.heap.size, 0, none⟩) n (grownCap w n c 21)) (w.drew.alloc (.cells (((List.range c).map fun i => Value.int .i32 (f i)).toArray ++ Builtin.zeroCells #[.int .i32 0] (n - c) ++ Builtin.zeroCells #[.int .i32 0] (grownCap w n c 21 - n)) 21)) := by
  obtain ⟨i0, hi0, hz0, hs0, hb0⟩ := info_parts Try.info21
  have hold : (Builtin.firstCells i0.size c (.slice base c c)).run Try.prog w.drew = .ok ((List.range c).map fun i => Value.int .i32 (f i)).toArray w.drew := by
    cases base with
    | none =>
      have h0 := hnil rfl
      subst h0
      exact run_firstCells_none w.drew i0.size 0 0 0
    | some a =>
      refine run_firstCells_some w.drew i0.size c a c c _ (by simp [hs0]) (fun j v hj => ?_)
      have hjc : j < c := by
        have := (List.getElem?_eq_some_iff.1 hj).1
        simpa using this
      rw [List.getElem?_map, List.getElem?_range hjc] at hj
      simp at hj
      subst hj
      exact hcs a rfl j hjc
  have h := Lib.run_append_grow_zeros w 23 3 ty 21 i0 (.int .i32 0) .i64 .i64 Try.underlying23 Try.underlying3 hi0 hz0 base c c _ hold (n - c) (by omega) (by omega) (by omega) (by omega)
      (by rw [hb0]; omega)
      (by rw [show c + (n - c) = n by omega]; exact growslice_fits hroom (by rw [hb0]; omega))
  rw [show c + (n - c) = n by omega] at h
  rw [show (n : Int) - (c : Int) = ((n - c : Nat) : Int) by omega]
  exact h

/-- A new row with room for n. -/
def Grew (w : World) (n : Nat) (e : Ending) (w' : World) : Prop :=
  ∃ (G : Nat) (g : Nat → Int), n ≤ G ∧ G ≤ 9223372036854775807 ∧ e = .returned (.slice (some ⟨w.heap.size, 0, none⟩) 0 G) ∧ row32 w' w.heap.size G g ∧ Below w.heap.size w w' ∧ w'.heap.size = w.heap.size + 1

set_option maxHeartbeats 400000 in
theorem grow_new (base : Option Addr) (c n : Nat) (f : Nat → Int) (w : World) (hroom : c < n) (hbig : n ≤ 2000000) (hnil : base = none → c = 0)
    (hcs : ∀ a, base = some a → ∀ j, j < c → w.cell? (a.add j) = some (.int .i32 (f j))) :
    Calls Try.prog 24 #[.slice base 0 c, .int .i64 n] w fun e w' => Grew w n e w' := by
  have hrz := append_fact base c n f w hroom hbig hnil hcs
  have hGn : n ≤ grownCap w n c 21 := grownCap_ge w _ _ _
  have hG63 : grownCap w n c 21 ≤ 9223372036854775807 := by
    have := grownCap_le_maxLen w n c 21 (by unfold maxLen; omega)
    unfold maxLen at this
    omega
  have hR := grown_row w.drew c n (grownCap w n c 21) f (by omega) hGn
  have hBe : Below w.heap.size w (w.drew.alloc (.cells (((List.range c).map fun i => Value.int .i32 (f i)).toArray ++ Builtin.zeroCells #[.int .i32 0] (n - c) ++ Builtin.zeroCells #[.int .i32 0] (grownCap w n c 21 - n)) 21)) :=
    ((Below.refl _ w).drew).alloc (Nat.le_refl _) _
  have hS : (w.drew.alloc (.cells (((List.range c).map fun i => Value.int .i32 (f i)).toArray ++ Builtin.zeroCells #[.int .i32 0] (n - c) ++ Builtin.zeroCells #[.int .i32 0] (grownCap w n c 21 - n)) 21)).heap.size = w.heap.size + 1 := by simp
  have fin : ∃ (G : Nat) (g : Nat → Int) (w1 : World), G = grownCap w n c 21 ∧ n ≤ G ∧ G ≤ 9223372036854775807 ∧ row32 w1 w.heap.size G g ∧ Below w.heap.size w w1 ∧ w1.heap.size = w.heap.size + 1 ∧
      w1 = w.drew.alloc (.cells (((List.range c).map fun i => Value.int .i32 (f i)).toArray ++ Builtin.zeroCells #[.int .i32 0] (n - c) ++ Builtin.zeroCells #[.int .i32 0] (grownCap w n c 21 - n)) 21) :=
    ⟨_, _, _, rfl, hGn, hG63, hR, hBe, hS, rfl⟩
  obtain ⟨G, g, w1, hGe, h1, h2, h3, h4, h5, hw1⟩ := fin
  rw [← hw1, ← hGe] at hrz
  clear hR hBe hS hGn hG63 hw1 hGe hcs
  have HP : Hid (row32 w1 w.heap.size G g ∧ Below w.heap.size w w1 ∧ w1.heap.size = w.heap.size + 1) := ⟨h3, h4, h5⟩
  clear h3 h4 h5
  cases base with
  | none =>
    have h0 := hnil rfl
    subst h0
    go_enter Try.func24, Try.ntmps24
    go_wp2_with (at_builtin; refine Lib.wpList_append_run _ rfl _ _ _ _ rfl _ _ rfl rfl _ _ (hrz _) ?_)
    all_goals (go_ret; exact ⟨G, g, h1, h2, rfl, HP.out⟩)
  | some a =>
    obtain ⟨ab, ao, asp⟩ := a
    go_enter Try.func24, Try.ntmps24
    go_wp2_with (at_builtin; refine Lib.wpList_append_run _ rfl _ _ _ _ rfl _ _ rfl rfl _ _ (hrz _) ?_)
    all_goals (go_ret; exact ⟨G, g, h1, h2, rfl, HP.out⟩)

end Go.Proofs.Qxb6603240a
