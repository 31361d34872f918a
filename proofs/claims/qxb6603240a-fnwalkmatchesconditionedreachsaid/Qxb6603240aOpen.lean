/- What the arguments read as, opened: a slice of int32, a slice of bools, a slice of slices of int32. -/
import Derived.Test.Qxb6603240aRows
import Derived.Test.Qxb6603240aMem
import Derived.ProofKit
import Derived.OpenShut
import Derived.Deep.Matrix
import Derived.Deep.Grids
import Derived.Deep.Frames
namespace Go.Proofs.Qxb6603240a
open Go.ChangeShapes Go.WideShapes Go.ChangeAt Go.RowKit Go.Deep
set_option linter.unusedVariables false

theorem Try.own : ownKnob Try.prog.godebug = none := by kernel_rfl
theorem Try.laidOut : laidOutB Try.prog = true := by kernel_rfl
theorem Try.cells23 : Try.prog.cellsOf 23 = 1 := by kernel_rfl
theorem Try.cells21 : Try.prog.cellsOf 21 = 1 := by kernel_rfl
theorem Try.cells4 : Try.prog.cellsOf 4 = 1 := by kernel_rfl

theorem wf32 {z : Int} (h : (Lit.int .i32 z).wf = true) : -2147483648 ≤ z ∧ z ≤ 2147483647 := bounds_i32 h

/-- A row whose cells are known at 'a.add i'. -/
theorem isI32_of {W : World} {a : Addr} {n c : Nat} {zs : List Int} (hl : n ≤ c) (hm : c ≤ maxLen) (hz : zs.length = c) (hcell : ∀ i, i < c → W.cell? (a.add i) = some (.int .i32 (zs.getD i 0))) :
    IsI32 W W.heap.size (some a) a.block a.off n c (fun i => zs.getD i 0) := by
  obtain ⟨ab, ao, asp⟩ := a
  have hspot : 0 < n → asp = none := fun hp => by simpa [Addr.add] using World.cell?_spot (hcell 0 (by omega))
  unfold maxLen at hm
  refine ⟨(fun e => by cases e), fun hp => by rw [hspot hp], hl, hm, fun i hi => ?_, fun hp => ?_⟩
  · have h := hcell i (by omega)
    rw [hspot (by omega), add_plain] at h
    exact h
  · have h := hcell 0 (by omega)
    rw [hspot hp, add_plain] at h
    exact World.block_lt_of_cell? W ⟨ab, ao + 0, none⟩ h

theorem isI32_nil (W : World) (B b o : Nat) (f : Nat → Int) : IsI32 W B none b o 0 0 f :=
  ⟨fun _ => ⟨rfl, rfl⟩, fun h => absurd h (Nat.lt_irrefl _), Nat.le_refl _, by omega, fun i h => absurd h (Nat.not_lt_zero _), fun h => absurd h (Nat.lt_irrefl _)⟩

section
variable {H : Type} {enc : TypeId × Value → H} {W : World} {base : Nat} {v : Value} {d : DataW H} {p : List MemPlace}

theorem open_i32s (hv : Value.okWide Try.prog W .any base 23 v) (h : DataW.Trod enc Try.prog W 0 (fun _ => true) true 23 v d p) :
    ∃ (sa : Option Addr) (sb so n c : Nat) (f : Nat → Int), v = .slice sa n c ∧ IsI32 W W.heap.size sa sb so n c f ∧ ∀ i, i < n → -2147483648 ≤ f i ∧ f i ≤ 2147483647 := by
  obtain ⟨a0, len, cap, rfl⟩ := okWide_slice Try.underlying23 hv
  obtain ⟨fuel, hf⟩ := h
  rcases open_ints Try.underlying23 Try.underlying21 Try.cells21 hf with ⟨hcs, _⟩ | ⟨x, l, c, zs, hcs, _, hl, hm, hz, _, hcell, hwz⟩
  · simp [Value.cells] at hcs
    obtain ⟨rfl, rfl, rfl⟩ := hcs
    exact ⟨none, 0, 0, 0, 0, fun _ => 0, rfl, isI32_nil _ _ _ _ _, fun i h => absurd h (Nat.not_lt_zero _)⟩
  · simp [Value.cells] at hcs
    obtain ⟨rfl, rfl, rfl⟩ := hcs
    have hz' : zs.length = cap := by simpa using hz
    refine ⟨some x, x.block, x.off, len, cap, fun i => zs.getD i 0, rfl, isI32_of hl hm hz' (fun i hi => hcell i (by omega)), fun i hi => ?_⟩
    have hi' : i < zs.length := by omega
    have : zs.getD i 0 ∈ zs := by rw [List.getD_eq_getElem?_getD, List.getElem?_eq_getElem hi']; exact List.getElem_mem hi'
    exact wf32 (hwz _ this)

theorem open_links (hv : Value.okWide Try.prog W .any base 22 v) (h : DataW.Trod enc Try.prog W 0 (fun _ => true) true 22 v d p) :
    ∃ (ga : Option Addr) (gb go n c : Nat) (A : Nat → Option Addr) (RB RO L C : Nat → Nat) (Z : Nat → Nat → Int), v = .slice ga n c ∧ IsLinks W W.heap.size ga gb go n c A RB RO L C Z ∧ ∀ i, i < n → ∀ j, j < L i → -2147483648 ≤ Z i j ∧ Z i j ≤ 2147483647 := by
  obtain ⟨a0, len, cap, rfl⟩ := okWide_slice Try.underlying22 hv
  obtain ⟨fuel, hf⟩ := h
  rcases open_int_rows Try.underlying22 Try.underlying23 Try.underlying21 Try.cells23 Try.cells21 hf with ⟨hcs, _⟩ | ⟨a, len', cap', A, L, C, Z, hcs, _, hl, hm, hx, hrows⟩
  · simp [Value.cells] at hcs
    obtain ⟨rfl, rfl, rfl⟩ := hcs
    exact ⟨none, 0, 0, 0, 0, fun _ => none, fun _ => 0, fun _ => 0, fun _ => 0, fun _ => 0, fun _ _ => 0, rfl,
      ⟨fun _ => ⟨rfl, rfl⟩, fun h => absurd h (Nat.lt_irrefl _), Nat.le_refl _, by omega, fun i h => absurd h (Nat.not_lt_zero _), fun h => absurd h (Nat.lt_irrefl _), fun i h => absurd h (Nat.not_lt_zero _)⟩, fun i h => absurd h (Nat.not_lt_zero _)⟩
  · simp [Value.cells] at hcs
    obtain ⟨rfl, rfl, rfl⟩ := hcs
    obtain ⟨gb, go, gs⟩ := a
    have hspot : 0 < len → gs = none := fun hp => by simpa [Addr.add] using World.cell?_spot (hrows 0 (by omega)).1
    have hrow : ∀ i, i < len → W.cell? ⟨gb, go + i, none⟩ = some (.slice (A i) (L i) (C i)) := fun i hi => by
      have h := (hrows i (by omega)).1
      rw [hspot (by omega), add_plain] at h
      exact h
    unfold maxLen at hm
    refine ⟨some ⟨gb, go, gs⟩, gb, go, len, cap, A, fun i => ((A i).getD default).block, fun i => ((A i).getD default).off, L, C, fun i j => (Z i).getD j 0, rfl,
      ⟨(fun e => by cases e), fun hp => by rw [hspot hp], hl, hm, hrow, fun hp => World.block_lt_of_cell? _ _ (hrow 0 hp), fun i hi => ?_⟩, fun i hi j hj => ?_⟩
    · obtain ⟨_, h1, h2, h3, h4, h5, h6⟩ := hrows i (by omega)
      cases hA : A i with
      | none =>
        have hC := h5 hA
        have hL0 : L i = 0 := by omega
        rw [hC, hL0]
        exact isI32_nil _ _ _ _ _
      | some a' => exact isI32_of h1 h2 h3 (h6 a' hA).2
    · obtain ⟨_, h1, h2, h3, h4, h5, h6⟩ := hrows i (by omega)
      have hj' : j < (Z i).length := by omega
      have : (Z i).getD j 0 ∈ Z i := by rw [List.getD_eq_getElem?_getD, List.getElem?_eq_getElem hj']; exact List.getElem_mem hj'
      exact wf32 (h4 _ this)

end
end Go.Proofs.Qxb6603240a
