/- What a slice of slices of bytes reads as, opened. -/
import Derived.Test.Qxb6603268aOpen
import Derived.Test.Qxb6603268aCloneList
namespace Go.Proofs.Qxb6603268a
open Go.ChangeShapes Go.WideShapes Go.ChangeAt Go.RowKit Go.Deep
set_option linter.unusedVariables false

section
variable {H : Type} {enc : TypeId × Value → H} {W : World} {base : Nat} {v : Value} {d : DataW H} {p : List MemPlace}

theorem open_ls (hv : Value.okWide Try.prog W .any base 42 v) (h : DataW.Trod enc Try.prog W 0 (fun _ => true) true 42 v d p) :
    ∃ (ga : Option Addr) (gb go n c : Nat) (A : Nat → Option Addr) (RB RO L C : Nat → Nat) (Z : Nat → Nat → Int), v = .slice ga n c ∧ IsL W W.heap.size ga gb go n c A RB RO L C Z := by
  obtain ⟨a0, len, cap, rfl⟩ := okWide_slice Try.underlying42 hv
  obtain ⟨fuel, hf⟩ := h
  rcases open_int_rows Try.underlying42 Try.underlying25 Try.underlying5 Try.cells25 Try.cells5 hf with ⟨hcs, _⟩ | ⟨a, len', cap', A, L, C, Z, hcs, _, hl, hm, hx, hrows⟩
  · simp [Value.cells] at hcs
    obtain ⟨rfl, rfl, rfl⟩ := hcs
    exact ⟨none, 0, 0, 0, 0, fun _ => none, fun _ => 0, fun _ => 0, fun _ => 0, fun _ => 0, fun _ _ => 0, rfl,
      ⟨fun _ => ⟨rfl, rfl⟩, fun h => absurd h (Nat.lt_irrefl _), Nat.le_refl _, by omega, fun i h => absurd h (Nat.not_lt_zero _), fun h => absurd h (Nat.lt_irrefl _), fun i h => absurd h (Nat.not_lt_zero _)⟩⟩
  · simp [Value.cells] at hcs
    obtain ⟨rfl, rfl, rfl⟩ := hcs
    obtain ⟨gb, go, gs⟩ := a
    have hspot : 0 < len → gs = none := fun hp => by simpa [Addr.add] using World.cell?_spot (hrows 0 (by omega)).1
    have hrow : ∀ i, i < len → W.cell? ⟨gb, go + i, none⟩ = some (.slice (A i) (L i) (C i)) := fun i hi => by
      have h := (hrows i (by omega)).1
      rw [hspot (by omega), add_plain] at h
      exact h
    unfold maxLen at hm
    refine ⟨some ⟨gb, go, gs⟩, gb, go, len, cap, A, fun i => ((A i).getD default).block, fun i => ((A i).getD default).off, L, C, fun i j => (Z i).getD j 0, rfl,
      ⟨(fun e => by cases e), fun hp => by rw [hspot hp], hl, hm, hrow, fun hp => World.block_lt_of_cell? _ _ (hrow 0 hp), fun i hi => ?_⟩⟩
    obtain ⟨_, h1, h2, h3, h4, h5, h6⟩ := hrows i (by omega)
    cases hA : A i with
    | none =>
      have hC := h5 hA
      have hL0 : L i = 0 := by omega
      rw [hC, hL0]
      exact isV_nil _ _ _ _ _
    | some a' => exact isV_of h1 h2 (fun j hj => (h6 a' hA).2 j (by omega))

end
end Go.Proofs.Qxb6603268a
