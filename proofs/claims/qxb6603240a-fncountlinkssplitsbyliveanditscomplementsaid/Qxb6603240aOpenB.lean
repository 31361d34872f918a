/- A slice of bools that came in, opened. -/
import Derived.Test.Qxb6603240aOpen
import Derived.Test.Qxb6603240aBools
namespace Go.Proofs.Qxb6603240a
open Go.ChangeShapes Go.WideShapes Go.ChangeAt Go.RowKit Go.Deep
set_option linter.unusedVariables false

section
variable {H : Type} {enc : TypeId × Value → H} {W : World} {base : Nat} {v : Value} {d : DataW H} {p : List MemPlace}

theorem open_bs (hv : Value.okWide Try.prog W .any base 29 v) (h : DataW.Trod enc Try.prog W 0 (fun _ => true) true 29 v d p) :
    ∃ (sa : Option Addr) (sb so n c : Nat) (f : Nat → Bool), v = .slice sa n c ∧ IsB W W.heap.size sa sb so n c f := by
  obtain ⟨a0, len, cap, rfl⟩ := okWide_slice Try.underlying29 hv
  obtain ⟨fuel, hf⟩ := h
  rcases open_bools Try.underlying29 Try.underlying4 Try.cells4 hf with ⟨hcs, _⟩ | ⟨a, l, c, B, hcs, _, hl, hm, _, hcell⟩
  · simp [Value.cells] at hcs
    obtain ⟨rfl, rfl, rfl⟩ := hcs
    exact ⟨none, 0, 0, 0, 0, fun _ => false, rfl, fun _ => ⟨rfl, rfl⟩, fun h => absurd h (Nat.lt_irrefl _), Nat.le_refl _, by omega, fun i h => absurd h (Nat.not_lt_zero _), fun h => absurd h (Nat.lt_irrefl _)⟩
  · simp [Value.cells] at hcs
    obtain ⟨rfl, rfl, rfl⟩ := hcs
    obtain ⟨ab, ao, asp⟩ := a
    have hspot : 0 < len → asp = none := fun hp => by simpa [Addr.add] using World.cell?_spot (hcell 0 (by omega))
    unfold maxLen at hm
    refine ⟨some ⟨ab, ao, asp⟩, ab, ao, len, cap, B, rfl, (fun e => by cases e), fun hp => by rw [hspot hp], hl, hm, fun i hi => ?_, fun hp => ?_⟩
    · have h := hcell i (by omega)
      rw [hspot (by omega), add_plain] at h
      exact h
    · have h := hcell 0 (by omega)
      rw [hspot hp, add_plain] at h
      exact World.block_lt_of_cell? W ⟨ab, ao + 0, none⟩ h

end
end Go.Proofs.Qxb6603240a
