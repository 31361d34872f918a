/- What the arguments read as, opened: slices of bytes, of ints, of bools. -/
import Derived.Test.Qxb6603268aRows
import Derived.Test.Qxb6603268aSlices
import Derived.ProofKit
import Derived.OpenShut
import Derived.Deep.Matrix
import Derived.Deep.Grids
import Derived.Deep.Frames
namespace Go.Proofs.Qxb6603268a
open Go.ChangeShapes Go.WideShapes Go.ChangeAt Go.RowKit Go.Deep
set_option linter.unusedVariables false

theorem Try.laidOut : laidOutB Try.prog = true := by kernel_rfl
theorem Try.cells25 : Try.prog.cellsOf 25 = 1 := by kernel_rfl
theorem Try.cells5 : Try.prog.cellsOf 5 = 1 := by kernel_rfl
theorem Try.cells3 : Try.prog.cellsOf 3 = 1 := by kernel_rfl
theorem Try.cells4 : Try.prog.cellsOf 4 = 1 := by kernel_rfl

/-- A row whose cells are known at 'a.add i'. -/
theorem isV_of {W : World} {a : Addr} {n c : Nat} {F : Nat → Value} (hl : n ≤ c) (hm : c ≤ maxLen) (hcell : ∀ i, i < c → W.cell? (a.add i) = some (F i)) :
    IsV W W.heap.size (some a) a.block a.off n c F := by
  obtain ⟨ab, ao, asp⟩ := a
  have hspot : 0 < n → asp = none := fun hp => by simpa [Addr.add] using World.cell?_spot (hcell 0 (by omega))
  unfold maxLen at hm
  refine ⟨(fun e => by cases e), fun hp => by rw [hspot hp], hl, hm, fun i hi => ?_, fun hp => ?_⟩
  · have h := hcell i (by omega)
    rw [hspot (by omega), add_plain] at h
    exact h
  · have h := hcell 0 (by omega)
    rw [hspot hp, add_plain] at h
    exact World.block_lt_of_cell? W ⟨ab, ao + 0, none⟩ h

section
variable {H : Type} {enc : TypeId × Value → H} {W : World} {base : Nat} {v : Value} {d : DataW H} {p : List MemPlace}

theorem open_ys (hv : Value.okWide Try.prog W .any base 25 v) (h : DataW.Trod enc Try.prog W 0 (fun _ => true) true 25 v d p) :
    ∃ (sa : Option Addr) (sb so n c : Nat) (f : Nat → Int), v = .slice sa n c ∧ IsV W W.heap.size sa sb so n c (fun i => .int .u8 (f i)) := by
  obtain ⟨a0, len, cap, rfl⟩ := okWide_slice Try.underlying25 hv
  obtain ⟨fuel, hf⟩ := h
  rcases open_ints Try.underlying25 Try.underlying5 Try.cells5 hf with ⟨hcs, _⟩ | ⟨x, l, c, zs, hcs, _, hl, hm, hz, _, hcell, hwz⟩
  · simp [Value.cells] at hcs
    obtain ⟨rfl, rfl, rfl⟩ := hcs
    exact ⟨none, 0, 0, 0, 0, fun _ => 0, rfl, isV_nil _ _ _ _ _⟩
  · simp [Value.cells] at hcs
    obtain ⟨rfl, rfl, rfl⟩ := hcs
    have hz' : zs.length = cap := by simpa using hz
    exact ⟨some x, x.block, x.off, len, cap, fun i => zs.getD i 0, rfl, isV_of hl hm (fun i hi => hcell i (by omega))⟩

theorem open_is (hv : Value.okWide Try.prog W .any base 26 v) (h : DataW.Trod enc Try.prog W 0 (fun _ => true) true 26 v d p) :
    ∃ (sa : Option Addr) (sb so n c : Nat) (f : Nat → Int), v = .slice sa n c ∧ IsV W W.heap.size sa sb so n c (fun i => .int .i64 (f i)) := by
  obtain ⟨a0, len, cap, rfl⟩ := okWide_slice Try.underlying26 hv
  obtain ⟨fuel, hf⟩ := h
  rcases open_ints Try.underlying26 Try.underlying3 Try.cells3 hf with ⟨hcs, _⟩ | ⟨x, l, c, zs, hcs, _, hl, hm, hz, _, hcell, hwz⟩
  · simp [Value.cells] at hcs
    obtain ⟨rfl, rfl, rfl⟩ := hcs
    exact ⟨none, 0, 0, 0, 0, fun _ => 0, rfl, isV_nil _ _ _ _ _⟩
  · simp [Value.cells] at hcs
    obtain ⟨rfl, rfl, rfl⟩ := hcs
    have hz' : zs.length = cap := by simpa using hz
    exact ⟨some x, x.block, x.off, len, cap, fun i => zs.getD i 0, rfl, isV_of hl hm (fun i hi => hcell i (by omega))⟩

theorem open_bs (hv : Value.okWide Try.prog W .any base 27 v) (h : DataW.Trod enc Try.prog W 0 (fun _ => true) true 27 v d p) :
    ∃ (sa : Option Addr) (sb so n c : Nat) (f : Nat → Bool), v = .slice sa n c ∧ IsV W W.heap.size sa sb so n c (fun i => .bool (f i)) := by
  obtain ⟨a0, len, cap, rfl⟩ := okWide_slice Try.underlying27 hv
  obtain ⟨fuel, hf⟩ := h
  rcases open_bools Try.underlying27 Try.underlying4 Try.cells4 hf with ⟨hcs, _⟩ | ⟨a, l, c, B, hcs, _, hl, hm, _, hcell⟩
  · simp [Value.cells] at hcs
    obtain ⟨rfl, rfl, rfl⟩ := hcs
    exact ⟨none, 0, 0, 0, 0, fun _ => false, rfl, isV_nil _ _ _ _ _⟩
  · simp [Value.cells] at hcs
    obtain ⟨rfl, rfl, rfl⟩ := hcs
    exact ⟨some a, a.block, a.off, len, cap, B, rfl, isV_of hl hm (fun i hi => hcell i (by omega))⟩

end
end Go.Proofs.Qxb6603268a
