/- FnSameIsEquivalence: the statement, proved. -/
import Derived.Test.Qxb6602803aRows
import Derived.Test.Qxb6602803aLaw
import Derived.ProofKit
import Derived.OpenShut
import Derived.SliceStrings
import Derived.Deep.Matrix
import Derived.Deep.Grids
import Derived.Deep.Frames
namespace Go.Proofs.Qxb6602803a
open Go.ChangeShapes Go.WideShapes Go.ChangeAt Go.RowKit Go.Deep
set_option linter.unusedVariables false

theorem Try.own : ownKnob Try.prog.godebug = none := by kernel_rfl
theorem Try.laidOut : laidOutB Try.prog = true := by kernel_rfl
theorem Try.cells9 : Try.prog.cellsOf 9 = 1 := by kernel_rfl

theorem isS_of {W : World} {a : Addr} {n c : Nat} {S : Nat → ByteArray} (hl : n ≤ c) (hm : c ≤ maxLen) (hcell : ∀ i, i < c → W.cell? (a.add i) = some (.string (S i))) :
    IsS W W.heap.size (some a) a.block a.off n c S := by
  obtain ⟨ab, ao, asp⟩ := a
  have hspot : 0 < n → asp = none := fun hp => by simpa [Addr.add] using World.cell?_spot (hcell 0 (by omega))
  unfold maxLen at hm
  refine ⟨(fun e => by cases e), fun hp => by rw [hspot hp], hl, hm, fun i hi => ?_, fun hp => ?_⟩
  · have h := hcell i (by omega)
    rw [hspot (by omega), add_plain] at h
    exact h
  · have h := hcell 0 (by omega)
    rw [hspot hp, add_plain] at h
    exact World.block_lt_of_cell? W ⟨ab, ao + 0, none⟩ h

theorem open_ss {H : Type} {enc : TypeId × Value → H} {W : World} {base : Nat} {v : Value} {d : DataW H} {p : List MemPlace} (hv : Value.okWide Try.prog W .any base 31 v) (h : DataW.Trod enc Try.prog W 0 (fun _ => true) true 31 v d p) :
    ∃ (sa : Option Addr) (sb so n c : Nat) (S : Nat → ByteArray), v = .slice sa n c ∧ IsS W W.heap.size sa sb so n c S := by
  obtain ⟨a0, len, cap, rfl⟩ := okWide_slice Try.underlying31 hv
  obtain ⟨fuel, hf⟩ := h
  rcases open_strings Try.underlying31 Try.underlying9 Try.cells9 hf with ⟨hcs, _⟩ | ⟨a, l, c, ss, hcs, _, hl, hm, hz, _, hcell, _⟩
  · simp [Value.cells] at hcs
    obtain ⟨rfl, rfl, rfl⟩ := hcs
    exact ⟨none, 0, 0, 0, 0, fun _ => ByteArray.empty, rfl, isS_nil _ _ _ _ _⟩
  · simp [Value.cells] at hcs
    obtain ⟨rfl, rfl, rfl⟩ := hcs
    have hz' : ss.length = cap := by simpa using hz
    exact ⟨some a, a.block, a.off, len, cap, fun i => ss.getD i ByteArray.empty, rfl, isS_of hl hm (fun i hi => hcell i (by omega))⟩

set_option maxRecDepth 100000 in
theorem same_lifted (os : Os) (started : os.Started) (H : Type) (enc : TypeId × Value → H) :
    ReturnsInHanded {} Try.checked os 7 .any (Rows.fnSameIsEquivalenceSpec.pre6 enc Try.prog Try.f7 Rows.fnSameIsEquivalenceRow.domain false) (Rows.fnSameIsEquivalenceSpec.post enc Try.prog Try.f7 false true false false) := by
  refine returnsInHanded_of_change (C := Try.checked) Try.own started (by kernel_rfl) Try.func7
    (ChangeSpec.witness6 (enc := enc) (C := Try.checked) false ⟨#[], #[.slice none 0 0, .slice none 0 0, .slice none 0 0], []⟩ 8 (by kernel_rfl) (by kernel_rfl) (by kernel_rfl) (by kernel_rfl)) ?_
  intro W base args ds gs before hval0 hW hcnd _
  have hval : ∀ (j : Nat) t v, Try.f7.params[j]? = some t → args[j]? = some v → Value.okWide Try.prog W .any base t v := hval0
  have hW' := hW
  obtain ⟨p, q, hA0, hV, rfl, hfz, hnd⟩ := hW
  have hA : DataW.TrodAll enc Try.prog W 0 (fun _ => true) true Try.f7.params.toList args.toList ds p := hA0
  rw [Try.params7] at hA hval
  obtain ⟨v0, vs0, d0, ds0, p0, q0, hargs, rfl, rfl, h0, r0⟩ := trodAll_cons hA
  obtain ⟨v1, vs1, d1, ds1, p1, q1, rfl, rfl, rfl, h1, r1⟩ := trodAll_cons r0
  obtain ⟨v2, vs2, d2, ds2, p2, q2, rfl, rfl, rfl, h2, r2⟩ := trodAll_cons r1
  obtain ⟨rfl, rfl, rfl⟩ := trodAll_nil r2
  obtain rfl : args = #[v0, v1, v2] := by cases args; simp_all
  obtain ⟨rfl, rfl⟩ := trodVars_none hV
  obtain ⟨a1, b1, o1, n1, c1, S1, rfl, k1⟩ := open_ss (hval 0 31 v0 rfl rfl) h0
  obtain ⟨a2, b2, o2, n2, c2, S2, rfl, k2⟩ := open_ss (hval 1 31 v1 rfl rfl) h1
  obtain ⟨a3, b3, o3, n3, c3, S3, rfl, k3⟩ := open_ss (hval 2 31 v2 rfl rfl) h2
  have lt0 : ∀ x ∈ p0, x.block < W.heap.size := by obtain ⟨m, hm⟩ := h0; exact DataW.trod_lt m _ _ _ hm
  have lt1 : ∀ x ∈ p1, x.block < W.heap.size := by obtain ⟨m, hm⟩ := h1; exact DataW.trod_lt m _ _ _ hm
  have lt2 : ∀ x ∈ p2, x.block < W.heap.size := by obtain ⟨m, hm⟩ := h2; exact DataW.trod_lt m _ _ _ hm
  clear hA0 hval0
  refine (law_any n1 c1 b1 o1 n2 c2 b2 o2 n3 c3 b3 o3 a1 a2 a3 S1 S2 S3 W k1 k2 k3).mono fun e W' ⟨he, bel⟩ => ?_
  subst he
  exact ⟨_, rfl, _, _, _, [], _, [], hW', trodAll_mk1 (shut_bool Try.underlying4 _),
    (trodAll_cons_mk (Below.trod Try.laidOut (by kernel_rfl) (of_decide_eq_true (by kernel_rfl)) h0 bel lt0)
      (trodAll_cons_mk (Below.trod Try.laidOut (by kernel_rfl) (of_decide_eq_true (by kernel_rfl)) h1 bel lt1)
        (trodAll_cons_mk (Below.trod Try.laidOut (by kernel_rfl) (of_decide_eq_true (by kernel_rfl)) h2 bel lt2) trodAll_mk0))), rfl, bel.frame _, fun h => by cases h⟩

theorem same_proved : Rows.FnSameIsEquivalenceSaid :=
  OpenClaim.holds_of_wide 7 Try.f7 rfl rfl rfl rfl rfl rfl rfl ⟨rfl, rfl, rfl, rfl, rfl⟩ rfl rfl rfl rfl rfl (by kernel_rfl) Try.func7 (by kernel_rfl)
    (of_decide_eq_true (by kernel_rfl)) (by unfold Func.isWrapper; rw [if_neg (of_decide_eq_false (by kernel_rfl))]; exact ⟨rfl, rfl⟩)
    (fun os started H enc _ => same_lifted os started H enc)

end Go.Proofs.Qxb6602803a
