/- A copy by make and copy; a plain law of sameness. -/
import Derived.Test.Qxb6602803aBytes
namespace Go.Proofs.Qxb6602803a
open Go.RowKit
set_option linter.unusedVariables false


/-- 'copy(zzc, a)' into the row made for it. -/
theorem copy_all {w : World} {a : Addr} {sb so n c : Nat} {S : Nat → ByteArray} {B : Nat} (h : IsS w B (some a) sb so n c S) (hB : B ≤ w.heap.size) (hn : n ≤ 2000000) :
    ∃ w2, (Builtin.copy_ #[31, 31] 3 #[.slice (some ⟨w.heap.size, 0, none⟩) n n, .slice (some a) n c]).run Try.prog (w.alloc (.cells (madeCells #[.string ByteArray.empty] n) 9)) = .ok (.int .i64 (n : Int)) w2 ∧
      IsS w2 w2.heap.size (some ⟨w.heap.size, 0, none⟩) w.heap.size 0 n n S ∧ Below w.heap.size w w2 := by
  have hb : Below w.heap.size w (w.alloc (.cells (madeCells #[.string ByteArray.empty] n) 9)) := (Below.refl _ w).alloc (Nat.le_refl _) _
  have hrow := Deep.blk_alloc_new w (.cells (madeCells #[.string ByteArray.empty] n) 9)
  have hsz : (madeCells #[Value.string ByteArray.empty] n).size = n := by
    obtain ⟨cc, h1, h2, h3⟩ := World.rowIs_made w (.string ByteArray.empty) n 9
    rw [hrow] at h1
    simp at h1
    rw [h1]; exact h2
  have hcl : ((List.range n).map fun i => Value.string (S i)).length = n := by simp
  have hrun := run_copy_row (P := Try.prog) (w.alloc (.cells (madeCells #[.string ByteArray.empty] n) 9)) 31 31 3 9 w.heap.size 0 n n a n c (madeCells #[.string ByteArray.empty] n) 9 ((List.range n).map fun i => Value.string (S i)) Try.underlying31 (by kernel_rfl) hrow (by rw [hcl]; exact (Nat.min_self n).symm)
    (fun j v hj => by
      have hjn : j < n := by
        rcases Nat.lt_or_ge j n with h | h
        · exact h
        · rw [List.getElem?_eq_none (by simpa using h)] at hj; cases hj
      rw [List.getElem?_map, List.getElem?_range hjn] at hj
      obtain rfl : Value.string (S j) = v := by simpa using hj
      obtain rfl : a = ⟨sb, so, none⟩ := by have := h.adr (by omega); simpa using this
      have e : (⟨sb, so, none⟩ : Addr).add j = ⟨sb, so + j, none⟩ := by cases j <;> simp [Addr.add]
      rw [e, hb.cell (p := ⟨sb, so + j, none⟩) (by have := h.blk (by omega); show sb < _; omega)]
      exact h.cell j hjn) (by rw [hcl, hsz]; omega) (fun v hv => by simp at hv; obtain ⟨x, _, rfl⟩ := hv; rfl)
  have e0 : (((madeCells #[Value.string ByteArray.empty] n).toList.take 0 ++ ((List.range n).map fun i => Value.string (S i)) ++ (madeCells #[Value.string ByteArray.empty] n).toList.drop (0 + ((List.range n).map fun i => Value.string (S i)).length)).toArray) = ((List.range n).map fun i => Value.string (S i)).toArray := by
    rw [hcl, List.drop_of_length_le (by simp [hsz]), List.take_zero, List.nil_append, List.append_nil]
  rw [e0] at hrun
  have hbel := below_setRow hb (Nat.le_refl w.heap.size) ((List.range n).map fun i => Value.string (S i)).toArray
  have hr := setRow_heap (w.alloc (.cells (madeCells #[.string ByteArray.empty] n) 9)) w.heap.size (madeCells #[.string ByteArray.empty] n) ((List.range n).map fun i => Value.string (S i)).toArray 9 (0, 0) hrow
  refine ⟨_, by rw [hrun]; simp [goInt], ⟨(fun e => by cases e), fun _ => rfl, Nat.le_refl _, by omega, fun i hi => ?_, fun _ => ?_⟩, hbel⟩
  · rw [Nat.zero_add, cell_of_row _ _ i _ _ _ hr]
    simp [hi]
  · rcases Nat.lt_or_ge w.heap.size ((w.alloc (.cells (madeCells #[.string ByteArray.empty] n) 9)).setRow w.heap.size ((List.range n).map fun i => Value.string (S i)).toArray).heap.size with h | h
    · exact h
    · rw [Array.getElem?_eq_none h] at hr; cases hr

/-- A copy, or nil. -/
def Copied (w : World) (n : Nat) (S : Nat → ByteArray) (v : Value) (w2 : World) : Prop :=
  ∃ ga gb, v = .slice ga n n ∧ IsS w2 w2.heap.size ga gb 0 n n S ∧ Below w.heap.size w w2

theorem sameB_refl (n : Nat) (S : Nat → ByteArray) : sameB n n S S = true := by simp [sameB]
theorem sameB_symm (n m : Nat) (S T : Nat → ByteArray) : sameB m n T S = sameB n m S T := by
  unfold sameB
  congr 1
  apply propext
  constructor
  · rintro ⟨rfl, h⟩; exact ⟨rfl, fun i hi => (h i hi).symm⟩
  · rintro ⟨rfl, h⟩; exact ⟨rfl, fun i hi => (h i hi).symm⟩
theorem sameB_trans {n m : Nat} {S T : Nat → ByteArray} (h : sameB n m S T = true) (l : Nat) (U : Nat → ByteArray) : sameB n l S U = sameB m l T U := by
  unfold sameB at h ⊢
  simp only [decide_eq_true_iff] at h
  obtain ⟨rfl, h⟩ := h
  congr 1
  apply propext
  constructor
  · rintro ⟨rfl, h2⟩; exact ⟨rfl, fun i hi => (h i hi).symm.trans (h2 i hi)⟩
  · rintro ⟨rfl, h2⟩; exact ⟨rfl, fun i hi => (h i hi).trans (h2 i hi)⟩
theorem sameB_len {n m : Nat} (h : n ≠ m) (S T : Nat → ByteArray) : sameB n m S T = false := by simp [sameB, h]
theorem sameB_at {n : Nat} (h : 0 < n) {S T : Nat → ByteArray} (h0 : (S 0).toList ≠ (T 0).toList) : sameB n n S T = false := by
  simp only [sameB, true_and, decide_eq_false_iff_not]
  exact fun hh => h0 (hh 0 h)
theorem add_ne (x y : ByteArray) (hy : 0 < y.size) : (x ++ y).toList ≠ x.toList := fun h => by
  have := congrArg List.length h
  rw [ByteArray.toList_eq, ByteArray.toList_eq] at this
  have h1 : (x ++ y).data.toList.length = (x ++ y).size := by rw [Array.length_toList]; rfl
  have h2 : x.data.toList.length = x.size := by rw [Array.length_toList]; rfl
  rw [h1, h2, ByteArray.size_append] at this
  omega

end Go.Proofs.Qxb6602803a
