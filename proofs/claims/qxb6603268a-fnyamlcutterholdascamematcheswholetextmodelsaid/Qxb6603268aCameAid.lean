/- For the walk of holdAsCame: the text that came, plainly; an append out of whatever row. -/
import Derived.Test.Qxb6603268aSlices
namespace Go.Proofs.Qxb6603268a
open Go.RowKit Cu
set_option linter.unusedVariables false

/-- The first k bytes, none of them padding. -/
def tx (f : Nat → Int) (k : Nat) : List (Int × Bool) := (List.range k).map fun i => (f i, false)

theorem tx_length (f : Nat → Int) (k : Nat) : (tx f k).length = k := by simp [tx]
theorem tx_add (f : Nat → Int) (k m : Nat) : tx f (k + m) = tx f k ++ (List.range m).map fun i => (f (k + i), false) := by
  unfold tx
  rw [List.range_add, List.map_append, List.map_map]
  rfl

theorem text_space {s : St} {M : Nat} (h : Wf s M) {f : Nat → Int} {k m : Nat} {b : Int} (hf : ∀ i, i < m → f (k + i) = b) : text s (tx f (k + m)) = holdF (text s (tx f k)) b m false := by
  have e : ((List.range m).map fun i => (f (k + i), false)) = List.replicate m (b, false) := by
    apply List.ext_getElem (by simp)
    intro i h1 h2
    simp at h1
    simp [hf i h1]
  rw [tx_add, text_append, e, text_rep (wf_text h _)]

theorem text_word (s : St) {f : Nat → Int} {k m : Nat} (hf : ∀ i, i < m → ¬ (f (k + i) = 32 ∨ f (k + i) = 10)) : text s (tx f (k + m)) = { text s (tx f k) with data := (text s (tx f k)).data ++ (List.range m).map fun i => f (k + i) } := by
  have e : ((List.range m).map fun i => (f (k + i), false)) = ((List.range m).map fun i => f (k + i)).map fun b => (b, false) := by rw [List.map_map]; rfl
  rw [tx_add, text_append, e, text_plain _ _ (fun b hb => by
    simp only [List.mem_map, List.mem_range] at hb
    obtain ⟨i, hi, rfl⟩ := hb
    exact hf i hi)]

section
variable {w wx : World} {B cb : Nat} {dv ev : Value} {s : St}

/-- append of bytes that lie anywhere to what is held. -/
theorem data_append_at (h : CutAt w B cb dv ev s) (hb : Below w.heap.size w wx) (bb bo m c : Nat) (l : List Int) (hl : l.length = m) (hsrc : ∀ j x, l[j]? = some x → wx.cell? ⟨bb, bo + j, none⟩ = some (.int .u8 x)) (hm : 0 < m) (hN : s.data.length + m ≤ 4000000) :
    ∃ g cap w2, (Builtin.append_ #[25, 25] 25 #[dv, .slice (some ⟨bb, bo, none⟩) m c]).run Try.prog wx = .ok (.slice (some ⟨g, 0, none⟩) (s.data.length + m) cap) w2 ∧ w2.cell? ⟨cb, 0, none⟩ = some dv ∧ w2.frozen? ⟨cb, 0, none⟩ = false ∧
      Left w B cb dv ev { s with data := s.data ++ l } (w2.setCell ⟨cb, 0, none⟩ (.slice (some ⟨g, 0, none⟩) (s.data.length + m) cap)) := by
  obtain ⟨i, hi, hz, hs1, hby⟩ := inf5
  have hcl := h.lt
  obtain ⟨g, cap, w2, h1, h2, h3, h4, h5⟩ := run_append_lies (P := Try.prog) wx 25 25 B 5 i (.int .u8 0) 1 1 Try.underlying25 hi hz hs1 hby rfl (by omega) dv s.data.length (dcells s.data) (below_own h.data hb) ⟨bb, bo, none⟩ m c (dcells l) (by rw [dcells_length, hl]; omega)
    (fun j u hj => by
      have e : (⟨bb, bo, none⟩ : Addr).add j = ⟨bb, bo + j, none⟩ := by cases j <;> simp [Addr.add]
      rw [e]
      simp only [dcells, List.getElem?_map, Option.map_eq_some_iff] at hj
      obtain ⟨x, hx, rfl⟩ := hj
      exact hsrc j x hx) (fun u hu => by simp [dcells] at hu; obtain ⟨x, _, rfl⟩ := hu; rfl) hm (by unfold maxLen; omega) (by omega) (by have := h.cbB; have := hb.size; omega) wx.heap.size rfl
  have hne : some cb ≠ dv.ownBlock := fun e => h.dne e.symm
  have hcx : cb < wx.heap.size := Nat.lt_of_lt_of_le hcl hb.size
  refine ⟨g, cap, w2, h1, ?_, ?_, cut_append h hb h3 h2 (by rw [hl]) ?_⟩
  · rw [h3.cell_far ⟨cb, 0, none⟩ hcx hne, hb.cell (p := ⟨cb, 0, none⟩) hcl]; exact h.c0
  · rw [h3.frozen_far ⟨cb, 0, none⟩ hcx hne, hb.frozen (p := ⟨cb, 0, none⟩) hcl]; exact h.fz 0
  · rcases h4 with h4 | h4
    · exact .inl h4
    · exact .inr (by rw [h4]; exact hb.size)
end

/-- What a row below B holds is held still. -/
theorem Left.below {w w' : World} {B cb : Nat} {dv ev : Value} {s s' : St} (h : CutAt w B cb dv ev s) (k : Left w B cb dv ev s' w') : Below B w w' := by
  obtain ⟨d, e, _, h2, _⟩ := k
  exact h2.below (Nat.le_trans h.cbB (Nat.le_of_lt h.lt)) (fun x hx => (h.footlt x hx).1)

end Go.Proofs.Qxb6603268a
