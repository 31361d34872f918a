/- A cutter in memory: what each store and each append leaves of it. -/
import Derived.Test.Qxb6603268aCutter
namespace Go.Proofs.Qxb6603268a
open Go.RowKit Cu
set_option linter.unusedVariables false

theorem ownsRow_take {w : World} {B : Nat} {e : TypeId} {sz g n cap k : Nat} {xs : List Value} (h : w.ownsRow B e sz (.slice (some ⟨g, 0, none⟩) n cap) n xs) (hk : k ≤ n) : w.ownsRow B e sz (.slice (some ⟨g, 0, none⟩) k cap) k (xs.take (k * sz)) := by
  have hm := Nat.mul_le_mul_right sz hk
  refine ⟨by rw [List.length_take, h.1]; omega, ?_⟩
  rcases h.2 with ⟨hv, _⟩ | ⟨g', cap', cur, hv, hg, hh, h1, h2, h3, h4⟩
  · simp at hv
  · obtain ⟨rfl, rfl⟩ : g = g' ∧ cap = cap' := by simpa using hv
    exact .inr ⟨g, cap, cur, rfl, hg, hh, by omega, h2, h3, by rw [← h4, List.take_take]; congr 1; omega⟩

theorem ownsRow_set {w : World} {B : Nat} {e : TypeId} {sz n g : Nat} {v : Value} {xs : List Value} (h : w.ownsRow B e sz v n xs) (hv : v.ownBlock = some g) (i : Nat) (u : Value) (hi : i < n * sz) : (w.setCell ⟨g, i, none⟩ u).ownsRow B e sz v n (xs.set i u) := by
  refine ⟨by rw [List.length_set]; exact h.1, ?_⟩
  rcases h.2 with ⟨hv', _⟩ | ⟨g', cap', cur, hv', hg, hh, h1, h2, h3, h4⟩
  · rw [hv'] at hv; cases hv
  · rw [hv'] at hv
    obtain rfl : g' = g := by simpa [Value.ownBlock] using hv
    exact .inr ⟨g', cap', _, hv', hg, heap_setCell_same w g' i cur e u hh, h1, h2, by simpa using h3, by rw [← h4]; simp [List.take_set]⟩

/-- A cell of the row. -/
theorem ownsRow_cell {w : World} {B : Nat} {e : TypeId} {sz n g : Nat} {v : Value} {xs : List Value} (h : w.ownsRow B e sz v n xs) (hv : v.ownBlock = some g) {i : Nat} {u : Value} (hi : xs[i]? = some u) : w.cell? ⟨g, i, none⟩ = some u ∧ w.frozen? ⟨g, i, none⟩ = false := by
  rcases h.2 with ⟨hv', _⟩ | ⟨g', cap', cur, hv', hg, hh, h1, h2, h3, h4⟩
  · rw [hv'] at hv; cases hv
  · rw [hv'] at hv
    obtain rfl : g' = g := by simpa [Value.ownBlock] using hv
    refine ⟨?_, frozen_of_row w g' i cur e hh⟩
    rw [cell_of_row w g' i cur e (0, 0) hh]
    rw [← h4, List.getElem?_take] at hi
    split at hi
    · simpa using hi
    · cases hi

theorem xcells_length (l : List (Int × Int × Bool)) : (xcells l).length = l.length * 3 := by
  induction l with
  | nil => rfl
  | cons x r ih =>
    have : xcells (x :: r) = xcell x ++ xcells r := by simp [xcells]
    rw [this, List.length_append, ih]
    simp [xcell]; omega

theorem xcells_get {l : List (Int × Int × Bool)} {i : Nat} {x : Int × Int × Bool} (h : l[i]? = some x) : (xcells l)[3 * i]? = some (.int .i64 x.1) ∧ (xcells l)[3 * i + 1]? = some (.int .i64 x.2.1) ∧ (xcells l)[3 * i + 2]? = some (.bool x.2.2) := by
  induction l generalizing i with
  | nil => simp at h
  | cons y r ih =>
    have e : xcells (y :: r) = .int .i64 y.1 :: .int .i64 y.2.1 :: .bool y.2.2 :: xcells r := by simp [xcells, xcell]
    cases i with
    | zero => simp at h; subst h; rw [e]; simp
    | succ i =>
      have := ih (i := i) (by simpa using h)
      rw [e, show 3 * (i + 1) = 3 * i + 1 + 1 + 1 by omega]
      simpa using this

theorem xcells_set1 (l : List (Int × Int × Bool)) (i : Nat) (f : Int → Int) (x : Int × Int × Bool) (h : l[i]? = some x) : (xcells l).set (3 * i + 1) (.int .i64 (f x.2.1)) = xcells (l.modify i (fun x => (x.1, f x.2.1, x.2.2))) := by
  induction l generalizing i with
  | nil => simp at h
  | cons y r ih =>
    have e : ∀ (y : Int × Int × Bool) r, xcells (y :: r) = .int .i64 y.1 :: .int .i64 y.2.1 :: .bool y.2.2 :: xcells r := fun y r => by simp [xcells, xcell]
    cases i with
    | zero => simp at h; subst h; rw [e]; simp [e]
    | succ i =>
      have := ih i (by simpa using h)
      rw [e, show 3 * (i + 1) + 1 = (3 * i + 1) + 1 + 1 + 1 by omega]
      simp only [List.set_cons_succ, List.modify_succ_cons, this, e]

theorem xcells_set2 (l : List (Int × Int × Bool)) (i : Nat) (p : Bool) (hi : i < l.length) : (xcells l).set (3 * i + 2) (.bool p) = xcells (l.modify i (fun x => (x.1, x.2.1, p))) := by
  induction l generalizing i with
  | nil => simp at hi
  | cons y r ih =>
    have e : ∀ (y : Int × Int × Bool) r, xcells (y :: r) = .int .i64 y.1 :: .int .i64 y.2.1 :: .bool y.2.2 :: xcells r := fun y r => by simp [xcells, xcell]
    cases i with
    | zero => rw [e]; simp [e]
    | succ i =>
      have := ih i (by simpa using hi)
      rw [e, show 3 * (i + 1) + 2 = (3 * i + 2) + 1 + 1 + 1 by omega]
      simp only [List.set_cons_succ, List.modify_succ_cons, this, e]

section
variable {w w' wx w2 : World} {B cb : Nat} {dv ev : Value} {s : St}

/-- What the data's cells hold. -/
theorem CutAt.dcell (h : CutAt w B cb dv ev s) {g : Nat} (hv : dv.ownBlock = some g) {i : Nat} {b : Int} (hi : s.data[i]? = some b) : w.cell? ⟨g, i, none⟩ = some (.int .u8 b) :=
  (ownsRow_cell h.data hv (by simp [dcells, hi])).1
theorem CutAt.xcell (h : CutAt w B cb dv ev s) {g : Nat} (hv : ev.ownBlock = some g) {i : Nat} {x : Int × Int × Bool} (hi : s.extra[i]? = some x) : w.cell? ⟨g, i * 3, none⟩ = some (.int .i64 x.1) ∧ w.cell? ⟨g, i * 3 + 1, none⟩ = some (.int .i64 x.2.1) ∧ w.cell? ⟨g, i * 3 + 2, none⟩ = some (.bool x.2.2) ∧ w.frozen? ⟨g, i * 3 + 1, none⟩ = false ∧ w.frozen? ⟨g, i * 3 + 2, none⟩ = false :=
  have := Nat.mul_comm 3 i ▸ xcells_get hi
  ⟨(ownsRow_cell h.extra hv this.1).1, (ownsRow_cell h.extra hv this.2.1).1, (ownsRow_cell h.extra hv this.2.2).1, (ownsRow_cell h.extra hv this.2.1).2, (ownsRow_cell h.extra hv this.2.2).2⟩

/-- What the data is: its value written out. -/
theorem CutAt.dform (h : CutAt w B cb dv ev s) (hn : 0 < s.data.length) : ∃ g cap, dv = .slice (some ⟨g, 0, none⟩) s.data.length cap ∧ s.data.length ≤ cap ∧ cap ≤ maxLen := by
  rcases h.data.2 with ⟨_, h0⟩ | ⟨g, cap, cur, hv, hg, hh, h1, h2, h3, h4⟩
  · omega
  · exact ⟨g, cap, hv, h1, h2⟩
theorem CutAt.xform (h : CutAt w B cb dv ev s) (hn : 0 < s.extra.length) : ∃ g cap, ev = .slice (some ⟨g, 0, none⟩) s.extra.length cap ∧ s.extra.length ≤ cap ∧ cap ≤ maxLen := by
  rcases h.extra.2 with ⟨_, h0⟩ | ⟨g, cap, cur, hv, hg, hh, h1, h2, h3, h4⟩
  · omega
  · exact ⟨g, cap, hv, h1, h2⟩
theorem CutAt.dslice (h : CutAt w B cb dv ev s) : ∃ a cap, dv = .slice a s.data.length cap := by
  rcases h.data.2 with ⟨hv, h0⟩ | ⟨g, cap, cur, hv, _⟩
  · exact ⟨none, 0, by rw [hv, h0]⟩
  · exact ⟨_, cap, hv⟩
theorem CutAt.xslice (h : CutAt w B cb dv ev s) : ∃ a cap, ev = .slice a s.extra.length cap := by
  rcases h.extra.2 with ⟨hv, h0⟩ | ⟨g, cap, cur, hv, _⟩
  · exact ⟨none, 0, by rw [hv, h0]⟩
  · exact ⟨_, cap, hv⟩

theorem CutAt.left (h : CutAt w B cb dv ev s) : Left w B cb dv ev s w := ⟨dv, ev, h, Kept.refl _ _, fun k hk => .inl hk⟩
theorem Left.trans {s1 s2 : St} {w1 w2 : World} (h : Left w B cb dv ev s1 w1) (k : ∀ dv1 ev1, CutAt w1 B cb dv1 ev1 s1 → Left w1 B cb dv1 ev1 s2 w2) : Left w B cb dv ev s2 w2 := by
  obtain ⟨dv1, ev1, hc, hk, hf⟩ := h
  obtain ⟨dv2, ev2, hc2, hk2, hf2⟩ := k dv1 ev1 hc
  refine ⟨dv2, ev2, hc2, hk.trans hk2 hf, fun x hx => ?_⟩
  rcases hf2 x hx with h1 | h1
  · exact hf x h1
  · exact .inr (Nat.le_trans hk.size h1)
theorem Left.drewN (h : Left w B cb dv ev s w') (n : Nat) : Left w B cb dv ev s (w'.drewN n) := by
  obtain ⟨d, e, h1, h2, h3⟩ := h
  exact ⟨d, e, h1.same (fun _ _ => rfl), h2.drewN n, h3⟩
theorem Left.drew (h : Left w B cb dv ev s w') : Left w B cb dv ev s w'.drew := by
  obtain ⟨d, e, h1, h2, h3⟩ := h
  exact ⟨d, e, h1.same (fun _ _ => rfl), ⟨h2.os, h2.tape, h2.output, h2.size, h2.block⟩, h3⟩

theorem left_set5 (h : CutAt w B cb dv ev s) (x : Int) : Left w B cb dv ev { s with runAt := x } (w.setCell ⟨cb, 5, none⟩ (.int .i64 x)) := ⟨dv, ev, h.set5 x, (Kept.refl _ _).setCell (by simp [foot]) _, fun k hk => .inl hk⟩
theorem left_set6 (h : CutAt w B cb dv ev s) (x : Int) : Left w B cb dv ev { s with runRep := x } (w.setCell ⟨cb, 6, none⟩ (.int .i64 x)) := ⟨dv, ev, h.set6 x, (Kept.refl _ _).setCell (by simp [foot]) _, fun k hk => .inl hk⟩
theorem left_set7 (h : CutAt w B cb dv ev s) (x : Bool) : Left w B cb dv ev { s with runPad := x } (w.setCell ⟨cb, 7, none⟩ (.bool x)) := ⟨dv, ev, h.set7 x, (Kept.refl _ _).setCell (by simp [foot]) _, fun k hk => .inl hk⟩

/-- c.data = c.data[:k]. -/
theorem left_take {g n cap : Nat} (h : CutAt w B cb dv ev s) (hv : dv = .slice (some ⟨g, 0, none⟩) n cap) (hn : n = s.data.length) {k : Nat} (hk : k ≤ s.data.length) :
    Left w B cb dv ev { s with data := s.data.take k } (w.setCell ⟨cb, 0, none⟩ (.slice (some ⟨g, 0, none⟩) k cap)) := by
  obtain ⟨F, h1, h2, h3, h5, h6, h7⟩ := h.blk
  subst hn
  have hown : w.ownsRow B 5 1 (.slice (some ⟨g, 0, none⟩) k cap) k ((dcells s.data).take (k * 1)) := ownsRow_take (by rw [← hv]; exact h.data) hk
  have hgc : g ≠ cb := fun e => h.dne (by rw [hv, ← e]; rfl)
  refine ⟨.slice (some ⟨g, 0, none⟩) k cap, ev, ⟨⟨_, h1.set 0 _, by simp, by simpa using h3, by simpa using h5, by simpa using h6, by simpa using h7⟩, ?_, ?_, h.cbB⟩, (Kept.refl _ _).setCell (by simp [foot]) _, ?_⟩
  · have : w.ownsRow B 5 1 (.slice (some ⟨g, 0, none⟩) k cap) (s.data.take k).length (dcells (s.data.take k)) := by
      rw [List.length_take, Nat.min_eq_left hk]
      have e : dcells (s.data.take k) = (dcells s.data).take (k * 1) := by simp [dcells, List.map_take]
      rw [e]; exact hown
    exact ownsRow_block this (fun k' hk' => Below.heap_setCell _ _ _ _ (fun e => hgc ((show g = k' by simpa [Value.ownBlock] using hk').trans e)))
  · exact ownsRow_block h.extra (fun k hk => Below.heap_setCell _ _ _ _ (fun e => h.ene (by rw [hk, e])))
  · intro x hx
    left
    simpa [foot, hv, Value.ownBlock] using hx

/-- 'c.extra = append(c.extra, ..)'. -/
theorem left_xappend (h : CutAt w B cb dv ev s) (hb : Below w.heap.size w wx) (hg : wx.grownBy w2 ev.ownBlock) {g N cap : Nat} {x : Int × Int × Bool} (hown : w2.ownsRow B 69 3 (.slice (some ⟨g, 0, none⟩) N cap) N (xcells s.extra ++ xcells [x])) (hN : N = s.extra.length + 1)
    (hat : ev.ownBlock = some g ∨ w.heap.size ≤ g) :
    Left w B cb dv ev { s with extra := s.extra ++ [x] } (w2.setCell ⟨cb, 2, none⟩ (.slice (some ⟨g, 0, none⟩) N cap)) := by
  obtain ⟨F, h1, h2, h3, h5, h6, h7⟩ := h.blk
  have hcl := h.lt
  have k2 : ∀ k, k < w.heap.size → ev.ownBlock ≠ some k → w2.heap[k]? = w.heap[k]? := fun k hk hn => (hg.block k (Nat.lt_of_lt_of_le hk hb.size) (fun e => hn e.symm)).trans (hb.block k hk)
  have hgc : g ≠ cb := fun e => by
    rcases hat with hat | hat
    · exact h.ene (by rw [hat, e])
    · omega
  refine ⟨dv, .slice (some ⟨g, 0, none⟩) N cap, ⟨⟨_, (h1.of_block (k2 cb hcl h.ene)).set 2 _, by simpa using h2, by simp, by simpa using h5, by simpa using h6, by simpa using h7⟩, ?_, ?_, h.cbB⟩, ?_, ?_⟩
  · exact ownsRow_block h.data (fun k hk => (Below.heap_setCell _ _ _ _ (fun e => h.dne (by rw [hk, e]))).trans (k2 k (h.data.lt k hk).2 (fun e => h.dee hk e)))
  · have : w2.ownsRow B 69 3 (.slice (some ⟨g, 0, none⟩) N cap) (s.extra ++ [x]).length (xcells (s.extra ++ [x])) := by rw [xcells_append, List.length_append, List.length_singleton, ← hN]; exact hown
    exact ownsRow_block this (fun k hk => Below.heap_setCell _ _ _ _ (fun e => hgc ((show g = k by simpa [Value.ownBlock] using hk).trans e)))
  · refine ((Kept.of_below hb _).grown hg (fun k hk => .inl (by simp [foot, hk]))).setCell (by simp [foot]) _
  · intro k hk
    simp only [foot, List.mem_cons, List.mem_append, Option.mem_toList] at hk ⊢
    rcases hk with hk | hk | hk
    · exact .inl (.inl hk)
    · exact .inl (.inr (.inl hk))
    · have : g = k := by simpa [Value.ownBlock] using hk
      subst this
      rcases hat with hat | hat
      · exact .inl (.inr (.inr hat))
      · exact .inr hat

theorem left_xset {g : Nat} (h : CutAt w B cb dv ev s) (hv : ev.ownBlock = some g) {i : Nat} {u : Value} {l : List (Int × Int × Bool)} (hi : i < s.extra.length * 3) (hl : (xcells s.extra).set i u = xcells l) (hll : l.length = s.extra.length) :
    Left w B cb dv ev { s with extra := l } (w.setCell ⟨g, i, none⟩ u) := by
  obtain ⟨F, h1, h2⟩ := h.blk
  have hgc : cb ≠ g := fun e => h.ene (by rw [hv, e])
  have hr := ownsRow_set h.extra hv i u hi
  refine ⟨dv, ev, ⟨⟨F, h1.of_block (Below.heap_setCell _ _ _ _ hgc), h2⟩, ?_, ?_, h.cbB⟩, (Kept.refl _ _).setCell (by simp [foot, hv]) _, fun k hk => .inl hk⟩
  · exact ownsRow_block h.data (fun k hk => Below.heap_setCell _ _ _ _ (fun e => h.dee hk (by rw [hv]; exact congrArg some e.symm)))
  · show World.ownsRow _ _ _ _ _ l.length (xcells l)
    rw [hll, ← hl]; exact hr

theorem left_count {g : Nat} (h : CutAt w B cb dv ev s) (hv : ev.ownBlock = some g) {i : Nat} {x : Int × Int × Bool} (hx : s.extra[i]? = some x) (n : Int) :
    Left w B cb dv ev { s with extra := s.extra.modify i (fun x => (x.1, x.2.1 + n, x.2.2)) } (w.setCell ⟨g, i * 3 + 1, none⟩ (.int .i64 (x.2.1 + n))) := by
  have hi : i < s.extra.length := by
    rcases Nat.lt_or_ge i s.extra.length with h | h
    · exact h
    · rw [List.getElem?_eq_none h] at hx; cases hx
  exact left_xset h hv (by omega) (by rw [Nat.mul_comm]; exact xcells_set1 _ i (· + n) x hx) (by simp)
theorem left_pad {g : Nat} (h : CutAt w B cb dv ev s) (hv : ev.ownBlock = some g) {i : Nat} (hi : i < s.extra.length) (p : Bool) :
    Left w B cb dv ev { s with extra := s.extra.modify i (fun x => (x.1, x.2.1, p)) } (w.setCell ⟨g, i * 3 + 2, none⟩ (.bool p)) :=
  left_xset h hv (by omega) (by rw [Nat.mul_comm]; exact xcells_set2 _ i p hi) (by simp)

end
end Go.Proofs.Qxb6603268a
