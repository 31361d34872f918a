/- A cutter in memory: its own block, the row of its data, the row of its repeats. -/
import Derived.Test.Qxb6603268aRepeat
import Derived.Test.Qxb6603268aPlain
import Derived.Deep.AppendLies
namespace Go.Proofs.Qxb6603268a
open Go.RowKit Cu
set_option linter.unusedVariables false

def dcells (l : List Int) : List Value := l.map (Value.int .u8)
def xcell (x : Int × Int × Bool) : List Value := [.int .i64 x.1, .int .i64 x.2.1, .bool x.2.2]
def xcells (l : List (Int × Int × Bool)) : List Value := l.flatMap xcell

theorem dcells_append (a b : List Int) : dcells (a ++ b) = dcells a ++ dcells b := by simp [dcells]
theorem xcells_append (a b : List (Int × Int × Bool)) : xcells (a ++ b) = xcells a ++ xcells b := by simp [xcells]
theorem dcells_length (l : List Int) : (dcells l).length = l.length := by simp [dcells]

/-- The blocks that a cutter stands in. -/
def foot (cb : Nat) (dv ev : Value) : List Nat := cb :: (dv.ownBlock.toList ++ ev.ownBlock.toList)

/-- Of the blocks that were there all are as they were, but for those listed. -/
structure Kept (w w' : World) (l : List Nat) : Prop where
  os : w'.os = w.os
  tape : w'.tape = w.tape
  output : w'.output = w.output
  size : w.heap.size ≤ w'.heap.size
  block : ∀ k, k < w.heap.size → k ∉ l → w'.heap[k]? = w.heap[k]?

theorem Kept.refl (w : World) (l : List Nat) : Kept w w l := ⟨rfl, rfl, rfl, Nat.le_refl _, fun _ _ _ => rfl⟩
theorem Kept.of_below {w w' : World} (h : Below w.heap.size w w') (l : List Nat) : Kept w w' l := ⟨h.os, h.tape, h.output, h.size, fun i hi _ => h.block i hi⟩
theorem Kept.setCell {w w' : World} {l : List Nat} (h : Kept w w' l) {p : Addr} (hp : p.block ∈ l) (v : Value) : Kept w (w'.setCell p v) l :=
  ⟨h.os, h.tape, h.output, by simpa using h.size, fun i hi hn => by rw [Below.heap_setCell _ _ _ _ (fun e => hn (by rw [e]; exact hp))]; exact h.block i hi hn⟩
theorem Kept.drewN {w w' : World} {l : List Nat} (h : Kept w w' l) (n : Nat) : Kept w (w'.drewN n) l := ⟨h.os, h.tape, h.output, h.size, h.block⟩
theorem Kept.below {w w' : World} {l : List Nat} {B : Nat} (h : Kept w w' l) (hB : B ≤ w.heap.size) (hl : ∀ x, x ∈ l → B ≤ x) : Below B w w' :=
  ⟨h.os, h.tape, h.output, h.size, fun i hi => h.block i (by omega) (fun hm => by have := hl i hm; omega)⟩
/-- One step after another: what the second may turn is what the first might, or new. -/
theorem Kept.trans {a b c : World} {l l' : List Nat} (h : Kept a b l) (k : Kept b c l') (hl : ∀ x, x ∈ l' → x ∈ l ∨ a.heap.size ≤ x) : Kept a c l :=
  ⟨k.os.trans h.os, k.tape.trans h.tape, k.output.trans h.output, Nat.le_trans h.size k.size, fun i hi hn => (k.block i (Nat.lt_of_lt_of_le hi h.size) (fun hm => by rcases hl i hm with h1 | h1; exact hn h1; omega)).trans (h.block i hi hn)⟩
theorem Kept.grown {w wx w2 : World} {l : List Nat} {row : Option Nat} (h : Kept w wx l) (hg : wx.grownBy w2 row) (hr : ∀ k, row = some k → k ∈ l ∨ w.heap.size ≤ k) : Kept w w2 l :=
  ⟨hg.os.trans h.os, hg.tape.trans h.tape, hg.output.trans h.output, Nat.le_trans h.size hg.size, fun i hi hn => (hg.block i (Nat.lt_of_lt_of_le hi h.size) (fun e => by rcases hr i e.symm with h1 | h1; exact hn h1; omega)).trans (h.block i hi hn)⟩

theorem ownsRow_block {w w' : World} {B : Nat} {e : TypeId} {sz : Nat} {v : Value} {n : Nat} {xs : List Value} (h : w.ownsRow B e sz v n xs) (hb : ∀ k, v.ownBlock = some k → w'.heap[k]? = w.heap[k]?) : w'.ownsRow B e sz v n xs := by
  obtain ⟨h1, h2⟩ := h
  refine ⟨h1, ?_⟩
  rcases h2 with h2 | ⟨g, cap, cur, hv, hg, hh, r⟩
  · exact Or.inl h2
  · exact Or.inr ⟨g, cap, cur, hv, hg, by rw [hb g (by rw [hv]; rfl)]; exact hh, r⟩

/-- The type of the row that a value owns. -/
theorem ownsRow_type {w : World} {B : Nat} {e : TypeId} {sz : Nat} {v : Value} {n : Nat} {xs : List Value} (h : w.ownsRow B e sz v n xs) {k : Nat} (hk : v.ownBlock = some k) : ∃ cur, w.heap[k]? = some (.cells cur e (0, 0)) := by
  rcases h.2 with ⟨hv, _⟩ | ⟨g, cap, cur, hv, hg, hh, r⟩
  · rw [hv] at hk; cases hk
  · rw [hv] at hk
    have : g = k := by simpa [Value.ownBlock] using hk
    subst this
    exact ⟨cur, hh⟩

/-- The cutter's fields as they lie. -/
structure CutAt (w : World) (B cb : Nat) (dv ev : Value) (s : St) : Prop where
  blk : ∃ F : Nat → Value, w.rowIs cb 56 26 F ∧ F 0 = dv ∧ F 2 = ev ∧ F 5 = .int .i64 s.runAt ∧ F 6 = .int .i64 s.runRep ∧ F 7 = .bool s.runPad
  data : w.ownsRow B 5 1 dv s.data.length (dcells s.data)
  extra : w.ownsRow B 69 3 ev s.extra.length (xcells s.extra)
  cbB : B ≤ cb

section
variable {w w' wx w2 : World} {B cb : Nat} {dv ev : Value} {s : St}

theorem CutAt.lt (h : CutAt w B cb dv ev s) : cb < w.heap.size := by obtain ⟨F, h1, _⟩ := h.blk; exact h1.lt
theorem CutAt.dne (h : CutAt w B cb dv ev s) : dv.ownBlock ≠ some cb := fun e => by
  obtain ⟨cur, h1⟩ := ownsRow_type h.data e
  obtain ⟨F, ⟨c, h2, _⟩, _⟩ := h.blk
  rw [h1] at h2; simp at h2
theorem CutAt.ene (h : CutAt w B cb dv ev s) : ev.ownBlock ≠ some cb := fun e => by
  obtain ⟨cur, h1⟩ := ownsRow_type h.extra e
  obtain ⟨F, ⟨c, h2, _⟩, _⟩ := h.blk
  rw [h1] at h2; simp at h2
theorem CutAt.dee (h : CutAt w B cb dv ev s) {k : Nat} (hd : dv.ownBlock = some k) : ev.ownBlock ≠ some k := fun e => by
  obtain ⟨cur, h1⟩ := ownsRow_type h.data hd
  obtain ⟨cur', h2⟩ := ownsRow_type h.extra e
  rw [h1] at h2; simp at h2
theorem CutAt.c0 (h : CutAt w B cb dv ev s) : w.cell? ⟨cb, 0, none⟩ = some dv := by obtain ⟨F, h1, h2, _⟩ := h.blk; rw [h1.cell (by omega), h2]
theorem CutAt.c2 (h : CutAt w B cb dv ev s) : w.cell? ⟨cb, 2, none⟩ = some ev := by obtain ⟨F, h1, _, h2, _⟩ := h.blk; rw [h1.cell (by omega), h2]
theorem CutAt.c5 (h : CutAt w B cb dv ev s) : w.cell? ⟨cb, 5, none⟩ = some (.int .i64 s.runAt) := by obtain ⟨F, h1, _, _, h2, _⟩ := h.blk; rw [h1.cell (by omega), h2]
theorem CutAt.c6 (h : CutAt w B cb dv ev s) : w.cell? ⟨cb, 6, none⟩ = some (.int .i64 s.runRep) := by obtain ⟨F, h1, _, _, _, h2, _⟩ := h.blk; rw [h1.cell (by omega), h2]
theorem CutAt.c7 (h : CutAt w B cb dv ev s) : w.cell? ⟨cb, 7, none⟩ = some (.bool s.runPad) := by obtain ⟨F, h1, _, _, _, _, h2⟩ := h.blk; rw [h1.cell (by omega), h2]
theorem CutAt.fz (h : CutAt w B cb dv ev s) (i : Nat) : w.frozen? ⟨cb, i, none⟩ = false := by obtain ⟨F, h1, _⟩ := h.blk; exact h1.frozen i

/-- Nothing of the cutter's has turned. -/
theorem CutAt.same (h : CutAt w B cb dv ev s) (hb : ∀ k, k ∈ foot cb dv ev → w'.heap[k]? = w.heap[k]?) : CutAt w' B cb dv ev s := by
  obtain ⟨F, h1, h2⟩ := h.blk
  exact ⟨⟨F, h1.of_block (hb cb (by simp [foot])), h2⟩, ownsRow_block h.data (fun k hk => hb k (by simp [foot, hk])), ownsRow_block h.extra (fun k hk => hb k (by simp [foot, hk])), h.cbB⟩

theorem CutAt.footlt (h : CutAt w B cb dv ev s) : ∀ k, k ∈ foot cb dv ev → B ≤ k ∧ k < w.heap.size := fun k hk => by
  simp only [foot, List.mem_cons, List.mem_append, Option.mem_toList] at hk
  rcases hk with rfl | hk | hk
  · exact ⟨h.cbB, h.lt⟩
  · exact h.data.lt k hk
  · exact h.extra.lt k hk

theorem CutAt.kept {l : List Nat} (h : CutAt w B cb dv ev s) (hk : Kept w w' l) (hd : ∀ k, k ∈ foot cb dv ev → k ∉ l) : CutAt w' B cb dv ev s :=
  h.same (fun k hm => hk.block k (h.footlt k hm).2 (hd k hm))

/-- A field is stored: runAt, runRepeat, runPadding. -/
theorem CutAt.set5 (h : CutAt w B cb dv ev s) (x : Int) : CutAt (w.setCell ⟨cb, 5, none⟩ (.int .i64 x)) B cb dv ev { s with runAt := x } := by
  obtain ⟨F, h1, h2, h3, h5, h6, h7⟩ := h.blk
  exact ⟨⟨_, h1.set 5 _, by simpa using h2, by simpa using h3, by simp, by simpa using h6, by simpa using h7⟩, ownsRow_block h.data (fun k hk => Below.heap_setCell _ _ _ _ (fun e => h.dne (by rw [hk, e]))), ownsRow_block h.extra (fun k hk => Below.heap_setCell _ _ _ _ (fun e => h.ene (by rw [hk, e]))), h.cbB⟩
theorem CutAt.set6 (h : CutAt w B cb dv ev s) (x : Int) : CutAt (w.setCell ⟨cb, 6, none⟩ (.int .i64 x)) B cb dv ev { s with runRep := x } := by
  obtain ⟨F, h1, h2, h3, h5, h6, h7⟩ := h.blk
  exact ⟨⟨_, h1.set 6 _, by simpa using h2, by simpa using h3, by simpa using h5, by simp, by simpa using h7⟩, ownsRow_block h.data (fun k hk => Below.heap_setCell _ _ _ _ (fun e => h.dne (by rw [hk, e]))), ownsRow_block h.extra (fun k hk => Below.heap_setCell _ _ _ _ (fun e => h.ene (by rw [hk, e]))), h.cbB⟩
theorem CutAt.set7 (h : CutAt w B cb dv ev s) (x : Bool) : CutAt (w.setCell ⟨cb, 7, none⟩ (.bool x)) B cb dv ev { s with runPad := x } := by
  obtain ⟨F, h1, h2, h3, h5, h6, h7⟩ := h.blk
  exact ⟨⟨_, h1.set 7 _, by simpa using h2, by simpa using h3, by simpa using h5, by simpa using h6, by simp⟩, ownsRow_block h.data (fun k hk => Below.heap_setCell _ _ _ _ (fun e => h.dne (by rw [hk, e]))), ownsRow_block h.extra (fun k hk => Below.heap_setCell _ _ _ _ (fun e => h.ene (by rw [hk, e]))), h.cbB⟩

/-- What a step leaves of a cutter. -/
def Left (w : World) (B cb : Nat) (dv ev : Value) (s' : St) (w' : World) : Prop :=
  ∃ dv' ev', CutAt w' B cb dv' ev' s' ∧ Kept w w' (foot cb dv ev) ∧ ∀ k, k ∈ foot cb dv' ev' → k ∈ foot cb dv ev ∨ w.heap.size ≤ k

/-- 'c.data = append(c.data, ..)': behind a row that was made, the append and the store. -/
theorem cut_append (h : CutAt w B cb dv ev s) (hb : Below w.heap.size w wx) (hg : wx.grownBy w2 dv.ownBlock) {g N cap : Nat} {l : List Int} (hown : w2.ownsRow B 5 1 (.slice (some ⟨g, 0, none⟩) N cap) N (dcells s.data ++ dcells l)) (hN : N = s.data.length + l.length)
    (hat : dv.ownBlock = some g ∨ w.heap.size ≤ g) :
    Left w B cb dv ev { s with data := s.data ++ l } (w2.setCell ⟨cb, 0, none⟩ (.slice (some ⟨g, 0, none⟩) N cap)) := by
  obtain ⟨F, h1, h2, h3, h5, h6, h7⟩ := h.blk
  have hcl := h.lt
  have k2 : ∀ k, k < w.heap.size → dv.ownBlock ≠ some k → w2.heap[k]? = w.heap[k]? := fun k hk hn => (hg.block k (Nat.lt_of_lt_of_le hk hb.size) (fun e => hn e.symm)).trans (hb.block k hk)
  have hgc : g ≠ cb := fun e => by
    rcases hat with hat | hat
    · exact h.dne (by rw [hat, e])
    · omega
  refine ⟨.slice (some ⟨g, 0, none⟩) N cap, ev, ⟨⟨_, (h1.of_block (k2 cb hcl h.dne)).set 0 _, by simp, by simpa using h3, by simpa using h5, by simpa using h6, by simpa using h7⟩, ?_, ?_, h.cbB⟩, ?_, ?_⟩
  · have : w2.ownsRow B 5 1 (.slice (some ⟨g, 0, none⟩) N cap) (s.data ++ l).length (dcells (s.data ++ l)) := by rw [dcells_append, List.length_append, ← hN]; exact hown
    exact ownsRow_block this (fun k hk => Below.heap_setCell _ _ _ _ (fun e => hgc ((show g = k by simpa [Value.ownBlock] using hk).trans e)))
  · exact ownsRow_block h.extra (fun k hk => (Below.heap_setCell _ _ _ _ (fun e => h.ene (by rw [hk, e]))).trans (k2 k (h.extra.lt k hk).2 (fun e => h.dee e hk)))
  · refine ((Kept.of_below hb _).grown hg (fun k hk => .inl (by simp [foot, hk]))).setCell (by simp [foot]) _
  · intro k hk
    simp only [foot, List.mem_cons, List.mem_append, Option.mem_toList] at hk ⊢
    rcases hk with hk | hk | hk
    · exact .inl (.inl hk)
    · have : g = k := by simpa [Value.ownBlock] using hk
      subst this
      rcases hat with hat | hat
      · exact .inl (.inr (.inl hat))
      · exact .inr hat
    · exact .inl (.inr (.inr hk))

end
end Go.Proofs.Qxb6603268a
