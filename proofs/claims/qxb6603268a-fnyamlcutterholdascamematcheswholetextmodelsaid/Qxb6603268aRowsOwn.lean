/- One element appended to a row of the call's own; what is kept beside it. -/
import Derived.Test.Qxb6603268aTwo
import Derived.Test.Qxb6603268aModelPlain
namespace Go.Proofs.Qxb6603268a
open Go.RowKit Cu
set_option linter.unusedVariables false

theorem Try.inf2 : (Try.prog.info? 2).map (fun i => (i.zero, i.size, i.bytes)) = some (some (.int .i64 0), 1, 8) := by kernel_rfl

/-- 'x = append(x, y)', one cell. -/
theorem own_append {w : World} {B : Nat} {T e : TypeId} {z : Value} {by8 : Nat} (hT : Try.prog.underlying T = some (.slice e)) (hI : (Try.prog.info? e).map (fun i => (i.zero, i.size, i.bytes)) = some (some z, 1, by8)) (hz1 : z.cells.size = 1) (hb8 : by8 ≤ 8)
    {v : Value} {n : Nat} {xs : List Value} (h : w.ownsRow B e 1 v n xs) (hB : B ≤ w.heap.size) (hn : n ≤ 4000000) (x : Value) (hx : x.oneCell' = true) :
    ∃ g cap w2, (Builtin.append_ #[T, T] T #[v, .slice (some ⟨w.heap.size, 0, none⟩) 1 1]).run Try.prog (w.alloc (.cells #[x] e)) = .ok (.slice (some ⟨g, 0, none⟩) (n + 1) cap) w2 ∧
      w2.ownsRow B e 1 (.slice (some ⟨g, 0, none⟩) (n + 1) cap) (n + 1) (xs ++ [x]) ∧ Kept w w2 v.ownBlock.toList ∧ (v.ownBlock = some g ∨ w.heap.size ≤ g) := by
  obtain ⟨i, hi, hz, hs1, hby⟩ : ∃ i, Try.prog.info? e = some i ∧ i.zero = some z ∧ i.size = 1 ∧ i.bytes = by8 := by
    cases hi : Try.prog.info? e with
    | none => rw [hi] at hI; cases hI
    | some i => rw [hi] at hI; simp at hI; exact ⟨i, rfl, hI.1, hI.2.1, hI.2.2⟩
  have hb : Below w.heap.size w (w.alloc (.cells #[x] e)) := (Below.refl _ w).alloc (Nat.le_refl _) _
  have hsize : (w.alloc (.cells #[x] e)).heap.size = w.heap.size + 1 := by simp
  have hmul : (n + 1) * by8 ≤ (n + 1) * 8 := Nat.mul_le_mul_left _ hb8
  obtain ⟨g, cap, w2, h1, h2, h3, h4, h5⟩ := run_append_lies (P := Try.prog) (w.alloc (.cells #[x] e)) T T B e i z 1 by8 hT hi hz hs1 hby hz1 (by omega) v n xs (below_own h hb) ⟨w.heap.size, 0, none⟩ 1 1 [x] rfl
    (fun j u hj => World.news_of_block (Deep.blk_alloc_new w (.cells #[x] e)) j u (by simpa using hj)) (fun u hu => by simp at hu; rw [hu]; exact hx) (by omega) (by unfold maxLen; omega) (by omega) (by rw [hsize]; omega) _ rfl
  refine ⟨g, cap, w2, h1, h2, (Kept.of_below hb _).grown h3 (fun k hk => .inl (by simp [hk])), ?_⟩
  rcases h4 with h4 | h4
  · exact .inl h4
  · exact .inr (by rw [h4, hsize]; omega)

theorem own_kept {w w2 : World} {B : Nat} {e : TypeId} {v : Value} {n : Nat} {xs : List Value} {l : List Nat} (h : w.ownsRow B e 1 v n xs) (k : Kept w w2 l) (hl : ∀ b, v.ownBlock = some b → b ∉ l) : w2.ownsRow B e 1 v n xs :=
  ownsRow_block h (fun b hb => k.block b (h.lt b hb).2 (hl b hb))

/-- Rows of different types stand apart. -/
theorem own_apart {w : World} {B : Nat} {e e' : TypeId} {v v' : Value} {n n' : Nat} {xs xs' : List Value} (h : w.ownsRow B e 1 v n xs) (h' : w.ownsRow B e' 1 v' n' xs') (hne : e ≠ e') (b : Nat) (hb : v.ownBlock = some b) : v'.ownBlock ≠ some b := fun hb' => by
  obtain ⟨cur, h1⟩ := ownsRow_type h hb
  obtain ⟨cur', h2⟩ := ownsRow_type h' hb'
  rw [h1] at h2
  simp at h2
  exact hne h2.2

theorem own_form {w : World} {B : Nat} {e : TypeId} {v : Value} {n : Nat} {xs : List Value} (h : w.ownsRow B e 1 v n xs) : ∃ a cap, v = .slice a n cap ∧ n ≤ cap ∧ cap ≤ maxLen := by
  rcases h.2 with ⟨hv, h0⟩ | ⟨g, cap, cur, hv, hg, hh, h1, h2, h3, h4⟩
  · exact ⟨none, 0, by rw [hv, h0], by omega, by unfold maxLen; omega⟩
  · exact ⟨_, cap, hv, h1, h2⟩

/-- A row that is read. -/
theorem own_isV {w : World} {B : Nat} {e : TypeId} {n : Nat} {a : Option Addr} {cap : Nat} {xs : List Value} {F : Nat → Value} (h : w.ownsRow B e 1 (.slice a n cap) n xs) (hF : ∀ i, i < n → xs[i]? = some (F i)) : ∃ b, IsV w w.heap.size a b 0 n cap F := by
  rcases h.2 with ⟨hv, h0⟩ | ⟨g, cap', cur, hv, hg, hh, h1, h2, h3, h4⟩
  · obtain ⟨rfl, rfl, rfl⟩ : a = none ∧ n = 0 ∧ cap = 0 := by simpa using hv
    exact ⟨0, isV_nil _ _ _ _ _⟩
  · obtain ⟨rfl, rfl⟩ : a = some ⟨g, 0, none⟩ ∧ cap = cap' := by simpa using hv
    unfold maxLen at h2
    refine ⟨g, (fun e => by cases e), fun _ => rfl, h1, h2, fun i hi => ?_, fun hp => (h.lt g rfl).2⟩
    rw [Nat.zero_add]
    exact (ownsRow_cell h rfl (hF i hi)).1

def bcells (l : List Bool) : List Value := l.map Value.bool
theorem bcells_append (a b : List Bool) : bcells (a ++ b) = bcells a ++ bcells b := by simp [bcells]

/-- A cutter, and the text that was handed over to it with its flags. -/
structure Kep (w : World) (B cb : Nat) (dv ev : Value) (s : St) (tv fv : Value) (tl : List Int) (fl : List Bool) : Prop where
  cut : CutAt w B cb dv ev s
  t : w.ownsRow B 5 1 tv tl.length (dcells tl)
  f : w.ownsRow B 4 1 fv fl.length (bcells fl)
  apart : ∀ k, k ∈ foot cb dv ev → tv.ownBlock ≠ some k ∧ fv.ownBlock ≠ some k

section
variable {w w' : World} {B cb : Nat} {dv ev tv fv : Value} {s s' : St} {tl : List Int} {fl : List Bool}

theorem Kep.le (h : Kep w B cb dv ev s tv fv tl fl) : B ≤ w.heap.size := Nat.le_trans h.cut.cbB (Nat.le_of_lt h.cut.lt)

theorem Kep.left (h : Kep w B cb dv ev s tv fv tl fl) (k : Left w B cb dv ev s' w') : ∃ dv' ev', Kep w' B cb dv' ev' s' tv fv tl fl := by
  obtain ⟨d, e, h1, h2, h3⟩ := k
  refine ⟨d, e, h1, own_kept h.t h2 (fun b hb hm => (h.apart b hm).1 hb), own_kept h.f h2 (fun b hb hm => (h.apart b hm).2 hb), fun x hx => ?_⟩
  rcases h3 x hx with h4 | h4
  · exact h.apart x h4
  · exact ⟨fun e => by have := (h.t.lt x e).2; omega, fun e => by have := (h.f.lt x e).2; omega⟩

theorem Kep.tadd (h : Kep w B cb dv ev s tv fv tl fl) (hn : tl.length ≤ 4000000) (x : Int) :
    ∃ g cap w2, (Builtin.append_ #[25, 25] 25 #[tv, .slice (some ⟨w.heap.size, 0, none⟩) 1 1]).run Try.prog (w.alloc (.cells #[.int .u8 x] 5)) = .ok (.slice (some ⟨g, 0, none⟩) (tl.length + 1) cap) w2 ∧
      Kep w2 B cb dv ev s (.slice (some ⟨g, 0, none⟩) (tl.length + 1) cap) fv (tl ++ [x]) fl ∧ Below B w w2 := by
  obtain ⟨g, cap, w2, h1, h2, h3, h4⟩ := own_append Try.underlying25 Try.inf5 rfl (by omega) h.t h.le hn (.int .u8 x) rfl
  refine ⟨g, cap, w2, h1, ⟨h.cut.kept h3 (fun k hk hm => (h.apart k hk).1 (by simpa using hm)), ?_, own_kept h.f h3 (fun b hb hm => own_apart h.f h.t (by decide) b hb (by simpa using hm)), fun k hk => ⟨?_, (h.apart k hk).2⟩⟩, h3.below h.le (fun x hx => (h.t.lt x (by simpa using hx)).1)⟩
  · rw [dcells_append, List.length_append]; exact h2
  · intro e
    have e : g = k := by simpa [Value.ownBlock] using e
    subst e
    rcases h4 with h4 | h4
    · exact (h.apart g hk).1 h4
    · have := (h.cut.footlt g hk).2; omega

theorem Kep.fadd (h : Kep w B cb dv ev s tv fv tl fl) (hn : fl.length ≤ 4000000) (x : Bool) :
    ∃ g cap w2, (Builtin.append_ #[27, 27] 27 #[fv, .slice (some ⟨w.heap.size, 0, none⟩) 1 1]).run Try.prog (w.alloc (.cells #[.bool x] 4)) = .ok (.slice (some ⟨g, 0, none⟩) (fl.length + 1) cap) w2 ∧
      Kep w2 B cb dv ev s tv (.slice (some ⟨g, 0, none⟩) (fl.length + 1) cap) tl (fl ++ [x]) ∧ Below B w w2 := by
  obtain ⟨g, cap, w2, h1, h2, h3, h4⟩ := own_append Try.underlying27 Try.inf4 rfl (by omega) h.f h.le hn (.bool x) rfl
  refine ⟨g, cap, w2, h1, ⟨h.cut.kept h3 (fun k hk hm => (h.apart k hk).2 (by simpa using hm)), own_kept h.t h3 (fun b hb hm => own_apart h.t h.f (by decide) b hb (by simpa using hm)), ?_, fun k hk => ⟨(h.apart k hk).1, ?_⟩⟩, h3.below h.le (fun x hx => (h.f.lt x (by simpa using hx)).1)⟩
  · rw [bcells_append, List.length_append]; exact h2
  · intro e
    have e : g = k := by simpa [Value.ownBlock] using e
    subst e
    rcases h4 with h4 | h4
    · exact (h.apart g hk).2 h4
    · have := (h.cut.footlt g hk).2; omega
end

end Go.Proofs.Qxb6603268a
