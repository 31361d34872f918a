/- Two cutters that stand apart. -/
import Derived.Test.Qxb6603268aRunScript
import Derived.Test.Qxb6603268aSame
namespace Go.Proofs.Qxb6603268a
open Go.RowKit Cu
set_option linter.unusedVariables false

theorem below_on {a b c : World} {B : Nat} (h : Below a.heap.size a b) (k : Below B b c) (hB : a.heap.size ≤ B) : Below a.heap.size a c :=
  h.trans ⟨k.os, k.tape, k.output, k.size, fun i hi => k.block i (Nat.lt_of_lt_of_le hi hB)⟩
theorem below_tr {a b c : World} {B : Nat} (h : Below B a b) (k : Below B b c) : Below B a c := h.trans k
theorem below_dn' {B B' : Nat} {a b : World} (h : Below B a b) (hB : B' ≤ B) : Below B' a b := ⟨h.os, h.tape, h.output, h.size, fun i hi => h.block i (by omega)⟩

/-- Two cutters in memory, their blocks apart. -/
structure Two (w : World) (B ca : Nat) (dva eva : Value) (sa : St) (cb : Nat) (dvb evb : Value) (sb : St) : Prop where
  a : CutAt w B ca dva eva sa
  b : CutAt w B cb dvb evb sb
  apart : ∀ k, k ∈ foot ca dva eva → k ∉ foot cb dvb evb

theorem Two.swap {w : World} {B ca : Nat} {dva eva : Value} {sa : St} {cb : Nat} {dvb evb : Value} {sb : St} (h : Two w B ca dva eva sa cb dvb evb sb) : Two w B cb dvb evb sb ca dva eva sa :=
  ⟨h.b, h.a, fun k h1 h2 => h.apart k h2 h1⟩

theorem Two.left {w w' : World} {B ca : Nat} {dva eva : Value} {sa s' : St} {cb : Nat} {dvb evb : Value} {sb : St} (h : Two w B ca dva eva sa cb dvb evb sb) (k : Left w B ca dva eva s' w') : ∃ dva' eva', Two w' B ca dva' eva' s' cb dvb evb sb := by
  obtain ⟨d, e, h1, h2, h3⟩ := k
  refine ⟨d, e, h1, h.b.kept h2 (fun x hx hx2 => h.apart x hx2 hx), fun x hx hx2 => ?_⟩
  rcases h3 x hx with h4 | h4
  · exact h.apart x h4 hx2
  · have := (h.b.footlt x hx2).2; omega

theorem text_one (s : St) (f : Nat → Int) (k : Nat) : text s (tx f (k + 1)) = holdF (text s (tx f k)) (f k) 1 false := by
  rw [tx_add, text_append]; rfl

end Go.Proofs.Qxb6603268a
