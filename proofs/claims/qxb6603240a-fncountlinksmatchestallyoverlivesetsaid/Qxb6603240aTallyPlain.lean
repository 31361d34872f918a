/- The tally over the live set is the count of live links: no Go in sight. -/
import Derived.Test.Qxb6603240aCount
namespace Go.Proofs.Qxb6603240a

def eqTo (z : Nat → Int) (v : Nat) : Nat → Nat
  | 0 => 0
  | q + 1 => eqTo z v q + if z q = (v : Int) then 1 else 0

def tal (f : Nat → Bool) (z : Nat → Int) (l : Nat) : Nat → Nat
  | 0 => 0
  | v + 1 => tal f z l v + if f v then eqTo z v l else 0

theorem eqTo_le (z : Nat → Int) (v q : Nat) : eqTo z v q ≤ q := by
  induction q with
  | zero => exact Nat.le_refl _
  | succ q ih => unfold eqTo; split <;> omega

theorem tal_zero (f : Nat → Bool) (z : Nat → Int) (m : Nat) : tal f z 0 m = 0 := by
  induction m with
  | zero => rfl
  | succ m ih => unfold tal; rw [ih]; simp [eqTo]

theorem tal_succ (f : Nat → Bool) (z : Nat → Int) (l m : Nat) : tal f z (l + 1) m = tal f z l m + if 0 ≤ z l ∧ z l < m ∧ f (z l).toNat = true then 1 else 0 := by
  induction m with
  | zero => unfold tal; rw [if_neg (by omega)]
  | succ m ih =>
    show tal f z (l + 1) m + (if f m then eqTo z m (l + 1) else 0) = tal f z l m + (if f m then eqTo z m l else 0) + _
    rw [ih]
    show _ + (if f m then eqTo z m l + (if z l = (m : Int) then 1 else 0) else 0) = _
    by_cases e : z l = (m : Int)
    · have ht : (z l).toNat = m := by omega
      rw [if_pos e, if_neg (by omega), ht]
      by_cases hf : f m = true
      · rw [if_pos hf, if_pos hf, if_pos ⟨by omega, by omega, hf⟩]; omega
      · rw [if_neg hf, if_neg hf, if_neg (fun h => hf h.2.2)]
    · have hiff : (0 ≤ z l ∧ z l < ((m + 1 : Nat) : Int) ∧ f (z l).toNat = true) ↔ (0 ≤ z l ∧ z l < (m : Int) ∧ f (z l).toNat = true) :=
        ⟨fun h => ⟨h.1, by have := h.2.1; omega, h.2.2⟩, fun h => ⟨h.1, by have := h.2.1; omega, h.2.2⟩⟩
      simp only [if_neg e, hiff, Nat.add_zero]
      omega

theorem tal_le (f : Nat → Bool) (z : Nat → Int) (l m : Nat) : tal f z l m ≤ l := by
  induction l with
  | zero => rw [tal_zero]; exact Nat.le_refl _
  | succ l ih => rw [tal_succ]; split <;> omega

theorem tal_eq (f : Nat → Bool) (z : Nat → Int) (l m : Nat) (h : ∀ j, j < l → 0 ≤ z j ∧ z j < m) : tal f z l m = cntTo f z l := by
  induction l with
  | zero => rw [tal_zero]; rfl
  | succ l ih =>
    rw [tal_succ, ih (fun j hj => h j (by omega))]
    show _ = cntTo f z l + _
    have := h l (by omega)
    by_cases hf : f (z l).toNat = true
    · rw [if_pos ⟨this.1, this.2, hf⟩, if_pos hf]
    · rw [if_neg (fun h => hf h.2.2), if_neg hf]

end Go.Proofs.Qxb6603240a
