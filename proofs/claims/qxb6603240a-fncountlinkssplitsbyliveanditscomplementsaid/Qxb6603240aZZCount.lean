/- ZZCountLinks (function 20), by its contract. -/
import Derived.Test.Qxb6603240aCount
namespace Go.Proofs.Qxb6603240a
open Go.RowKit
set_option linter.unusedVariables false

/-- What ZZCountLinks leaves. -/
def ZCounted (w : World) (B n : Nat) (cnt : Nat → Nat) (qa : Option Addr) (e : Ending) (w' : World) : Prop :=
  ∃ (ra : Option Addr) (rb rc : Nat), e = .returned (.slice ra n rc) ∧ n ≤ rc ∧ rc ≤ 9223372036854775807 ∧ B ≤ rb ∧ Kept w w' [rb] ∧
    (0 < n → ra = some ⟨rb, 0, none⟩ ∧ (∃ g : Nat → Int, row32 w' rb rc g ∧ ∀ i, i < n → g i = cnt i) ∧ (qa = some ⟨rb, 0, none⟩ ∨ w.heap.size ≤ rb))

/-- The count slice as ZZCountLinks is handed it. -/
def QC (w : World) (B : Nat) (qa : Option Addr) (qc : Nat) : Prop :=
  (qa = none ∧ qc = 0) ∨ ∃ (qb : Nat) (g : Nat → Int), qa = some ⟨qb, 0, none⟩ ∧ row32 w qb qc g ∧ qc ≤ 9223372036854775807 ∧ B ≤ qb

def cfields (lv cv : Value) : Nat → Value
  | 0 => lv | 1 => .slice none 0 0 | 2 => .int .i32 0 | 3 => .bool false | 4 => .slice none 0 0 | _ => cv

set_option maxHeartbeats 1000000 in
theorem zcount_any (ga : Option Addr) (gb go n c : Nat) (A : Nat → Option Addr) (RB RO L C : Nat → Nat) (Z : Nat → Nat → Int) (B : Nat) (w : World) (hL : IsLinks w B ga gb go n c A RB RO L C Z)
    (la : Option Addr) (lb lo m mc : Nat) (f : Nat → Bool) (hF : IsB w w.heap.size la lb lo m mc f) (qn qc : Nat) (qa : Option Addr)
    (hQ : QC w B qa qc) (hlq : ∀ qb, qa = some ⟨qb, 0, none⟩ → 0 < m → lb ≠ qb) (hqn : qn ≤ qc) (hBw : B ≤ w.heap.size) (hn : n ≤ 1000000) (hL2 : ∀ i, i < n → L i ≤ 2000000) (hZ : la.isSome = true → ∀ i, i < n → ∀ j, j < L i → 0 ≤ Z i j ∧ Z i j < m) :
    Calls Try.prog 20 #[.slice ga n c, .slice qa qn qc, .slice la m mc] w fun e w' => ZCounted w B n (cntOf la f L Z) qa e w' := by
  have hbel : ∀ o, Below B w (w.alloc o) := fun o => (Below.refl _ _).alloc (by omega) _
  have hL1 := fun o => hL.keep (hbel o)
  have hF1 := fun o => (hF.keep ((Below.refl _ w).alloc (Nat.le_refl _) o)).mono (B' := (w.alloc o).heap.size) (by simp)
  have hls : 0 < m → lb ≠ w.heap.size := fun hp => by have := hF.blk hp; omega
  have hQ1 : ∀ o, CIn (w.alloc o) B w.heap.size qa qc := fun o => by
    rcases hQ with ⟨h1, h2⟩ | ⟨qb, g, h1, h2, h3, h4⟩
    · exact .inl ⟨h1, h2⟩
    · exact .inr ⟨qb, g, h1, h2.alloc o, h3, h4, by have := h2.lt; omega⟩
  have hS1 : (w.alloc (.cells #[.slice ga n c, .slice none 0 0, .int .i32 0, .bool false, .slice none 0 0, .slice qa qn qc] 41)).rowIs w.heap.size 41 6 (cfields (.slice ga n c) (.slice qa qn qc)) :=
    World.rowIs_alloc w #[.slice ga n c, .slice none 0 0, .int .i32 0, .bool false, .slice none 0 0, .slice qa qn qc] 41 _ (fun i hi => by
      simp at hi
      match i, hi with
      | 0, _ => rfl
      | 1, _ => rfl
      | 2, _ => rfl
      | 3, _ => rfl
      | 4, _ => rfl
      | 5, _ => rfl)
  have hk : ∀ o l, Kept w (w.alloc o) l := fun o l => Kept.of_below ((Below.refl _ _).alloc (Nat.le_refl _) _) _
  clear hL hQ hF
  go_enter Try.func20, Try.ntmps20
  go_wp2_with fail
  refine (count_any ga gb go n c A RB RO L C Z B _ (hL1 _) la lb lo m mc f (hF1 _) w.heap.size qn qc qa _ hS1 rfl rfl (hQ1 _) hls hlq hqn hBw hn hL2 hZ).mono ?_
  rintro e w1 ⟨ra, rb, rc, rfl, h1, h2, h3, h4, h5⟩
  have F : Hid (ZCounted w B n (cntOf la f L Z) qa (.returned (.slice ra n rc)) w1) := by
    refine ⟨ra, rb, rc, rfl, h1, h2, h3, ?_, fun hn => ?_⟩
    · have hk1 := (hk (.cells #[.slice ga n c, .slice none 0 0, .int .i32 0, .bool false, .slice none 0 0, .slice qa qn qc] 41) [w.heap.size, rb]).trans h4
      refine ⟨hk1.os, hk1.tape, hk1.output, hk1.size, fun i hi hn => ?_⟩
      refine hk1.block i hi (fun hm => hn ?_)
      simp at hm ⊢
      omega
    · obtain ⟨q1, q2, q3, q4⟩ := h5 hn
      refine ⟨q1, q2, ?_⟩
      rcases q4 with h | h
      · exact .inl h
      · simp at h; exact .inr (by omega)
  clear h4 h5 hk hL1 hF1 hQ1 hS1 hbel hL2 hZ hls hlq
  go_wp2
  go_ret
  exact F.out

end Go.Proofs.Qxb6603240a
