/- ZZWalk (function 14), by its contract. -/
import Derived.Test.Qxb6603240aWalk
namespace Go.Proofs.Qxb6603240a
open Go.RowKit
set_option linter.unusedVariables false

/-- What ZZWalk leaves. -/
def ZWalked (w : World) (n : Nat) (L : Nat → Nat) (Z : Nat → Nat → Int) (base : Int) (fr : Nat) (aw : Nat → Int) (ab an : Nat) (qa : Option Addr) (e : Ending) (w' : World) : Prop :=
  ∃ (K qb qc : Nat), K = (Bf.out L Z base fr aw K).2.length ∧ e = .returned (.tuple #[.slice (some ⟨qb, 0, none⟩) K qc, .slice (some ⟨ab, 0, none⟩) an an, .slice (some ⟨qb, 0, none⟩) K qc]) ∧ n + 1 ≤ qc ∧ qc ≤ 9223372036854775807 ∧
    row32 w' ab an (Bf.out L Z base fr aw K).1 ∧ (∃ g : Nat → Int, row32 w' qb qc g ∧ ∀ (i z : Nat), (Bf.out L Z base fr aw K).2[i]? = some z → g i = z) ∧
    Bf.Done n L Z base fr aw K (Bf.out L Z base fr aw K) ∧ qb ≠ ab ∧ (qa = some ⟨qb, 0, none⟩ ∨ w.heap.size ≤ qb) ∧ Kept w w' [ab, qb]

/-- The queue as ZZWalk is handed it. -/
def QIn (w : World) (B ab : Nat) (qa : Option Addr) (qc : Nat) : Prop :=
  (qa = none ∧ qc = 0) ∨ ∃ (qb : Nat) (g : Nat → Int), qa = some ⟨qb, 0, none⟩ ∧ row32 w qb qc g ∧ qc ≤ 9223372036854775807 ∧ B ≤ qb ∧ qb ≠ ab

def fields (lv av lift qv : Value) : Nat → Value
  | 0 => lv | 1 => av | 2 => lift | 3 => .bool false | 4 => qv | _ => .slice none 0 0

set_option maxHeartbeats 1000000 in
theorem zwalk_any (ga : Option Addr) (gb go n c : Nat) (A : Nat → Option Addr) (RB RO L C : Nat → Nat) (Z : Nat → Nat → Int) (B : Nat) (w : World) (hL : IsLinks w B ga gb go n c A RB RO L C Z)
    (ab an qn qc0 fr : Nat) (qa : Option Addr) (lift base : Int) (aw : Nat → Int)
    (hA : row32 w ab an aw) (hQ : QIn w B ab qa qc0) (hqn : qn ≤ qc0) (hBa : B ≤ ab)
    (hfr : fr < n) (hna : n ≤ an) (hn : n ≤ 1000000) (han : an ≤ 2000000) (hb : wrap32 (-lift) = base) (hb1 : -2147483648 ≤ base) (hb2 : base + n ≤ 2147483647)
    (hL2 : ∀ i, i < n → L i ≤ 2000000) (hZ : ∀ i, i < n → ∀ j, j < L i → 0 ≤ Z i j ∧ Z i j < n) :
    Calls Try.prog 14 #[.slice ga n c, .slice (some ⟨ab, 0, none⟩) an an, .int .i32 lift, .slice qa qn qc0, .int .i32 fr] w fun e w' => ZWalked w n L Z base fr aw ab an qa e w' := by
  have hal := hA.lt
  have hbel : ∀ o, Below B w (w.alloc o) := fun o => (Below.refl _ _).alloc (by omega) _
  have hL1 := fun o => hL.keep (hbel o)
  have hA1 := fun o => hA.alloc o
  have hQ1 : ∀ o, QOk (w.alloc o) B ab w.heap.size qa qc0 := fun o => by
    rcases hQ with ⟨h1, h2⟩ | ⟨qb, g, h1, h2, h3, h4, h5⟩
    · exact .inl ⟨h1, h2⟩
    · exact .inr ⟨qb, g, h1, h2.alloc o, h3, h4, h5, by have := h2.lt; omega⟩
  have hS1 : (w.alloc (.cells #[.slice ga n c, .slice (some ⟨ab, 0, none⟩) an an, .int .i32 lift, .bool false, .slice qa qn qc0, .slice none 0 0] 41)).rowIs w.heap.size 41 6 (fields (.slice ga n c) (.slice (some ⟨ab, 0, none⟩) an an) (.int .i32 lift) (.slice qa qn qc0)) :=
    World.rowIs_alloc w #[.slice ga n c, .slice (some ⟨ab, 0, none⟩) an an, .int .i32 lift, .bool false, .slice qa qn qc0, .slice none 0 0] 41 _ (fun i hi => by
      simp at hi
      match i, hi with
      | 0, _ => rfl
      | 1, _ => rfl
      | 2, _ => rfl
      | 3, _ => rfl
      | 4, _ => rfl
      | 5, _ => rfl)
  have hk : ∀ o l, Kept w (w.alloc o) l := fun o l => Kept.of_below ((Below.refl _ _).alloc (Nat.le_refl _) _) _
  clear hL hA hQ
  go_enter Try.func14, Try.ntmps14
  go_wp2_with fail
  refine (walk_any ga gb go n c A RB RO L C Z B _ (hL1 _) w.heap.size ab an qn qc0 fr qa lift base aw _ hS1 rfl rfl rfl rfl (hA1 _) (hQ1 _) hqn hBa (by omega) (by omega) hfr hna hn han hb hb1 hb2 hL2 hZ).mono ?_
  rintro e w1 ⟨K, qb, qc, hK, rfl, h1, h2, h3, h4, h5, h6, h7, h8, h9, h10⟩
  have t1 : w1.cell? ⟨w.heap.size, 1, none⟩ = some (.slice (some ⟨ab, 0, none⟩) an an) := h5.cell (i := 1) (by omega)
  have t4 : w1.cell? ⟨w.heap.size, 4, none⟩ = some (.slice (some ⟨qb, 0, none⟩) K qc) := h5.cell (i := 4) (by omega)
  have F : ∀ nq, ZWalked w n L Z base fr aw ab an qa (.returned (.tuple #[.slice (some ⟨qb, 0, none⟩) K qc, .slice (some ⟨ab, 0, none⟩) an an, .slice (some ⟨qb, 0, none⟩) K qc])) (w1.drewN nq) := fun nq => by
    refine ⟨K, qb, qc, hK, rfl, h1, h2, h3, h4, h6, h7, ?_, ?_⟩
    · rcases h9 with h9 | h9
      · exact .inl h9
      · simp at h9; exact .inr (by omega)
    · have hk1 := (hk (.cells #[.slice ga n c, .slice (some ⟨ab, 0, none⟩) an an, .int .i32 lift, .bool false, .slice qa qn qc0, .slice none 0 0] 41) [ab, w.heap.size, qb]).trans h10
      refine (Kept.drewN (w' := w1) ⟨hk1.os, hk1.tape, hk1.output, hk1.size, fun i hi hn => ?_⟩ nq)
      refine hk1.block i hi (fun hm => hn ?_)
      simp at hm ⊢
      omega
  have HF := hide F
  clear h3 h4 h5 h6 h9 h10 F hk hL1 hA1 hQ1 hS1 hK hbel hL2 hZ
  go_wp2
  go_quiet (fail)
  go_wp2
  go_ret3
  exact unhide HF _

end Go.Proofs.Qxb6603240a
