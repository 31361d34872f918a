/- Small functions on the road: zzBytes (24), ZZNewCutter (15), ZZHold (19), ZZHoldAsCame (23), ZZData (27), ZZExtraLen (28), ZZExtra (29), ZZRun (30). -/
import Derived.Test.Qxb6603268aCame
import Derived.Test.Qxb6603268aClones
namespace Go.Proofs.Qxb6603268a
open Go.RowKit Cu
set_option linter.unusedVariables false

def Bytes4 (w : World) (e : Ending) (w' : World) : Prop := (∃ b, e = .returned (.bool b)) ∧ w' = w

set_option maxHeartbeats 400000 in
theorem bytes24 (a1 a2 a3 a4 : Option Addr) (n1 c1 n2 c2 n3 c3 n4 c4 : Nat) (w : World) :
    Calls Try.prog 24 #[.slice a1 n1 c1, .slice a2 n2 c2, .slice a3 n3 c3, .slice a4 n4 c4] w fun e w' => Bytes4 w e w' := by
  by_cases h1 : n1 ≤ 1048576
  · have i1 : ¬ ((n1 : Int) > 1048576) := by omega
    have i1' : ¬ (1048576 : Int) < (n1 : Int) := by omega
    have v1 : IntKind.i64.wrap (n1 : Int) = n1 := by rw [IntKind.wrap_i64]; omega
    by_cases h2 : n2 ≤ 1048576
    · have i2' : ¬ (1048576 : Int) < (n2 : Int) := by omega
      have v2 : IntKind.i64.wrap ((n1 : Int) + n2) = n1 + n2 := by rw [IntKind.wrap_i64]; omega
      by_cases g2 : n1 + n2 ≤ 1048576
      · have j2 : ¬ (1048576 : Int) < (n1 : Int) + n2 := by omega
        by_cases h3 : n3 ≤ 1048576
        · have i3' : ¬ (1048576 : Int) < (n3 : Int) := by omega
          have v3 : IntKind.i64.wrap ((n1 : Int) + n2 + n3) = n1 + n2 + n3 := by rw [IntKind.wrap_i64]; omega
          by_cases g3 : n1 + n2 + n3 ≤ 1048576
          · have j3 : ¬ (1048576 : Int) < (n1 : Int) + n2 + n3 := by omega
            by_cases h4 : n4 ≤ 1048576
            · have i4' : ¬ (1048576 : Int) < (n4 : Int) := by omega
              have v4 : IntKind.i64.wrap ((n1 : Int) + n2 + n3 + n4) = n1 + n2 + n3 + n4 := by rw [IntKind.wrap_i64]; omega
              by_cases g4 : n1 + n2 + n3 + n4 ≤ 1048576
              · have j4 : ¬ (1048576 : Int) < (n1 : Int) + n2 + n3 + n4 := by omega
                go_enter Try.func24, Try.ntmps24
                go_wp2
                go_ret
                exact ⟨⟨_, rfl⟩, rfl⟩
              · have j4 : (1048576 : Int) < (n1 : Int) + n2 + n3 + n4 := by omega
                go_enter Try.func24, Try.ntmps24
                go_wp2
                go_ret
                exact ⟨⟨_, rfl⟩, rfl⟩
            · have i4' : (1048576 : Int) < (n4 : Int) := by omega
              go_enter Try.func24, Try.ntmps24
              go_wp2
              go_ret
              exact ⟨⟨_, rfl⟩, rfl⟩
          · have j3 : (1048576 : Int) < (n1 : Int) + n2 + n3 := by omega
            go_enter Try.func24, Try.ntmps24
            go_wp2
            go_ret
            exact ⟨⟨_, rfl⟩, rfl⟩
        · have i3' : (1048576 : Int) < (n3 : Int) := by omega
          go_enter Try.func24, Try.ntmps24
          go_wp2
          go_ret
          exact ⟨⟨_, rfl⟩, rfl⟩
      · have j2 : (1048576 : Int) < (n1 : Int) + n2 := by omega
        go_enter Try.func24, Try.ntmps24
        go_wp2
        go_ret
        exact ⟨⟨_, rfl⟩, rfl⟩
    · have i2' : (1048576 : Int) < (n2 : Int) := by omega
      go_enter Try.func24, Try.ntmps24
      go_wp2
      go_ret
      exact ⟨⟨_, rfl⟩, rfl⟩
  · have i1 : (n1 : Int) > 1048576 := by omega
    have i1' : (1048576 : Int) < (n1 : Int) := by omega
    go_enter Try.func24, Try.ntmps24
    go_wp2
    go_ret
    exact ⟨⟨_, rfl⟩, rfl⟩

set_option maxHeartbeats 400000 in
theorem zzhold_any (B cb : Nat) (dv ev : Value) (s : St) (b : Int) (n : Nat) (p : Bool) (w : World) (M : Nat) (h : CutAt w B cb dv ev s) (hW : Wf s M) (hM : M + n ≤ 3000000) :
    Calls Try.prog 19 #[.pointer (some ⟨cb, 0, none⟩), .int .u8 b, .int .i64 n, .bool p] w fun e w' => Held w B cb dv ev (holdF s b n p) e w' := by
  go_enter Try.func19, Try.ntmps19
  go_wp2_with fail
  refine (hold_any B cb dv ev s b n p w M h hW hM).mono ?_
  rintro e w1 ⟨rfl, hL⟩
  have F := hide hL
  clear hL h hW
  go_wp2_with fail
  go_end0
  exact ⟨rfl, F.out⟩

set_option maxHeartbeats 400000 in
theorem zzcame_any (B cb : Nat) (dv ev : Value) (s : St) (w : World) (M : Nat) (sa : Option Addr) (sb so n c : Nat) (f : Nat → Int) (h : CutAt w B cb dv ev s) (hW : Wf s M) (hS : IsV w B sa sb so n c (fun i => .int .u8 (f i))) (hM : M + n ≤ 3000000) :
    Calls Try.prog 23 #[.pointer (some ⟨cb, 0, none⟩), .slice sa n c] w fun e w' => Came w B cb dv ev (text s (tx f n)) n e w' := by
  go_enter Try.func23, Try.ntmps23
  go_wp2_with fail
  refine (asCame_any B cb dv ev s w M sa sb so n c f h hW hS hM).mono ?_
  rintro e w1 ⟨rfl, hL⟩
  have F := hide hL
  clear hL h hW hS
  go_wp2_with fail
  go_ret
  exact ⟨rfl, F.out⟩

def DataIs (w : World) (dv : Value) (e : Ending) (w' : World) : Prop := e = .returned dv ∧ w' = w

set_option maxHeartbeats 400000 in
theorem data_any (B cb : Nat) (dv ev : Value) (s : St) (w : World) (h : CutAt w B cb dv ev s) : Calls Try.prog 27 #[.pointer (some ⟨cb, 0, none⟩)] w fun e w' => DataIs w dv e w' := by
  obtain ⟨a, cap, hdv⟩ := h.dslice
  have c0 : w.cell? ⟨cb, 0, none⟩ = some (.slice a s.data.length cap) := by rw [← hdv]; exact h.c0
  clear h
  go_enter Try.func27, Try.ntmps27
  go_wp2
  go_ret
  exact ⟨by rw [hdv]; rfl, rfl⟩

set_option maxHeartbeats 400000 in
theorem xlen_any (B cb : Nat) (dv ev : Value) (s : St) (w : World) (h : CutAt w B cb dv ev s) : Calls Try.prog 28 #[.pointer (some ⟨cb, 0, none⟩)] w fun e w' => DataIs w (.int .i64 s.extra.length) e w' := by
  obtain ⟨a, cap, hev⟩ := h.xslice
  have c2 : w.cell? ⟨cb, 2, none⟩ = some (.slice a s.extra.length cap) := by rw [← hev]; exact h.c2
  clear h
  go_enter Try.func28, Try.ntmps28
  go_wp2
  go_ret
  exact ⟨rfl, rfl⟩

def RunIs (w : World) (s : St) (e : Ending) (w' : World) : Prop := e = .returned (.tuple #[.int .i64 s.runAt, .int .i64 s.runRep, .bool s.runPad]) ∧ ∃ n, w' = w.drewN n

set_option maxHeartbeats 400000 in
theorem run_any (B cb : Nat) (dv ev : Value) (s : St) (w : World) (h : CutAt w B cb dv ev s) : Calls Try.prog 30 #[.pointer (some ⟨cb, 0, none⟩)] w fun e w' => RunIs w s e w' := by
  obtain ⟨ra, hra⟩ : ∃ x, x = s.runAt := ⟨_, rfl⟩
  obtain ⟨rr, hrr⟩ : ∃ x, x = s.runRep := ⟨_, rfl⟩
  obtain ⟨rp, hrp⟩ : ∃ x, x = s.runPad := ⟨_, rfl⟩
  have c5 := h.c5
  have c6 := h.c6
  have c7 := h.c7
  unfold RunIs
  rw [← hra] at c5 ⊢
  rw [← hrr] at c6 ⊢
  rw [← hrp] at c7 ⊢
  clear h hra hrr hrp
  go_enter Try.func30, Try.ntmps30
  go_wp2_with fail
  go_quiet (fail)
  go_wp2_with fail
  go_ret3
  exact ⟨rfl, _, rfl⟩

theorem below_dn {B : Nat} {a w : World} (h : Below B a w) (n : Nat) : Below B a (w.drewN n) := h.trans ⟨rfl, rfl, rfl, Nat.le_refl _, fun _ _ => rfl⟩

def XIs (w : World) (x : Int × Int × Bool) (e : Ending) (w' : World) : Prop := e = .returned (.tuple #[.int .i64 x.1, .int .i64 x.2.1, .bool x.2.2]) ∧ Below w.heap.size w w'

set_option maxHeartbeats 400000 in
theorem x_any (B cb : Nat) (dv ev : Value) (s : St) (i : Nat) (x : Int × Int × Bool) (w : World) (h : CutAt w B cb dv ev s) (hx : s.extra[i]? = some x) (hl : s.extra.length ≤ 3000000) : Calls Try.prog 29 #[.pointer (some ⟨cb, 0, none⟩), .int .i64 i] w fun e w' => XIs w x e w' := by
  have hi : i < s.extra.length := by
    rcases Nat.lt_or_ge i s.extra.length with h | h
    · exact h
    · rw [List.getElem?_eq_none h] at hx; cases hx
  obtain ⟨g, cap, hev, hc, hm⟩ := h.xform (by omega)
  obtain ⟨X, hX⟩ : ∃ X, X = s.extra.length := ⟨_, rfl⟩
  have c2 : w.cell? ⟨cb, 2, none⟩ = some (.slice (some ⟨g, 0, none⟩) X cap) := by rw [hX, ← hev]; exact h.c2
  obtain ⟨y1, y2, y3, y4, y5⟩ := h.xcell (g := g) (by rw [hev]; rfl) hx
  obtain ⟨x1, x2, x3⟩ := x
  dsimp only at y1 y2 y3
  rw [← hX] at hi hc hl
  unfold maxLen at hm
  clear h hx hev hX
  go_enter Try.func29, Try.ntmps29
  go_wp2_with fail
  go_quiet (fail)
  go_wp2_with fail
  go_ret3
  exact ⟨rfl, below_dn ((Below.refl _ w).alloc (Nat.le_refl _) _) nq⟩

def New (w : World) (e : Ending) (w' : World) : Prop := e = .returned (.pointer (some ⟨w.heap.size, 0, none⟩)) ∧ (∀ B, B ≤ w.heap.size → CutAt w' B w.heap.size (.slice none 0 0) (.slice none 0 0) St.init) ∧ Below w.heap.size w w' ∧ w'.heap.size = w.heap.size + 1

theorem new_cut (w : World) (B : Nat) (hB : B ≤ w.heap.size) (c : Array Value) (h0 : c[0]? = some (.slice none 0 0)) (h2 : c[2]? = some (.slice none 0 0)) (h5 : c[5]? = some (.int .i64 0)) (h6 : c[6]? = some (.int .i64 0)) (h7 : c[7]? = some (.bool false)) (hc : c.size = 26) :
    CutAt (w.alloc (.cells c 56)) B w.heap.size (.slice none 0 0) (.slice none 0 0) St.init := by
  refine ⟨⟨fun i => (c[i]?).getD (.bool false), ⟨c, Deep.blk_alloc_new w (.cells c 56), hc, fun i hi => ?_⟩, by dsimp only; rw [h0]; rfl, by dsimp only; rw [h2]; rfl, by dsimp only; rw [h5]; rfl, by dsimp only; rw [h6]; rfl, by dsimp only; rw [h7]; rfl⟩, ⟨rfl, .inl ⟨rfl, rfl⟩⟩, ⟨rfl, .inl ⟨rfl, rfl⟩⟩, hB⟩
  simp [Array.getElem?_eq_getElem (show i < c.size by omega)]

set_option maxHeartbeats 400000 in
theorem new_any (w : World) : Calls Try.prog 15 #[] w fun e w' => New w e w' := by
  go_enter Try.func15, Try.ntmps15
  go_wp2_with fail
  go_ret
  exact ⟨rfl, fun B hB => new_cut w B hB _ rfl rfl rfl rfl rfl rfl, (Below.refl _ w).alloc (Nat.le_refl _) _, by simp⟩

end Go.Proofs.Qxb6603268a
