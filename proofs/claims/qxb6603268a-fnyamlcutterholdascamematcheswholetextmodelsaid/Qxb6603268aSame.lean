/- zzd1SameState (function 20) at two cutters that hold the same. -/
import Derived.Test.Qxb6603268aLeaf
namespace Go.Proofs.Qxb6603268a
open Go.RowKit Cu
set_option linter.unusedVariables false

theorem CutAt.below {w w' : World} {B cb : Nat} {dv ev : Value} {s : St} (h : CutAt w B cb dv ev s) (hb : Below w.heap.size w w') : CutAt w' B cb dv ev s := h.same (fun k hk => hb.block k (h.footlt k hk).2)

def Yes (w : World) (e : Ending) (w' : World) : Prop := e = .returned (.bool true) ∧ Below w.heap.size w w'

set_option maxRecDepth 100000 in
set_option maxHeartbeats 4000000 in
theorem sameState_any (B ca cb : Nat) (dva eva dvb evb : Value) (s : St) (w : World) (ha : CutAt w B ca dva eva s) (hb : CutAt w B cb dvb evb s) (hd : s.data.length ≤ 3000000) (hx : s.extra.length ≤ 3000000) :
    Calls Try.prog 20 #[.pointer (some ⟨ca, 0, none⟩), .pointer (some ⟨cb, 0, none⟩)] w fun e w' => Yes w e w' := by
  have HA := hide ha
  have HB := hide hb
  obtain ⟨aa, capa, Na, hdva, hNa, hpa⟩ := ha.dat
  obtain ⟨ab, capb, Nb, hdvb, hNb, hpb⟩ := hb.dat
  obtain rfl : Na = Nb := by omega
  obtain ⟨X, hX⟩ : ∃ X, X = s.extra.length := ⟨_, rfl⟩
  have HDA := hide hdva
  have HDB := hide hdvb
  have HN := hide hNa
  have HPA := hide hpa
  have HPB := hide hpb
  have HX := hide hX
  have hN3 : Na ≤ 3000000 := by omega
  have hX3 : X ≤ 3000000 := by omega
  have hXl : s.extra.length ≤ 3000000 := hx
  have HXL := hide hXl
  clear ha hb hdva hdvb hNa hNb hpa hpb hX hd hx hXl
  go_enter Try.func20, Try.ntmps20
  go_wp2_with fail
  refine (data_any B ca dva eva s w HA.out).mono ?_
  rintro e w1 ⟨rfl, rfl⟩
  rw [HDA.out]
  go_wp2_with fail
  refine (data_any B cb dvb evb s w1 HB.out).mono ?_
  rintro e w2 ⟨rfl, rfl⟩
  rw [HDB.out]
  go_wp2_with fail
  go_loopg [7] Na (fun gk v wr => ∃ k : Nat, k ≤ Na ∧ gk = Na - k ∧ v = .int .i64 k ∧ Below w2.heap.size w2 wr)
  case atStart =>
    go_light
    exact ⟨0, Nat.zero_le _, rfl, rfl, Below.refl _ _⟩
  case round =>
    obtain ⟨k, hk, rfl, rfl, hbl⟩ := hrel
    by_cases hlt : k < Na
    · have hlz : (k : Int) < (Na : Int) := by omega
      obtain ⟨ga, rfl, hca, hma⟩ := HPA.out (by omega)
      obtain ⟨gb, rfl, hcb, hmb⟩ := HPB.out (by omega)
      obtain ⟨x, hx⟩ : ∃ x, s.data[k]? = some x := ⟨_, List.getElem?_eq_getElem (by have := HN.out; omega)⟩
      have g1 : wr.cell? ⟨ga, k, none⟩ = some (.int .u8 x) := (HA.out.below hbl).dcell (by rw [HDA.out]; rfl) hx
      have g2 : wr.cell? ⟨gb, k, none⟩ = some (.int .u8 x) := (HB.out.below hbl).dcell (by rw [HDB.out]; rfl) hx
      unfold maxLen at hma hmb
      have HBL := hide hbl
      clear hx hbl
      go_wp2_with fail
      go_quiet (fail)
      go_wp2_with fail
      go_roundg (Na - (k + 1))
      case measure => go_light; omega
      case rel => go_light; exact ⟨k + 1, by omega, rfl, by simp, below_dn HBL.out nq⟩
    · have hlz : ¬ ((k : Int) < (Na : Int)) := by omega
      obtain rfl : k = Na := by omega
      have HBL := hide hbl
      clear hbl
      go_wp2_with fail
      refine (xlen_any B ca dva eva s wr (HA.out.below HBL.out)).mono ?_
      rintro e w3 ⟨rfl, rfl⟩
      rw [← HX.out]
      go_wp2_with fail
      refine (xlen_any B cb dvb evb s w3 (HB.out.below HBL.out)).mono ?_
      rintro e w4 ⟨rfl, rfl⟩
      rw [← HX.out]
      go_wp2_with fail
      go_loopg [8] X (fun gk v wi => ∃ j : Nat, j ≤ X ∧ gk = X - j ∧ v = .int .i64 j ∧ Below w2.heap.size w2 wi)
      case atStart =>
        go_light
        exact ⟨0, Nat.zero_le _, rfl, rfl, HBL.out⟩
      case round =>
        obtain ⟨j, hj, rfl, rfl, hbl⟩ := hrel
        obtain ⟨w5, hw5⟩ : ∃ w5, w5 = wr := ⟨_, rfl⟩
        rw [← hw5] at hbl ⊢
        have HB5 := hide hbl
        clear hbl hw5
        go_wp2_with fail
        refine (xlen_any B ca dva eva s w5 (HA.out.below HB5.out)).mono ?_
        rintro e w6 ⟨rfl, rfl⟩
        rw [← HX.out]
        by_cases hlt : j < X
        · have hlz : (j : Int) < (X : Int) := by omega
          obtain ⟨⟨x1, x2, x3⟩, hx⟩ : ∃ x, s.extra[j]? = some x := ⟨_, List.getElem?_eq_getElem (by have := HX.out; omega)⟩
          have HXJ := hide hx
          clear hx
          go_wp2_with fail
          refine (x_any B ca dva eva s j (x1, x2, x3) w6 (HA.out.below HB5.out) HXJ.out HXL.out).mono ?_
          rintro e w7 ⟨rfl, hb7⟩
          have HB7 : Hid (Below w2.heap.size w2 w7) := below_after HB5.out hb7
          clear hb7
          go_wp2_with fail
          refine (x_any B cb dvb evb s j (x1, x2, x3) w7 (HB.out.below HB7.out) HXJ.out HXL.out).mono ?_
          rintro e w8 ⟨rfl, hb8⟩
          have HB8 : Hid (Below w2.heap.size w2 w8) := below_after HB7.out hb8
          clear hb8
          go_wp2_with fail
          go_roundg (X - (j + 1))
          case measure => go_light; omega
          case rel => go_light; exact ⟨j + 1, by omega, rfl, by simp, HB8.out⟩
        · have hlz : ¬ ((j : Int) < (X : Int)) := by omega
          go_wp2_with fail
          refine (run_any B ca dva eva s w6 (HA.out.below HB5.out)).mono ?_
          rintro e w7 ⟨rfl, n7, h7⟩
          have HB7 : Hid (Below w2.heap.size w2 w7) := by rw [h7]; exact below_dn HB5.out _
          clear h7
          go_wp2_with fail
          refine (run_any B cb dvb evb s w7 (HB.out.below HB7.out)).mono ?_
          rintro e w8 ⟨rfl, n8, h8⟩
          have HB8 : Hid (Below w2.heap.size w2 w8) := by rw [h8]; exact below_dn HB7.out _
          clear h8
          go_wp2_with fail
          go_ret
          exact ⟨rfl, HB8.out⟩

end Go.Proofs.Qxb6603268a
