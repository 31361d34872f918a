/- zzd1Matches (function 17) at a cutter that holds what the model says. -/
import Derived.Test.Qxb6603268aModel
namespace Go.Proofs.Qxb6603268a
open Go.RowKit Cu
set_option linter.unusedVariables false

theorem below_self {a b c : World} (h : Below a.heap.size a b) (k : Below b.heap.size b c) : Below a.heap.size a c := below_after h k

set_option maxRecDepth 100000 in
set_option maxHeartbeats 4000000 in
theorem matches_any (B cb : Nat) (dv ev : Value) (s : St) (ta fa : Option Addr) (tb tp n tc fb fo m0 fc : Nat) (f : Nat → Int) (p : Nat → Bool) (w : World) (h : CutAt w B cb dv ev s) (hs : s = text St.init (tz f p n))
    (h1 : IsV w w.heap.size ta tb tp n tc (fun i => .int .u8 (f i))) (h2 : IsV w w.heap.size fa fb fo m0 fc (fun i => .bool (p i))) (hnm : n ≤ m0) (hn : n ≤ 3000000) :
    Calls Try.prog 17 #[.pointer (some ⟨cb, 0, none⟩), .slice ta n tc, .slice fa m0 fc] w fun e w' => Yes w e w' := by
  have hWf : Wf s n := by rw [hs]; have := wf_text (wf_init 0) (tz f p n); rwa [tz_length, Nat.zero_add] at this
  have H := hide h
  have HWF := hide hWf
  have hmodel := model_any ta fa tb tp n tc fb fo m0 fc f p w h1 h2 hnm hn
  rw [← hs] at hmodel
  clear h h1 h2 hs hWf
  go_enter Try.func17, Try.ntmps17
  go_wp2_with fail
  refine hmodel.mono ?_
  clear hmodel
  rintro e w1 ⟨dm, am, cm, pm, r1, r2, r3, rfl, ⟨hM, rfl, rfl, rfl⟩, hb1⟩
  obtain ⟨da, dc, hdm, hdl, hdx⟩ := own_form hM.d
  obtain ⟨aa, ac, ham, hal, hax⟩ := own_form hM.a
  obtain ⟨ca, cc, hcm, hcl, hcx⟩ := own_form hM.c
  obtain ⟨pa, pc, hpm, hpl, hpx⟩ := own_form hM.p
  subst hdm
  subst ham
  subst hcm
  subst hpm
  obtain ⟨db, V1⟩ := own_isV (F := fun i => .int .u8 (s.data.getD i 0)) hM.d (fun i hi => by simp [dcells, List.getD_eq_getElem?_getD, List.getElem?_eq_getElem hi])
  obtain ⟨ab, V2⟩ := own_isV (F := fun i => .int .i64 ((s.extra.getD i (0, 0, false)).1)) hM.a (fun i hi => by
    have hi' : i < s.extra.length := by simpa using hi
    simp [icells, List.getD_eq_getElem?_getD, List.getElem?_eq_getElem hi'])
  obtain ⟨cb', V3⟩ := own_isV (F := fun i => .int .i64 ((s.extra.getD i (0, 0, false)).2.1)) hM.c (fun i hi => by
    have hi' : i < s.extra.length := by simpa using hi
    simp [icells, List.getD_eq_getElem?_getD, List.getElem?_eq_getElem hi'])
  obtain ⟨pb, V4⟩ := own_isV (F := fun i => .bool ((s.extra.getD i (0, 0, false)).2.2)) hM.p (fun i hi => by
    have hi' : i < s.extra.length := by simpa using hi
    simp [bcells, List.getD_eq_getElem?_getD, List.getElem?_eq_getElem hi'])
  rw [List.length_map] at hal hcl hpl V2 V3 V4 ⊢
  unfold maxLen at hdx hax hcx hpx
  obtain ⟨D, hD⟩ : ∃ D, D = s.data.length := ⟨_, rfl⟩
  obtain ⟨X, hX⟩ : ∃ X, X = s.extra.length := ⟨_, rfl⟩
  have hXl : s.extra.length ≤ n := HWF.out.xlen
  have hDl : s.data.length ≤ n := HWF.out.dlen
  rw [← hD] at hdl V1 hDl ⊢
  rw [← hX] at hal hcl hpl V2 V3 V4 hXl ⊢
  have HV1 := hide V1
  have HV2 := hide V2
  have HV3 := hide V3
  have HV4 := hide V4
  have HB1 := hide hb1
  have HD := hide hD
  have HX := hide hX
  obtain ⟨ra, hra⟩ : ∃ x, x = s.runAt := ⟨_, rfl⟩
  obtain ⟨rr, hrr⟩ : ∃ x, x = s.runRep := ⟨_, rfl⟩
  obtain ⟨rp, hrp⟩ : ∃ x, x = s.runPad := ⟨_, rfl⟩
  rw [← hra, ← hrr, ← hrp]
  have HRA := hide hra
  have HRR := hide hrr
  have HRP := hide hrp
  have C1 : Hid (CutAt w1 B cb dv ev s) := H.out.below hb1
  obtain ⟨xa, xcap, Nx, hdv, hNx, hpx2⟩ := C1.out.dat
  obtain rfl : Nx = D := by rw [HD.out]; exact hNx
  have HDV := hide hdv
  have HPX := hide hpx2
  clear hM V1 V2 V3 V4 hb1 hD hX hra hrr hrp hdv hNx hpx2
  go_wp2_with fail
  refine (data_any B cb dv ev s w1 C1.out).mono ?_
  rintro e w2 ⟨rfl, rfl⟩
  rw [HDV.out]
  go_wp2_with fail
  go_loopg [15] Nx (fun gk v wr => ∃ k : Nat, k ≤ Nx ∧ gk = Nx - k ∧ v = .int .i64 k ∧ Below w2.heap.size w2 wr)
  case atStart =>
    go_light
    exact ⟨0, Nat.zero_le _, rfl, rfl, Below.refl _ _⟩
  case round =>
    obtain ⟨k, hk, rfl, rfl, hbl⟩ := hrel
    by_cases hlt : k < Nx
    · have hlz : (k : Int) < (Nx : Int) := by omega
      obtain ⟨ga, rfl, hca, hma⟩ := HPX.out (by omega)
      obtain rfl := HV1.out.adr (by omega)
      obtain ⟨x, hx⟩ : ∃ x, s.data[k]? = some x := ⟨_, List.getElem?_eq_getElem (by have := HD.out; omega)⟩
      have g1 : wr.cell? ⟨ga, k, none⟩ = some (.int .u8 x) := (C1.out.below hbl).dcell (by rw [HDV.out]; rfl) hx
      have g2 : wr.cell? ⟨db, 0 + k, none⟩ = some (.int .u8 x) := by
        have := (HV1.out.keep hbl).cell k hlt
        rw [this, List.getD_eq_getElem?_getD, hx]; rfl
      rw [Nat.zero_add] at g2
      unfold maxLen at hma
      have HBL := hide hbl
      clear hx hbl
      go_wp2_with fail
      go_quiet (fail)
      go_wp2_with fail
      go_roundg (Nx - (k + 1))
      case measure => go_light; omega
      case rel => go_light; exact ⟨k + 1, by omega, rfl, by simp, below_dn HBL.out nq⟩
    · have hlz : ¬ ((k : Int) < (Nx : Int)) := by omega
      obtain rfl : k = Nx := by omega
      have HBL := hide hbl
      clear hbl
      go_wp2_with fail
      refine (xlen_any B cb dv ev s wr (C1.out.below HBL.out)).mono ?_
      rintro e w3 ⟨rfl, rfl⟩
      rw [← HX.out]
      go_wp2_with fail
      go_loopg [16] X (fun gk v wi => ∃ j : Nat, j ≤ X ∧ gk = X - j ∧ v = .int .i64 j ∧ Below w2.heap.size w2 wi)
      case atStart =>
        go_light
        exact ⟨0, Nat.zero_le _, rfl, rfl, HBL.out⟩
      case round =>
        obtain ⟨j, hj, rfl, rfl, hbl⟩ := hrel
        obtain ⟨w5, hw5⟩ : ∃ w5, w5 = wr := ⟨_, rfl⟩
        rw [← hw5] at hbl ⊢
        have HB5 := hide hbl
        clear hbl hw5
        by_cases hlt : j < X
        · have hlz : (j : Int) < (X : Int) := by omega
          obtain ⟨⟨x1, x2, x3⟩, hx⟩ : ∃ x, s.extra[j]? = some x := ⟨_, List.getElem?_eq_getElem (by have := HX.out; omega)⟩
          have HXJ := hide hx
          obtain rfl := HV2.out.adr (by omega)
          obtain rfl := HV3.out.adr (by omega)
          obtain rfl := HV4.out.adr (by omega)
          clear hx
          go_wp2_with fail
          refine (x_any B cb dv ev s j (x1, x2, x3) w5 (C1.out.below HB5.out) HXJ.out (by have := HX.out; omega)).mono ?_
          rintro e w7 ⟨rfl, hb7⟩
          have hb7' : Below w2.heap.size w2 w7 := below_after HB5.out hb7
          have HB7 := hide hb7'
          have g2 : w7.cell? ⟨ab, 0 + j, none⟩ = some (.int .i64 x1) := by
            have := (HV2.out.keep hb7').cell j hlt
            rw [this, List.getD_eq_getElem?_getD, HXJ.out]; rfl
          have g3 : w7.cell? ⟨cb', 0 + j, none⟩ = some (.int .i64 x2) := by
            have := (HV3.out.keep hb7').cell j hlt
            rw [this, List.getD_eq_getElem?_getD, HXJ.out]; rfl
          have g4 : w7.cell? ⟨pb, 0 + j, none⟩ = some (.bool x3) := by
            have := (HV4.out.keep hb7').cell j hlt
            rw [this, List.getD_eq_getElem?_getD, HXJ.out]; rfl
          rw [Nat.zero_add] at g2 g3 g4
          clear hb7 hb7'
          go_wp2_with fail
          go_roundg (X - (j + 1))
          case measure => go_light; omega
          case rel => go_light; exact ⟨j + 1, by omega, rfl, by simp, HB7.out⟩
        · have hlz : ¬ ((j : Int) < (X : Int)) := by omega
          go_wp2_with fail
          refine (run_any B cb dv ev s w5 (C1.out.below HB5.out)).mono ?_
          rintro e w7 ⟨rfl, n7, h7⟩
          have HB7 : Hid (Below w2.heap.size w2 w7) := by rw [h7]; exact below_dn HB5.out _
          rw [← HRA.out, ← HRR.out, ← HRP.out]
          clear h7
          go_wp2_with fail
          go_ret
          exact ⟨rfl, below_after HB1.out HB7.out⟩

end Go.Proofs.Qxb6603268a
