/- FnSameIsEquivalence (function 7): the walk. -/
import Derived.Test.Qxb6602803aCopy
namespace Go.Proofs.Qxb6602803a
open Go.RowKit
set_option linter.unusedVariables false

def Yes (w : World) (e : Ending) (w' : World) : Prop := e = .returned (.bool true) ∧ Below w.heap.size w w'

set_option maxRecDepth 100000 in
set_option maxHeartbeats 4000000 in
theorem law_any (n1 c1 b1 o1 n2 c2 b2 o2 n3 c3 b3 o3 : Nat) (a1 a2 a3 : Option Addr) (S1 S2 S3 : Nat → ByteArray) (w : World) (h1 : IsS w w.heap.size a1 b1 o1 n1 c1 S1) (h2 : IsS w w.heap.size a2 b2 o2 n2 c2 S2) (h3 : IsS w w.heap.size a3 b3 o3 n3 c3 S3) :
    Calls Try.prog 7 #[.slice a1 n1 c1, .slice a2 n2 c2, .slice a3 n3 c3] w fun e w' => Yes w e w' := by
  have H1 := hide h1
  have H2 := hide h2
  have H3 := hide h3
  have FT : Hid (Yes w (.returned (.bool true)) w) := ⟨rfl, Below.refl _ _⟩
  clear h1 h2 h3
  go_enter Try.func7, Try.ntmps7
  go_wp2_with fail
  refine (bytes16 w.heap.size n1 c1 b1 o1 n2 c2 b2 o2 n3 c3 b3 o3 a1 a2 a3 S1 S2 S3 w H1.out H2.out H3.out).mono ?_
  rintro e w1 ⟨⟨b, rfl⟩, hww⟩
  rw [hww]
  clear hww w1
  cases b with
  | false =>
    go_wp2_with fail
    go_ret
    exact FT.out
  | true =>
  by_cases l1 : n1 ≤ 65536
  case neg =>
    have i1 : (65536 : Int) < (n1 : Int) := by omega
    go_wp2_with fail
    go_ret
    exact FT.out
  have i1 : ¬ (65536 : Int) < (n1 : Int) := by omega
  by_cases l2 : n2 ≤ 65536
  case neg =>
    have i2 : (65536 : Int) < (n2 : Int) := by omega
    go_wp2_with fail
    go_ret
    exact FT.out
  have i2 : ¬ (65536 : Int) < (n2 : Int) := by omega
  by_cases l3 : n3 ≤ 65536
  case neg =>
    have i3 : (65536 : Int) < (n3 : Int) := by omega
    go_wp2_with fail
    go_ret
    exact FT.out
  have i3 : ¬ (65536 : Int) < (n3 : Int) := by omega
  go_wp2_with fail
  refine (listBytes_any w.heap.size n1 c1 b1 o1 a1 S1 w H1.out l1).mono ?_
  rintro e w1 ⟨⟨z1, rfl, hz1, hy1⟩, hww⟩
  have HY1 := hide hy1
  clear hy1
  rw [hww]
  clear hww w1
  go_wp2_with fail
  refine (listBytes_any w.heap.size n2 c2 b2 o2 a2 S2 w H2.out l2).mono ?_
  rintro e w1 ⟨⟨z2, rfl, hz2, _⟩, hww⟩
  rw [hww]
  clear hww w1
  have v1 : IntKind.i64.wrap ((z1 : Int) + (z2 : Int)) = (z1 : Int) + (z2 : Int) := by rw [IntKind.wrap_i64]; omega
  go_wp2_with fail
  refine (listBytes_any w.heap.size n3 c3 b3 o3 a3 S3 w H3.out l3).mono ?_
  rintro e w1 ⟨⟨z3, rfl, hz3, _⟩, hww⟩
  rw [hww]
  clear hww w1
  have v2 : IntKind.i64.wrap ((z1 : Int) + (z2 : Int) + (z3 : Int)) = (z1 : Int) + (z2 : Int) + (z3 : Int) := by rw [IntKind.wrap_i64]; omega
  by_cases l4 : 1048576 < z1 + z2 + z3
  case pos =>
    have i4 : (1048576 : Int) < (z1 : Int) + (z2 : Int) + (z3 : Int) := by omega
    go_wp2_with fail
    go_ret
    exact FT.out
  have i4 : ¬ (1048576 : Int) < (z1 : Int) + (z2 : Int) + (z3 : Int) := by omega
  have hnq : ∀ w a l c, (binOp .neq 31 (.slice a l c) (.slice none 0 0)).run Try.prog w = .ok (.bool (!a.isNone)) w := fun w a l c => run_neq_slice_nil_any w 31 9 a l c 0 0 Try.underlying31
  go_upto_if 42 with fail
  clear v1 v2 i1 i2 i3 i4
  go_cut [0, 7] from 42 to 49 (fun v v7 wx => Copied w n1 S1 v wx)
  case first =>
    cases a1 with
    | none =>
      obtain ⟨rfl, rfl⟩ := H1.out.nil rfl
      go_wp2_with fail
      go_meet
      exact ⟨none, 0, rfl, isS_nil _ _ _ _ _, Below.refl _ _⟩
    | some a =>
      have hmk := run_make_row' (P := Try.prog) 31 9 (.string ByteArray.empty) 16 Try.underlying31 Try.inf9 rfl .i64 .i64 n1 (by omega) (by omega)
      obtain ⟨w9, hcp, hs9, hb9⟩ := copy_all H1.out (Nat.le_refl _) (by omega)
      have F : Hid (Copied w n1 S1 (.slice (some ⟨w.heap.size, 0, none⟩) n1 n1) w9) := ⟨_, _, rfl, hs9, hb9⟩
      clear hs9 hb9
      go_wp2_with fail
      go_meet
      exact F.out
  case rest =>
  obtain ⟨w1, hw9⟩ : ∃ x, x = wc := ⟨_, rfl⟩
  obtain ⟨ga1, gb1, rfl, hs1, hb1⟩ := hcut
  rw [← hw9] at hs1 hb1 ⊢
  have T1 := hide hs1
  have BL1 := hide hb1
  clear hs1 hb1 hw9 wc
  go_upto_if 51 with fail
  go_cut [1, 8] from 51 to 58 (fun v v7 wx => Copied w1 n2 S2 v wx)
  case first =>
    cases a2 with
    | none =>
      obtain ⟨rfl, rfl⟩ := H2.out.nil rfl
      go_wp2_with fail
      go_meet
      exact ⟨none, 0, rfl, isS_nil _ _ _ _ _, Below.refl _ _⟩
    | some a =>
      have hmk := run_make_row' (P := Try.prog) 31 9 (.string ByteArray.empty) 16 Try.underlying31 Try.inf9 rfl .i64 .i64 n2 (by omega) (by omega)
      obtain ⟨w9, hcp, hs9, hb9⟩ := copy_all (H2.out.keep BL1.out) BL1.out.size (by omega)
      have F : Hid (Copied w1 n2 S2 (.slice (some ⟨w1.heap.size, 0, none⟩) n2 n2) w9) := ⟨_, _, rfl, hs9, hb9⟩
      clear hs9 hb9
      go_wp2_with fail
      go_meet
      exact F.out
  case rest =>
  obtain ⟨w2, hw9⟩ : ∃ x, x = wc := ⟨_, rfl⟩
  obtain ⟨ga2, gb2, rfl, hs2, hb2⟩ := hcut
  rw [← hw9] at hs2 hb2 ⊢
  have T2 := hide hs2
  have BL2 := hide hb2
  clear hs2 hb2 hw9 wc
  have BL2' : Hid (Below w.heap.size w w2) := below_after BL1.out BL2.out
  go_upto_if 60 with fail
  go_cut [2, 9] from 60 to 67 (fun v v7 wx => Copied w2 n3 S3 v wx)
  case first =>
    cases a3 with
    | none =>
      obtain ⟨rfl, rfl⟩ := H3.out.nil rfl
      go_wp2_with fail
      go_meet
      exact ⟨none, 0, rfl, isS_nil _ _ _ _ _, Below.refl _ _⟩
    | some a =>
      have hmk := run_make_row' (P := Try.prog) 31 9 (.string ByteArray.empty) 16 Try.underlying31 Try.inf9 rfl .i64 .i64 n3 (by omega) (by omega)
      obtain ⟨w9, hcp, hs9, hb9⟩ := copy_all (H3.out.keep BL2'.out) BL2'.out.size (by omega)
      have F : Hid (Copied w2 n3 S3 (.slice (some ⟨w2.heap.size, 0, none⟩) n3 n3) w9) := ⟨_, _, rfl, hs9, hb9⟩
      clear hs9 hb9
      go_wp2_with fail
      go_meet
      exact F.out
  case rest =>
  obtain ⟨w3, hw9⟩ : ∃ x, x = wc := ⟨_, rfl⟩
  obtain ⟨ga3, gb3, rfl, hs3, hb3⟩ := hcut
  rw [← hw9] at hs3 hb3 ⊢
  have T3 := hide hs3
  have BL3 := hide hb3
  clear hs3 hb3 hw9 wc
  have BL3' : Hid (Below w.heap.size w w3) := below_after BL2'.out BL3.out
  have s1 : Hid (IsS w3 w3.heap.size ga1 gb1 0 n1 n1 S1) := ((T1.out.keep BL2.out).mono BL2.out.size).keep BL3.out |>.mono BL3.out.size
  have s2 : Hid (IsS w3 w3.heap.size ga2 gb2 0 n2 n2 S2) := (T2.out.keep BL3.out).mono BL3.out.size
  have s3 : Hid (IsS w3 w3.heap.size ga3 gb3 0 n3 n3 S3) := T3.out
  clear T1 T2 T3 BL1 BL2 BL3 BL2' H1 H2 H3
  go_wp2_with fail
  refine (zzsame_any w3.heap.size n1 n1 n1 n1 gb1 0 gb1 0 ga1 ga1 S1 S1 w3 s1.out s1.out (Nat.le_refl _)).mono ?_
  rintro e w4 ⟨rfl, hb4⟩
  rw [sameB_refl]
  have B4 := hide hb4
  clear hb4
  go_wp2_with fail
  refine (zzsame_any w3.heap.size n1 n2 n1 n2 gb1 0 gb2 0 ga1 ga2 S1 S2 w4 (s1.out.keep B4.out) (s2.out.keep B4.out) B4.out.size).mono ?_
  rintro e w5 ⟨rfl, hb5⟩
  obtain ⟨ab, hab⟩ : ∃ x, x = sameB n1 n2 S1 S2 := ⟨_, rfl⟩
  rw [← hab]
  have HAB := hide hab
  have B5 : Hid (Below w3.heap.size w3 w5) := below_after B4.out hb5
  clear hb5 hab
  go_wp2_with fail
  refine (zzsame_any w3.heap.size n2 n1 n2 n1 gb2 0 gb1 0 ga2 ga1 S2 S1 w5 (s2.out.keep B5.out) (s1.out.keep B5.out) B5.out.size).mono ?_
  rintro e w6 ⟨rfl, hb6⟩
  rw [sameB_symm, ← HAB.out]
  have B6 : Hid (Below w3.heap.size w3 w6) := below_after B5.out hb6
  clear hb6
  have hne : (ab != ab) = false := by simp
  go_upto_region 22 with fail
  go_cut [89] from 80 to 89 (fun v wx => v = .bool false ∧ Below w3.heap.size w3 wx)
  case first =>
    cases ab with
    | false =>
      go_wp2_with fail
      go_meet
      exact ⟨rfl, B6.out⟩
    | true =>
      go_wp2_with fail
      refine (zzsame_any w3.heap.size n1 n3 n1 n3 gb1 0 gb3 0 ga1 ga3 S1 S3 w6 (s1.out.keep B6.out) (s3.out.keep B6.out) B6.out.size).mono ?_
      rintro e w7 ⟨rfl, hb7⟩
      have B7 : Hid (Below w3.heap.size w3 w7) := below_after B6.out hb7
      clear hb7
      obtain ⟨ac, hac⟩ : ∃ x, x = sameB n1 n3 S1 S3 := ⟨_, rfl⟩
      rw [← hac]
      have HAC := hide hac
      clear hac
      go_wp2_with fail
      refine (zzsame_any w3.heap.size n2 n3 n2 n3 gb2 0 gb3 0 ga2 ga3 S2 S3 w7 (s2.out.keep B7.out) (s3.out.keep B7.out) B7.out.size).mono ?_
      rintro e w8 ⟨rfl, hb8⟩
      have B8 : Hid (Below w3.heap.size w3 w8) := below_after B7.out hb8
      clear hb8
      rw [← sameB_trans HAB.out.symm, ← HAC.out]
      go_wp2_with fail
      go_meet
      exact ⟨by simp, B8.out⟩
  case rest =>
  obtain ⟨rfl, hb9⟩ := hcut
  obtain ⟨w9, hw9⟩ : ∃ x, x = wc := ⟨_, rfl⟩
  rw [← hw9] at hb9 ⊢
  have B9 := hide hb9
  clear hb9 hw9 wc B4 B5 B6 hne
  by_cases hn0 : n1 = 0
  · subst hn0
    have F : Hid (Yes w (.returned (.bool true)) w9) := ⟨rfl, below_after BL3'.out B9.out⟩
    go_wp2_with fail
    go_ret
    exact F.out
  obtain ⟨K, rfl⟩ : ∃ K, n1 = K + 1 := ⟨n1 - 1, by omega⟩
  obtain rfl := s1.out.adr (by omega)
  have iw : IntKind.i64.wrap ((K : Int) + 1 - 1) = (K : Int) := by rw [IntKind.wrap_i64]; omega
  have k0 : (0 : Int) < (K : Int) + 1 := by omega
  have k1 : (K : Int) ≤ (K : Int) + 1 := by omega
  have sp : Hid (IsS w3 w3.heap.size (some ⟨gb1, 0, none⟩) gb1 0 K (K + 1) S1) := ⟨(fun e => by cases e), fun _ => rfl, by omega, by omega, fun i hi => s1.out.cell i (by omega), fun _ => s1.out.blk (by omega)⟩
  go_wp2_with fail
  refine (zzsame_any w3.heap.size (K + 1) K (K + 1) (K + 1) gb1 0 gb1 0 _ _ S1 S1 w9 (s1.out.keep B9.out) (sp.out.keep B9.out) B9.out.size).mono ?_
  rintro e w10 ⟨rfl, hb10⟩
  rw [sameB_len (by omega)]
  have B10 : Hid (Below w3.heap.size w3 w10) := below_after B9.out hb10
  clear hb10
  go_wp2_with fail
  refine (clone_any _ gb1 0 (K + 1) (K + 1) S1 w3.heap.size w10 (s1.out.keep B10.out) B10.out.size (by omega)).mono ?_
  rintro e w11 (⟨hno, _⟩ | ⟨_, rfl, hr11, hb11, hs11⟩)
  · cases hno
  have B11 : Hid (Below w3.heap.size w3 w11) := below_after B10.out hb11
  obtain ⟨x, hx⟩ : ∃ x, x = S1 0 := ⟨_, rfl⟩
  have hxs : x.size ≤ 1048576 := by rw [hx]; exact HY1.out (by omega) 0 (by omega)
  have hxs2 : ¬ 9223372036854775807 < x.size + 1 := by omega
  have g0 : w11.cell? ⟨gb1, 0, none⟩ = some (.string x) := by rw [hx]; exact (s1.out.keep B11.out).cell 0 (by omega)
  have g1 : w11.cell? ⟨w10.heap.size, 0, none⟩ = some (.string x) := by rw [hx]; exact World.rowIs.cell hr11 (by omega)
  have g2 := World.rowIs.frozen hr11 0
  have HR := hide hr11
  have HX := hide hx
  have HS11 := hide hs11
  have HB11 := hide hb11
  clear hr11 hx hs11 hb11
  go_upto_region 29 with fail
  obtain ⟨Y, hY⟩ : ∃ Y, Y = x ++ { data := #[120] } := ⟨_, rfl⟩
  rw [← hY]
  have hYx : Y.toList ≠ x.toList := by rw [hY]; exact add_ne x _ (by decide)
  obtain ⟨w12, hw12⟩ : ∃ w12, w12 = w11.setCell ⟨w10.heap.size, 0, none⟩ (.string Y) := ⟨_, rfl⟩
  rw [← hw12]
  have hsz : w12.heap.size = w10.heap.size + 1 := by rw [hw12]; simpa using HS11.out
  have B12 : Hid (Below w3.heap.size w3 w12) := by rw [hw12]; exact B11.out.setCell B10.out.size _
  have hrow : w12.rowIs w10.heap.size 9 (K + 1) (fun i => .string ((fun j => if j = 0 then Y else S1 j) i)) := by
    rw [hw12]
    refine (World.rowIs.set HR.out 0 (.string Y)).congr (fun j _ => ?_)
    by_cases e : j = 0
    · simp [e]
    · simp [e]
  have sd : Hid (IsS w12 w12.heap.size (some ⟨w10.heap.size, 0, none⟩) w10.heap.size 0 (K + 1) (K + 1) (fun j => if j = 0 then Y else S1 j)) := (isS_row hrow (by omega)).mono (by omega)
  have sa : Hid (IsS w12 w12.heap.size (some ⟨gb1, 0, none⟩) gb1 0 (K + 1) (K + 1) S1) := (s1.out.keep B12.out).mono B12.out.size
  have f1 : Hid (sameB (K + 1) (K + 1) S1 (fun j => if j = 0 then Y else S1 j) = false) := sameB_at (by omega) (by simp only [if_true]; rw [← HX.out]; exact fun h => hYx h.symm)
  have f2 : Hid (sameB (K + 1) (K + 1) (fun j => if j = 0 then Y else S1 j) S1 = false) := sameB_at (by omega) (by simp only [if_true]; rw [← HX.out]; exact hYx)
  clear hY hYx hw12 hrow hsz g0 g1 g2
  go_wp2_with fail
  refine (zzsame_any w12.heap.size (K + 1) (K + 1) (K + 1) (K + 1) gb1 0 w10.heap.size 0 _ _ S1 _ w12 sa.out sd.out (Nat.le_refl _)).mono ?_
  rintro e w13 ⟨rfl, hb13⟩
  rw [f1.out]
  have B13 := hide hb13
  clear hb13
  go_wp2_with fail
  refine (zzsame_any w12.heap.size (K + 1) (K + 1) (K + 1) (K + 1) w10.heap.size 0 gb1 0 _ _ _ S1 w13 (sd.out.keep B13.out) (sa.out.keep B13.out) B13.out.size).mono ?_
  rintro e w14 ⟨rfl, hb14⟩
  rw [f2.out]
  have F : Hid (Yes w (.returned (.bool true)) w14) := ⟨rfl, below_after BL3'.out (below_after B12.out (below_after B13.out hb14))⟩
  clear hb14
  go_wp2_with fail
  go_ret
  exact F.out

end Go.Proofs.Qxb6602803a
