/- hold (function 31) leaves holdF. -/
import Derived.Test.Qxb6603268aHoldAid
namespace Go.Proofs.Qxb6603268a
open Go.RowKit Cu
set_option linter.unusedVariables false

set_option maxRecDepth 100000 in
set_option maxHeartbeats 4000000 in
theorem hold_any (B cb : Nat) (dv ev : Value) (s : St) (b : Int) (n : Nat) (p : Bool) (w : World) (M : Nat) (h : CutAt w B cb dv ev s) (hW : Wf s M) (hM : M + n ≤ 3000000) :
    Calls Try.prog 31 #[.pointer (some ⟨cb, 0, none⟩), .int .u8 b, .int .i64 n, .bool p] w fun e w' => Held w B cb dv ev (holdF s b n p) e w' := by
  have hcl := h.lt
  have hdl := hW.dlen
  have H := hide h
  have HW := hide hW
  by_cases hn0 : n = 0
  · subst hn0
    have F : Hid (Left w B cb dv ev s w) := h.left
    clear h hW
    go_enter Try.func31, Try.ntmps31
    go_wp2
    go_end0
    exact ⟨rfl, F.out⟩
  have n0 : ((n : Int) == 0) = false := by simp; omega
  by_cases hb : b = 32 ∨ b = 10
  · have HB := hide hb
    obtain ⟨hdiff, hq⟩ : ∃ q : Bool, q = decide (¬ s.data.getLast? = some b) := ⟨_, rfl⟩
    have HQ := hide hq
    clear h hW hq
    go_enter Try.func31, Try.ntmps31
    go_upto_region 1 with fail
    go_cut [16] from 11 to 16 (fun v wx => v = .bool false ∧ wx = w)
    case first =>
      rcases hb with rfl | rfl
      all_goals (go_wp2_with fail; go_meet; exact ⟨rfl, rfl⟩)
    case rest =>
    obtain ⟨rfl, hww⟩ := hcut
    rw [hww]
    clear hww wc
    go_upto_region 3 with fail
    go_cut [55] from 31 to 55 (fun v wx => v = .bool hdiff ∧ Left w B cb dv ev s wx)
    case first =>
      obtain ⟨a, cap, N, hdv, hN, hpos⟩ := H.out.dat
      have c0 : w.cell? ⟨cb, 0, none⟩ = some (.slice a N cap) := by rw [← hdv]; exact H.out.c0
      have hN4 : N ≤ M := by omega
      by_cases hN0 : N = 0
      · have F0 : hdiff = true := by rw [HQ.out, List.eq_nil_of_length_eq_zero (hN.symm.trans hN0)]; simp
        have F := hide F0
        clear F0
        subst hN0
        clear hpos hdv hN hb
        go_quiet (fail)
        go_wp2_with fail
        go_meet
        exact ⟨by rw [F.out], H.out.left.drewN nq⟩
      · obtain ⟨g, rfl, hcap, hmax⟩ := hpos (by omega)
        obtain ⟨K, rfl⟩ : ∃ K, N = K + 1 := ⟨N - 1, by omega⟩
        obtain ⟨x, hx⟩ : ∃ x, s.data.getLast? = some x := by
          cases hq : s.data.getLast? with
          | none => rw [List.getLast?_eq_none_iff] at hq; rw [hq] at hN; simp at hN
          | some x => exact ⟨x, rfl⟩
        have F0 : hdiff = decide (¬ x = b) := by rw [HQ.out, hx]; simp
        have F := hide F0
        clear F0
        rw [List.getLast?_eq_getElem?, ← hN] at hx
        have cx : w.cell? ⟨g, K, none⟩ = some (.int .u8 x) := H.out.dcell (by rw [hdv]; rfl) hx
        unfold maxLen at hmax
        have icap : ((K : Int) + 1) ≤ (cap : Int) := by omega
        have iw : IntKind.i64.wrap ((K : Int) + 1 - 1) = (K : Int) := by rw [IntKind.wrap_i64]; omega
        have k0 : ((K : Int) + 1 == 0) = false := by simp; omega
        have iw2 : IntKind.i64.wrap (K : Int) = (K : Int) := by rw [IntKind.wrap_i64]; omega
        clear hpos hdv hN hb hx hN0
        by_cases hxb : x = b
        · subst hxb
          go_quiet (fail)
          go_wp2_with fail
          go_meet
          exact ⟨by rw [F.out]; simp, H.out.left.drewN nq⟩
        · have hxb1 : (x == b) = false := by simpa using hxb
          have hxb2 : (x != b) = true := by simpa using hxb
          go_quiet (fail)
          go_wp2_with fail
          go_meet
          exact ⟨by rw [F.out]; simp [hxb], H.out.left.drewN nq⟩
    case rest =>
    obtain ⟨rfl, hL⟩ := hcut
    go_upto_if 55 with fail
    go_cut [2] from 56 to 86 (fun v wx => Mid w B cb dv ev b p (holdF s b n p) M n v wx)
    case first =>
      obtain ⟨dv1, ev1, C1, K1, F1⟩ := hL
      cases hdiff with
      | false =>
        have F : Hid (Mid w B cb dv ev b p (holdF s b n p) M n (.int .i64 n) wc) := by
          have hl : s.data.getLast? = some b := by simpa using HQ.out
          exact ⟨s, n, rfl, by omega, Nat.le_refl _, ⟨dv1, ev1, C1, K1, F1⟩, HW.out.mono (by omega), hl, (holdF_run HB.out hl n p (by omega)).symm⟩
        clear C1 K1 F1 hb
        go_wp2_with fail
        go_meet
        exact F.out
      | true =>
        have hl : ¬ s.data.getLast? = some b := by simpa using HQ.out
        obtain ⟨a, cap, N, hdv, hN, hpos⟩ := C1.dat
        have d0 : wc.cell? ⟨cb, 0, none⟩ = some (.slice a N cap) := by rw [← hdv]; exact C1.c0
        have d5 := C1.c5
        have d6 := C1.c6
        have d7 := C1.c7
        have f5 := C1.fz 5
        have f6 := C1.fz 6
        have f7 := C1.fz 7
        obtain ⟨g1, c1, w5, a1, a2, a3, a4⟩ := new_append C1 hdv hN b N rfl (by omega)
        obtain ⟨m, rfl⟩ : ∃ m, n = m + 1 := ⟨n - 1, by omega⟩
        have HL : Hid (Left w B cb dv ev (newRun s b) (w5.setCell ⟨cb, 0, none⟩ (.slice (some ⟨g1, 0, none⟩) (N + 1) c1))) := Left.step (s1 := s) ⟨K1, F1⟩ a4
        have hHl := hide hl
        have hHN := hide hN
        have hN4 : N ≤ M := by omega
        have iw : IntKind.i64.wrap (m : Int) = (m : Int) := by rw [IntKind.wrap_i64]; omega
        clear C1 K1 F1 hb hdv hpos a4 hN hl
        by_cases hm0 : m = 0
        · subst hm0
          go_wp2_with (at_builtin; refine wpList_app rfl (.tmp 76) (.tmp 78) 25 rfl (.slice a N cap) (.slice (some ⟨wc.heap.size, 0, none⟩) 1 1) (.slice (some ⟨g1, 0, none⟩) (N + 1) c1) w5 (by simp [Act.eval]) (by simp [Act.eval]) a1 ?_)
          go_end0
          exact ⟨rfl, by rw [holdF_new1 HB.out hHl.out]; exact HL.out⟩
        · have m0 : ((m : Int) == 0) = false := by simpa using hm0
          go_wp2_with (at_builtin; refine wpList_app rfl (.tmp 76) (.tmp 78) 25 rfl (.slice a N cap) (.slice (some ⟨wc.heap.size, 0, none⟩) 1 1) (.slice (some ⟨g1, 0, none⟩) (N + 1) c1) w5 (by simp [Act.eval]) (by simp [Act.eval]) a1 ?_)
          go_meet
          exact ⟨newRun s b, m, rfl, by omega, by omega, HL.out, wf_new HW.out b, new_last s b, (holdF_new HB.out hHl.out m p (by omega)).symm⟩
    case rest =>
    obtain ⟨s', m, rfl, hm1, hmn, hL, hW', hl', hF⟩ := hcut
    have HF := hide hF
    have HW1 := hide hW'
    have HL1 := hide hl'
    obtain ⟨dv1, ev1, C1, K1, F1⟩ := hL
    have R1 : Hid (CutIs w B cb dv ev dv1 ev1 s' wc) := ⟨K1, F1⟩
    obtain ⟨pre, k, hd, ha, hr⟩ := hW'.run b hl' hb
    obtain ⟨q, hq⟩ : ∃ q, q = (s'.runPad && p) := ⟨_, rfl⟩
    obtain ⟨rp, hrp⟩ : ∃ rp, rp = s'.runPad := ⟨_, rfl⟩
    have d7 : wc.cell? ⟨cb, 7, none⟩ = some (.bool rp) := by rw [hrp]; exact C1.c7
    have f7 := C1.fz 7
    have HC1 := hide C1
    have HD1 := hide hd
    have HA1 := hide ha
    have HR1 := hide hr
    have HQ1 := hide hq
    have HP1 := hide hrp
    have hlen : pre.length + k + 1 ≤ M + 1 := by have := hW'.dlen; rw [hd] at this; simpa [Nat.add_assoc] using this
    have hxl : s'.extra.length ≤ M + 1 := hW'.xlen
    clear hF hW' hl' C1 K1 F1 hd ha hr hq hrp hb
    go_upto_region 8 with fail
    go_cut [] from 87 to 96 (fun wx => Left wc B cb dv1 ev1 { s' with runPad := q } wx)
    case first =>
      cases rp with
      | false =>
        have F : Hid (Left wc B cb dv1 ev1 { s' with runPad := q } (wc.setCell ⟨cb, 7, none⟩ (.bool false))) := by
          have e : q = false := by rw [HQ1.out, ← HP1.out]; rfl
          subst e; exact left_set7 HC1.out false
        go_wp2_with fail
        go_meet
        exact F.out
      | true =>
        have F : Hid (Left wc B cb dv1 ev1 { s' with runPad := q } (wc.setCell ⟨cb, 7, none⟩ (.bool p))) := by
          have e : q = p := by rw [HQ1.out, ← HP1.out]; rfl
          subst e; exact left_set7 HC1.out q
        go_wp2_with fail
        go_meet
        exact F.out
    case rest =>
    obtain ⟨w1, hw1⟩ : ∃ w1, w1 = wc := ⟨_, rfl⟩
    rw [← hw1]
    obtain ⟨dv2, ev2, C2, K2, F2⟩ := hcut
    rw [← hw1] at C2 K2
    have R2 : Hid (CutIs w B cb dv ev dv2 ev2 s' w1) := R1.out.trans K2 F2
    clear K2 F2 R1 HC1 hw1 f7 d7 H hcl wc
    obtain ⟨ra, hra⟩ : ∃ ra, ra = pre.length := ⟨_, rfl⟩
    have hdl2 : s'.data.length = ra + k + 1 := by rw [HD1.out, hra]; simp; omega
    obtain ⟨g, cap, hdv2, hcap, hmax⟩ := C2.dform (by show 0 < s'.data.length; omega)
    have c0 : w1.cell? ⟨cb, 0, none⟩ = some (.slice (some ⟨g, 0, none⟩) (ra + k + 1) cap) := by rw [← hdl2, C2.c0, hdv2]
    have c5 : w1.cell? ⟨cb, 5, none⟩ = some (.int .i64 ra) := by rw [hra, ← HA1.out]; exact C2.c5
    rw [← hra] at hlen
    have HC2 := hide C2
    have HRA := hide hra
    have HDL2 := hide hdl2
    clear C2 hdv2 hcap hmax hra hdl2
    go_upto_region 9 with fail
    go_cut [8] from 97 to 108 (fun v wx => v = .int .i64 k ∧ Left w1 B cb dv2 ev2 { s' with runPad := q } wx)
    case first =>
      go_quiet (fail)
      go_wp2_with fail
      go_meet
      refine ⟨?_, HC2.out.left.drewN nq⟩
      congr 1
      omega
    case rest =>
    obtain ⟨rfl, dv3, ev3, C3, K3, F3⟩ := hcut
    obtain ⟨w3, hw3⟩ : ∃ w3, w3 = wc := ⟨_, rfl⟩
    rw [← hw3]
    rw [← hw3] at C3 K3
    have R3 : Hid (CutIs w B cb dv ev dv3 ev3 s' w3) := R2.out.trans K3 F3
    clear K3 F3 R2 HC2 hw3 c0 c5 wc
    have HC3 := hide C3
    by_cases h0 : 0 ≤ s'.runRep
    · obtain ⟨r, hr⟩ : ∃ r : Nat, s'.runRep = r := ⟨s'.runRep.toNat, by omega⟩
      have hrx : r < s'.extra.length := by rcases HR1.out with h | h <;> omega
      obtain ⟨x, hx⟩ : ∃ x, s'.extra[r]? = some x := ⟨_, List.getElem?_eq_getElem hrx⟩
      obtain ⟨xg, xcap, hev3, hxc, hxm⟩ := C3.xform (by show 0 < s'.extra.length; omega)
      have hcnt := HW1.out.cnt x (List.mem_of_getElem? hx)
      obtain ⟨y1, y2, y3, y4, y5⟩ := C3.xcell (g := xg) (by rw [hev3]; rfl) hx
      obtain ⟨X, hX⟩ : ∃ X, X = s'.extra.length := ⟨_, rfl⟩
      have c2 : w3.cell? ⟨cb, 2, none⟩ = some (.slice (some ⟨xg, 0, none⟩) X xcap) := by rw [hX, C3.c2, hev3]
      have c6 : w3.cell? ⟨cb, 6, none⟩ = some (.int .i64 r) := by rw [← hr]; exact C3.c6
      obtain ⟨cn, hcn⟩ : ∃ cn, cn = x.2.1 := ⟨_, rfl⟩
      rw [← hcn] at hcnt y2
      unfold maxLen at hxm
      rw [← hX] at hrx hxc hxl
      have hX1 := hide hX
      have hr1 := hide hr
      have hx1 := hide hx
      have hcn1 := hide hcn
      have hev1 := hide hev3
      clear C3 hX hr hx hcn hev3 y1 y3 h0
      go_upto_region 12 with fail
      go_cut [] from 129 to 144 (fun wx => Left w3 B cb dv3 ev3 { s' with extra := s'.extra.modify r (fun x => (x.1, x.2.1 + m, x.2.2)), runPad := q } wx)
      case first =>
        go_region
        all_goals (go_wp2_with fail; go_meet)
        all_goals
          have hh := left_count HC3.out (g := xg) (by rw [hev1.out]; rfl) hx1.out (m : Int)
          rw [← hcn1.out] at hh
          exact hh.drew
      case rest =>
      obtain ⟨dv4, ev4, C4, K4, F4⟩ := hcut
      obtain ⟨w4, hw4⟩ : ∃ w4, w4 = wc := ⟨_, rfl⟩
      rw [← hw4]
      rw [← hw4] at C4 K4
      have R4 : CutIs w B cb dv ev dv4 ev4 s' w4 := R3.out.trans K4 F4
      have hlx : (s'.extra.modify r (fun x => (x.1, x.2.1 + (m : Int), x.2.2))).length = X := by rw [List.length_modify]; exact hX1.out.symm
      obtain ⟨yg, ycap, hev4, hyc, hym⟩ := C4.xform (by rw [hlx]; omega)
      rw [hlx] at hev4 hyc
      obtain ⟨x', hx'⟩ : ∃ x', (s'.extra.modify r (fun x => (x.1, x.2.1 + (m : Int), x.2.2)))[r]? = some x' := ⟨_, List.getElem?_eq_getElem (by rw [hlx]; exact hrx)⟩
      obtain ⟨z1, z2, z3, z4, z5⟩ := C4.xcell (g := yg) (by rw [hev4]; rfl) hx'
      have e2 : w4.cell? ⟨cb, 2, none⟩ = some (.slice (some ⟨yg, 0, none⟩) X ycap) := by rw [C4.c2, hev4]
      have e6 : w4.cell? ⟨cb, 6, none⟩ = some (.int .i64 r) := by rw [← hr1.out]; exact C4.c6
      have e7 : w4.cell? ⟨cb, 7, none⟩ = some (.bool q) := C4.c7
      unfold maxLen at hym
      have F : Hid (Left w B cb dv ev (holdF s b n p) (w4.setCell ⟨yg, r * 3 + 2, none⟩ (.bool q))) := by
        have hh := left_pad C4 (g := yg) (by rw [hev4]; rfl) (by rw [hlx]; exact hrx) q
        rw [modify_twice] at hh
        rw [← HF.out, runF_rep (by rw [hr1.out]; omega)]
        have er : s'.runRep.toNat = r := by rw [hr1.out]; rfl
        rw [er, ← HQ1.out]
        exact Left.step R4 hh
      clear R4 K4 F4 C4 hw4 hx' hlx hev4 z1 z2 c2 c6 y2 y4 y5 wc
      go_wp2_with fail
      go_region
      all_goals (go_wp2_with fail; go_end0; exact ⟨rfl, F.out.drew⟩)
    · obtain ⟨rr, hrr⟩ : ∃ rr, rr = s'.runRep := ⟨_, rfl⟩
      have hneg : rr < 0 := by omega
      have c6 : w3.cell? ⟨cb, 6, none⟩ = some (.int .i64 rr) := by rw [hrr]; exact C3.c6
      have c5 : w3.cell? ⟨cb, 5, none⟩ = some (.int .i64 ra) := by rw [HRA.out, ← HA1.out]; exact C3.c5
      have HR0 := hide h0
      obtain ⟨g3, cap3, hdv3, hcap3, hmax3⟩ := C3.dform (by show 0 < s'.data.length; rw [HDL2.out]; omega)
      have hcap3 : ra + k + 1 ≤ cap3 := by have h9 : s'.data.length ≤ cap3 := hcap3; rw [HDL2.out] at h9; exact h9
      have hdv3 : dv3 = .slice (some ⟨g3, 0, none⟩) (ra + k + 1) cap3 := by rw [hdv3, ← HDL2.out]
      have c0 : w3.cell? ⟨cb, 0, none⟩ = some (.slice (some ⟨g3, 0, none⟩) (ra + k + 1) cap3) := by rw [C3.c0, hdv3]
      have f0 := C3.fz 0
      have hcl := C3.lt
      unfold maxLen at hmax3
      have iwk : IntKind.i64.wrap ((k : Int) + (m : Int)) = (k : Int) + (m : Int) := by rw [IntKind.wrap_i64]; omega
      have HDV3 := hide hdv3
      clear C3 hrr h0 hdv3
      by_cases h24 : 24 < k + m
      · have j24 : (24 : Int) < (k : Int) + (m : Int) := by omega
        have iwr : IntKind.i64.wrap ((ra : Int) + 1) = (ra : Int) + 1 := by rw [IntKind.wrap_i64]; omega
        have icp : (ra : Int) + 1 ≤ (cap3 : Int) := by omega
        go_upto_region 15 with fail
        go_cut [] from 165 to 179 (fun wx => Left w3 B cb dv3 ev3 { s' with data := s'.data.take (ra + 1), runPad := q } wx)
        case first =>
          go_region
          all_goals (go_wp2_with fail; go_meet)
          all_goals
            have hh := left_take (k := ra + 1) HC3.out HDV3.out HDL2.out.symm (by show ra + 1 ≤ s'.data.length; rw [HDL2.out]; omega)
            exact hh.drew
        case rest =>
        obtain ⟨dv4, ev4, C4, K4, F4⟩ := hcut
        obtain ⟨w4, hw4⟩ : ∃ w4, w4 = wc := ⟨_, rfl⟩
        rw [← hw4]
        rw [← hw4] at C4 K4
        have R4 : CutIs w B cb dv ev dv4 ev4 s' w4 := R3.out.trans K4 F4
        obtain ⟨X, hX⟩ : ∃ X, X = s'.extra.length := ⟨_, rfl⟩
        obtain ⟨xa, xc, hev4⟩ := C4.xslice
        have hev4 : ev4 = .slice xa X xc := by rw [hX]; exact hev4
        have d2 : w4.cell? ⟨cb, 2, none⟩ = some (.slice xa X xc) := by rw [C4.c2, hev4]
        have d6 := C4.c6
        have f6 := C4.fz 6
        have hX4 : X ≤ M + 1 := by omega
        have C5 := C4.set6 X
        have L5 : Kept w4 (w4.setCell ⟨cb, 6, none⟩ (.int .i64 X)) (foot cb dv4 ev4) := (Kept.refl _ _).setCell (by simp [foot]) _
        have HC5 := hide C5
        have HL5 := hide L5
        have HR4 := hide R4
        have HX := hide hX
        have HEV := hide hev4
        clear hw4 K4 F4 C4 R4 R3 HC3 c0 c5 c6 f0 hX hev4 C5 L5 hxl wc
        go_upto_region 17 with fail
        obtain ⟨w5, hw5⟩ : ∃ w5, w5 = w4.setCell ⟨cb, 6, none⟩ (.int .i64 X) := ⟨_, rfl⟩
        rw [← hw5]
        have C5 := HC5.out
        have L5 := HL5.out
        rw [← hw5] at C5 L5
        have k2 : w5.cell? ⟨cb, 2, none⟩ = some (.slice xa X xc) := by rw [C5.c2, HEV.out]
        have k5 : w5.cell? ⟨cb, 5, none⟩ = some (.int .i64 ra) := by rw [HRA.out, ← HA1.out]; exact C5.c5
        have k7 : w5.cell? ⟨cb, 7, none⟩ = some (.bool q) := C5.c7
        have hcl5 := C5.lt
        obtain ⟨wa, hwa⟩ : ∃ wa, wa = (w5.alloc (.cells #[.int .i64 ra, .int .i64 ((k : Int) + (m : Int)), .bool q] 69)).drew := ⟨_, rfl⟩
        have hba : Below w5.heap.size w5 wa := by subst hwa; exact ((Below.refl _ w5).alloc (Nat.le_refl _) _).drew
        have hla : w5.heap.size = w4.heap.size := by rw [hw5]; simp
        obtain ⟨g5, cap5, w6, a1, a2, a3, a4⟩ := extra_append C5 hba w5.heap.size 1 ((ra : Int), (k : Int) + (m : Int), q) (by subst hwa; exact Deep.blk_alloc_new w5 (.cells #[.int .i64 ra, .int .i64 ((k : Int) + (m : Int)), .bool q] 69)) (by show s'.extra.length + 1 ≤ _; rw [← HX.out]; omega)
        rw [HEV.out, hwa] at a1
        have F : Hid (Left w B cb dv ev (holdF s b n p) (w6.setCell ⟨cb, 2, none⟩ (.slice (some ⟨g5, 0, none⟩) (X + 1) cap5))) := by
          rw [← HF.out, runF_cut' HDL2.out (by rw [HA1.out, HRA.out]) HR0.out h24, ← HQ1.out, ← HX.out]
          have e5 : ({ s' with data := s'.data.take (ra + 1), runPad := q, runRep := (X : Int) } : St).extra.length = X := HX.out.symm
          rw [e5] at a4
          exact Left.step (s1 := s') HR4.out (Left.trans' L5 a4)
        have hX5 : ({ s' with data := s'.data.take (ra + 1), runPad := q, runRep := (X : Int) } : St).extra.length = X := HX.out.symm
        rw [hX5] at a1
        clear hX5 a4 C5 L5 hba hwa HL5 HC5 hw5 hla d2 d6 f6
        go_region_law (refine step_app rfl (.tmp 194) (.tmp 207) 50 rfl (.slice xa X xc) (.slice (some ⟨w5.heap.size, 0, none⟩) 1 1) (.slice (some ⟨g5, 0, none⟩) (X + 1) cap5) w6 (by simp [Act.eval]) (by simp [Act.eval]) a1 ?_)
        all_goals (go_wp2_with fail; go_end0; exact ⟨rfl, F.out⟩)
      · have j24 : ¬ (24 : Int) < (k : Int) + (m : Int) := by omega
        obtain ⟨wa, hwa⟩ : ∃ wa, wa = (w3.alloc (.cells #[.int .u8 b] 5)).drew := ⟨_, rfl⟩
        have hba : Below w3.heap.size w3 wa := by subst hwa; exact ((Below.refl _ w3).alloc (Nat.le_refl _) _).drew
        have hrep := repeat_any w3.heap.size b m wa (by subst hwa; exact cell_of_row _ _ 0 _ _ _ (Deep.blk_alloc_new w3 (.cells #[.int .u8 b] 5))) (by omega) (by omega)
        have hwa' := hide hwa
        clear hwa c5
        go_upto_region 10 with fail
        go_region_law (first
          | (refine step_call2 rfl 34 (.tmp 116) (.tmp 117) _ rfl (.slice (some ⟨w3.heap.size, 0, none⟩) 1 1) (.int .i64 m) (by simp [Act.eval]) (by simp [Act.eval]) (enter34 _ _) ?_; rw [← hwa'.out]; refine hrep.mono ?_; rintro e v1 ⟨cur, rfl, r1, r2, r3⟩; have t0 : v1.cell? ⟨cb, 0, none⟩ = some (.slice (some ⟨g3, 0, none⟩) (ra + k + 1) cap3) := ((below_after hba r3).cell (p := ⟨cb, 0, none⟩) hcl).trans c0; obtain ⟨g5, cap5, w6, a1, a2, a3, a4⟩ := data_append HC3.out (below_after hba r3) wa.heap.size m m (List.replicate m b) (by simp) (fun j x hx => rep_src r1 r2 hx) (by omega) (by show s'.data.length + m ≤ _; rw [HDL2.out]; omega); rw [HDV3.out] at a1; refine ⟨_, rfl, ?_⟩)
          | (refine step_app rfl (.tmp 114) (.tmp 118) 25 rfl (.slice (some ⟨g3, 0, none⟩) (ra + k + 1) cap3) (.slice (some ⟨wa.heap.size, 0, none⟩) m m) _ w6 (by simp [Act.eval]) (by simp [Act.eval]) a1 ?_))
        all_goals
          have F : Hid (Left w B cb dv ev (holdF s b n p) (w6.setCell ⟨cb, 0, none⟩ (.slice (some ⟨g5, 0, none⟩) (s'.data.length + m) cap5))) := by
            rw [← HF.out, runF_add' HDL2.out (by rw [HA1.out, HRA.out]) HR0.out h24, ← HQ1.out]
            exact Left.step (s1 := s') R3.out a4
          clear a1 a2 a3 a4 t0 r1 r2 r3 hrep hba
          go_wp2_with fail
          go_end0
          exact ⟨rfl, F.out⟩
  · have c0 := h.c0
    have hb1 : (b == 32) = false := by simp; omega
    have hb2 : (b == 10) = false := by simp; omega
    have hb3 : (b != 32) = true := by simp; omega
    have hb4 : (b != 10) = true := by simp; omega
    obtain ⟨wa, hwa⟩ : ∃ wa, wa = (w.alloc (.cells #[.int .u8 b] 5)).drew := ⟨_, rfl⟩
    have hba : Below w.heap.size w wa := by subst hwa; exact ((Below.refl _ w).alloc (Nat.le_refl _) _).drew
    have hrep := repeat_any w.heap.size b n wa (by subst hwa; exact cell_of_row _ _ 0 _ _ _ (Deep.blk_alloc_new w (.cells #[.int .u8 b] 5))) (by omega) (by omega)
    have hwa' := hide hwa
    clear h hW hwa
    go_enter Try.func31, Try.ntmps31
    go_wp2
    go_region_law (first
      | (refine step_call2 rfl 34 (.tmp 24) (.tmp 25) _ rfl (.slice (some ⟨w.heap.size, 0, none⟩) 1 1) (.int .i64 n) (by simp [Act.eval]) (by simp [Act.eval]) (enter34 _ _) ?_; rw [← hwa'.out]; refine hrep.mono ?_; rintro e w1 ⟨cur, rfl, r1, r2, r3⟩; have t0 : w1.cell? ⟨cb, 0, none⟩ = some dv := ((below_after hba r3).cell (p := ⟨cb, 0, none⟩) hcl).trans c0; obtain ⟨g, cap, w2, a1, a2, a3, a4⟩ := data_append H.out (below_after hba r3) wa.heap.size n n (List.replicate n b) (by simp) (fun j x hx => rep_src r1 r2 hx) (by omega) (by omega); refine ⟨_, rfl, ?_⟩)
      | (refine step_app rfl (.tmp 22) (.tmp 26) 25 rfl dv (.slice (some ⟨wa.heap.size, 0, none⟩) n n) (.slice (some ⟨g, 0, none⟩) (s.data.length + n) cap) w2 (by simp [Act.eval]) (by simp [Act.eval]) a1 ?_))
    all_goals (have F := hide a4; clear a1 a2 a3 a4 t0 r1 r2 r3 hrep hba; go_wp2; go_end0; exact ⟨rfl, by rw [holdF_other hb]; exact F.out⟩)

end Go.Proofs.Qxb6603268a
