/- zzd1Model (function 26) computes what a text held byte by byte leaves. -/
import Derived.Test.Qxb6603268aModelMem
namespace Go.Proofs.Qxb6603268a
open Go.RowKit Cu
set_option linter.unusedVariables false

set_option maxRecDepth 100000 in
set_option maxHeartbeats 4000000 in
theorem model_any (ta fa : Option Addr) (tb tp n tc fb fo m0 fc : Nat) (f : Nat → Int) (p : Nat → Bool) (w : World) (h1 : IsV w w.heap.size ta tb tp n tc (fun i => .int .u8 (f i))) (h2 : IsV w w.heap.size fa fb fo m0 fc (fun i => .bool (p i))) (hnm : n ≤ m0) (hn : n ≤ 3000000) :
    Calls Try.prog 26 #[.slice ta n tc, .slice fa m0 fc] w fun e w' => ModelIs w (text St.init (tz f p n)) e w' := by
  obtain ⟨B, hB⟩ : ∃ B, B = w.heap.size := ⟨_, rfl⟩
  have H1 := hide h1
  have H2 := hide h2
  rw [← hB] at H1 H2
  have HBB := hide hB
  have l1 := h1.le
  have m1 := h1.max
  have l2 := h2.le
  have m2 := h2.max
  clear h1 h2 hB
  go_enter Try.func26, Try.ntmps26
  go_wp2_with fail
  go_loopg [4, 5, 6, 7, 8, 9, 10, 11] n (fun gk v4 v5 v6 v7 v8 v9 v10 v11 wr => ∃ i : Nat, i ≤ n ∧ gk = n - i ∧ v11 = .int .i64 i ∧ ModS wr B v4 v5 v6 v7 v8 v9 v10 (text St.init (tz f p i)) ∧ Below B w wr ∧ (0 < i → i < n → f i ≠ f (i - 1)))
  case atStart =>
    go_light
    exact ⟨0, Nat.zero_le _, rfl, rfl, ⟨by rw [HBB.out]; exact mod_start w, rfl, rfl, rfl⟩, Below.refl _ _, fun h => absurd h (Nat.lt_irrefl _)⟩
  case round =>
    obtain ⟨i, hi, rfl, rfl, hM, hBl, hbd⟩ := hrel
    obtain ⟨dv, hdv⟩ : ∃ x, x = u4 := ⟨_, rfl⟩
    obtain ⟨av, hav⟩ : ∃ x, x = u5 := ⟨_, rfl⟩
    obtain ⟨cv, hcv⟩ : ∃ x, x = u6 := ⟨_, rfl⟩
    obtain ⟨pv, hpv⟩ : ∃ x, x = u7 := ⟨_, rfl⟩
    obtain ⟨r1, hr1⟩ : ∃ x, x = u8 := ⟨_, rfl⟩
    obtain ⟨r2, hr2⟩ : ∃ x, x = u9 := ⟨_, rfl⟩
    obtain ⟨r3, hr3⟩ : ∃ x, x = u10 := ⟨_, rfl⟩
    rw [← hdv, ← hav, ← hcv, ← hpv, ← hr1, ← hr2, ← hr3] at hM ⊢
    obtain ⟨s, hs⟩ : ∃ s, s = text St.init (tz f p i) := ⟨_, rfl⟩
    rw [← hs] at hM
    have HS := hide hs
    have HM := hide hM
    have HBl := hide hBl
    have HBD := hide hbd
    obtain ⟨w0, hw0⟩ : ∃ w0, w0 = wr := ⟨_, rfl⟩
    rw [← hw0] at HM HBl ⊢
    clear hdv hav hcv hpv hr1 hr2 hr3 hM hBl hbd hs hw0
    by_cases hlt : i < n
    · have hlz : (i : Int) < (n : Int) := by omega
      obtain rfl := H1.out.adr (by omega)
      obtain rfl := H2.out.adr (by omega)
      obtain ⟨b, hb⟩ : ∃ b, b = f i := ⟨_, rfl⟩
      have gb : w0.cell? ⟨tb, tp + i, none⟩ = some (.int .u8 b) := by rw [hb]; exact (H1.out.keep HBl.out).cell i hlt
      have iw : IntKind.i64.wrap ((i : Int) + 1) = (i : Int) + 1 := by rw [IntKind.wrap_i64]; omega
      have HBf := hide hb
      clear hb
      go_wp2_with fail
      go_loopg [13] (n - (i + 1)) (fun gj v wi => ∃ j : Nat, i + 1 ≤ j ∧ j ≤ n ∧ gj = n - j ∧ v = .int .i64 j ∧ wi = w0 ∧ ∀ k, i ≤ k → k < j → f k = b)
      case atStart =>
        go_light
        exact ⟨i + 1, Nat.le_refl _, by omega, rfl, by simp, rfl, fun k h1 h2 => by rw [HBf.out, show k = i by omega]⟩
      case round =>
        obtain ⟨j, hj1, hj, rfl, rfl, hww, hf⟩ := hrel
        rw [hww]
        obtain ⟨y, hy⟩ : ∃ y, y = f j := ⟨_, rfl⟩
        obtain ⟨q, hq⟩ : ∃ q : Bool, q = decide (j < n ∧ y = b) := ⟨_, rfl⟩
        have HQ := hide hq
        have HF := hide hf
        have HY := hide hy
        clear hq hf hy hww
        go_upto_region 5 with fail
        go_cut [39] from 28 to 39 (fun v wx => v = .bool q ∧ wx = w0)
        case first =>
          by_cases hlt2 : j < n
          · have hlz2 : (j : Int) < (n : Int) := by omega
            have g0 : w0.cell? ⟨tb, tp + j, none⟩ = some (.int .u8 y) := by rw [HY.out]; exact (H1.out.keep HBl.out).cell j hlt2
            by_cases hyb : y = b
            · have F : q = true := by rw [HQ.out]; simp [hlt2, hyb]
              subst hyb
              go_wp2_with fail
              go_meet
              exact ⟨by rw [F], rfl⟩
            · have F : q = false := by rw [HQ.out]; simp [hyb]
              have hyb1 : (y == b) = false := by simpa using hyb
              go_wp2_with fail
              go_meet
              exact ⟨by rw [F], rfl⟩
          · have hlz2 : ¬ (j : Int) < (n : Int) := by omega
            have F : q = false := by rw [HQ.out]; simp [hlt2]
            go_wp2_with fail
            go_meet
            exact ⟨by rw [F], rfl⟩
        case rest =>
        obtain ⟨rfl, hww⟩ := hcut
        rw [hww]
        clear hww wc
        cases q with
        | true =>
          have hq : j < n ∧ y = b := by simpa using HQ.out
          have hq1 := hq.1
          have hqb := hide hq.2
          clear hq
          go_wp2_with fail
          go_roundg (n - (j + 1))
          case measure => go_light; omega
          case rel =>
            go_light
            refine ⟨j + 1, by omega, by omega, rfl, by simp, rfl, fun k h1 h2 => ?_⟩
            by_cases e : k = j
            · subst e; rw [← HY.out]; exact hqb.out
            · exact HF.out k h1 (by omega)
        | false =>
          have hend : Hid (0 < j → j < n → f j ≠ f (j - 1)) := fun _ h2 => by
            have hq : ¬ (j < n ∧ y = b) := by simpa using HQ.out
            rw [HF.out (j - 1) (by omega) (by omega)]
            intro e
            exact hq ⟨h2, by rw [HY.out]; exact e⟩
          obtain ⟨m, hm⟩ : ∃ m, j = i + 1 + m := ⟨j - (i + 1), by omega⟩
          have HWF : Hid (Wf s i) := by rw [HS.out]; have := wf_text (wf_init 0) (tz f p i); rwa [tz_length, Nat.zero_add] at this
          have hdl : s.data.length ≤ i := HWF.out.dlen
          have hxl : s.extra.length ≤ i := HWF.out.xlen
          obtain ⟨hMd, hr1, hr2, hr3⟩ := HM.out
          clear HQ HY y u39
          by_cases hsp : b = 32 ∨ b = 10
          · have hl : ¬ s.data.getLast? = some b := by
              rcases Nat.eq_zero_or_pos i with h0 | h0
              · rw [HS.out, h0]; simp [tz, text, St.init]
              · obtain ⟨i', rfl⟩ : ∃ i', i = i' + 1 := ⟨i - 1, by omega⟩
                rw [HS.out, last_text (wf_init 0) f p i', HBf.out]
                intro e
                exact HBD.out h0 hlt (Option.some.inj e).symm
            have HT : Hid (text St.init (tz f p j) = runE s b m (every p i m)) := by
              have := text_run St.init f p i m b hsp (by rw [← HS.out]; exact hl) (fun k hk => HF.out (i + k) (by omega) (by omega))
              rw [← HS.out, ← hm] at this
              exact this
            have HMd := hide hMd
            have HMm := hide hm
            clear hl hMd hr1 hr2 hr3 hm HM
            go_upto_region 7 with fail
            go_cut [47] from 18 to 47 (fun v wx => v = .bool true ∧ wx = w0)
            case first =>
              rcases hsp with rfl | rfl
              all_goals (go_wp2_with fail; go_meet; exact ⟨rfl, rfl⟩)
            case rest =>
            obtain ⟨rfl, hww⟩ := hcut
            rw [hww]
            clear hww wc hsp
            go_wp2_with fail
            go_loopg [14, 15] (j - (i + 1)) (fun gl v14 v15 wl => ∃ k : Nat, i + 1 ≤ k ∧ k ≤ j ∧ gl = j - k ∧ v15 = .int .i64 k ∧ v14 = .bool (every p i (k - (i + 1))) ∧ wl = w0)
            case atStart =>
              go_light
              exact ⟨i + 1, Nat.le_refl _, hj1, rfl, by simp, by rw [Nat.sub_self]; rfl, rfl⟩
            case round =>
              obtain ⟨k, hk1, hk2, rfl, rfl, rfl, hww⟩ := hrel
              rw [hww]
              clear hww
              obtain ⟨q, hq⟩ : ∃ q, q = every p i (k - (i + 1)) := ⟨_, rfl⟩
              rw [← hq]
              have HQ := hide hq
              clear hq
              by_cases hkj : k < j
              · have hkz : (k : Int) < (j : Int) := by omega
                have hkm : k < m0 := by omega
                obtain ⟨pk, hpk⟩ : ∃ x, x = p k := ⟨_, rfl⟩
                have g0 : w0.cell? ⟨fb, fo + k, none⟩ = some (.bool pk) := by rw [hpk]; exact (H2.out.keep HBl.out).cell k hkm
                have HE : Hid (every p i (k + 1 - (i + 1)) = (q && pk)) := by
                  rw [show k + 1 - (i + 1) = (k - (i + 1)) + 1 by omega, HQ.out, hpk]
                  show (every p i (k - (i + 1)) && p (i + 1 + (k - (i + 1)))) = _
                  rw [show i + 1 + (k - (i + 1)) = k by omega]
                clear hpk
                cases pk with
                | true =>
                  go_wp2_with fail
                  go_roundg (j - (k + 1))
                  case measure => go_light; omega
                  case rel => go_light; exact ⟨k + 1, by omega, by omega, rfl, by simp, by rw [HE.out]; simp, rfl⟩
                | false =>
                  go_wp2_with fail
                  go_roundg (j - (k + 1))
                  case measure => go_light; omega
                  case rel => go_light; exact ⟨k + 1, by omega, by omega, rfl, by simp, by rw [HE.out]; simp, rfl⟩
              · have hkz : ¬ (k : Int) < (j : Int) := by omega
                obtain rfl : k = j := by omega
                have HQm : Hid (q = every p i m) := by rw [HQ.out, HMm.out]; congr 1; omega
                obtain ⟨da, dc, hdv, _, _⟩ := own_form HMd.out.d
                obtain ⟨aa, ac, hav, _, _⟩ := own_form HMd.out.a
                obtain ⟨D, hD⟩ : ∃ D, D = s.data.length := ⟨_, rfl⟩
                obtain ⟨X, hX⟩ : ∃ X, X = (s.extra.map (·.1)).length := ⟨_, rfl⟩
                rw [← hD] at hdv
                rw [← hX] at hav
                have hX2 : X = s.extra.length := by rw [hX]; simp
                have iw1 : IntKind.i64.wrap ((k : Int) - (i : Int)) = (k : Int) - (i : Int) := by rw [IntKind.wrap_i64]; omega
                have iw2 : IntKind.i64.wrap ((k : Int) - (i : Int) - 1) = (k : Int) - (i : Int) - 1 := by rw [IntKind.wrap_i64]; omega
                have HDv := hide hdv
                have HAv := hide hav
                have HD := hide hD
                have HX := hide hX2
                by_cases h24 : 24 < m
                · have z24 : (24 : Int) < (k : Int) - (i : Int) - 1 := by have := HMm.out; omega
                  obtain ⟨g4, cap4, w4, a4, hM4, hB4⟩ := HMd.out.dadd (by omega) b
                  obtain ⟨g5, cap5, w5, a5, hM5, hB5⟩ := hM4.aadd (by simp; omega) (D : Int)
                  obtain ⟨g6, cap6, w6, a6, hM6, hB6⟩ := hM5.cadd (by simp; omega) ((k : Int) - (i : Int) - 1)
                  obtain ⟨g7, cap7, w7, a7, hM7, hB7⟩ := hM6.padd (by simp; omega) q
                  rw [hdv, ← hD] at a4
                  rw [hav, ← hX] at a5
                  rw [List.length_map, ← hX2] at a6 a7
                  have F : Hid (ModS w7 B (.slice (some ⟨g4, 0, none⟩) (D + 1) cap4) (.slice (some ⟨g5, 0, none⟩) (X + 1) cap5) (.slice (some ⟨g6, 0, none⟩) (X + 1) cap6) (.slice (some ⟨g7, 0, none⟩) (X + 1) cap7) (.int .i64 D) (.int .i64 X) (.bool q) (text St.init (tz f p k))) := by
                    rw [HT.out, ← HQm.out]
                    unfold runE
                    rw [if_pos h24]
                    refine ⟨?_, by rw [hD], by rw [hX2], rfl⟩
                    rw [List.length_map, List.length_map, List.length_map, ← hX2, ← hD] at hM7
                    have ek : ((k : Int) - (i : Int) - 1) = (m : Int) := by have := HMm.out; omega
                    rw [ek] at hM7
                    simp only [List.map_append, List.map_cons, List.map_nil, ← hD]
                    exact hM7
                  have G : Hid (Below B w w7) := below_tr HBl.out (below_tr hB4 (below_tr hB5 (below_tr hB6 hB7)))
                  clear hM4 hM5 hM6 hM7 hB4 hB5 hB6 hB7 hD hX hX2
                  subst hdv
                  subst hav
                  go_wp2_with (first
                    | (at_builtin; refine wpList_app rfl (.tmp 68) (.tmp 70) 25 rfl (.slice da D dc) (.slice (some ⟨w0.heap.size, 0, none⟩) 1 1) (.slice (some ⟨g4, 0, none⟩) (D + 1) cap4) w4 (by simp [Act.eval]) (by simp [Act.eval]) a4 ?_)
                    | (at_builtin; refine wpList_app rfl (.tmp 74) (.tmp 76) 57 rfl (.slice aa X ac) (.slice (some ⟨w4.heap.size, 0, none⟩) 1 1) (.slice (some ⟨g5, 0, none⟩) (X + 1) cap5) w5 (by simp [Act.eval]) (by simp [Act.eval]) a5 ?_)
                    | (at_builtin; refine wpList_app rfl (.tmp 78) (.tmp 83) 26 rfl cv (.slice (some ⟨w5.heap.size, 0, none⟩) 1 1) (.slice (some ⟨g6, 0, none⟩) (X + 1) cap6) w6 (by simp [Act.eval]) (by simp [Act.eval]) a6 ?_)
                    | (at_builtin; refine wpList_app rfl (.tmp 85) (.tmp 87) 27 rfl pv (.slice (some ⟨w6.heap.size, 0, none⟩) 1 1) (.slice (some ⟨g7, 0, none⟩) (X + 1) cap7) w7 (by simp [Act.eval]) (by simp [Act.eval]) a7 ?_))
                  go_roundg (n - k)
                  case measure => go_light; omega
                  case rel => go_light; exact ⟨k, hj, rfl, rfl, F.out, G.out, hend.out⟩
                · have z24 : ¬ (24 : Int) < (k : Int) - (i : Int) - 1 := by have := HMm.out; omega
                  have HT2 : Hid (text St.init (tz f p k) = { data := s.data ++ List.replicate (k - i) b, extra := s.extra, runAt := D, runRep := -1, runPad := q }) := by
                    rw [HT.out, ← HQm.out]
                    unfold runE
                    rw [if_neg h24, ← hD, show m + 1 = k - i by have := HMm.out; omega]
                    exact rfl
                  clear hD hX hX2 HT hav
                  subst hdv
                  go_wp2_with fail
                  go_loopg [4, 16] (k - i) (fun gl v4 v16 wl => ∃ t : Nat, i ≤ t ∧ t ≤ k ∧ gl = k - t ∧ v16 = .int .i64 t ∧ Mod wl B v4 av cv pv (s.data ++ List.replicate (t - i) b) (s.extra.map (·.1)) (s.extra.map (·.2.1)) (s.extra.map (·.2.2)) ∧ Below B w wl)
                  case atStart =>
                    go_light
                    exact ⟨i, Nat.le_refl _, by omega, rfl, rfl, by rw [Nat.sub_self]; simpa using HMd.out, HBl.out⟩
                  case round =>
                    obtain ⟨t, ht1, ht2, rfl, rfl, hMk, hBk⟩ := hrel
                    obtain ⟨dk, hdk⟩ : ∃ x, x = u4 := ⟨_, rfl⟩
                    obtain ⟨wk, hwk⟩ : ∃ x, x = wr := ⟨_, rfl⟩
                    rw [← hwk] at hMk hBk ⊢
                    rw [← hdk] at hMk ⊢
                    have HMk := hide hMk
                    have HBk := hide hBk
                    clear hdk hwk hMk hBk
                    by_cases htk : t < k
                    · have htz : (t : Int) < (k : Int) := by omega
                      obtain ⟨T, hT⟩ : ∃ T, T = (s.data ++ List.replicate (t - i) b).length := ⟨_, rfl⟩
                      obtain ⟨g4, cap4, w4, a4, hM4, hB4⟩ := HMk.out.dadd (by simp; omega) b
                      rw [← hT] at a4
                      have F : Hid (Mod w4 B (.slice (some ⟨g4, 0, none⟩) (T + 1) cap4) av cv pv (s.data ++ List.replicate (t + 1 - i) b) (s.extra.map (·.1)) (s.extra.map (·.2.1)) (s.extra.map (·.2.2))) := by
                        rw [← hT, List.append_assoc, ← List.replicate_succ', show t - i + 1 = t + 1 - i by omega] at hM4; exact hM4
                      have G : Hid (Below B w w4) := below_tr HBk.out hB4
                      clear hM4 hB4 hT
                      go_wp2_with (at_builtin; refine wpList_app rfl (.tmp 95) (.tmp 97) 25 rfl dk (.slice (some ⟨wk.heap.size, 0, none⟩) 1 1) (.slice (some ⟨g4, 0, none⟩) (T + 1) cap4) w4 (by simp [Act.eval]) (by simp [Act.eval]) a4 ?_)
                      go_roundg (k - (t + 1))
                      case measure => go_light; omega
                      case rel => go_light; exact ⟨t + 1, by omega, by omega, rfl, by simp, F.out, G.out⟩
                    · have htz : ¬ (t : Int) < (k : Int) := by omega
                      obtain rfl : t = k := by omega
                      have F : Hid (ModS wk B dk av cv pv (.int .i64 D) (.int .i64 (-1)) (.bool q) (text St.init (tz f p t))) := by rw [HT2.out]; exact ⟨HMk.out, rfl, rfl, rfl⟩
                      go_wp2_with fail
                      go_roundg (n - t)
                      case measure => go_light; omega
                      case rel => go_light; exact ⟨t, hj, rfl, rfl, F.out, HBk.out, hend.out⟩
          · have HT : Hid (text St.init (tz f p j) = { s with data := s.data ++ List.replicate (j - i) b }) := by
              have := text_other St.init f p i (m + 1) b hsp (fun k hk => HF.out (i + k) (by omega) (by omega))
              rw [← HS.out, show i + (m + 1) = j by omega, show m + 1 = j - i by omega] at this
              exact this
            have q1 : (b == 32) = false := by simp; omega
            have q2 : (b == 10) = false := by simp; omega
            have HMd := hide hMd
            have HR1 := hide hr1
            have HR2 := hide hr2
            have HR3 := hide hr3
            have HMm := hide hm
            clear hsp hMd hr1 hr2 hr3 hm HM
            go_upto_region 7 with fail
            go_cut [47] from 18 to 47 (fun v wx => v = .bool false ∧ wx = w0)
            case first =>
              go_wp2_with fail
              go_meet
              exact ⟨rfl, rfl⟩
            case rest =>
            obtain ⟨rfl, hww⟩ := hcut
            rw [hww]
            clear hww wc q1 q2
            go_wp2_with fail
            go_loopg [4, 17] (j - i) (fun gl v4 v17 wl => ∃ k : Nat, i ≤ k ∧ k ≤ j ∧ gl = j - k ∧ v17 = .int .i64 k ∧ Mod wl B v4 av cv pv (s.data ++ List.replicate (k - i) b) (s.extra.map (·.1)) (s.extra.map (·.2.1)) (s.extra.map (·.2.2)) ∧ Below B w wl)
            case atStart =>
              go_light
              exact ⟨i, Nat.le_refl _, by omega, rfl, rfl, by rw [Nat.sub_self]; simpa using HMd.out, HBl.out⟩
            case round =>
              obtain ⟨k, hk1, hk2, rfl, rfl, hMk, hBk⟩ := hrel
              obtain ⟨dk, hdk⟩ : ∃ x, x = u4 := ⟨_, rfl⟩
              obtain ⟨wk, hwk⟩ : ∃ x, x = wr := ⟨_, rfl⟩
              rw [← hwk] at hMk hBk ⊢
              rw [← hdk] at hMk ⊢
              have HMk := hide hMk
              have HBk := hide hBk
              clear hdk hwk hMk hBk
              by_cases hkj : k < j
              · have hkz : (k : Int) < (j : Int) := by omega
                obtain ⟨T, hT⟩ : ∃ T, T = (s.data ++ List.replicate (k - i) b).length := ⟨_, rfl⟩
                obtain ⟨g4, cap4, w4, a4, hM4, hB4⟩ := HMk.out.dadd (by simp; omega) b
                rw [← hT] at a4
                have F : Hid (Mod w4 B (.slice (some ⟨g4, 0, none⟩) (T + 1) cap4) av cv pv (s.data ++ List.replicate (k + 1 - i) b) (s.extra.map (·.1)) (s.extra.map (·.2.1)) (s.extra.map (·.2.2))) := by
                  rw [← hT, List.append_assoc, ← List.replicate_succ', show k - i + 1 = k + 1 - i by omega] at hM4; exact hM4
                have G : Hid (Below B w w4) := below_tr HBk.out hB4
                clear hM4 hB4 hT
                go_wp2_with (at_builtin; refine wpList_app rfl (.tmp 105) (.tmp 107) 25 rfl dk (.slice (some ⟨wk.heap.size, 0, none⟩) 1 1) (.slice (some ⟨g4, 0, none⟩) (T + 1) cap4) w4 (by simp [Act.eval]) (by simp [Act.eval]) a4 ?_)
                go_roundg (j - (k + 1))
                case measure => go_light; omega
                case rel => go_light; exact ⟨k + 1, by omega, by omega, rfl, by simp, F.out, G.out⟩
              · have hkz : ¬ (k : Int) < (j : Int) := by omega
                obtain rfl : k = j := by omega
                have F : Hid (ModS wk B dk av cv pv r1 r2 r3 (text St.init (tz f p k))) := by rw [HT.out]; exact ⟨HMk.out, HR1.out, HR2.out, HR3.out⟩
                go_wp2_with fail
                go_roundg (n - k)
                case measure => go_light; omega
                case rel => go_light; exact ⟨k, hj, rfl, rfl, F.out, HBk.out, hend.out⟩
    · have hlz : ¬ ((i : Int) < (n : Int)) := by omega
      obtain rfl : i = n := by omega
      go_wp2_with fail
      (try simp only [Exit.inBlock, Exit.then])
      refine bodyPost_ret (results_tmp7 rfl _ _ _) rfl ?_
      exact ⟨dv, av, cv, pv, r1, r2, r3, rfl, by rw [← HBB.out, ← HS.out]; exact HM.out, by rw [← HBB.out]; exact HBl.out⟩

end Go.Proofs.Qxb6603268a
