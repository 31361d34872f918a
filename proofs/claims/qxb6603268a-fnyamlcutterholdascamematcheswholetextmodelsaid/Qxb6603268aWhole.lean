/- FnYamlCutterHoldAsCameMatchesWholeTextModel (function 7): the walk. -/
import Derived.Test.Qxb6603268aBytes
import Derived.Test.Qxb6603268aMatches
import Derived.Test.Qxb6603268aRunKeep
namespace Go.Proofs.Qxb6603268a
open Go.RowKit Cu
set_option linter.unusedVariables false

def sumL (L : Nat → Nat) : Nat → Nat
  | 0 => 0
  | k + 1 => sumL L k + L k
theorem sumL_mono (L : Nat → Nat) {j k : Nat} (h : j ≤ k) : sumL L j ≤ sumL L k := by
  induction k with
  | zero => have : j = 0 := by omega
            subst this; exact Nat.le_refl _
  | succ k ih =>
    by_cases e : j = k + 1
    · subst e; exact Nat.le_refl _
    · have := ih (by omega); simp only [sumL]; omega

/-- The srcs, one after the other, none of their bytes padding. -/
def srcT (Z : Nat → Nat → Int) (L : Nat → Nat) : Nat → List (Int × Bool)
  | 0 => []
  | k + 1 => srcT Z L k ++ tx (Z k) (L k)
theorem srcT_length (Z : Nat → Nat → Int) (L : Nat → Nat) (k : Nat) : (srcT Z L k).length = sumL L k := by
  induction k with
  | zero => rfl
  | succ k ih => simp only [srcT, sumL, List.length_append, ih, tx_length]

theorem tx_succ (f : Nat → Int) (k : Nat) : tx f (k + 1) = tx f k ++ [(f k, false)] := by simp [tx, List.range_succ]

theorem tz_getD (T : List (Int × Bool)) : tz (fun i => (T.getD i (0, false)).1) (fun i => (T.getD i (0, false)).2) T.length = T := by
  apply List.ext_getElem (by simp [tz])
  intro i h1 h2
  simp [tz, List.getD_eq_getElem?_getD, List.getElem?_eq_getElem h2]

theorem enter23 (args : Array Value) (w : World) : (callFunc 23 args).run Try.prog w = .ok (.enter 23 args) w := by
  have h := Try.func23
  go_simp

theorem wf_init_text (T : List (Int × Bool)) : Wf (text St.init T) T.length := by have := wf_text (wf_init 0) T; rwa [Nat.zero_add] at this

set_option maxRecDepth 100000 in
set_option maxHeartbeats 4000000 in
theorem whole_any (a1 a2 a3 ga : Option Addr) (b1 o1 n1 c1 b2 o2 n2 c2 b3 o3 n3 c3 gb go n c : Nat) (f ns : Nat → Int) (ps : Nat → Bool) (A : Nat → Option Addr) (RB RO L C : Nat → Nat) (Z : Nat → Nat → Int) (w : World)
    (h1 : IsV w w.heap.size a1 b1 o1 n1 c1 (fun i => .int .u8 (f i))) (h2 : IsV w w.heap.size a2 b2 o2 n2 c2 (fun i => .int .i64 (ns i))) (h3 : IsV w w.heap.size a3 b3 o3 n3 c3 (fun i => .bool (ps i))) (h4 : IsL w w.heap.size ga gb go n c A RB RO L C Z) :
    Calls Try.prog 7 #[.slice a1 n1 c1, .slice a2 n2 c2, .slice a3 n3 c3, .slice ga n c] w fun e w' => Yes w e w' := by
  have H1 := hide h1
  have H2 := hide h2
  have H3 := hide h3
  have H4 := hide h4
  have FT : Hid (Yes w (.returned (.bool true)) w) := ⟨rfl, Below.refl _ _⟩
  clear h1 h2 h3 h4
  go_enter Try.func7, Try.ntmps7
  go_wp2_with fail
  refine (bytes21 a1 a2 a3 ga n1 c1 n2 c2 n3 c3 gb go n c A RB RO L C Z w.heap.size w H4.out).mono ?_
  rintro e w1 ⟨⟨b, rfl, hLs⟩, hww⟩
  rw [hww]
  clear hww w1
  cases b with
  | false =>
    go_wp2_with fail
    go_ret
    exact FT.out
  | true =>
  have HLS := hide (hLs rfl)
  clear hLs
  by_cases l1 : n1 ≤ 65536
  case neg =>
    have i1 : (65536 : Int) < (n1 : Int) := by omega
    go_wp2_with fail
    go_ret
    exact FT.out
  have i1 : ¬ (65536 : Int) < (n1 : Int) := by omega
  by_cases l2 : n2 ≤ 65536
  case neg =>
    have i2 : (65536 : Int) < (n2 : Int) := by omega
    go_wp2_with fail
    go_ret
    exact FT.out
  have i2 : ¬ (65536 : Int) < (n2 : Int) := by omega
  by_cases l3 : n3 ≤ 65536
  case neg =>
    have i3 : (65536 : Int) < (n3 : Int) := by omega
    go_wp2_with fail
    go_ret
    exact FT.out
  have i3 : ¬ (65536 : Int) < (n3 : Int) := by omega
  by_cases l4 : n ≤ 65536
  case neg =>
    have i4 : (65536 : Int) < (n : Int) := by omega
    go_wp2_with fail
    go_ret
    exact FT.out
  have i4 : ¬ (65536 : Int) < (n : Int) := by omega
  have v1 : IntKind.i64.wrap (8 * (n2 : Int)) = 8 * (n2 : Int) := by rw [IntKind.wrap_i64]; omega
  have v2 : IntKind.i64.wrap ((n1 : Int) + 8 * (n2 : Int)) = (n1 : Int) + 8 * (n2 : Int) := by rw [IntKind.wrap_i64]; omega
  have v3 : IntKind.i64.wrap ((n1 : Int) + 8 * (n2 : Int) + (n3 : Int)) = (n1 : Int) + 8 * (n2 : Int) + (n3 : Int) := by rw [IntKind.wrap_i64]; omega
  have v5 : IntKind.i64.wrap (24 * (n : Int)) = 24 * (n : Int) := by rw [IntKind.wrap_i64]; omega
  have v4 : IntKind.i64.wrap ((n1 : Int) + 8 * (n2 : Int) + (n3 : Int) + 24 * (n : Int)) = (n1 : Int) + 8 * (n2 : Int) + (n3 : Int) + 24 * (n : Int) := by rw [IntKind.wrap_i64]; omega
  by_cases l5 : n1 + 8 * n2 + n3 + 24 * n ≤ 1048576
  case neg =>
    have i5 : (1048576 : Int) < (n1 : Int) + 8 * (n2 : Int) + (n3 : Int) + 24 * (n : Int) := by omega
    go_wp2_with fail
    go_ret
    exact FT.out
  have i5 : ¬ (1048576 : Int) < (n1 : Int) + 8 * (n2 : Int) + (n3 : Int) + 24 * (n : Int) := by omega
  go_wp2_with fail
  clear v1 v2 v3 v4 v5 i5 i1 i2 i3 i4
  go_loopg [9, 10] n (fun gk t v wr => ∃ (k T : Nat), k ≤ n ∧ gk = n - k ∧ v = .int .i64 k ∧ t = .int .i64 T ∧ T ≤ 1048576 ∧ sumL L k ≤ T ∧ wr = w)
  case atStart =>
    go_light
    exact ⟨0, n1 + 8 * n2 + n3 + 24 * n, Nat.zero_le _, rfl, rfl, by simp, l5, Nat.zero_le _, rfl⟩
  case round =>
  obtain ⟨k, T, hk, rfl, rfl, rfl, hT, hsL, hww⟩ := hrel
  rw [hww]
  clear hww
  by_cases hlt : k < n
  · have hlz : (k : Int) < (n : Int) := by omega
    obtain rfl := H4.out.adr (by omega)
    obtain ⟨ak, hak⟩ : ∃ x, x = A k := ⟨_, rfl⟩
    obtain ⟨lk, hlk⟩ : ∃ x, x = L k := ⟨_, rfl⟩
    obtain ⟨ck, hck⟩ : ∃ x, x = C k := ⟨_, rfl⟩
    have g0 : w.cell? ⟨gb, go + k, none⟩ = some (.slice ak lk ck) := by rw [hak, hlk, hck]; exact H4.out.row k hlt
    have hlkb : lk ≤ 1048576 := by rw [hlk]; exact HLS.out k hlt
    have HLk := hide hlk
    have HsL := hide hsL
    clear hak hlk hck hsL
    have v2 : IntKind.i64.wrap ((T : Int) + (lk : Int)) = (T : Int) + (lk : Int) := by rw [IntKind.wrap_i64]; omega
    by_cases hz2 : 1048576 < T + lk
    · have hzt : (1048576 : Int) < (T : Int) + (lk : Int) := by omega
      go_wp2_with fail
      go_ret
      exact FT.out
    · have hzt : ¬ (1048576 : Int) < (T : Int) + (lk : Int) := by omega
      go_wp2_with fail
      go_roundg (n - (k + 1))
      case measure => go_light; omega
      case rel => go_light; exact ⟨k + 1, T + lk, by omega, rfl, by simp, by simp, by omega, by have := HsL.out; have := HLk.out; simp only [sumL]; omega, rfl⟩
  have hlz : ¬ ((k : Int) < (n : Int)) := by omega
  obtain rfl : k = n := by omega
  have hsum2 : sumL L k ≤ 1048576 := by omega
  have HSL := hide hsum2
  clear hsum2 hsL
  go_wp2_with fail
  refine (script_any a1 a2 a3 n1 c1 n2 c2 n3 c3 b2 o2 ns w.heap.size w H2.out l1 l2 l3).mono ?_
  rintro e w1 ⟨hww, hs⟩
  rw [hww]
  clear hww w1 hlt hlz
  rcases hs with rfl | ⟨⟨t, rfl⟩, hpos, hsum⟩
  · go_wp2_with fail
    go_ret
    exact FT.out
  obtain ⟨K, hK⟩ : ∃ K, K = min n1 (min n2 n3) := ⟨_, rfl⟩
  rw [← hK] at hpos hsum ⊢
  have k1 : K ≤ n1 := by omega
  have k2 : K ≤ n2 := by omega
  have k3 : K ≤ n3 := by omega
  have HP := hide hpos
  have HS := hide hsum
  clear hpos hsum hK
  go_wp2_with fail
  refine (cloneY_any a1 b1 o1 n1 c1 f w.heap.size w H1.out (Nat.le_refl _) (by omega)).mono ?_
  rintro e w1 ⟨ga1, gb1, rfl, bl1, r1⟩
  have R1 := hide r1
  have BL1 := hide bl1
  clear r1 bl1
  go_wp2_with fail
  refine (cloneI_any a2 b2 o2 n2 c2 ns w.heap.size w1 (H2.out.keep BL1.out) BL1.out.size (by omega)).mono ?_
  rintro e w2 ⟨ga2, gb2, rfl, bl2, r2⟩
  have R2 := hide r2
  have BL2 := hide bl2
  have BL2' : Hid (Below w.heap.size w w2) := below_after BL1.out bl2
  clear r2 bl2
  go_wp2_with fail
  refine (cloneB_any a3 b3 o3 n3 c3 ps w.heap.size w2 (H3.out.keep BL2'.out) BL2'.out.size (by omega)).mono ?_
  rintro e w3 ⟨ga3, gb3, rfl, bl3, r3⟩
  have R3 := hide r3
  have BL3 := hide bl3
  have BL3' : Hid (Below w.heap.size w w3) := below_after BL2'.out bl3
  clear r3 bl3
  go_wp2_with fail
  refine (cloneL_any ga gb go k c A RB RO L C Z w.heap.size w3 (H4.out.keep BL3'.out) BL3'.out.size (by omega) (fun i hi => by have := HLS.out i hi; omega)).mono ?_
  rintro e w4 ⟨ga4, gb4, A4, RB4, rfl, bl4, r4⟩
  have R4 := hide r4
  have BL4 := hide bl4
  have BL4' : Hid (Below w.heap.size w w4) := below_after BL3'.out bl4
  clear r4 bl4
  obtain ⟨B, hB⟩ : ∃ B, B = w4.heap.size := ⟨_, rfl⟩
  have HB := hide hB
  have s1 : Hid (IsV w4 B ga1 gb1 0 n1 n1 (fun i => .int .u8 (f i))) := by
    rw [hB]; exact ((((R1.out.keep BL2.out).mono BL2.out.size).keep BL3.out).mono BL3.out.size).keep BL4.out |>.mono BL4.out.size
  have s2 : Hid (IsV w4 B ga2 gb2 0 n2 n2 (fun i => .int .i64 (ns i))) := by
    rw [hB]; exact ((R2.out.keep BL3.out).mono BL3.out.size).keep BL4.out |>.mono BL4.out.size
  have s3 : Hid (IsV w4 B ga3 gb3 0 n3 n3 (fun i => .bool (ps i))) := by
    rw [hB]; exact (R3.out.keep BL4.out).mono BL4.out.size
  have s4 : Hid (IsL w4 B ga4 gb4 0 k k A4 RB4 (fun _ => 0) L L Z) := by rw [hB]; exact R4.out
  have hBw : Hid (w.heap.size ≤ B) := by rw [hB]; exact BL4'.out.size
  clear hB R1 R2 R3 R4 BL1 BL2 BL3 BL4 BL2' BL3'
  go_wp2_with fail
  refine (new_any w4).mono ?_
  rintro e w5 ⟨rfl, hc5, bl5, sz5⟩
  rw [← HB.out] at hc5 bl5 ⊢
  have C5 : Hid (CutAt w5 B B (.slice none 0 0) (.slice none 0 0) St.init) := hc5 B (Nat.le_refl _)
  have BL5 := hide bl5
  clear hc5 bl5 sz5
  go_wp2_with fail
  refine (runKeep_any B B _ _ St.init w5 0 K ga1 ga2 ga3 gb1 0 n1 n1 gb2 0 n2 n2 gb3 0 n3 n3 f ns ps C5.out (wf_init 0) (s1.out.keep BL5.out) (s2.out.keep BL5.out) (s3.out.keep BL5.out) k1 k2 k3 (by omega) HP.out (by have := HS.out; omega)).mono ?_
  rintro e w6 ⟨tv, fv, dv6, ev6, rfl, hK6, hb6⟩
  rw [play_scr (wf_init 0)] at hK6
  obtain ⟨S0, hS0⟩ : ∃ S0, S0 = scr f ns ps K := ⟨_, rfl⟩
  rw [← hS0] at hK6
  have hS0l : Hid (S0.length ≤ 1048576) := by rw [hS0, scr_length]; exact HS.out
  have K6 := hide hK6
  have BL6 : Hid (Below B w4 w6) := below_tr BL5.out hb6
  clear hK6 hb6 hS0 BL5 C5
  go_wp2_with fail
  go_loopg [15, 16, 17] k (fun gk v15 v16 v wr => ∃ (i : Nat) (dv ev : Value), i ≤ k ∧ gk = k - i ∧ v = .int .i64 i ∧ Kep wr B B dv ev (text St.init (S0 ++ srcT Z L i)) v15 v16 ((S0 ++ srcT Z L i).map Prod.fst) ((S0 ++ srcT Z L i).map Prod.snd) ∧ Below B w4 wr)
  case atStart =>
    go_light
    exact ⟨0, dv6, ev6, Nat.zero_le _, rfl, rfl, by simpa [srcT] using K6.out, BL6.out⟩
  case round =>
    obtain ⟨i, dv1, ev1, hi, rfl, rfl, hKp, hbl⟩ := hrel
    obtain ⟨tv1, htv⟩ : ∃ x, x = u15 := ⟨_, rfl⟩
    obtain ⟨fv1, hfv⟩ : ∃ x, x = u16 := ⟨_, rfl⟩
    obtain ⟨w7, hw7⟩ : ∃ x, x = wr := ⟨_, rfl⟩
    rw [← hw7] at hKp hbl ⊢
    rw [← htv, ← hfv] at hKp ⊢
    obtain ⟨Ti, hTi⟩ : ∃ x, x = S0 ++ srcT Z L i := ⟨_, rfl⟩
    rw [← hTi] at hKp
    have hTl : Ti.length = S0.length + sumL L i := by rw [hTi, List.length_append, srcT_length]
    have HTI := hide hTi
    have HTL := hide hTl
    have KP := hide hKp
    have BL := hide hbl
    clear htv hfv hKp hbl hw7 hTi hTl K6 BL6
    by_cases hlt : i < k
    · have hlz : (i : Int) < (k : Int) := by omega
      obtain rfl := s4.out.adr (by omega)
      obtain ⟨ai, hai⟩ : ∃ x, x = A4 i := ⟨_, rfl⟩
      obtain ⟨li, hli⟩ : ∃ x, x = L i := ⟨_, rfl⟩
      have hlib : li ≤ 1048576 := by rw [hli]; exact HLS.out i hlt
      have hsumi : Ti.length + li ≤ 2097152 := by
        have h1 := sumL_mono L (show i + 1 ≤ k from hlt)
        have h2 := HTL.out
        have h3 := hS0l.out
        have h4 := HSL.out
        simp only [sumL] at h1
        omega
      have g0 : w7.cell? ⟨gb4, 0 + i, none⟩ = some (.slice ai li li) := by rw [hai, hli]; exact (s4.out.keep BL.out).row i hlt
      rw [Nat.zero_add] at g0
      have V4 : Hid (IsV w4 B ai (RB4 i) 0 li li (fun j => .int .u8 (Z i j))) := by rw [hai, hli]; exact s4.out.rows i hlt
      have C1' : CutAt w7.drew B B dv1 ev1 (text St.init Ti) := KP.out.cut.same (fun _ _ => rfl)
      have BLd : Below B w4 w7.drew := ⟨BL.out.os, BL.out.tape, BL.out.output, BL.out.size, BL.out.block⟩
      have hcall := zzcame_any B B dv1 ev1 (text St.init Ti) w7.drew Ti.length ai (RB4 i) 0 li li (Z i) C1' (wf_init_text Ti) (V4.out.keep BLd) (by omega)
      have HLI := hide hli
      have HAI := hide hai
      clear hai hli C1' BLd
      go_upto_region 34 with fail
      go_cut [114] from 97 to 114 (fun v wx => v = .bool false ∧ (∃ dv2 ev2, Kep wx B B dv2 ev2 (text St.init (Ti ++ tx (Z i) li)) tv1 fv1 (Ti.map Prod.fst) (Ti.map Prod.snd)) ∧ Below B w4 wx)
      case first =>
        go_region_law (refine step_call2 rfl 23 (.tmp 103) (.tmp 107) _ rfl (.pointer (some ⟨B, 0, none⟩)) (.slice ai li li) (by first | (simp [Act.eval]; done) | (simp [Act.eval, Act.put]; done)) (by first | (simp [Act.eval]; done) | (simp [Act.eval, Act.put]; done)) (enter23 _ _) ?_; refine hcall.mono ?_; rintro e v1 ⟨rfl, hL1⟩; have g0' : v1.cell? ⟨gb4, i, none⟩ = some (.slice ai li li) := (((hL1.of_drew).below KP.out.cut).cell (p := ⟨gb4, i, none⟩) (s4.out.blk (by omega))).trans g0; refine ⟨_, rfl, ?_⟩)
        all_goals
          have F : (∃ dv2 ev2, Kep v1 B B dv2 ev2 (text St.init (Ti ++ tx (Z i) li)) tv1 fv1 (Ti.map Prod.fst) (Ti.map Prod.snd)) ∧ Below B w4 v1 := by
            have hL2 := hL1.of_drew
            rw [← text_append] at hL2
            exact ⟨KP.out.left hL2, below_tr BL.out (hL2.below KP.out.cut)⟩
          have HF := hide F
          clear hL1 F
          go_wp2_with fail
          go_meet
          exact ⟨by simp, HF.out⟩
      case rest =>
      obtain ⟨rfl, ⟨dv2, ev2, hK2⟩, hb2⟩ := hcut
      obtain ⟨w8, hw8⟩ : ∃ x, x = wc := ⟨_, rfl⟩
      rw [← hw8] at hK2 hb2 ⊢
      have KP2 := hide hK2
      have BL2 := hide hb2
      clear hK2 hb2 hw8 wc hcall KP BL g0
      go_wp2_with fail
      go_loopg [15, 16, 18] li (fun gj v15 v16 v wi => ∃ j : Nat, j ≤ li ∧ gj = li - j ∧ v = .int .i64 j ∧ Kep wi B B dv2 ev2 (text St.init (Ti ++ tx (Z i) li)) v15 v16 ((Ti ++ tx (Z i) j).map Prod.fst) ((Ti ++ tx (Z i) j).map Prod.snd) ∧ Below B w4 wi)
      case atStart =>
        go_light
        exact ⟨0, Nat.zero_le _, rfl, rfl, by simpa [tx] using KP2.out, BL2.out⟩
      case round =>
        obtain ⟨j, hj, rfl, rfl, hKp, hB⟩ := hrel
        obtain ⟨w9, hw9⟩ : ∃ x, x = wr := ⟨_, rfl⟩
        obtain ⟨tv3, htv⟩ : ∃ x, x = u15 := ⟨_, rfl⟩
        obtain ⟨fv3, hfv⟩ : ∃ x, x = u16 := ⟨_, rfl⟩
        rw [← hw9] at hKp hB ⊢
        rw [← htv, ← hfv] at hKp ⊢
        have HKp := hide hKp
        have HBj := hide hB
        clear htv hfv hKp hB hw9 KP2 BL2
        have g0 : w9.cell? ⟨gb4, 0 + i, none⟩ = some (.slice ai li li) := by
          have := (s4.out.keep HBj.out).row i hlt
          rw [← HLI.out, ← HAI.out] at this; exact this
        rw [Nat.zero_add] at g0
        by_cases hlt2 : j < li
        · have hlz2 : (j : Int) < (li : Int) := by omega
          obtain rfl := V4.out.adr (by omega)
          obtain ⟨x, hx⟩ : ∃ x, x = Z i j := ⟨_, rfl⟩
          have g1 : w9.cell? ⟨RB4 i, 0 + j, none⟩ = some (.int .u8 x) := by rw [hx]; exact (V4.out.keep HBj.out).cell j hlt2
          rw [Nat.zero_add] at g1
          obtain ⟨bb, hbb⟩ : ∃ x, x = RB4 i := ⟨_, rfl⟩
          rw [← hbb] at g0 g1
          obtain ⟨T9, hT9⟩ : ∃ x, x = ((Ti ++ tx (Z i) j).map Prod.fst).length := ⟨_, rfl⟩
          have hT2 : T9 = Ti.length + j := by rw [hT9]; simp [tx_length]
          have hT3 : ((Ti ++ tx (Z i) j).map Prod.snd).length = T9 := by rw [hT2]; simp [tx_length]
          obtain ⟨g4, cap4, w10, a4, hK4, hB4⟩ := HKp.out.tadd (by rw [← hT9]; omega) x
          obtain ⟨g5, cap5, w11, a5, hK5, hB5⟩ := hK4.fadd (by rw [hT3]; omega) false
          rw [← hT9] at a4
          rw [hT3] at a5
          have F : Hid (Kep w11 B B dv2 ev2 (text St.init (Ti ++ tx (Z i) li)) (.slice (some ⟨g4, 0, none⟩) (T9 + 1) cap4) (.slice (some ⟨g5, 0, none⟩) (T9 + 1) cap5) ((Ti ++ tx (Z i) (j + 1)).map Prod.fst) ((Ti ++ tx (Z i) (j + 1)).map Prod.snd)) := by
            have e1 : (Ti ++ tx (Z i) (j + 1)).map Prod.fst = (Ti ++ tx (Z i) j).map Prod.fst ++ [x] := by rw [tx_succ, hx]; simp
            have e2 : (Ti ++ tx (Z i) (j + 1)).map Prod.snd = (Ti ++ tx (Z i) j).map Prod.snd ++ [false] := by rw [tx_succ]; simp
            rw [e1, e2]
            rw [← hT9, hT3] at hK5; exact hK5
          have HB5 : Hid (Below B w4 w11) := below_tr HBj.out (below_tr hB4 hB5)
          have HX := hide hx
          have HBB := hide hbb
          clear hK4 hK5 hB4 hB5 hT9 hT2 hT3 hx hbb
          go_wp2_with (first
            | (at_builtin; refine wpList_app rfl (.tmp 124) (.tmp 132) 25 rfl tv3 (.slice (some ⟨w9.heap.size, 0, none⟩) 1 1) (.slice (some ⟨g4, 0, none⟩) (T9 + 1) cap4) w10 (by simp [Act.eval]) (by simp [Act.eval]) a4 ?_)
            | (at_builtin; refine wpList_app rfl (.tmp 134) (.tmp 135) 27 rfl fv3 (.slice (some ⟨w10.heap.size, 0, none⟩) 1 1) (.slice (some ⟨g5, 0, none⟩) (T9 + 1) cap5) w11 (by simp [Act.eval]) (by simp [Act.eval]) a5 ?_))
          go_roundg (li - (j + 1))
          case measure => go_light; omega
          case rel => go_light; exact ⟨j + 1, by omega, rfl, by simp, F.out, HB5.out⟩
        · have hlz2 : ¬ (j : Int) < (li : Int) := by omega
          obtain rfl : j = li := by omega
          have F : Hid (Kep w9 B B dv2 ev2 (text St.init (S0 ++ srcT Z L (i + 1))) tv3 fv3 ((S0 ++ srcT Z L (i + 1)).map Prod.fst) ((S0 ++ srcT Z L (i + 1)).map Prod.snd)) := by
            have e : S0 ++ srcT Z L (i + 1) = Ti ++ tx (Z i) j := by rw [HTI.out, HLI.out, List.append_assoc]; rfl
            rw [e]; exact HKp.out
          go_wp2_with fail
          go_roundg (k - (i + 1))
          case measure => go_light; omega
          case rel => go_light; exact ⟨i + 1, dv2, ev2, by omega, rfl, by simp, F.out, HBj.out⟩
    · have hlz : ¬ ((i : Int) < (k : Int)) := by omega
      obtain ⟨ta, tc, htv, _, _⟩ := own_form KP.out.t
      obtain ⟨fa, fc, hfv, _, _⟩ := own_form KP.out.f
      have KP1 := KP.out
      subst htv
      subst hfv
      obtain ⟨tb, V1⟩ := own_isV (F := fun i => .int .u8 (Ti.getD i (0, false)).1) KP1.t (fun i hi => by
        have hi' : i < Ti.length := by simpa using hi
        simp [dcells, List.getD_eq_getElem?_getD, List.getElem?_eq_getElem hi'])
      obtain ⟨fb, V2⟩ := own_isV (F := fun i => .bool (Ti.getD i (0, false)).2) KP1.f (fun i hi => by
        have hi' : i < Ti.length := by simpa using hi
        simp [bcells, List.getD_eq_getElem?_getD, List.getElem?_eq_getElem hi'])
      rw [List.length_map] at V1 V2
      have hTl : Ti.length ≤ 3000000 := by
        have h1 := sumL_mono L hi
        have h2 := HTL.out
        have h3 := hS0l.out
        have h4 := HSL.out
        omega
      have hmatch := matches_any B B dv1 ev1 (text St.init Ti) ta fa tb 0 Ti.length tc fb 0 Ti.length fc _ _ w7 KP1.cut (by rw [tz_getD]) V1 V2 (Nat.le_refl _) hTl
      have HMt := hide hmatch
      have hBw7 : Hid (B ≤ w7.heap.size) := KP1.le
      have e1 : (Ti.map Prod.fst).length = Ti.length := by simp
      have e2 : (Ti.map Prod.snd).length = Ti.length := by simp
      rw [e1, e2]
      clear V1 V2 KP1 KP hmatch e1 e2
      go_wp2_with fail
      refine HMt.out.mono ?_
      rintro e w8 ⟨rfl, hb8⟩
      have F : Hid (Yes w (.returned (.bool true)) w8) := ⟨rfl, below_on BL4'.out (below_tr BL.out (below_dn' hb8 hBw7.out)) hBw.out⟩
      clear hb8
      go_wp2_with fail
      go_ret
      exact F.out

end Go.Proofs.Qxb6603268a
