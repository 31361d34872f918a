/- FnYamlCutterHoldAsCameIsHoldByteByByte (function 8): the walk. -/
import Derived.Test.Qxb6603268aTwo
namespace Go.Proofs.Qxb6603268a
open Go.RowKit Cu
set_option linter.unusedVariables false

set_option maxRecDepth 100000 in
set_option maxHeartbeats 4000000 in
theorem bytewise_any (a1 a2 a3 a4 : Option Addr) (b1 o1 n1 c1 b2 o2 n2 c2 b3 o3 n3 c3 b4 o4 n4 c4 : Nat) (f ns g : Nat → Int) (ps : Nat → Bool) (w : World)
    (h1 : IsV w w.heap.size a1 b1 o1 n1 c1 (fun i => .int .u8 (f i))) (h2 : IsV w w.heap.size a2 b2 o2 n2 c2 (fun i => .int .i64 (ns i))) (h3 : IsV w w.heap.size a3 b3 o3 n3 c3 (fun i => .bool (ps i))) (h4 : IsV w w.heap.size a4 b4 o4 n4 c4 (fun i => .int .u8 (g i))) :
    Calls Try.prog 8 #[.slice a1 n1 c1, .slice a2 n2 c2, .slice a3 n3 c3, .slice a4 n4 c4] w fun e w' => Yes w e w' := by
  have H1 := hide h1
  have H2 := hide h2
  have H3 := hide h3
  have H4 := hide h4
  have FT : Hid (Yes w (.returned (.bool true)) w) := ⟨rfl, Below.refl _ _⟩
  clear h1 h2 h3 h4
  go_enter Try.func8, Try.ntmps8
  go_wp2_with fail
  refine (bytes24 a1 a2 a3 a4 n1 c1 n2 c2 n3 c3 n4 c4 w).mono ?_
  rintro e w1 ⟨⟨b, rfl⟩, hww⟩
  rw [hww]
  clear hww w1
  cases b with
  | false =>
    go_wp2_with fail
    go_ret
    exact FT.out
  | true =>
  by_cases l1 : n1 ≤ 65536
  case neg =>
    have i1 : (65536 : Int) < (n1 : Int) := by omega
    go_wp2_with fail
    go_ret
    exact FT.out
  have i1 : ¬ (65536 : Int) < (n1 : Int) := by omega
  by_cases l2 : n2 ≤ 65536
  case neg =>
    have i2 : (65536 : Int) < (n2 : Int) := by omega
    go_wp2_with fail
    go_ret
    exact FT.out
  have i2 : ¬ (65536 : Int) < (n2 : Int) := by omega
  by_cases l3 : n3 ≤ 65536
  case neg =>
    have i3 : (65536 : Int) < (n3 : Int) := by omega
    go_wp2_with fail
    go_ret
    exact FT.out
  have i3 : ¬ (65536 : Int) < (n3 : Int) := by omega
  by_cases l4 : n4 ≤ 65536
  case neg =>
    have i4 : (65536 : Int) < (n4 : Int) := by omega
    go_wp2_with fail
    go_ret
    exact FT.out
  have i4 : ¬ (65536 : Int) < (n4 : Int) := by omega
  have v1 : IntKind.i64.wrap (8 * (n2 : Int)) = 8 * (n2 : Int) := by rw [IntKind.wrap_i64]; omega
  have v2 : IntKind.i64.wrap ((n1 : Int) + 8 * (n2 : Int)) = (n1 : Int) + 8 * (n2 : Int) := by rw [IntKind.wrap_i64]; omega
  have v3 : IntKind.i64.wrap ((n1 : Int) + 8 * (n2 : Int) + (n3 : Int)) = (n1 : Int) + 8 * (n2 : Int) + (n3 : Int) := by rw [IntKind.wrap_i64]; omega
  have v4 : IntKind.i64.wrap ((n1 : Int) + 8 * (n2 : Int) + (n3 : Int) + (n4 : Int)) = (n1 : Int) + 8 * (n2 : Int) + (n3 : Int) + (n4 : Int) := by rw [IntKind.wrap_i64]; omega
  have i5 : ¬ (1048576 : Int) < (n1 : Int) + 8 * (n2 : Int) + (n3 : Int) + (n4 : Int) := by omega
  go_wp2_with fail
  refine (script_any a1 a2 a3 n1 c1 n2 c2 n3 c3 b2 o2 ns w.heap.size w H2.out l1 l2 l3).mono ?_
  rintro e w1 ⟨hww, hs⟩
  rw [hww]
  clear hww w1 v1 v2 v3 v4 i5 i1 i2 i3 i4
  rcases hs with rfl | ⟨⟨t, rfl⟩, hpos, hsum⟩
  · go_wp2_with fail
    go_ret
    exact FT.out
  obtain ⟨K, hK⟩ : ∃ K, K = min n1 (min n2 n3) := ⟨_, rfl⟩
  rw [← hK] at hpos hsum ⊢
  have k1 : K ≤ n1 := by omega
  have k2 : K ≤ n2 := by omega
  have k3 : K ≤ n3 := by omega
  have HP := hide hpos
  have HS := hide hsum
  clear hpos hsum hK
  go_wp2_with fail
  refine (cloneY_any a1 b1 o1 n1 c1 f w.heap.size w H1.out (Nat.le_refl _) (by omega)).mono ?_
  rintro e w1 ⟨ga1, gb1, rfl, bl1, r1⟩
  have R1 := hide r1
  have BL1 := hide bl1
  clear r1 bl1
  go_wp2_with fail
  refine (cloneI_any a2 b2 o2 n2 c2 ns w.heap.size w1 (H2.out.keep BL1.out) BL1.out.size (by omega)).mono ?_
  rintro e w2 ⟨ga2, gb2, rfl, bl2, r2⟩
  have R2 := hide r2
  have BL2 := hide bl2
  have BL2' : Hid (Below w.heap.size w w2) := below_after BL1.out bl2
  clear r2 bl2
  go_wp2_with fail
  refine (cloneB_any a3 b3 o3 n3 c3 ps w.heap.size w2 (H3.out.keep BL2'.out) BL2'.out.size (by omega)).mono ?_
  rintro e w3 ⟨ga3, gb3, rfl, bl3, r3⟩
  have R3 := hide r3
  have BL3 := hide bl3
  have BL3' : Hid (Below w.heap.size w w3) := below_after BL2'.out bl3
  clear r3 bl3
  go_wp2_with fail
  refine (cloneY_any a4 b4 o4 n4 c4 g w.heap.size w3 (H4.out.keep BL3'.out) BL3'.out.size (by omega)).mono ?_
  rintro e w4 ⟨ga4, gb4, rfl, bl4, r4⟩
  have R4 := hide r4
  have BL4 := hide bl4
  have BL4' : Hid (Below w.heap.size w w4) := below_after BL3'.out bl4
  clear r4 bl4
  obtain ⟨B, hB⟩ : ∃ B, B = w4.heap.size := ⟨_, rfl⟩
  have HB := hide hB
  have s1 : Hid (IsV w4 B ga1 gb1 0 n1 n1 (fun i => .int .u8 (f i))) := by
    rw [hB]; exact ((((R1.out.keep BL2.out).mono BL2.out.size).keep BL3.out).mono BL3.out.size).keep BL4.out |>.mono BL4.out.size
  have s2 : Hid (IsV w4 B ga2 gb2 0 n2 n2 (fun i => .int .i64 (ns i))) := by
    rw [hB]; exact ((R2.out.keep BL3.out).mono BL3.out.size).keep BL4.out |>.mono BL4.out.size
  have s3 : Hid (IsV w4 B ga3 gb3 0 n3 n3 (fun i => .bool (ps i))) := by
    rw [hB]; exact (R3.out.keep BL4.out).mono BL4.out.size
  have s4 : Hid (IsV w4 B ga4 gb4 0 n4 n4 (fun i => .int .u8 (g i))) := by rw [hB]; exact R4.out
  have hBw : Hid (w.heap.size ≤ B) := by rw [hB]; exact BL4'.out.size
  clear hB R1 R2 R3 R4 BL1 BL2 BL3 BL4 BL2' BL3'
  go_wp2_with fail
  refine (new_any w4).mono ?_
  rintro e w5 ⟨rfl, hc5, bl5, sz5⟩
  rw [← HB.out] at hc5 bl5 sz5 ⊢
  have C5 : Hid (CutAt w5 B B (.slice none 0 0) (.slice none 0 0) St.init) := hc5 B (Nat.le_refl _)
  have SZ5 := hide sz5
  have BL5 := hide bl5
  clear hc5 bl5 sz5
  go_wp2_with fail
  refine (new_any w5).mono ?_
  rintro e w6 ⟨rfl, hc6, bl6, sz6⟩
  have T6 : Hid (Two w6 B B (.slice none 0 0) (.slice none 0 0) St.init (B + 1) (.slice none 0 0) (.slice none 0 0) St.init) := by
    have := hc6 B (by rw [SZ5.out]; omega)
    rw [SZ5.out] at this
    exact ⟨C5.out.below bl6, this, fun k hk hk2 => by simp [foot, Value.ownBlock] at hk hk2; omega⟩
  have BL6 : Hid (Below B w4 w6) := below_tr BL5.out (below_dn' bl6 (by rw [SZ5.out]; omega))
  rw [SZ5.out]
  clear hc6 bl6 sz6 C5 SZ5 BL5
  go_wp2_with fail
  refine (runScript_any B B _ _ St.init w6 0 K ga1 ga2 ga3 gb1 0 n1 n1 gb2 0 n2 n2 gb3 0 n3 n3 f ns ps T6.out.a (wf_init 0) (s1.out.keep BL6.out) (s2.out.keep BL6.out) (s3.out.keep BL6.out) k1 k2 k3 (by omega) HP.out (by have := HS.out; omega)).mono ?_
  rintro e w7 ⟨rfl, hL7⟩
  have BL7 : Hid (Below B w4 w7) := below_tr BL6.out (hL7.below T6.out.a)
  obtain ⟨dv7, ev7, t7⟩ := T6.out.left hL7
  obtain ⟨sP, hsP⟩ : ∃ sP, sP = play f ns ps St.init K := ⟨_, rfl⟩
  rw [← hsP] at t7
  have WP : Hid (Wf sP (sumTo ns K)) := by rw [hsP]; have := wf_play (wf_init 0) f ns ps K; rwa [Nat.zero_add] at this
  have HSP := hide hsP
  have T7 := hide t7
  clear hL7 T6 BL6 t7 hsP
  go_wp2_with fail
  refine (runScript_any B (B + 1) _ _ St.init w7 0 K ga1 ga2 ga3 gb1 0 n1 n1 gb2 0 n2 n2 gb3 0 n3 n3 f ns ps T7.out.b (wf_init 0) (s1.out.keep BL7.out) (s2.out.keep BL7.out) (s3.out.keep BL7.out) k1 k2 k3 (by omega) HP.out (by have := HS.out; omega)).mono ?_
  rintro e w8 ⟨rfl, hL8⟩
  have BL8 : Hid (Below B w4 w8) := below_tr BL7.out (hL8.below T7.out.b)
  obtain ⟨dv8, ev8, t8⟩ := T7.out.swap.left hL8
  rw [← HSP.out] at t8
  have T8 := hide t8.swap
  clear hL8 T7 BL7 t8
  go_wp2_with fail
  refine (zzcame_any B B dv7 ev7 sP w8 (sumTo ns K) ga4 gb4 0 n4 n4 g T8.out.a WP.out (s4.out.keep BL8.out) (by have := HS.out; omega)).mono ?_
  rintro e w9 ⟨rfl, hL9⟩
  have BL9 : Hid (Below B w4 w9) := below_tr BL8.out (hL9.below T8.out.a)
  obtain ⟨dv9, ev9, t9⟩ := T8.out.left hL9
  have T9 := hide t9
  clear hL9 T8 BL8 t9
  go_wp2_with fail
  go_loopg [14] n4 (fun gk v wr => ∃ (k : Nat) (dv ev : Value), k ≤ n4 ∧ gk = n4 - k ∧ v = .int .i64 k ∧ Two wr B B dv9 ev9 (text sP (tx g n4)) (B + 1) dv ev (text sP (tx g k)) ∧ Below B w4 wr)
  case atStart =>
    go_light
    exact ⟨0, dv8, ev8, Nat.zero_le _, rfl, rfl, T9.out, BL9.out⟩
  case round =>
    obtain ⟨k, dv, ev, hk, rfl, rfl, hT, hBl⟩ := hrel
    have T := hide hT
    have BL := hide hBl
    clear hT hBl
    by_cases hlt : k < n4
    · have hlz : (k : Int) < (n4 : Int) := by omega
      obtain rfl := s4.out.adr (by omega)
      obtain ⟨x, hx⟩ : ∃ x, x = g k := ⟨_, rfl⟩
      have g0 : wr.cell? ⟨gb4, 0 + k, none⟩ = some (.int .u8 x) := by rw [hx]; exact (s4.out.keep BL.out).cell k hlt
      rw [Nat.zero_add] at g0
      have HX := hide hx
      clear hx
      go_wp2_with fail
      refine (zzhold_any B (B + 1) dv ev (text sP (tx g k)) x 1 false wr (sumTo ns K + k) T.out.b (by have := wf_text WP.out (tx g k); rwa [tx_length] at this) (by have := HS.out; omega)).mono ?_
      rintro e w10 ⟨rfl, hL⟩
      have BL10 : Hid (Below B w4 w10) := below_tr BL.out (hL.below T.out.b)
      obtain ⟨dv', ev', t'⟩ := T.out.swap.left hL
      rw [HX.out, ← text_one] at t'
      have T' := hide t'.swap
      clear hL t'
      go_wp2_with fail
      go_roundg (n4 - (k + 1))
      case measure => go_light; omega
      case rel => go_light; exact ⟨k + 1, dv', ev', by omega, rfl, by simp, T'.out, BL10.out⟩
    · have hlz : ¬ ((k : Int) < (n4 : Int)) := by omega
      obtain rfl : k = n4 := by omega
      go_wp2_with fail
      have hWf : Wf (text sP (tx g k)) (sumTo ns K + k) := by have := wf_text WP.out (tx g k); rwa [tx_length] at this
      refine (sameState_any B B (B + 1) dv9 ev9 dv ev (text sP (tx g k)) wr T.out.a T.out.b (by have := hWf.dlen; have := HS.out; omega) (by have := hWf.xlen; have := HS.out; omega)).mono ?_
      rintro e w11 ⟨rfl, hb11⟩
      have F : Hid (Yes w (.returned (.bool true)) w11) := ⟨rfl, below_on BL4'.out (below_tr BL.out (below_dn' hb11 (by have := T.out.a.lt; omega))) hBw.out⟩
      clear hb11 hWf
      go_wp2_with fail
      go_ret
      exact F.out

end Go.Proofs.Qxb6603268a
