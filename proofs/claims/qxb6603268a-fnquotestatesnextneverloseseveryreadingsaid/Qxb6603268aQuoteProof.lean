/-
  THE SHELL OF A PROOF OF 'Rows.FnQuoteStatesNextNeverLosesEveryReadingSaid' ('example.com/nearside/nearside/zzlaws_internal_decl_b1.FnQuoteStatesNextNeverLosesEveryReading'), WRITTEN BY PROGRAM (proof-skeleton.mjs) off the guide's own print for that function. Not trusted: Lean checks it.
-/
import Derived.Test.Qxb6603268aRows
import Derived.Test.Qxb6603268aNext
import Derived.Laws.Closers25b
import Derived.WalkKit
import Derived.ProofKit
import Derived.OpenShut
import Derived.ShutString
namespace Go.Proofs.Qxb6603268a
open Go.ChangeShapes Go.WideShapes Go.ChangeAt Go.RowKit
open Go.ChangeMaps (open_string shut_string)
set_option linter.unusedVariables false      -- a walk need not use every 'w<i>' (that an integer argument fits its kind)

theorem quote_own : ownKnob Try.prog.godebug = none := by kernel_rfl

/-! ### STEP 1: THE WALK: the Go text returns true. 'Grown w w'': the world has at most new blocks (Derived/RowKit3.lean). Part the cases AHEAD of 'go_enter' where a test parts the walk; take each callee by a contract of your own. -/
theorem bits_mod : ∀ k : Fin 256, bits .and .u8 (k.val : Int) 63 = (k.val : Int) % 64 := by decide +kernel

theorem quote_zznext (s b last : Int) (w : World) (hs1 : 0 ≤ s) (hs2 : s ≤ 255) (hb1 : 0 ≤ b) (hb2 : b ≤ 255) (hl1 : 0 ≤ last) (hl2 : last ≤ 255) :
    Calls Try.prog 9 #[.int .u8 s, .int .u8 b, .int .u8 last] w fun e w' => e = .returned (.int .u8 (nextI s b last)) ∧ w' = w := by
  go_enter Try.func9, Try.ntmps9
  go_wp2_with fail
  refine (next_any s b last _ hs1 hs2 hb1 hb2 hl1 hl2).mono ?_
  rintro e w1 ⟨rfl, rfl⟩
  have hbd : 0 ≤ nextI s b last ∧ nextI s b last ≤ 255 := by
    unfold nextI nextC n2
    split
    · exact ⟨bits_lo_u8 _ _ _, bits_hi_u8 _ _ _⟩
    · split
      · exact ⟨bits_lo_u8 _ _ _, bits_hi_u8 _ _ _⟩
      · split
        · exact ⟨bits_lo_u8 _ _ _, bits_hi_u8 _ _ _⟩
        · split
          · exact ⟨bits_lo_u8 _ _ _, bits_hi_u8 _ _ _⟩
          · split
            · exact ⟨bits_lo_u8 _ _ _, bits_hi_u8 _ _ _⟩
            · unfold n1; split <;> omega
  obtain ⟨n, hn⟩ : ∃ n, n = nextI s b last := ⟨_, rfl⟩
  rw [← hn] at hbd ⊢
  obtain ⟨h1, h2⟩ := hbd
  go_wp2
  go_ret
  exact ⟨by rfl, rfl⟩

theorem quote_walk (a0 : Int) (a1 : Int) (a2 : Int) (w0 : (Lit.int .u8 a0).wf = true) (w1 : (Lit.int .u8 a1).wf = true) (w2 : (Lit.int .u8 a2).wf = true) (w : World) :
    Calls Try.prog 4 #[.int .u8 a0, .int .u8 a1, .int .u8 a2] w fun e w' => e = .returned (.bool true) ∧ Grown w w' := by
  obtain ⟨c1, c2⟩ := bounds_u8 w0
  obtain ⟨d1, d2⟩ := bounds_u8 w1
  obtain ⟨f1, f2⟩ := bounds_u8 w2
  obtain ⟨l1, l2, l3, l4⟩ := core_law (bit a0 1) (bit a0 2) (bit a0 4) (bit a0 8) (bit a0 16) (bit a0 32) (a1 == 39) (a1 == 35) (a1 == 34) (a1 == 92) (a2 == 0 || a2 == 32 || a2 == 9) (!lod a2)
  have hall : (bits .and .u8 a0 63 == 0) = !(bit a0 1 || bit a0 2 || bit a0 4 || bit a0 8 || bit a0 16 || bit a0 32) := by
    have h := bits_all ⟨a0.toNat, by omega⟩
    have e : ((a0.toNat : Nat) : Int) = a0 := by omega
    simp only [e] at h
    exact h
  rw [← hall] at l2
  have hn : nextC (bit a0 1) (bit a0 2) (bit a0 4) (bit a0 8) (bit a0 16) (bit a0 32) (a1 == 39) (a1 == 35) (a1 == 34) (a1 == 92) (a2 == 0 || a2 == 32 || a2 == 9) (!lod a2) = nextI a0 a1 a2 := rfl
  rw [hn] at l1 l2 l3 l4
  have hz := fun w => quote_zznext a0 a1 a2 w c1 c2 d1 d2 f1 f2
  obtain ⟨n, hN⟩ : ∃ n, n = nextI a0 a1 a2 := ⟨_, rfl⟩
  rw [← hN] at l1 l2 l3 l4 hz
  clear hn hall hN
  have hmod : bits .and .u8 a0 63 = a0 % 64 := by
    have h := bits_mod ⟨a0.toNat, by omega⟩
    have e : ((a0.toNat : Nat) : Int) = a0 := by omega
    simp only [e] at h
    exact h
  rw [hmod] at l2
  have t2 : (!((n == 0) == (a0 % 64 == 0))) = false := by rw [l2]; simp
  have L3 : Hid (bit a0 2 = true → (bits .and .u8 n 2 == 0) = false) := l3
  have L4 : Hid (bit a0 32 = true → (bits .and .u8 n 16 == 0) = false) := l4
  clear l2 l3 l4 hmod
  rcases bool_em (bit a0 2) with h2 | h2
  · have h2' : (bits BinOp.and IntKind.u8 a0 2 != 0) = false := h2
    rcases bool_em (bit a0 32) with h4 | h4
    · have h4' : (bits BinOp.and IntKind.u8 a0 32 != 0) = false := h4
      clear h2 h4
      go_enter Try.func4, Try.ntmps4
      go_wp2_with fail
      refine (hz _).mono ?_
      rintro e w1 ⟨rfl, rfl⟩
      go_wp2
      go_ret
      exact ⟨rfl, Grown.refl _⟩
    · have h4' : (bits BinOp.and IntKind.u8 a0 32 != 0) = true := h4
      have g4 := L4.out h4
      clear h2 h4
      go_enter Try.func4, Try.ntmps4
      go_wp2_with fail
      refine (hz _).mono ?_
      rintro e w1 ⟨rfl, rfl⟩
      go_wp2
      go_ret
      exact ⟨rfl, Grown.refl _⟩
  · have h2' : (bits BinOp.and IntKind.u8 a0 2 != 0) = true := h2
    have g2 := L3.out h2
    rcases bool_em (bit a0 32) with h4 | h4
    · have h4' : (bits BinOp.and IntKind.u8 a0 32 != 0) = false := h4
      clear h2 h4
      go_enter Try.func4, Try.ntmps4
      go_wp2_with fail
      refine (hz _).mono ?_
      rintro e w1 ⟨rfl, rfl⟩
      go_wp2
      go_ret
      exact ⟨rfl, Grown.refl _⟩
    · have h4' : (bits BinOp.and IntKind.u8 a0 32 != 0) = true := h4
      have g4 := L4.out h4
      clear h2 h4
      go_enter Try.func4, Try.ntmps4
      go_wp2_with fail
      refine (hz _).mono ?_
      rintro e w1 ⟨rfl, rfl⟩
      go_wp2
      go_ret
      exact ⟨rfl, Grown.refl _⟩

/-! ### THE ROW's STEP: WRITTEN OUT: LEAVE IT -/
set_option maxRecDepth 100000 in
theorem quote_lifted (os : Os) (started : os.Started) (H : Type) (enc : TypeId × Value → H) :
    ReturnsInHanded {} Try.checked os 4 .any (Rows.fnQuoteStatesNextNeverLosesEveryReadingSpec.pre6 enc Try.prog Try.f4 Rows.fnQuoteStatesNextNeverLosesEveryReadingRow.domain false) (Rows.fnQuoteStatesNextNeverLosesEveryReadingSpec.post enc Try.prog Try.f4 false true false false) := by
  refine returnsInHanded_of_change (C := Try.checked) quote_own started (by kernel_rfl) Try.func4
    (ChangeSpec.witness6 (enc := enc) (C := Try.checked) false ⟨#[], #[.int .u8 0, .int .u8 0, .int .u8 0], []⟩ 8 (by kernel_rfl) (by kernel_rfl) (by kernel_rfl) (by kernel_rfl)) ?_
  intro W base args ds gs before hval0 hW hcnd _
  have hval : ∀ (j : Nat) t v, Try.f4.params[j]? = some t → args[j]? = some v → Value.okWide Try.prog W .any base t v := hval0
  have hW' := hW
  obtain ⟨p, q, hA0, hV, rfl, hfz, hnd⟩ := hW
  have hA : DataW.TrodAll enc Try.prog W 0 (fun _ => true) true Try.f4.params.toList args.toList ds p := hA0
  rw [Try.params4] at hA hval
  obtain ⟨v0, vs0, d0, ds0, p0, q0, hargs, rfl, rfl, h0, r0⟩ := trodAll_cons hA
  obtain ⟨v1, vs1, d1, ds1, p1, q1, rfl, rfl, rfl, h1, r1⟩ := trodAll_cons r0
  obtain ⟨v2, vs2, d2, ds2, p2, q2, rfl, rfl, rfl, h2, r2⟩ := trodAll_cons r1
  obtain ⟨rfl, rfl, rfl⟩ := trodAll_nil r2
  obtain rfl : args = #[v0, v1, v2] := by cases args; simp_all
  obtain ⟨rfl, rfl⟩ := trodVars_none hV
  obtain ⟨a0, rfl, rfl, rfl, w0⟩ := open_int Try.underlying5 (hval 0 5 v0 rfl rfl) h0
  obtain ⟨a1, rfl, rfl, rfl, w1⟩ := open_int Try.underlying5 (hval 1 5 v1 rfl rfl) h1
  obtain ⟨a2, rfl, rfl, rfl, w2⟩ := open_int Try.underlying5 (hval 2 5 v2 rfl rfl) h2
  clear hA0 hval0
  simp only [List.append_nil] at hW'
  refine (quote_walk a0 a1 a2 w0 w1 w2 W).mono fun e W' ⟨he, hg⟩ => ?_
  subst he
  exact ⟨_, rfl, post_of_same (pa := []) (pv := []) hW' (fun _ _ _ => (trodAll_cons_mk (shut_bool Try.underlying4 _) trodAll_mk0)) (fun sp _ => (trodAll_cons_mk (shut_int Try.underlying5 w0) (trodAll_cons_mk (shut_int Try.underlying5 w1) (trodAll_cons_mk (shut_int Try.underlying5 w2) trodAll_mk0)))) (fun _ _ => rfl) rfl
    (hg.frame _) hg.2.1 (ok_one (by kernel_rfl) rfl (okWide_bool_mk Try.underlying4 _))⟩

theorem quote_over : Rows.fnQuoteStatesNextNeverLosesEveryReadingRow.holds Try.pinned (OpenSpec.ofChange Rows.fnQuoteStatesNextNeverLosesEveryReadingSpec) :=
  OpenClaim.holds_of_wide 4 Try.f4 rfl rfl rfl rfl rfl rfl rfl ⟨rfl, rfl, rfl, rfl, rfl⟩ rfl rfl rfl rfl rfl (by kernel_rfl) Try.func4 (by kernel_rfl)
    (of_decide_eq_true (by kernel_rfl)) (by unfold Func.isWrapper; first | (rw [if_pos (by decide +kernel)]; kernel_rfl) | (rw [if_neg (by decide +kernel)]; exact ⟨rfl, rfl⟩))
    (fun os started H enc _ => quote_lifted os started H enc)

/-- ████ THE STATEMENT ████ -/
theorem quote_proved : Rows.FnQuoteStatesNextNeverLosesEveryReadingSaid :=
  quote_over
end Go.Proofs.Qxb6603268a
