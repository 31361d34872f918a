/- zzd1RunScript (function 16) where nothing is kept. -/
import Derived.Test.Qxb6603268aLeaf
import Derived.Test.Qxb6603268aScript
namespace Go.Proofs.Qxb6603268a
open Go.RowKit Cu
set_option linter.unusedVariables false

/-- The script, plainly. -/
def play (f ns : Nat → Int) (ps : Nat → Bool) (s : St) : Nat → St
  | 0 => s
  | k + 1 => holdF (play f ns ps s k) (f k) (ns k).toNat (ps k)

theorem wf_play {s : St} {M : Nat} (h : Wf s M) (f ns : Nat → Int) (ps : Nat → Bool) (k : Nat) : Wf (play f ns ps s k) (M + sumTo ns k) := by
  induction k with
  | zero => exact h
  | succ k ih => rw [sumTo_succ, ← Nat.add_assoc]; exact wf_hold ih _ _ _

theorem sumTo_mono (ns : Nat → Int) {j k : Nat} (h : j ≤ k) : sumTo ns j ≤ sumTo ns k := by
  induction k with
  | zero => have : j = 0 := by omega
            subst this; exact Nat.le_refl _
  | succ k ih =>
    rw [sumTo_succ]
    by_cases e : j = k + 1
    · subst e; rw [sumTo_succ]; exact Nat.le_refl _
    · have := ih (by omega); omega

theorem Left.of_drew {w w' : World} {B cb : Nat} {dv ev : Value} {s : St} (h : Left w.drew B cb dv ev s w') : Left w B cb dv ev s w' := by
  obtain ⟨d, e, h1, h2, h3⟩ := h
  exact ⟨d, e, h1, ⟨h2.os, h2.tape, h2.output, h2.size, h2.block⟩, h3⟩

theorem enter19 (args : Array Value) (w : World) : (callFunc 19 args).run Try.prog w = .ok (.enter 19 args) w := by
  have h := Try.func19
  go_simp

section
variable {P : Program} {ops : Array Oper} {o : Oper} {a : Act} {w : World} {K : Act → World → Prop} {Q : Exit → Act → World → Prop} {E : Prop}
/-- A call of four arguments by its contract, as one step of a region that draws. -/
theorem step_call4 (hg : o.guard = none) (f : FuncId) (x1 x2 x3 x4 : Operand) (ts : Array TypeId) (ho : o.op = .call { callee := .value (.func f), args := #[x1, x2, x3, x4], argTypes := ts }) (v1 v2 v3 v4 : Value) (h1 : a.eval x1 = v1) (h2 : a.eval x2 = v2) (h3 : a.eval x3 = v3) (h4 : a.eval x4 = v4)
    (hcf : (callFunc f #[v1, v2, v3, v4]).run P w = .ok (.enter f #[v1, v2, v3, v4]) w)
    (hc : Calls P f #[v1, v2, v3, v4] w fun e w' => ∃ r, e = .returned r ∧ K (a.put o.dst r) w') : if Region.wanted o (yielded ops a.tmps) = true then Oper.wp P o a w K Q else E := by
  have hw : Region.wanted o (yielded ops a.tmps) = true := by simp [Region.wanted, hg]
  rw [if_pos hw]
  have e1 : a.eval (.func f) = .func (.func f) #[] #[] := rfl
  have hrun : (execOp a.eval o).run P w = .ok (.enter f #[v1, v2, v3, v4]) w := by
    unfold execOp
    simp only [ho, resolve, invoke, Sem.run_bind, Sem.run_pure, List.map_toArray, List.map_cons, List.map_nil, h1, h2, h3, h4, e1, Deferred.ofValue, Result.andThen_ok, Array.append_empty, Array.empty_append, hcf]
  unfold Oper.wp
  rw [hrun, Oper.upon_enter]
  refine hc.mono fun e w'' hh => ?_
  obtain ⟨r, rfl, hk⟩ := hh
  exact hk
end

def Ran (w : World) (B cb : Nat) (dv ev vt vf : Value) (s' : St) (e : Ending) (w' : World) : Prop := e = .returned (.tuple #[vt, vf]) ∧ Left w B cb dv ev s' w'

set_option maxRecDepth 100000 in
set_option maxHeartbeats 4000000 in
theorem runScript_any (B cb : Nat) (dv ev : Value) (s : St) (w : World) (M K : Nat) (a1 a2 a3 : Option Addr) (b1 o1 n1 c1 b2 o2 n2 c2 b3 o3 n3 c3 : Nat) (f ns : Nat → Int) (ps : Nat → Bool) (h : CutAt w B cb dv ev s) (hW : Wf s M)
    (h1 : IsV w B a1 b1 o1 n1 c1 (fun i => .int .u8 (f i))) (h2 : IsV w B a2 b2 o2 n2 c2 (fun i => .int .i64 (ns i))) (h3 : IsV w B a3 b3 o3 n3 c3 (fun i => .bool (ps i))) (k1 : K ≤ n1) (k2 : K ≤ n2) (k3 : K ≤ n3) (hK : K ≤ 65536) (hpos : ∀ i, i < K → 0 ≤ ns i) (hM : M + sumTo ns K ≤ 3000000) :
    Calls Try.prog 16 #[.pointer (some ⟨cb, 0, none⟩), .slice a1 n1 c1, .slice a2 n2 c2, .slice a3 n3 c3, .int .i64 K, .slice none 0 0, .slice none 0 0, .bool false] w fun e w' => Ran w B cb dv ev (.slice none 0 0) (.slice none 0 0) (play f ns ps s K) e w' := by
  have H := hide h
  have HW := hide hW
  have H1 := hide h1
  have H2 := hide h2
  have H3 := hide h3
  have HP := hide hpos
  have l1 := h1.le
  have l2 := h2.le
  have l3 := h3.le
  have m1 := h1.max
  have m2 := h2.max
  have m3 := h3.max
  have HM := hide hM
  clear h hW h1 h2 h3 hpos hM
  go_enter Try.func16, Try.ntmps16
  go_wp2_with fail
  go_loopg [5, 6, 18] K (fun gk v5 v6 v wr => ∃ k : Nat, k ≤ K ∧ gk = K - k ∧ v5 = .slice none 0 0 ∧ v6 = .slice none 0 0 ∧ v = .int .i64 k ∧ Left w B cb dv ev (play f ns ps s k) wr)
  case atStart =>
    go_light
    exact ⟨0, Nat.zero_le _, rfl, rfl, rfl, rfl, H.out.left⟩
  case round =>
    obtain ⟨k, hk, rfl, rfl, rfl, rfl, hL⟩ := hrel
    by_cases hlt : k < K
    · have hlz : (k : Int) < (K : Int) := by omega
      have j1 : k < n1 := by omega
      have j2 : k < n2 := by omega
      have j3 : k < n3 := by omega
      have hB : Below B w wr := hL.below H.out
      obtain rfl := H1.out.adr (by omega)
      obtain rfl := H2.out.adr (by omega)
      obtain rfl := H3.out.adr (by omega)
      obtain ⟨x, hx⟩ : ∃ x, x = f k := ⟨_, rfl⟩
      obtain ⟨m, hm⟩ : ∃ m : Nat, ns k = m := ⟨(ns k).toNat, by have := HP.out k hlt; omega⟩
      obtain ⟨p, hp⟩ : ∃ p, p = ps k := ⟨_, rfl⟩
      have g1 : wr.cell? ⟨b1, o1 + k, none⟩ = some (.int .u8 x) := by rw [hx]; exact (H1.out.keep hB).cell k (by omega)
      have g2 : wr.cell? ⟨b2, o2 + k, none⟩ = some (.int .i64 m) := by rw [← hm]; exact (H2.out.keep hB).cell k (by omega)
      have g3 : wr.cell? ⟨b3, o3 + k, none⟩ = some (.bool p) := by rw [hp]; exact (H3.out.keep hB).cell k (by omega)
      obtain ⟨dv1, ev1, C1, K1, F1⟩ := hL
      have C1' : CutAt wr.drew B cb dv1 ev1 (play f ns ps s k) := C1.same (fun _ _ => rfl)
      have hcall := zzhold_any B cb dv1 ev1 (play f ns ps s k) x m p wr.drew (M + sumTo ns k) C1' (wf_play HW.out f ns ps k) (by have h1 := sumTo_mono ns (show k + 1 ≤ K from hlt); rw [sumTo_succ, hm] at h1; have := HM.out; simp at h1; omega)
      have R1 : Hid (CutIs w B cb dv ev dv1 ev1 (play f ns ps s k) wr) := ⟨K1, F1⟩
      have HX := hide hx
      have HMM := hide hm
      have HPP := hide hp
      clear hx hm hp C1 C1' K1 F1 hB
      go_upto_region 4 with fail
      go_cut [] from 20 to 38 (fun wx => Left w B cb dv ev (play f ns ps s (k + 1)) wx)
      case first =>
        go_region_law (refine step_call4 rfl 19 (.tmp 25) (.tmp 29) (.tmp 33) (.tmp 37) _ rfl (.pointer (some ⟨cb, 0, none⟩)) (.int .u8 x) (.int .i64 m) (.bool p) (by simp [Act.eval]) (by simp [Act.eval]) (by simp [Act.eval]) (by simp [Act.eval]) (enter19 _ _) ?_; refine hcall.mono ?_; rintro e v1 ⟨rfl, hL1⟩; refine ⟨_, rfl, ?_⟩)
        all_goals
          have F : Left w B cb dv ev (play f ns ps s (k + 1)) v1 := by
            have := Left.step R1.out hL1.of_drew
            show Left w B cb dv ev (holdF (play f ns ps s k) (f k) (ns k).toNat (ps k)) v1
            rw [← HX.out, HMM.out, ← HPP.out]; exact this
          clear hL1
          go_wp2_with fail
          go_meet
          exact F
      case rest =>
      have F := hide hcut
      clear hcut hcall
      go_wp2_with fail
      go_roundg (K - (k + 1))
      case measure => go_light; omega
      case rel => go_light; exact ⟨k + 1, by omega, rfl, rfl, rfl, by simp, F.out⟩
    · have hlz : ¬ ((k : Int) < (K : Int)) := by omega
      obtain rfl : k = K := by omega
      have F := hide hL
      clear hL
      go_wp2_with fail
      go_ret2
      exact ⟨rfl, F.out⟩

end Go.Proofs.Qxb6603268a
