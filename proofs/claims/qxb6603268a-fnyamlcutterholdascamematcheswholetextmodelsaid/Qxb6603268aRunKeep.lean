/- zzd1RunScript (function 16) where the text is kept. -/
import Derived.Test.Qxb6603268aRowsOwn
namespace Go.Proofs.Qxb6603268a
open Go.RowKit Cu
set_option linter.unusedVariables false

/-- The text that a script hands over. -/
def scr (f ns : Nat → Int) (ps : Nat → Bool) : Nat → List (Int × Bool)
  | 0 => []
  | k + 1 => scr f ns ps k ++ List.replicate (ns k).toNat (f k, ps k)

theorem scr_length (f ns : Nat → Int) (ps : Nat → Bool) (k : Nat) : (scr f ns ps k).length = sumTo ns k := by
  induction k with
  | zero => rfl
  | succ k ih => rw [sumTo_succ, ← ih]; simp [scr]

theorem play_scr {s : St} {M : Nat} (h : Wf s M) (f ns : Nat → Int) (ps : Nat → Bool) (k : Nat) : play f ns ps s k = text s (scr f ns ps k) := by
  induction k with
  | zero => rfl
  | succ k ih =>
    show holdF (play f ns ps s k) (f k) (ns k).toNat (ps k) = text s (scr f ns ps k ++ List.replicate (ns k).toNat (f k, ps k))
    rw [text_append, ih, text_rep (wf_text h _)]

def RanK (w : World) (B cb : Nat) (s' : St) (L : List (Int × Bool)) (e : Ending) (w' : World) : Prop :=
  ∃ tv fv dv ev, e = .returned (.tuple #[tv, fv]) ∧ Kep w' B cb dv ev s' tv fv (L.map Prod.fst) (L.map Prod.snd) ∧ Below B w w'

theorem kep_start {w : World} {B cb : Nat} {dv ev : Value} {s : St} (h : CutAt w B cb dv ev s) : Kep w B cb dv ev s (.slice none 0 0) (.slice none 0 0) [] [] :=
  ⟨h, ⟨rfl, .inl ⟨rfl, rfl⟩⟩, ⟨rfl, .inl ⟨rfl, rfl⟩⟩, fun k _ => ⟨by simp [Value.ownBlock], by simp [Value.ownBlock]⟩⟩

theorem rep_succ {α : Type} (l : List α) (j : Nat) (x : α) : l ++ List.replicate j x ++ [x] = l ++ List.replicate (j + 1) x := by
  rw [List.append_assoc, ← List.replicate_succ']

set_option maxRecDepth 100000 in
set_option maxHeartbeats 4000000 in
theorem runKeep_any (B cb : Nat) (dv ev : Value) (s : St) (w : World) (M K : Nat) (a1 a2 a3 : Option Addr) (b1 o1 n1 c1 b2 o2 n2 c2 b3 o3 n3 c3 : Nat) (f ns : Nat → Int) (ps : Nat → Bool) (h : CutAt w B cb dv ev s) (hW : Wf s M)
    (h1 : IsV w B a1 b1 o1 n1 c1 (fun i => .int .u8 (f i))) (h2 : IsV w B a2 b2 o2 n2 c2 (fun i => .int .i64 (ns i))) (h3 : IsV w B a3 b3 o3 n3 c3 (fun i => .bool (ps i))) (k1 : K ≤ n1) (k2 : K ≤ n2) (k3 : K ≤ n3) (hK : K ≤ 65536) (hpos : ∀ i, i < K → 0 ≤ ns i) (hM : M + sumTo ns K ≤ 3000000) :
    Calls Try.prog 16 #[.pointer (some ⟨cb, 0, none⟩), .slice a1 n1 c1, .slice a2 n2 c2, .slice a3 n3 c3, .int .i64 K, .slice none 0 0, .slice none 0 0, .bool true] w fun e w' => RanK w B cb (play f ns ps s K) (scr f ns ps K) e w' := by
  have H := hide h
  have HW := hide hW
  have H1 := hide h1
  have H2 := hide h2
  have H3 := hide h3
  have HP := hide hpos
  have l1 := h1.le
  have l2 := h2.le
  have l3 := h3.le
  have m1 := h1.max
  have m2 := h2.max
  have m3 := h3.max
  have HM := hide hM
  clear h hW h1 h2 h3 hpos hM
  go_enter Try.func16, Try.ntmps16
  go_wp2_with fail
  go_loopg [5, 6, 18] K (fun gk v5 v6 v wr => ∃ (k : Nat) (dv' ev' : Value), k ≤ K ∧ gk = K - k ∧ v = .int .i64 k ∧ Kep wr B cb dv' ev' (play f ns ps s k) v5 v6 ((scr f ns ps k).map Prod.fst) ((scr f ns ps k).map Prod.snd) ∧ Below B w wr)
  case atStart =>
    go_light
    exact ⟨0, dv, ev, Nat.zero_le _, rfl, rfl, kep_start H.out, Below.refl _ _⟩
  case round =>
    obtain ⟨k, dv1, ev1, hk, rfl, rfl, hKp, hB⟩ := hrel
    obtain ⟨tv, htv⟩ : ∃ tv, tv = u5 := ⟨_, rfl⟩
    obtain ⟨fv, hfv⟩ : ∃ fv, fv = u6 := ⟨_, rfl⟩
    rw [← htv, ← hfv] at hKp ⊢
    have HKp := hide hKp
    have HB := hide hB
    clear htv hfv hKp hB
    by_cases hlt : k < K
    · have hlz : (k : Int) < (K : Int) := by omega
      have j1 : k < n1 := by omega
      have j2 : k < n2 := by omega
      have j3 : k < n3 := by omega
      obtain rfl := H1.out.adr (by omega)
      obtain rfl := H2.out.adr (by omega)
      obtain rfl := H3.out.adr (by omega)
      obtain ⟨x, hx⟩ : ∃ x, x = f k := ⟨_, rfl⟩
      obtain ⟨m, hm⟩ : ∃ m : Nat, ns k = m := ⟨(ns k).toNat, by have := HP.out k hlt; omega⟩
      obtain ⟨p, hp⟩ : ∃ p, p = ps k := ⟨_, rfl⟩
      have g1 : wr.cell? ⟨b1, o1 + k, none⟩ = some (.int .u8 x) := by rw [hx]; exact (H1.out.keep HB.out).cell k (by omega)
      have g2 : wr.cell? ⟨b2, o2 + k, none⟩ = some (.int .i64 m) := by rw [← hm]; exact (H2.out.keep HB.out).cell k (by omega)
      have g3 : wr.cell? ⟨b3, o3 + k, none⟩ = some (.bool p) := by rw [hp]; exact (H3.out.keep HB.out).cell k (by omega)
      have hsum : sumTo ns k + m ≤ 3000000 := by have h1 := sumTo_mono ns (show k + 1 ≤ K from hlt); rw [sumTo_succ, hm] at h1; have := HM.out; simp at h1; omega
      have hsum2 : M + sumTo ns k + m ≤ 3000000 := by have h1 := sumTo_mono ns (show k + 1 ≤ K from hlt); rw [sumTo_succ, hm] at h1; have := HM.out; simp at h1; omega
      have C1' : CutAt wr.drew B cb dv1 ev1 (play f ns ps s k) := HKp.out.cut.same (fun _ _ => rfl)
      have hcall := zzhold_any B cb dv1 ev1 (play f ns ps s k) x m p wr.drew (M + sumTo ns k) C1' (wf_play HW.out f ns ps k) hsum2
      have HX := hide hx
      have HMM := hide hm
      have HPP := hide hp
      clear hx hm hp C1' hsum2
      go_upto_region 4 with fail
      go_cut [] from 20 to 38 (fun wx => (∃ dv2 ev2, Kep wx B cb dv2 ev2 (play f ns ps s (k + 1)) tv fv ((scr f ns ps k).map Prod.fst) ((scr f ns ps k).map Prod.snd)) ∧ Below B w wx)
      case first =>
        go_region_law (refine step_call4 rfl 19 (.tmp 25) (.tmp 29) (.tmp 33) (.tmp 37) _ rfl (.pointer (some ⟨cb, 0, none⟩)) (.int .u8 x) (.int .i64 m) (.bool p) (by simp [Act.eval]) (by simp [Act.eval]) (by simp [Act.eval]) (by simp [Act.eval]) (enter19 _ _) ?_; refine hcall.mono ?_; rintro e v1 ⟨rfl, hL1⟩; refine ⟨_, rfl, ?_⟩)
        all_goals
          have F : (∃ dv2 ev2, Kep v1 B cb dv2 ev2 (play f ns ps s (k + 1)) tv fv ((scr f ns ps k).map Prod.fst) ((scr f ns ps k).map Prod.snd)) ∧ Below B w v1 := by
            have hL2 : Left wr B cb dv1 ev1 (play f ns ps s (k + 1)) v1 := by
              have := hL1.of_drew
              show Left wr B cb dv1 ev1 (holdF (play f ns ps s k) (f k) (ns k).toNat (ps k)) v1
              rw [← HX.out, HMM.out, ← HPP.out]; exact this
            exact ⟨HKp.out.left hL2, below_tr HB.out (hL2.below HKp.out.cut)⟩
          have HF := hide F
          clear hL1 F
          go_wp2_with fail
          go_meet
          exact HF.out
      case rest =>
      obtain ⟨⟨dv2, ev2, hK2⟩, hB2⟩ := hcut
      obtain ⟨w2, hw2⟩ : ∃ w2, w2 = wc := ⟨_, rfl⟩
      rw [← hw2] at hK2 hB2 ⊢
      have HK2 := hide hK2
      have HB2 := hide hB2
      clear hK2 hB2 hw2 wc hcall HKp HB g1 g2 g3
      go_wp2_with fail
      go_loopg [5, 6, 19] m (fun gj v5 v6 v wi => ∃ (j : Nat), j ≤ m ∧ gj = m - j ∧ v = .int .i64 j ∧ Kep wi B cb dv2 ev2 (play f ns ps s (k + 1)) v5 v6 ((scr f ns ps k).map Prod.fst ++ List.replicate j x) ((scr f ns ps k).map Prod.snd ++ List.replicate j p) ∧ Below B w wi)
      case atStart =>
        go_light
        exact ⟨0, Nat.zero_le _, rfl, rfl, by simpa using HK2.out, HB2.out⟩
      case round =>
        obtain ⟨j, hj, rfl, rfl, hKp, hB⟩ := hrel
        obtain ⟨w3, hw3⟩ : ∃ w3, w3 = wr := ⟨_, rfl⟩
        obtain ⟨tv3, htv⟩ : ∃ tv, tv = u5 := ⟨_, rfl⟩
        obtain ⟨fv3, hfv⟩ : ∃ fv, fv = u6 := ⟨_, rfl⟩
        rw [← hw3] at hKp hB ⊢
        rw [← htv, ← hfv] at hKp ⊢
        have HKp := hide hKp
        have HB := hide hB
        clear htv hfv hKp hB hw3
        have g2 : w3.cell? ⟨b2, o2 + k, none⟩ = some (.int .i64 m) := by rw [← HMM.out]; exact (H2.out.keep HB.out).cell k (by omega)
        by_cases hlt2 : j < m
        · have hlz2 : (j : Int) < (m : Int) := by omega
          have g1 : w3.cell? ⟨b1, o1 + k, none⟩ = some (.int .u8 x) := by rw [HX.out]; exact (H1.out.keep HB.out).cell k (by omega)
          obtain ⟨T, hT⟩ : ∃ T, T = ((scr f ns ps k).map Prod.fst ++ List.replicate j x).length := ⟨_, rfl⟩
          have hT2 : T = sumTo ns k + j := by rw [hT]; simp [scr_length]
          have hT3 : ((scr f ns ps k).map Prod.snd ++ List.replicate j p).length = T := by rw [hT2]; simp [scr_length]
          obtain ⟨g4, cap4, w4, a4, hK4, hB4⟩ := HKp.out.tadd (by rw [← hT]; omega) x
          obtain ⟨g5, cap5, w5, a5, hK5, hB5⟩ := hK4.fadd (by rw [hT3]; omega) p
          have g3 : w4.cell? ⟨b3, o3 + k, none⟩ = some (.bool p) := by rw [HPP.out]; exact (H3.out.keep (below_tr HB.out hB4)).cell k (by omega)
          rw [← hT] at a4
          rw [hT3] at a5
          have F : Hid (Kep w5 B cb dv2 ev2 (play f ns ps s (k + 1)) (.slice (some ⟨g4, 0, none⟩) (T + 1) cap4) (.slice (some ⟨g5, 0, none⟩) (T + 1) cap5) ((scr f ns ps k).map Prod.fst ++ List.replicate (j + 1) x) ((scr f ns ps k).map Prod.snd ++ List.replicate (j + 1) p)) := by
            rw [rep_succ, rep_succ, ← hT, hT3] at hK5; exact hK5
          have HB5 : Hid (Below B w w5) := below_tr HB.out (below_tr hB4 hB5)
          clear hK4 hK5 hB4 hB5 hT hT2 hT3
          go_wp2_with (first
            | (at_builtin; refine wpList_app rfl (.tmp 48) (.tmp 53) 25 rfl tv3 (.slice (some ⟨w3.heap.size, 0, none⟩) 1 1) (.slice (some ⟨g4, 0, none⟩) (T + 1) cap4) w4 (by simp [Act.eval]) (by simp [Act.eval]) a4 ?_)
            | (at_builtin; refine wpList_app rfl (.tmp 55) (.tmp 60) 27 rfl fv3 (.slice (some ⟨w4.heap.size, 0, none⟩) 1 1) (.slice (some ⟨g5, 0, none⟩) (T + 1) cap5) w5 (by simp [Act.eval]) (by simp [Act.eval]) a5 ?_))
          go_roundg (m - (j + 1))
          case measure => go_light; omega
          case rel => go_light; exact ⟨j + 1, by omega, rfl, by simp, F.out, HB5.out⟩
        · have hlz2 : ¬ (j : Int) < (m : Int) := by omega
          obtain rfl : j = m := by omega
          have F : Hid (Kep w3 B cb dv2 ev2 (play f ns ps s (k + 1)) tv3 fv3 ((scr f ns ps (k + 1)).map Prod.fst) ((scr f ns ps (k + 1)).map Prod.snd)) := by
            have e : scr f ns ps (k + 1) = scr f ns ps k ++ List.replicate j (x, p) := by
              show scr f ns ps k ++ List.replicate (ns k).toNat (f k, ps k) = _
              rw [HX.out, HMM.out, HPP.out]; rfl
            have h9 := HKp.out
            rw [e, List.map_append, List.map_append, List.map_replicate, List.map_replicate]; exact h9
          go_wp2_with fail
          go_roundg (K - (k + 1))
          case measure => go_light; omega
          case rel => go_light; exact ⟨k + 1, dv2, ev2, by omega, rfl, by simp, F.out, HB.out⟩
    · have hlz : ¬ ((k : Int) < (K : Int)) := by omega
      obtain rfl : k = K := by omega
      go_wp2_with fail
      go_ret2
      exact ⟨tv, fv, dv1, ev1, rfl, HKp.out, HB.out⟩

end Go.Proofs.Qxb6603268a
