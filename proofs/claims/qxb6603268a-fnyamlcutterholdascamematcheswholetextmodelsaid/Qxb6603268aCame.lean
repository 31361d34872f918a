/- holdAsCame (function 32) holds the bytes as they came. -/
import Derived.Test.Qxb6603268aHold
import Derived.Test.Qxb6603268aCameAid
namespace Go.Proofs.Qxb6603268a
open Go.RowKit Cu
set_option linter.unusedVariables false

def Came (w : World) (B cb : Nat) (dv ev : Value) (s' : St) (n : Nat) (e : Ending) (w' : World) : Prop := e = .returned (.int .i64 n) ∧ Left w B cb dv ev s' w'

set_option maxRecDepth 100000 in
set_option maxHeartbeats 4000000 in
theorem asCame_any (B cb : Nat) (dv ev : Value) (s : St) (w : World) (M : Nat) (sa : Option Addr) (sb so n c : Nat) (f : Nat → Int) (h : CutAt w B cb dv ev s) (hW : Wf s M) (hS : IsV w B sa sb so n c (fun i => .int .u8 (f i))) (hM : M + n ≤ 3000000) :
    Calls Try.prog 32 #[.pointer (some ⟨cb, 0, none⟩), .slice sa n c] w fun e w' => Came w B cb dv ev (text s (tx f n)) n e w' := by
  have H := hide h
  have HW := hide hW
  have HS := hide hS
  have hnc := hS.le
  have hcm := hS.max
  clear h hW hS
  go_enter Try.func32, Try.ntmps32
  go_wp2_with fail
  go_loopg [5] n (fun gk v wr => ∃ (k : Nat) (ra : Option Addr), k ≤ n ∧ gk = n - k ∧ v = .slice ra (n - k) (c - k) ∧ (k < n → ra = some ⟨sb, so + k, none⟩) ∧ Left w B cb dv ev (text s (tx f k)) wr)
  case atStart =>
    go_light
    exact ⟨0, sa, Nat.zero_le _, rfl, rfl, fun h => HS.out.adr h, H.out.left⟩
  case round =>
    obtain ⟨k, ra, hk, rfl, rfl, hra, hL⟩ := hrel
    by_cases hlt : k < n
    · obtain rfl := hra hlt
      clear hra
      have hB : Below B w wr := hL.below H.out
      have hx0 : wr.cell? ⟨sb, so + k, none⟩ = some (.int .u8 (f k)) := (HS.out.keep hB).cell k hlt
      have hcell : ∀ i, i < n → wr.cell? ⟨sb, so + i, none⟩ = some (.int .u8 (f i)) := (HS.out.keep hB).cell
      obtain ⟨x, hx⟩ : ∃ x, x = f k := ⟨_, rfl⟩
      rw [← hx] at hx0
      obtain ⟨dv1, ev1, C1, K1, F1⟩ := hL
      have R1 : Hid (CutIs w B cb dv ev dv1 ev1 (text s (tx f k)) wr) := ⟨K1, F1⟩
      have HC1 := hide C1
      have hW1 : Wf (text s (tx f k)) (M + k) := by have := wf_text HW.out (tx f k); rw [tx_length] at this; exact this
      have HW1 := hide hW1
      have hrun := runOf_any sb so n (c - k) k f x wr hk (by omega) hcell
      have HRUN := hide hrun
      have HCELL := hide hcell
      obtain ⟨N, hN⟩ : ∃ N, N = n - k := ⟨_, rfl⟩
      obtain ⟨C, hC⟩ : ∃ C, C = c - k := ⟨_, rfl⟩
      rw [← hN, ← hC]
      have hN0 : (0 : Int) < (N : Int) := by omega
      have hNC : N ≤ C := by omega
      have hC3 : C ≤ 9223372036854775807 := by omega
      have HN := hide hN
      have HC := hide hC
      have HX := hide hx
      clear hN hC hx hrun hcell hW1 C1 K1 F1 hB
      by_cases hsp : x = 32 ∨ x = 10
      · go_upto_region 4 with fail
        go_cut [21] from 10 to 21 (fun v wx => v = .bool true ∧ wx = wr)
        case first =>
          rcases hsp with rfl | rfl
          all_goals (go_wp2_with fail; go_meet; exact ⟨rfl, rfl⟩)
        case rest =>
        obtain ⟨rfl, hww⟩ := hcut
        rw [hww]
        clear hww wc
        go_wp2_with fail
        have hrun := HRUN.out
        rw [← HN.out, ← HC.out] at hrun
        refine hrun.mono ?_
        rintro e w1 ⟨m, rfl, rfl, hmN, hme, hmx⟩
        have hm0 : 0 < m := by
          rcases Nat.eq_zero_or_pos m with h | h
          · subst h; exact absurd HX.out.symm (hmx (by omega))
          · exact h
        have hmN' : m ≤ N := by rw [HN.out]; exact hmN
        have hme' := hide hme
        have hmx' := hide hmx
        clear hme hmx hmN hrun hsp
        go_wp2_with fail
        refine (hold_any B cb dv1 ev1 (text s (tx f k)) x m false w1 (M + k) HC1.out HW1.out (by have := HN.out; omega)).mono ?_
        rintro e w2 ⟨rfl, hL2⟩
        have F : Hid (Left w B cb dv ev (text s (tx f (k + m))) w2) := by
          rw [text_space HW.out (b := x) hme'.out]
          exact Left.step R1.out hL2
        have hL2' := hide hL2
        clear hL2
        have jN : (m : Int) ≤ (N : Int) := by omega
        have jC : (m : Int) ≤ (C : Int) := by omega
        by_cases hCm : C = m
        · subst hCm
          go_wp2_with fail
          go_roundg (n - (k + C))
          case measure => go_light; have := HN.out; omega
          case rel =>
            go_light
            refine ⟨k + C, some ⟨sb, so + k, none⟩, by have := HN.out; omega, rfl, ?_, fun h => absurd h (by have := HN.out; omega), F.out⟩
            congr 1
            · have := HN.out; omega
            · have := HC.out; omega
        · have hCm' : m < C := by omega
          have hCm2 : ((C : Int) == (m : Int)) = false := by simp; omega
          have jCm : ¬ C - m = 0 := by omega
          go_wp2_with fail
          go_roundg (n - (k + m))
          case measure => go_light; have := HN.out; omega
          case rel =>
            go_light
            refine ⟨k + m, some ⟨sb, so + (k + m), none⟩, by have := HN.out; omega, rfl, ?_, fun h => rfl, F.out⟩
            congr 1
            · simp [Nat.add_assoc]
            · have := HN.out; omega
            · have := HC.out; omega
      · have q1 : (x == 32) = false := by simp; omega
        have q2 : (x == 10) = false := by simp; omega
        go_upto_region 4 with fail
        go_cut [21] from 10 to 21 (fun v wx => v = .bool false ∧ wx = wr)
        case first =>
          go_wp2_with fail
          go_meet
          exact ⟨rfl, rfl⟩
        case rest =>
        obtain ⟨rfl, hww⟩ := hcut
        rw [hww]
        clear hww wc q1 q2
        have HSP := hide hsp
        clear hsp
        obtain ⟨w0, hw0⟩ : ∃ w0, w0 = wr := ⟨_, rfl⟩
        subst hw0
        go_wp2_with fail
        go_loopg [8] N (fun gj v wi => ∃ m : Nat, m ≤ N ∧ gj = N - m ∧ v = .int .i64 m ∧ wi = w0 ∧ ∀ i, i < m → ¬ (f (k + i) = 32 ∨ f (k + i) = 10))
        case atStart =>
          go_light
          exact ⟨0, Nat.zero_le _, rfl, rfl, rfl, fun i h => absurd h (Nat.not_lt_zero _)⟩
        case round =>
          obtain ⟨m, hmN, rfl, rfl, hww, hf⟩ := hrel
          obtain ⟨y, hy⟩ : ∃ y, y = f (k + m) := ⟨_, rfl⟩
          obtain ⟨q, hq⟩ : ∃ q : Bool, q = decide (m < N ∧ ¬ (y = 32 ∨ y = 10)) := ⟨_, rfl⟩
          have HQ := hide hq
          have HF := hide hf
          have HY := hide hy
          rw [hww]
          clear hq hf hy hww
          go_upto_region 9 with fail
          go_cut [49] from 32 to 49 (fun v wx => v = .bool q ∧ wx = w0)
          case first =>
            by_cases hlt2 : m < N
            · have hlz : (m : Int) < (N : Int) := by omega
              have g0 : w0.cell? ⟨sb, so + k + m, none⟩ = some (.int .u8 y) := by
                have := HCELL.out (k + m) (by have := HN.out; omega)
                rw [HY.out, Nat.add_assoc]; exact this
              by_cases h1 : y = 32
              · have F : q = false := by rw [HQ.out, h1]; simp
                subst h1
                go_wp2_with fail
                go_meet
                exact ⟨by rw [F], rfl⟩
              · have h1f : (y == 32) = false := by simpa using h1
                have h1t : (y != 32) = true := by simpa using h1
                by_cases h2 : y = 10
                · have F : q = false := by rw [HQ.out, h2]; simp
                  subst h2
                  go_wp2_with fail
                  go_meet
                  exact ⟨by rw [F], rfl⟩
                · have h2f : (y == 10) = false := by simpa using h2
                  have h2t : (y != 10) = true := by simpa using h2
                  have F : q = true := by rw [HQ.out]; simp [h1, h2, hlt2]
                  go_wp2_with fail
                  go_meet
                  exact ⟨by rw [F], rfl⟩
            · have hlz : ¬ ((m : Int) < (N : Int)) := by omega
              have F : q = false := by rw [HQ.out]; simp [hlt2]
              go_wp2_with fail
              go_meet
              exact ⟨by rw [F], rfl⟩
          case rest =>
          obtain ⟨rfl, hww⟩ := hcut
          rw [hww]
          clear hww wc
          cases q with
          | true =>
            have hq : m < N ∧ ¬ (y = 32 ∨ y = 10) := by simpa using HQ.out
            have G : Hid (∀ i, i < m + 1 → ¬ (f (k + i) = 32 ∨ f (k + i) = 10)) := fun i hi => by
              by_cases e : i = m
              · subst e; rw [← HY.out]; exact hq.2
              · exact HF.out i (by omega)
            have hq1 := hq.1
            clear hq
            go_wp2_with fail
            go_roundg (N - (m + 1))
            case measure => go_light; omega
            case rel =>
              go_light
              exact ⟨m + 1, by omega, rfl, by simp, rfl, G.out⟩
          | false =>
            have hm0 : 0 < m := by
              rcases Nat.eq_zero_or_pos m with h | h
              · have hq : ¬ (m < N ∧ ¬ (y = 32 ∨ y = 10)) := by simpa using HQ.out
                subst h
                exact absurd ⟨by omega, by rw [HY.out]; have := HX.out; rw [Nat.add_zero, ← this]; exact HSP.out⟩ hq
              · exact h
            obtain ⟨a, cap, D, hdv, hD, hpos⟩ := HC1.out.dat
            have c0 : w0.cell? ⟨cb, 0, none⟩ = some (.slice a D cap) := by rw [← hdv]; exact HC1.out.c0
            have hD3 : D + m ≤ 4000000 := by have h1 := HW1.out.dlen; have := HN.out; omega
            have jN : (m : Int) ≤ (N : Int) := by omega
            have jC : (m : Int) ≤ (C : Int) := by omega
            obtain ⟨g5, cap5, w6, a1, a2, a3, a4⟩ := data_append_at HC1.out ((Below.refl _ w0).drew) sb (so + k) m C ((List.range m).map fun i => f (k + i)) (by simp)
              (fun j x hx => by
                have hj : j < m := by
                  rcases Nat.lt_or_ge j m with h | h
                  · exact h
                  · rw [List.getElem?_eq_none (by simpa using h)] at hx; cases hx
                rw [List.getElem?_map, List.getElem?_range hj] at hx
                obtain rfl : f (k + j) = x := by simpa using hx
                have := HCELL.out (k + j) (by have := HN.out; omega)
                rw [Nat.add_assoc]; exact this) hm0 (by rw [← hD]; exact hD3)
            rw [hdv, ← hD] at a1
            have F : Hid (Left w B cb dv ev (text s (tx f (k + m))) (w6.setCell ⟨cb, 0, none⟩ (.slice (some ⟨g5, 0, none⟩) (D + m) cap5))) := by
              rw [text_word s HF.out, hD]
              exact Left.step R1.out a4
            clear hdv hD hpos a4
            go_wp2_with fail
            go_region_law (refine step_app rfl (.tmp 57) (.tmp 60) 25 rfl (.slice a D cap) (.slice (some ⟨sb, so + k, none⟩) m C) (.slice (some ⟨g5, 0, none⟩) (D + m) cap5) w6 (by simp [Act.eval]) (by simp [Act.eval]) a1 ?_)
            all_goals
              by_cases hCm : C = m
              · subst hCm
                go_wp2_with fail
                go_roundg (n - (k + C))
                case measure => go_light; have := HN.out; omega
                case rel =>
                  go_light
                  refine ⟨k + C, some ⟨sb, so + k, none⟩, by have := HN.out; omega, rfl, ?_, fun h => absurd h (by have := HN.out; omega), F.out⟩
                  congr 1
                  · have := HN.out; omega
                  · have := HC.out; omega
              · have hCm' : m < C := by omega
                have hCm2 : ((C : Int) == (m : Int)) = false := by simp; omega
                have jCm : ¬ C - m = 0 := by omega
                go_wp2_with fail
                go_roundg (n - (k + m))
                case measure => go_light; have := HN.out; omega
                case rel =>
                  go_light
                  refine ⟨k + m, some ⟨sb, so + (k + m), none⟩, by have := HN.out; omega, rfl, ?_, fun h => rfl, F.out⟩
                  congr 1
                  · simp [Nat.add_assoc]
                  · have := HN.out; omega
                  · have := HC.out; omega
    · have hkn : k = n := by omega
      subst hkn
      have F := hide hL
      clear hL hra
      have e0 : k - k = 0 := Nat.sub_self k
      rw [e0]
      go_wp2_with fail
      go_ret
      exact ⟨rfl, F.out⟩

end Go.Proofs.Qxb6603268a
