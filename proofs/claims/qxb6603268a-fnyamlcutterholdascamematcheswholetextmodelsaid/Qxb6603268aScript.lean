/- zzd1Script (function 11). -/
import Derived.Test.Qxb6603268aSlices
namespace Go.Proofs.Qxb6603268a
open Go.RowKit Cu
set_option linter.unusedVariables false

def sumTo (ns : Nat → Int) (k : Nat) : Nat := ((List.range k).map (fun i => (ns i).toNat)).sum
theorem sumTo_succ (ns : Nat → Int) (k : Nat) : sumTo ns (k + 1) = sumTo ns k + (ns k).toNat := by simp [sumTo, List.range_succ]
theorem sumTo_zero (ns : Nat → Int) : sumTo ns 0 = 0 := rfl

/-- What zzd1Script answers. -/
def Script (w : World) (ns : Nat → Int) (K : Nat) (e : Ending) (w' : World) : Prop :=
  w' = w ∧ (e = .returned (.tuple #[.int .i64 0, .int .i64 0, .bool false]) ∨ (∃ t : Int, e = .returned (.tuple #[.int .i64 K, .int .i64 t, .bool true])) ∧ (∀ i, i < K → 0 ≤ ns i) ∧ sumTo ns K ≤ 1048576)

set_option maxRecDepth 100000 in
set_option maxHeartbeats 1000000 in
theorem script_any (a1 a2 a3 : Option Addr) (n1 c1 n2 c2 n3 c3 sb so : Nat) (ns : Nat → Int) (B : Nat) (w : World) (h : IsV w B a2 sb so n2 c2 (fun i => .int .i64 (ns i))) (h1 : n1 ≤ 65536) (h2 : n2 ≤ 65536) (h3 : n3 ≤ 65536) :
    Calls Try.prog 11 #[.slice a1 n1 c1, .slice a2 n2 c2, .slice a3 n3 c3] w fun e w' => Script w ns (min n1 (min n2 n3)) e w' := by
  obtain ⟨K, hK⟩ : ∃ K, K = min n1 (min n2 n3) := ⟨_, rfl⟩
  rw [← hK]
  have H := hide h
  have HK := hide hK
  have hK2 : K ≤ n2 := by omega
  have hK3 : K ≤ 65536 := by omega
  have hadr := h.adr
  have hcell := h.cell
  have hle := h.le
  have hmax := h.max
  have HA := hide hadr
  have HC := hide hcell
  clear hK h hadr hcell
  go_enter Try.func11, Try.ntmps11
  go_upto_if 17 with fail
  obtain ⟨K2, hK2'⟩ : ∃ K2, K2 = min n1 n2 := ⟨_, rfl⟩
  have HK2 := hide hK2'
  clear hK2'
  go_cut [9] from 17 to 19 (fun v wx => v = .int .i64 K2 ∧ wx = w)
  case first =>
    by_cases hq : n2 < n1
    · have hz : (n2 : Int) < (n1 : Int) := by omega
      go_wp2_with fail
      go_meet
      exact ⟨by rw [show K2 = n2 by rw [HK2.out]; omega], rfl⟩
    · have hz : ¬ (n2 : Int) < (n1 : Int) := by omega
      go_wp2_with fail
      go_meet
      exact ⟨by rw [show K2 = n1 by rw [HK2.out]; omega], rfl⟩
  case rest =>
  obtain ⟨rfl, hww⟩ := hcut
  rw [hww]
  clear hww wc
  go_upto_if 23 with fail
  go_cut [9] from 23 to 25 (fun v wx => v = .int .i64 K ∧ wx = w)
  case first =>
    by_cases hq : n3 < K2
    · have hz : (n3 : Int) < (K2 : Int) := by omega
      go_wp2_with fail
      go_meet
      exact ⟨by rw [show K = n3 by have := HK.out; have := HK2.out; omega], rfl⟩
    · have hz : ¬ (n3 : Int) < (K2 : Int) := by omega
      go_wp2_with fail
      go_meet
      exact ⟨by rw [show K = K2 by have := HK.out; have := HK2.out; omega], rfl⟩
  case rest =>
  obtain ⟨rfl, hww⟩ := hcut
  rw [hww]
  clear hww wc
  go_wp2_with fail
  go_loopg [10, 11] K (fun gk t i wr => ∃ (j T : Nat), j ≤ K ∧ gk = K - j ∧ i = .int .i64 j ∧ t = .int .i64 T ∧ wr = w ∧ T ≤ 1048576 ∧ T = sumTo ns j ∧ ∀ i, i < j → 0 ≤ ns i)
  case atStart =>
    go_light
    exact ⟨0, 0, Nat.zero_le _, rfl, rfl, rfl, rfl, by omega, rfl, fun i h => absurd h (Nat.not_lt_zero _)⟩
  case round =>
    obtain ⟨j, T, hj, rfl, rfl, rfl, hww, hT, hTs, hpos⟩ := hrel
    rw [hww]
    have HT := hide hTs
    have HP := hide hpos
    clear hTs hpos hww
    by_cases hlt : j < K
    · have hlz : (j : Int) < (K : Int) := by omega
      have hj2 : j < n2 := by omega
      obtain rfl := HA.out (by omega)
      obtain ⟨x, hx⟩ : ∃ x, x = ns j := ⟨_, rfl⟩
      have g0 : w.cell? ⟨sb, so + j, none⟩ = some (.int .i64 x) := by rw [hx]; exact HC.out j hj2
      have HX := hide hx
      clear hx
      have FF : Hid (Script w ns K (.returned (.tuple #[.int .i64 0, .int .i64 0, .bool false])) w) := ⟨rfl, .inl rfl⟩
      by_cases hx0 : x < 0
      · go_wp2_with fail
        go_ret3
        exact FF.out
      · by_cases hx1 : 65536 < x
        · go_wp2_with fail
          go_ret3
          exact FF.out
        · obtain ⟨X, rfl⟩ : ∃ X : Nat, x = X := ⟨x.toNat, by omega⟩
          have iw : IntKind.i64.wrap ((T : Int) + (X : Int)) = (T : Int) + (X : Int) := by rw [IntKind.wrap_i64]; omega
          by_cases hT1 : 1048576 < T + X
          · have hTz : (1048576 : Int) < (T : Int) + (X : Int) := by omega
            go_wp2_with fail
            go_ret3
            exact FF.out
          · have hTz : ¬ (1048576 : Int) < (T : Int) + (X : Int) := by omega
            go_wp2_with fail
            go_roundg (K - (j + 1))
            case measure => go_light; omega
            case rel =>
              go_light
              refine ⟨j + 1, T + X, by omega, rfl, by simp, by simp, rfl, by omega, by rw [sumTo_succ, ← HT.out, ← HX.out]; rfl, fun i hi => ?_⟩
              by_cases e : i = j
              · subst e; rw [← HX.out]; omega
              · exact HP.out i (by omega)
    · have hlz : ¬ ((j : Int) < (K : Int)) := by omega
      have F : Hid (Script w ns K (.returned (.tuple #[.int .i64 K, .int .i64 T, .bool true])) w) := by
        obtain rfl : j = K := by omega
        exact ⟨rfl, .inr ⟨⟨_, rfl⟩, HP.out, by rw [← HT.out]; exact hT⟩⟩
      go_wp2_with fail
      go_ret3
      exact F.out

end Go.Proofs.Qxb6603268a
