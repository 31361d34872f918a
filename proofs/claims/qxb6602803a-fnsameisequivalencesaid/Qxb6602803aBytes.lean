/- zzBytes (function 16). -/
import Derived.Test.Qxb6602803aLists
namespace Go.Proofs.Qxb6602803a
open Go.RowKit
set_option linter.unusedVariables false

def Bit (w : World) (e : Ending) (w' : World) : Prop := (∃ b, e = .returned (.bool b)) ∧ w' = w

set_option maxRecDepth 100000 in
set_option maxHeartbeats 1000000 in
theorem bytes16 (B n1 c1 b1 o1 n2 c2 b2 o2 n3 c3 b3 o3 : Nat) (a1 a2 a3 : Option Addr) (S1 S2 S3 : Nat → ByteArray) (w : World) (h1 : IsS w B a1 b1 o1 n1 c1 S1) (h2 : IsS w B a2 b2 o2 n2 c2 S2) (h3 : IsS w B a3 b3 o3 n3 c3 S3) :
    Calls Try.prog 16 #[.slice a1 n1 c1, .slice a2 n2 c2, .slice a3 n3 c3] w fun e w' => Bit w e w' := by
  have H1 := hide h1
  have H2 := hide h2
  have H3 := hide h3
  clear h1 h2 h3
  have FF : Hid (Bit w (.returned (.bool false)) w) := ⟨⟨_, rfl⟩, rfl⟩
  have FT : Hid (Bit w (.returned (.bool true)) w) := ⟨⟨_, rfl⟩, rfl⟩
  go_enter Try.func16, Try.ntmps16
  by_cases h1 : n1 ≤ 1048576
  case neg =>
    have i1 : (1048576 : Int) < (n1 : Int) := by omega
    go_wp2_with fail
    go_ret
    exact FF.out
  have i1 : ¬ (1048576 : Int) < (n1 : Int) := by omega
  have v1 : IntKind.i64.wrap (n1 : Int) = n1 := by rw [IntKind.wrap_i64]; omega
  go_wp2_with fail
  go_loopg [7, 8] n1 (fun gk t v wr => ∃ (k T : Nat), k ≤ n1 ∧ gk = n1 - k ∧ v = .int .i64 k ∧ t = .int .i64 T ∧ T ≤ 1048576 ∧ wr = w)
  case atStart =>
    go_light
    exact ⟨0, n1, Nat.zero_le _, rfl, rfl, by simp, by omega, rfl⟩
  case round =>
  obtain ⟨k1, T1, hk1, rfl, rfl, rfl, hT1, hww⟩ := hrel
  rw [hww]
  clear hww
  by_cases hlt1 : k1 < n1
  · have hlz : (k1 : Int) < (n1 : Int) := by omega
    obtain rfl := H1.out.adr (by omega)
    obtain ⟨x, hx⟩ : ∃ x, x = S1 k1 := ⟨_, rfl⟩
    have g1 : w.cell? ⟨b1, o1 + k1, none⟩ = some (.string x) := by rw [hx]; exact H1.out.cell k1 hlt1
    clear hx
    by_cases hz1 : 1048576 < x.size
    · have hzz : (1048576 : Int) < (x.size : Int) := by omega
      go_wp2_with fail
      go_ret
      exact FF.out
    · have hzz : ¬ (1048576 : Int) < (x.size : Int) := by omega
      have v9 : IntKind.i64.wrap ((T1 : Int) + (x.size : Int)) = (T1 : Int) + (x.size : Int) := by rw [IntKind.wrap_i64]; omega
      by_cases hz2 : 1048576 < T1 + x.size
      · have hzt : (1048576 : Int) < (T1 : Int) + (x.size : Int) := by omega
        go_wp2_with fail
        go_ret
        exact FF.out
      · have hzt : ¬ (1048576 : Int) < (T1 : Int) + (x.size : Int) := by omega
        go_wp2_with fail
        go_roundg (n1 - (k1 + 1))
        case measure => go_light; omega
        case rel => go_light; exact ⟨k1 + 1, T1 + x.size, by omega, rfl, by simp, by simp, by omega, rfl⟩
  have hlz1 : ¬ ((k1 : Int) < (n1 : Int)) := by omega
  by_cases h2 : n2 ≤ 1048576
  case neg =>
    have i1 : (1048576 : Int) < (n2 : Int) := by omega
    go_wp2_with fail
    go_ret
    exact FF.out
  have i2 : ¬ (1048576 : Int) < (n2 : Int) := by omega
  have v2 : IntKind.i64.wrap ((T1 : Int) + (n2 : Int)) = (T1 : Int) + (n2 : Int) := by rw [IntKind.wrap_i64]; omega
  by_cases g2 : T1 + n2 ≤ 1048576
  case neg =>
    have j1 : (1048576 : Int) < (T1 : Int) + (n2 : Int) := by omega
    go_wp2_with fail
    go_ret
    exact FF.out
  have j2 : ¬ (1048576 : Int) < (T1 : Int) + (n2 : Int) := by omega
  go_wp2_with fail
  go_loopg [7, 9] n2 (fun gk t v wr => ∃ (k T : Nat), k ≤ n2 ∧ gk = n2 - k ∧ v = .int .i64 k ∧ t = .int .i64 T ∧ T ≤ 1048576 ∧ wr = w)
  case atStart =>
    go_light
    exact ⟨0, T1 + n2, Nat.zero_le _, rfl, rfl, by simp, by omega, rfl⟩
  case round =>
  obtain ⟨k2, T2, hk2, rfl, rfl, rfl, hT2, hww⟩ := hrel
  rw [hww]
  clear hww
  by_cases hlt2 : k2 < n2
  · have hlz : (k2 : Int) < (n2 : Int) := by omega
    obtain rfl := H2.out.adr (by omega)
    obtain ⟨x, hx⟩ : ∃ x, x = S2 k2 := ⟨_, rfl⟩
    have g1 : w.cell? ⟨b2, o2 + k2, none⟩ = some (.string x) := by rw [hx]; exact H2.out.cell k2 hlt2
    clear hx
    by_cases hz1 : 1048576 < x.size
    · have hzz : (1048576 : Int) < (x.size : Int) := by omega
      go_wp2_with fail
      go_ret
      exact FF.out
    · have hzz : ¬ (1048576 : Int) < (x.size : Int) := by omega
      have v9 : IntKind.i64.wrap ((T2 : Int) + (x.size : Int)) = (T2 : Int) + (x.size : Int) := by rw [IntKind.wrap_i64]; omega
      by_cases hz2 : 1048576 < T2 + x.size
      · have hzt : (1048576 : Int) < (T2 : Int) + (x.size : Int) := by omega
        go_wp2_with fail
        go_ret
        exact FF.out
      · have hzt : ¬ (1048576 : Int) < (T2 : Int) + (x.size : Int) := by omega
        go_wp2_with fail
        go_roundg (n2 - (k2 + 1))
        case measure => go_light; omega
        case rel => go_light; exact ⟨k2 + 1, T2 + x.size, by omega, rfl, by simp, by simp, by omega, rfl⟩
  have hlz2 : ¬ ((k2 : Int) < (n2 : Int)) := by omega
  by_cases h3 : n3 ≤ 1048576
  case neg =>
    have i1 : (1048576 : Int) < (n3 : Int) := by omega
    go_wp2_with fail
    go_ret
    exact FF.out
  have i3 : ¬ (1048576 : Int) < (n3 : Int) := by omega
  have v3 : IntKind.i64.wrap ((T2 : Int) + (n3 : Int)) = (T2 : Int) + (n3 : Int) := by rw [IntKind.wrap_i64]; omega
  by_cases g3 : T2 + n3 ≤ 1048576
  case neg =>
    have j1 : (1048576 : Int) < (T2 : Int) + (n3 : Int) := by omega
    go_wp2_with fail
    go_ret
    exact FF.out
  have j3 : ¬ (1048576 : Int) < (T2 : Int) + (n3 : Int) := by omega
  go_wp2_with fail
  go_loopg [7, 10] n3 (fun gk t v wr => ∃ (k T : Nat), k ≤ n3 ∧ gk = n3 - k ∧ v = .int .i64 k ∧ t = .int .i64 T ∧ T ≤ 1048576 ∧ wr = w)
  case atStart =>
    go_light
    exact ⟨0, T2 + n3, Nat.zero_le _, rfl, rfl, by simp, by omega, rfl⟩
  case round =>
  obtain ⟨k3, T3, hk3, rfl, rfl, rfl, hT3, hww⟩ := hrel
  rw [hww]
  clear hww
  by_cases hlt3 : k3 < n3
  · have hlz : (k3 : Int) < (n3 : Int) := by omega
    obtain rfl := H3.out.adr (by omega)
    obtain ⟨x, hx⟩ : ∃ x, x = S3 k3 := ⟨_, rfl⟩
    have g1 : w.cell? ⟨b3, o3 + k3, none⟩ = some (.string x) := by rw [hx]; exact H3.out.cell k3 hlt3
    clear hx
    by_cases hz1 : 1048576 < x.size
    · have hzz : (1048576 : Int) < (x.size : Int) := by omega
      go_wp2_with fail
      go_ret
      exact FF.out
    · have hzz : ¬ (1048576 : Int) < (x.size : Int) := by omega
      have v9 : IntKind.i64.wrap ((T3 : Int) + (x.size : Int)) = (T3 : Int) + (x.size : Int) := by rw [IntKind.wrap_i64]; omega
      by_cases hz2 : 1048576 < T3 + x.size
      · have hzt : (1048576 : Int) < (T3 : Int) + (x.size : Int) := by omega
        go_wp2_with fail
        go_ret
        exact FF.out
      · have hzt : ¬ (1048576 : Int) < (T3 : Int) + (x.size : Int) := by omega
        go_wp2_with fail
        go_roundg (n3 - (k3 + 1))
        case measure => go_light; omega
        case rel => go_light; exact ⟨k3 + 1, T3 + x.size, by omega, rfl, by simp, by simp, by omega, rfl⟩
  have hlz3 : ¬ ((k3 : Int) < (n3 : Int)) := by omega
  go_wp2_with fail
  go_ret
  exact FT.out

end Go.Proofs.Qxb6602803a
