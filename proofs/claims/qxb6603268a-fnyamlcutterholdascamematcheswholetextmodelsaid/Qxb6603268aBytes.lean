/- zzBytes (function 21) of the whole-text law. -/
import Derived.Test.Qxb6603268aCloneList
import Derived.Test.Qxb6603268aLeaf
namespace Go.Proofs.Qxb6603268a
open Go.RowKit Cu
set_option linter.unusedVariables false

/-- What zzBytes tells: where it answers true, each src is short. -/
def Bytes21 (w : World) (n : Nat) (L : Nat → Nat) (e : Ending) (w' : World) : Prop := (∃ b, e = .returned (.bool b) ∧ (b = true → ∀ i, i < n → L i ≤ 1048576)) ∧ w' = w

set_option maxRecDepth 100000 in
set_option maxHeartbeats 1000000 in
theorem bytes21 (a1 a2 a3 ga : Option Addr) (n1 c1 n2 c2 n3 c3 gb go n c : Nat) (A : Nat → Option Addr) (RB RO L C : Nat → Nat) (Z : Nat → Nat → Int) (B : Nat) (w : World) (h : IsL w B ga gb go n c A RB RO L C Z) :
    Calls Try.prog 21 #[.slice a1 n1 c1, .slice a2 n2 c2, .slice a3 n3 c3, .slice ga n c] w fun e w' => Bytes21 w n L e w' := by
  have H := hide h
  clear h
  have FF : Hid (Bytes21 w n L (.returned (.bool false)) w) := ⟨⟨_, rfl, fun h => by cases h⟩, rfl⟩
  go_enter Try.func21, Try.ntmps21
  by_cases h1 : n1 ≤ 1048576
  case neg =>
    have i1 : (1048576 : Int) < (n1 : Int) := by omega
    go_wp2_with fail
    go_ret
    exact FF.out
  have i1 : ¬ (1048576 : Int) < (n1 : Int) := by omega
  have v1 : IntKind.i64.wrap (n1 : Int) = n1 := by rw [IntKind.wrap_i64]; omega
  by_cases h2 : n2 ≤ 1048576
  case neg =>
    have i2 : (1048576 : Int) < (n2 : Int) := by omega
    go_wp2_with fail
    go_ret
    exact FF.out
  have i2 : ¬ (1048576 : Int) < (n2 : Int) := by omega
  have v2 : IntKind.i64.wrap ((n1 : Int) + n2) = n1 + n2 := by rw [IntKind.wrap_i64]; omega
  by_cases g2 : n1 + n2 ≤ 1048576
  case neg =>
    have j2 : (1048576 : Int) < (n1 : Int) + n2 := by omega
    go_wp2_with fail
    go_ret
    exact FF.out
  have j2 : ¬ (1048576 : Int) < (n1 : Int) + n2 := by omega
  by_cases h3 : n3 ≤ 1048576
  case neg =>
    have i3 : (1048576 : Int) < (n3 : Int) := by omega
    go_wp2_with fail
    go_ret
    exact FF.out
  have i3 : ¬ (1048576 : Int) < (n3 : Int) := by omega
  have v3 : IntKind.i64.wrap ((n1 : Int) + n2 + n3) = n1 + n2 + n3 := by rw [IntKind.wrap_i64]; omega
  by_cases g3 : n1 + n2 + n3 ≤ 1048576
  case neg =>
    have j3 : (1048576 : Int) < (n1 : Int) + n2 + n3 := by omega
    go_wp2_with fail
    go_ret
    exact FF.out
  have j3 : ¬ (1048576 : Int) < (n1 : Int) + n2 + n3 := by omega
  by_cases h4 : n ≤ 1048576
  case neg =>
    have i4 : (1048576 : Int) < (n : Int) := by omega
    go_wp2_with fail
    go_ret
    exact FF.out
  have i4 : ¬ (1048576 : Int) < (n : Int) := by omega
  have v4 : IntKind.i64.wrap ((n1 : Int) + n2 + n3 + n) = n1 + n2 + n3 + n := by rw [IntKind.wrap_i64]; omega
  by_cases g4 : n1 + n2 + n3 + n ≤ 1048576
  case neg =>
    have j4 : (1048576 : Int) < (n1 : Int) + n2 + n3 + n := by omega
    go_wp2_with fail
    go_ret
    exact FF.out
  have j4 : ¬ (1048576 : Int) < (n1 : Int) + n2 + n3 + n := by omega
  go_wp2_with fail
  clear v1 v2 v3 v4 i1 i2 i3 i4 j2 j3 j4
  go_loopg [9, 10] n (fun gk t v wr => ∃ (k T : Nat), k ≤ n ∧ gk = n - k ∧ v = .int .i64 k ∧ t = .int .i64 T ∧ T ≤ 1048576 ∧ wr = w ∧ ∀ i, i < k → L i ≤ 1048576)
  case atStart =>
    go_light
    exact ⟨0, n1 + n2 + n3 + n, Nat.zero_le _, rfl, rfl, by simp, by omega, rfl, fun i h => absurd h (Nat.not_lt_zero _)⟩
  case round =>
    obtain ⟨k, T, hk, rfl, rfl, rfl, hT, hww, hall⟩ := hrel
    rw [hww]
    have HA := hide hall
    clear hww hall
    by_cases hlt : k < n
    · have hlz : (k : Int) < (n : Int) := by omega
      obtain rfl := H.out.adr (by omega)
      obtain ⟨ak, hak⟩ : ∃ x, x = A k := ⟨_, rfl⟩
      obtain ⟨lk, hlk⟩ : ∃ x, x = L k := ⟨_, rfl⟩
      obtain ⟨ck, hck⟩ : ∃ x, x = C k := ⟨_, rfl⟩
      have g0 : w.cell? ⟨gb, go + k, none⟩ = some (.slice ak lk ck) := by rw [hak, hlk, hck]; exact H.out.row k hlt
      have HLk := hide hlk
      clear hak hlk hck
      by_cases hz1 : 1048576 < lk
      · have hzz : (1048576 : Int) < (lk : Int) := by omega
        go_wp2_with fail
        go_ret
        exact FF.out
      · have hzz : ¬ (1048576 : Int) < (lk : Int) := by omega
        have v2 : IntKind.i64.wrap ((T : Int) + (lk : Int)) = (T : Int) + (lk : Int) := by rw [IntKind.wrap_i64]; omega
        by_cases hz2 : 1048576 < T + lk
        · have hzt : (1048576 : Int) < (T : Int) + (lk : Int) := by omega
          go_wp2_with fail
          go_ret
          exact FF.out
        · have hzt : ¬ (1048576 : Int) < (T : Int) + (lk : Int) := by omega
          go_wp2_with fail
          go_roundg (n - (k + 1))
          case measure => go_light; omega
          case rel => go_light; exact ⟨k + 1, T + lk, by omega, rfl, by simp, by simp, by omega, rfl, fun i hi => by
            by_cases e : i = k
            · subst e; rw [← HLk.out]; omega
            · exact HA.out i (by omega)⟩
    · have hlz : ¬ ((k : Int) < (n : Int)) := by omega
      obtain rfl : k = n := by omega
      go_wp2_with fail
      go_ret
      exact ⟨⟨true, rfl, fun _ => HA.out⟩, rfl⟩

end Go.Proofs.Qxb6603268a
