/- linksBytes (9), linksInRange (10), the byte counts (16, 8, 18, 21), by their contracts. They only read. -/
import Derived.Test.Qxb6603240aMem
namespace Go.Proofs.Qxb6603240a
open Go.RowKit
set_option linter.unusedVariables false

set_option maxHeartbeats 400000 in
theorem linksBytes_any (ga : Option Addr) (gb go n c : Nat) (A : Nat → Option Addr) (RB RO L C : Nat → Nat) (Z : Nat → Nat → Int) (B : Nat) (w : World) (h : IsLinks w B ga gb go n c A RB RO L C Z) :
    Calls Try.prog 9 #[.slice ga n c] w fun e w' => w' = w ∧ ∃ t : Int, e = .returned (.int .i64 t) ∧ 0 ≤ t ∧ t ≤ 12582912 ∧ (t ≤ 1048576 → 8 * (n : Int) ≤ t ∧ ∀ i, i < n → 4 * (L i : Int) ≤ t) := by
  have hle := h.le
  have hmax := h.max
  by_cases hbig : 1048576 < n
  · have hbz : (1048576 : Int) < (n : Int) := by omega
    go_enter Try.func9, Try.ntmps9
    go_wp2
    go_ret
    exact ⟨rfl, 1048577, rfl, by omega, by omega, fun h => absurd h (by omega)⟩
  · have hbz : ¬ ((1048576 : Int) < (n : Int)) := by omega
    have hadr := h.adr
    have hrow := h.row
    have hmx : ∀ i, i < n → L i ≤ 9223372036854775807 := fun i hi => Nat.le_trans (h.rows i hi).le (h.rows i hi).max
    clear h
    go_enter Try.func9, Try.ntmps9
    go_wp2
    go_loopg [3, 4] n (fun g t i wr => wr = w ∧ ∃ (k : Nat) (s : Int), k ≤ n ∧ g = n - k ∧ i = .int .i64 k ∧ t = .int .i64 s ∧ 8 * (n : Int) ≤ s ∧ s ≤ 8388608 ∧ ∀ j, j < k → 4 * (L j : Int) ≤ s)
    case atStart => exact ⟨rfl, 0, _, Nat.zero_le _, rfl, rfl, rfl, by omega, by omega, fun j hj => absurd hj (Nat.not_lt_zero _)⟩
    case round =>
      obtain ⟨rfl, k, s, hk, rfl, rfl, rfl, hs1, hs2, hj⟩ := hrel
      have HJ : Hid (∀ j, j < k → 4 * (L j : Int) ≤ s) := hj
      clear hj
      by_cases hlt : k < n
      · have hlz : (k : Int) < (n : Int) := by omega
        obtain rfl := hadr (by omega)
        have g0 := hrow k hlt
        have hLm := hmx k hlt
        clear hrow hmx hadr
        by_cases hLb : 1048576 < L k
        · have hLz : (1048576 : Int) < (L k : Int) := by omega
          go_wp2
          go_ret
          exact ⟨rfl, 1048577, rfl, by omega, by omega, fun h => absurd h (by omega)⟩
        · have hLz : ¬ ((1048576 : Int) < (L k : Int)) := by omega
          by_cases hsb : (1048576 : Int) < s + 4 * (L k : Int)
          · go_wp2
            go_ret
            exact ⟨rfl, _, rfl, by omega, by omega, fun h => absurd h (by omega)⟩
          · go_wp2
            go_roundg (n - (k + 1))
            case measure => go_light; omega
            case rel =>
              go_light
              refine ⟨rfl, k + 1, _, by omega, rfl, by simp, rfl, by omega, by omega, fun j hj => ?_⟩
              by_cases e : j = k
              · subst e; omega
              · have := HJ.out j (by omega); omega
      · have hlz : ¬ ((k : Int) < (n : Int)) := by omega
        go_wp2
        go_ret
        obtain rfl : k = n := by omega
        exact ⟨rfl, s, rfl, by omega, by omega, fun _ => ⟨hs1, HJ.out⟩⟩

/-- It returned a Bool; if that is true, p holds. -/
def RetB (e : Ending) (p : Prop) : Prop := ∃ b : Bool, e = .returned (.bool b) ∧ (b = true → p)
theorem RetB.no {e : Ending} {p : Prop} (h : e = .returned (.bool false)) : RetB e p := ⟨false, h, fun h => by cases h⟩
theorem RetB.yes {e : Ending} {p : Prop} (h : e = .returned (.bool true)) (hp : p) : RetB e p := ⟨true, h, fun _ => hp⟩

set_option maxHeartbeats 800000 in
theorem linksInRange_any (ga : Option Addr) (gb go n c : Nat) (A : Nat → Option Addr) (RB RO L C : Nat → Nat) (Z : Nat → Nat → Int) (m : Nat) (B : Nat) (w : World) (h : IsLinks w B ga gb go n c A RB RO L C Z) (hm : m ≤ 9223372036854775807)
    (hZ : ∀ i, i < n → ∀ j, j < L i → -2147483648 ≤ Z i j ∧ Z i j ≤ 2147483647) :
    Calls Try.prog 10 #[.slice ga n c, .int .i64 m] w fun e w' => w' = w ∧ RetB e (∀ i, i < n → ∀ j, j < L i → 0 ≤ Z i j ∧ Z i j < m) := by
  have hle := h.le
  have hmax := h.max
  have hadr := h.adr
  have hrow := h.row
  have hrows := h.rows
  clear h
  go_enter Try.func10, Try.ntmps10
  go_wp2
  go_loopg [5] n (fun g i wr => wr = w ∧ ∃ (k : Nat), k ≤ n ∧ g = n - k ∧ i = .int .i64 k ∧ ∀ i, i < k → ∀ j, j < L i → 0 ≤ Z i j ∧ Z i j < m)
  case atStart => exact ⟨rfl, 0, Nat.zero_le _, rfl, rfl, fun j hj => absurd hj (Nat.not_lt_zero _)⟩
  case round =>
    obtain ⟨rfl, k, hk, rfl, rfl, hj⟩ := hrel
    have HJ : Hid (∀ i, i < k → ∀ j, j < L i → 0 ≤ Z i j ∧ Z i j < m) := hj
    clear hj
    by_cases hlt : k < n
    · have hlz : (k : Int) < (n : Int) := by omega
      obtain rfl := hadr (by omega)
      have g0 := hrow k hlt
      have hR := hrows k hlt
      have hRa := hR.adr
      have hRc := hR.cell
      have hRl := hR.le
      have hRm := hR.max
      have hZk := hZ k hlt
      have HZ : Hid (∀ j, j < L k → -2147483648 ≤ Z k j ∧ Z k j ≤ 2147483647) := hZk
      obtain ⟨Ak, hAk⟩ : ∃ Ak, Ak = A k := ⟨_, rfl⟩
      rw [← hAk] at g0 hRa
      clear hrow hrows hadr hR hZ hZk hAk
      go_wp2
      go_loopg [7] (L k) (fun g i wr' => wr' = wr ∧ ∃ (q : Nat), q ≤ L k ∧ g = L k - q ∧ i = .int .i64 q ∧ ∀ j, j < q → 0 ≤ Z k j ∧ Z k j < m)
      case atStart => exact ⟨rfl, 0, Nat.zero_le _, rfl, rfl, fun j hj => absurd hj (Nat.not_lt_zero _)⟩
      case round =>
        obtain ⟨rfl, q, hq, rfl, rfl, hj⟩ := hrel
        have HQ : Hid (∀ j, j < q → 0 ≤ Z k j ∧ Z k j < m) := hj
        clear hj
        by_cases hlq : q < L k
        · have hlqz : (q : Int) < (L k : Int) := by omega
          obtain rfl := hRa (by omega)
          have g2 := hRc q hlq
          have hz := HZ.out q hlq
          obtain ⟨hz1, hz2⟩ := hz
          clear hRa hRc
          by_cases hneg : Z k q < 0
          · go_wp2
            go_ret
            exact ⟨rfl, RetB.no rfl⟩
          · by_cases hge : (m : Int) ≤ Z k q
            · go_wp2
              go_ret
              exact ⟨rfl, RetB.no rfl⟩
            · go_wp2
              go_roundg (L k - (q + 1))
              case measure => go_light; omega
              case rel =>
                go_light
                refine ⟨rfl, q + 1, by omega, rfl, by simp, fun j hj => ?_⟩
                by_cases e : j = q
                · subst e; omega
                · exact HQ.out j (by omega)
        · have hlqz : ¬ ((q : Int) < (L k : Int)) := by omega
          obtain rfl : q = L k := by omega
          go_wp2
          go_roundg (n - (k + 1))
          case measure => go_light; omega
          case rel =>
            go_light
            refine ⟨rfl, k + 1, by omega, rfl, by simp, fun i hi => ?_⟩
            by_cases e : i = k
            · subst e; exact HQ.out
            · exact HJ.out i (by omega)
    · have hlz : ¬ ((k : Int) < (n : Int)) := by omega
      go_wp2
      go_ret
      obtain rfl : k = n := by omega
      exact ⟨rfl, RetB.yes rfl HJ.out⟩

set_option maxHeartbeats 800000 in
theorem zz16_any (ga : Option Addr) (gb go n c : Nat) (A : Nat → Option Addr) (RB RO L C : Nat → Nat) (Z : Nat → Nat → Int) (sa qa : Option Addr) (sn sc qn qc : Nat) (lift fr : Int) (B : Nat) (w : World) (h : IsLinks w B ga gb go n c A RB RO L C Z) (hsn : sn ≤ 9223372036854775807) (hqn : qn ≤ 9223372036854775807) :
    Calls Try.prog 16 #[.slice ga n c, .slice sa sn sc, .int .i32 lift, .slice qa qn qc, .int .i32 fr] w fun e w' => w' = w ∧ RetB e True := by
  have hle := h.le
  have hmax := h.max
  by_cases hbig : 1048576 < n
  · have hbz : (1048576 : Int) < (n : Int) := by omega
    go_enter Try.func16, Try.ntmps16
    go_wp2
    go_ret
    exact ⟨rfl, RetB.no rfl⟩
  · have hbz : ¬ ((1048576 : Int) < (n : Int)) := by omega
    have hadr := h.adr
    have hrow := h.row
    have hmx : ∀ i, i < n → L i ≤ 9223372036854775807 := fun i hi => Nat.le_trans (h.rows i hi).le (h.rows i hi).max
    clear h
    go_enter Try.func16, Try.ntmps16
    go_wp2
    go_loopg [11, 12] n (fun g t i wr => wr = w ∧ ∃ (k : Nat) (s : Int), k ≤ n ∧ g = n - k ∧ i = .int .i64 k ∧ t = .int .i64 s ∧ 0 ≤ s ∧ s ≤ 1048576)
    case atStart => exact ⟨rfl, 0, _, Nat.zero_le _, rfl, rfl, rfl, by omega, by omega⟩
    case round =>
      obtain ⟨rfl, k, s, hk, rfl, rfl, rfl, hs1, hs2⟩ := hrel
      by_cases hlt : k < n
      · have hlz : (k : Int) < (n : Int) := by omega
        obtain rfl := hadr (by omega)
        have g0 := hrow k hlt
        have hLm := hmx k hlt
        clear hrow hmx hadr
        by_cases hLb : 1048576 < L k
        · have hLz : (1048576 : Int) < (L k : Int) := by omega
          go_wp2
          go_ret
          exact ⟨rfl, RetB.no rfl⟩
        · have hLz : ¬ ((1048576 : Int) < (L k : Int)) := by omega
          by_cases hsb : (1048576 : Int) < s + (L k : Int)
          · go_wp2
            go_ret
            exact ⟨rfl, RetB.no rfl⟩
          · go_wp2
            go_roundg (n - (k + 1))
            case measure => go_light; omega
            case rel => go_light; exact ⟨rfl, k + 1, _, by omega, rfl, by simp, rfl, by omega, by omega⟩
      · have hlz : ¬ ((k : Int) < (n : Int)) := by omega
        clear hrow hmx hadr
        go_wp2
        all_goals go_ret
        all_goals first | exact ⟨rfl, RetB.no rfl⟩ | exact ⟨rfl, RetB.yes rfl trivial⟩

set_option maxHeartbeats 800000 in
theorem zz8_any (ga : Option Addr) (gb go n c : Nat) (A : Nat → Option Addr) (RB RO L C : Nat → Nat) (Z : Nat → Nat → Int) (sa qa : Option Addr) (sn sc qn qc : Nat) (lift fr : Int) (B : Nat) (w : World) (h : IsLinks w B ga gb go n c A RB RO L C Z) (hsn : sn ≤ 9223372036854775807) (hqn : qn ≤ 9223372036854775807) :
    Calls Try.prog 8 #[.slice ga n c, .slice sa sn sc, .int .i32 lift, .slice qa qn qc, .int .i32 fr] w fun e w' => w' = w ∧ RetB e True := by
  have hle := h.le
  have hmax := h.max
  by_cases hbig : 1048576 < n
  · have hbz : (1048576 : Int) < (n : Int) := by omega
    go_enter Try.func8, Try.ntmps8
    go_wp2
    go_ret
    exact ⟨rfl, RetB.no rfl⟩
  · have hbz : ¬ ((1048576 : Int) < (n : Int)) := by omega
    have hadr := h.adr
    have hrow := h.row
    have hmx : ∀ i, i < n → L i ≤ 9223372036854775807 := fun i hi => Nat.le_trans (h.rows i hi).le (h.rows i hi).max
    clear h
    go_enter Try.func8, Try.ntmps8
    go_wp2
    go_loopg [11, 12] n (fun g t i wr => wr = w ∧ ∃ (k : Nat) (s : Int), k ≤ n ∧ g = n - k ∧ i = .int .i64 k ∧ t = .int .i64 s ∧ 0 ≤ s ∧ s ≤ 1048576)
    case atStart => exact ⟨rfl, 0, _, Nat.zero_le _, rfl, rfl, rfl, by omega, by omega⟩
    case round =>
      obtain ⟨rfl, k, s, hk, rfl, rfl, rfl, hs1, hs2⟩ := hrel
      by_cases hlt : k < n
      · have hlz : (k : Int) < (n : Int) := by omega
        obtain rfl := hadr (by omega)
        have g0 := hrow k hlt
        have hLm := hmx k hlt
        clear hrow hmx hadr
        by_cases hLb : 1048576 < L k
        · have hLz : (1048576 : Int) < (L k : Int) := by omega
          go_wp2
          go_ret
          exact ⟨rfl, RetB.no rfl⟩
        · have hLz : ¬ ((1048576 : Int) < (L k : Int)) := by omega
          by_cases hsb : (1048576 : Int) < s + (L k : Int)
          · go_wp2
            go_ret
            exact ⟨rfl, RetB.no rfl⟩
          · go_wp2
            go_roundg (n - (k + 1))
            case measure => go_light; omega
            case rel => go_light; exact ⟨rfl, k + 1, _, by omega, rfl, by simp, rfl, by omega, by omega⟩
      · have hlz : ¬ ((k : Int) < (n : Int)) := by omega
        clear hrow hmx hadr
        go_wp2
        all_goals go_ret
        all_goals first | exact ⟨rfl, RetB.no rfl⟩ | exact ⟨rfl, RetB.yes rfl trivial⟩

set_option maxHeartbeats 800000 in
theorem zz18_any (ga : Option Addr) (gb go n c : Nat) (A : Nat → Option Addr) (RB RO L C : Nat → Nat) (Z : Nat → Nat → Int) (sa qa : Option Addr) (sn sc qn qc : Nat) (B : Nat) (w : World) (h : IsLinks w B ga gb go n c A RB RO L C Z) (hsn : sn ≤ 9223372036854775807) (hqn : qn ≤ 9223372036854775807) :
    Calls Try.prog 18 #[.slice ga n c, .slice sa sn sc, .slice qa qn qc] w fun e w' => w' = w ∧ RetB e True := by
  have hle := h.le
  have hmax := h.max
  by_cases hbig : 1048576 < n
  · have hbz : (1048576 : Int) < (n : Int) := by omega
    go_enter Try.func18, Try.ntmps18
    go_wp2
    go_ret
    exact ⟨rfl, RetB.no rfl⟩
  · have hbz : ¬ ((1048576 : Int) < (n : Int)) := by omega
    have hadr := h.adr
    have hrow := h.row
    have hmx : ∀ i, i < n → L i ≤ 9223372036854775807 := fun i hi => Nat.le_trans (h.rows i hi).le (h.rows i hi).max
    clear h
    go_enter Try.func18, Try.ntmps18
    go_wp2
    go_loopg [7, 8] n (fun g t i wr => wr = w ∧ ∃ (k : Nat) (s : Int), k ≤ n ∧ g = n - k ∧ i = .int .i64 k ∧ t = .int .i64 s ∧ 0 ≤ s ∧ s ≤ 1048576)
    case atStart => exact ⟨rfl, 0, _, Nat.zero_le _, rfl, rfl, rfl, by omega, by omega⟩
    case round =>
      obtain ⟨rfl, k, s, hk, rfl, rfl, rfl, hs1, hs2⟩ := hrel
      by_cases hlt : k < n
      · have hlz : (k : Int) < (n : Int) := by omega
        obtain rfl := hadr (by omega)
        have g0 := hrow k hlt
        have hLm := hmx k hlt
        clear hrow hmx hadr
        by_cases hLb : 1048576 < L k
        · have hLz : (1048576 : Int) < (L k : Int) := by omega
          go_wp2
          go_ret
          exact ⟨rfl, RetB.no rfl⟩
        · have hLz : ¬ ((1048576 : Int) < (L k : Int)) := by omega
          by_cases hsb : (1048576 : Int) < s + (L k : Int)
          · go_wp2
            go_ret
            exact ⟨rfl, RetB.no rfl⟩
          · go_wp2
            go_roundg (n - (k + 1))
            case measure => go_light; omega
            case rel => go_light; exact ⟨rfl, k + 1, _, by omega, rfl, by simp, rfl, by omega, by omega⟩
      · have hlz : ¬ ((k : Int) < (n : Int)) := by omega
        clear hrow hmx hadr
        go_wp2
        all_goals go_ret
        all_goals first | exact ⟨rfl, RetB.no rfl⟩ | exact ⟨rfl, RetB.yes rfl trivial⟩

set_option maxHeartbeats 800000 in
theorem zz21_any (ga : Option Addr) (gb go n c : Nat) (A : Nat → Option Addr) (RB RO L C : Nat → Nat) (Z : Nat → Nat → Int) (sa qa : Option Addr) (sn sc qn qc : Nat) (B : Nat) (w : World) (h : IsLinks w B ga gb go n c A RB RO L C Z) (hsn : sn ≤ 9223372036854775807) (hqn : qn ≤ 9223372036854775807) :
    Calls Try.prog 21 #[.slice ga n c, .slice sa sn sc, .slice qa qn qc] w fun e w' => w' = w ∧ RetB e True := by
  have hle := h.le
  have hmax := h.max
  by_cases hbig : 1048576 < n
  · have hbz : (1048576 : Int) < (n : Int) := by omega
    go_enter Try.func21, Try.ntmps21
    go_wp2
    go_ret
    exact ⟨rfl, RetB.no rfl⟩
  · have hbz : ¬ ((1048576 : Int) < (n : Int)) := by omega
    have hadr := h.adr
    have hrow := h.row
    have hmx : ∀ i, i < n → L i ≤ 9223372036854775807 := fun i hi => Nat.le_trans (h.rows i hi).le (h.rows i hi).max
    clear h
    go_enter Try.func21, Try.ntmps21
    go_wp2
    go_loopg [7, 8] n (fun g t i wr => wr = w ∧ ∃ (k : Nat) (s : Int), k ≤ n ∧ g = n - k ∧ i = .int .i64 k ∧ t = .int .i64 s ∧ 0 ≤ s ∧ s ≤ 1048576)
    case atStart => exact ⟨rfl, 0, _, Nat.zero_le _, rfl, rfl, rfl, by omega, by omega⟩
    case round =>
      obtain ⟨rfl, k, s, hk, rfl, rfl, rfl, hs1, hs2⟩ := hrel
      by_cases hlt : k < n
      · have hlz : (k : Int) < (n : Int) := by omega
        obtain rfl := hadr (by omega)
        have g0 := hrow k hlt
        have hLm := hmx k hlt
        clear hrow hmx hadr
        by_cases hLb : 1048576 < L k
        · have hLz : (1048576 : Int) < (L k : Int) := by omega
          go_wp2
          go_ret
          exact ⟨rfl, RetB.no rfl⟩
        · have hLz : ¬ ((1048576 : Int) < (L k : Int)) := by omega
          by_cases hsb : (1048576 : Int) < s + (L k : Int)
          · go_wp2
            go_ret
            exact ⟨rfl, RetB.no rfl⟩
          · go_wp2
            go_roundg (n - (k + 1))
            case measure => go_light; omega
            case rel => go_light; exact ⟨rfl, k + 1, _, by omega, rfl, by simp, rfl, by omega, by omega⟩
      · have hlz : ¬ ((k : Int) < (n : Int)) := by omega
        clear hrow hmx hadr
        go_wp2
        all_goals go_ret
        all_goals first | exact ⟨rfl, RetB.no rfl⟩ | exact ⟨rfl, RetB.yes rfl trivial⟩

end Go.Proofs.Qxb6603240a
