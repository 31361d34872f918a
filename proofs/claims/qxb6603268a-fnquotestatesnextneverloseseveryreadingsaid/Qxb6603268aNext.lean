/- quoteStates.next (function 25) and isLetterOrDigit (function 33), by their contracts; what next computes, plainly. -/
import Derived.Test.Qxb6603268aProg
import Derived.WalkKit
import Derived.WalkSpells
import Derived.WalkLawsBesides
import Derived.Deep.DeepCutAuto
import Derived.Deep.Light
namespace Go.Proofs.Qxb6603268a
open Go.RowKit
set_option linter.unusedVariables false

/-- Is it an ASCII letter or a digit? -/
def lod (x : Int) : Bool := decide ((97 ≤ x ∧ x ≤ 122) ∨ (65 ≤ x ∧ x ≤ 90) ∨ (48 ≤ x ∧ x ≤ 57))
theorem lod_yes {x : Int} (h : (97 ≤ x ∧ x ≤ 122) ∨ (65 ≤ x ∧ x ≤ 90) ∨ (48 ≤ x ∧ x ≤ 57)) : lod x = true := by simp only [lod, decide_eq_true_eq]; exact h
theorem lod_no {x : Int} (h : ¬ ((97 ≤ x ∧ x ≤ 122) ∨ (65 ≤ x ∧ x ≤ 90) ∨ (48 ≤ x ∧ x ≤ 57))) : lod x = false := by simp only [lod, decide_eq_false_iff_not]; exact h

set_option maxHeartbeats 1000000 in
theorem lod_any (x : Int) (w : World) : Calls Try.prog 33 #[.int .u8 x] w fun e w' => e = .returned (.bool (lod x)) ∧ w' = w := by
  by_cases h1 : 97 ≤ x
  · by_cases h2 : x ≤ 122
    · rw [lod_yes (by omega)]
      go_enter Try.func33, Try.ntmps33
      go_wp2
      go_ret
      exact ⟨rfl, rfl⟩
    · rw [lod_no (by omega)]
      have h3 : 122 < x := by omega
      have h4 : ¬ x ≤ 90 := by omega
      have h5 : 65 ≤ x := by omega
      have h6 : 48 ≤ x := by omega
      have h7 : ¬ x ≤ 57 := by omega
      go_enter Try.func33, Try.ntmps33
      go_wp2
      go_ret
      exact ⟨rfl, rfl⟩
  · by_cases h2 : 65 ≤ x
    · by_cases h3 : x ≤ 90
      · rw [lod_yes (by omega)]
        go_enter Try.func33, Try.ntmps33
        go_wp2
        go_ret
        exact ⟨rfl, rfl⟩
      · rw [lod_no (by omega)]
        have h6 : 48 ≤ x := by omega
        have h7 : ¬ x ≤ 57 := by omega
        go_enter Try.func33, Try.ntmps33
        go_wp2
        go_ret
        exact ⟨rfl, rfl⟩
    · by_cases h3 : 48 ≤ x
      · by_cases h4 : x ≤ 57
        · rw [lod_yes (by omega)]
          go_enter Try.func33, Try.ntmps33
          go_wp2
          go_ret
          exact ⟨rfl, rfl⟩
        · rw [lod_no (by omega)]
          go_enter Try.func33, Try.ntmps33
          go_wp2
          go_ret
          exact ⟨rfl, rfl⟩
      · rw [lod_no (by omega)]
        go_enter Try.func33, Try.ntmps33
        go_wp2
        go_ret
        exact ⟨rfl, rfl⟩

/-! ### What next computes -/
def n1 (p8 q39 : Bool) : Int := if p8 && q39 then 4 else 0
def out1 (p1 p8 q39 : Bool) : Bool := p1 || (p8 && !q39)
def pick2 (q35 q34 q39 ws mb : Bool) : Int := if q35 && ws then 2 else if q34 && mb then 17 else if q39 && mb then 5 else 1
def n2 (o : Bool) (n m : Int) : Int := if o then bits .or .u8 n m else n
def pick4 (q39 : Bool) : Int := if q39 then 8 else 4
def pick5 (q92 q34 : Bool) : Int := if q92 then 32 else if q34 then 1 else 16
def nextC (p1 p2 p4 p8 p16 p32 q39 q35 q34 q92 ws mb : Bool) : Int :=
  n2 p32 (n2 p16 (n2 p4 (n2 p2 (n2 (out1 p1 p8 q39) (n1 p8 q39) (pick2 q35 q34 q39 ws mb)) 2) (pick4 q39)) (pick5 q92 q34)) 16
def bit (s m : Int) : Bool := bits .and .u8 s m != 0

theorem core_law : ∀ p1 p2 p4 p8 p16 p32 q39 q35 q34 q92 ws mb : Bool,
    (bits .andNot .u8 (nextC p1 p2 p4 p8 p16 p32 q39 q35 q34 q92 ws mb) 63 != 0) = false ∧ (nextC p1 p2 p4 p8 p16 p32 q39 q35 q34 q92 ws mb == 0) = !(p1 || p2 || p4 || p8 || p16 || p32) ∧
    (p2 = true → (bits .and .u8 (nextC p1 p2 p4 p8 p16 p32 q39 q35 q34 q92 ws mb) 2 == 0) = false) ∧ (p32 = true → (bits .and .u8 (nextC p1 p2 p4 p8 p16 p32 q39 q35 q34 q92 ws mb) 16 == 0) = false) := by
  decide +kernel

theorem bits_all : ∀ k : Fin 256, (bits .and .u8 (k.val : Int) 63 == 0) = !(bit k.val 1 || bit k.val 2 || bit k.val 4 || bit k.val 8 || bit k.val 16 || bit k.val 32) := by
  decide +kernel

theorem bits_or1 : ∀ k : Fin 256, bit (bits .or .u8 (k.val : Int) 1) 1 = true ∧ bit (bits .or .u8 (k.val : Int) 1) 2 = bit k.val 2 ∧ bit (bits .or .u8 (k.val : Int) 1) 4 = bit k.val 4 ∧ bit (bits .or .u8 (k.val : Int) 1) 16 = bit k.val 16 ∧
    bit (bits .or .u8 (k.val : Int) 1) 32 = bit k.val 32 := by
  decide +kernel

/-- What next computes, of s, b, last. -/
def nextI (s b last : Int) : Int :=
  nextC (bit s 1) (bit s 2) (bit s 4) (bit s 8) (bit s 16) (bit s 32) (b == 39) (b == 35) (b == 34) (b == 92) (last == 0 || last == 32 || last == 9) (!lod last)

theorem bit_or1 {s : Int} (h1 : 0 ≤ s) (h2 : s ≤ 255) : bit (bits .or .u8 s 1) 1 = true ∧ bit (bits .or .u8 s 1) 2 = bit s 2 ∧ bit (bits .or .u8 s 1) 4 = bit s 4 ∧ bit (bits .or .u8 s 1) 16 = bit s 16 ∧ bit (bits .or .u8 s 1) 32 = bit s 32 := by
  have h := bits_or1 ⟨s.toNat, by omega⟩
  have e : ((s.toNat : Nat) : Int) = s := by omega
  simp only [e] at h
  exact h

/-- What stands behind the first test. -/
def St1 (s : Int) (p8 q39 : Bool) (s1 : Int) : Prop :=
  bit s1 1 = out1 (bit s 1) p8 q39 ∧ bit s1 2 = bit s 2 ∧ bit s1 4 = bit s 4 ∧ bit s1 16 = bit s 16 ∧ bit s1 32 = bit s 32

theorem or_zero4 : bits .or .u8 0 4 = 4 := by decide +kernel

theorem n2_no {o : Bool} (h : o = false) (n m : Int) : n2 o n m = n := by rw [h]; rfl
theorem n2_yes {o : Bool} (h : o = true) (n m : Int) : n2 o n m = bits .or .u8 n m := by rw [h]; rfl
theorem bool_em (b : Bool) : b = false ∨ b = true := by cases b <;> simp

set_option maxHeartbeats 4000000 in
set_option maxRecDepth 100000 in
theorem next_any (s b last : Int) (w : World) (hs1 : 0 ≤ s) (hs2 : s ≤ 255) (hb1 : 0 ≤ b) (hb2 : b ≤ 255) (hl1 : 0 ≤ last) (hl2 : last ≤ 255) :
    Calls Try.prog 25 #[.int .u8 s, .int .u8 b, .int .u8 last] w fun e w' => e = .returned (.int .u8 (nextI s b last)) ∧ w' = w := by
  have hor := bit_or1 hs1 hs2
  have HOR : Hid (bit (bits .or .u8 s 1) 1 = true ∧ bit (bits .or .u8 s 1) 2 = bit s 2 ∧ bit (bits .or .u8 s 1) 4 = bit s 4 ∧ bit (bits .or .u8 s 1) 16 = bit s 16 ∧ bit (bits .or .u8 s 1) 32 = bit s 32) := hor
  clear hor
  go_enter Try.func25, Try.ntmps25
  -- 1
  go_upto_if 11 with fail
  go_cut [0, 7] (fun s0 s7 wx => ∃ s1 : Int, s0 = .int .u8 s1 ∧ s7 = .int .u8 (n1 (bit s 8) (b == 39)) ∧ St1 s (bit s 8) (b == 39) s1 ∧ w = wx)
  case first =>
    rcases bool_em (bit s 8) with hp | hp
    · have hp' : (bits BinOp.and IntKind.u8 s 8 != 0) = false := hp
      have HP : Hid (bit s 8 = false) := hp
      clear hp
      go_wp2_with fail
      go_meet
      exact ⟨s, rfl, by rw [HP.out]; rfl, by rw [HP.out]; exact ⟨by simp [out1], rfl, rfl, rfl, rfl⟩, rfl⟩
    · have hp' : (bits BinOp.and IntKind.u8 s 8 != 0) = true := hp
      have HP : Hid (bit s 8 = true) := hp
      clear hp
      rcases bool_em (b == 39) with hq | hq
      · have HQ : Hid ((b == 39) = false) := hq
        go_wp2_with fail
        go_meet
        exact ⟨_, rfl, by rw [HP.out, HQ.out]; rfl, by rw [HP.out, HQ.out]; exact ⟨by rw [HOR.out.1]; simp [out1], HOR.out.2⟩, rfl⟩
      · have HQ : Hid ((b == 39) = true) := hq
        go_wp2_with fail
        go_meet
        exact ⟨s, rfl, by rw [HP.out, HQ.out, or_zero4]; rfl, by rw [HP.out, HQ.out]; exact ⟨by simp [out1], rfl, rfl, rfl, rfl⟩, rfl⟩
  case rest =>
  obtain ⟨s1, rfl, rfl, ⟨t1, t2, t4, t16, t32⟩, rfl⟩ := hcut
  have T1 : Hid (bit s1 1 = out1 (bit s 1) (bit s 8) (b == 39)) := t1
  have T2 : Hid (bit s1 2 = bit s 2) := t2
  have T4 : Hid (bit s1 4 = bit s 4) := t4
  have T16 : Hid (bit s1 16 = bit s 16) := t16
  have T32 : Hid (bit s1 32 = bit s 32) := t32
  clear t1 t2 t4 t16 t32
  obtain ⟨m1, hm1⟩ : ∃ m, m = n1 (bit s 8) (b == 39) := ⟨_, rfl⟩
  rw [← hm1]
  have M1 : Hid (m1 = n1 (bit s 8) (b == 39)) := hm1
  clear hm1
  -- 2
  go_upto_if 20 with fail
  go_cut [7] (fun s7 wx => s7 = .int .u8 (n2 (bit s1 1) m1 (pick2 (b == 35) (b == 34) (b == 39) (last == 0 || last == 32 || last == 9) (!lod last))) ∧ w = wx)
  case first =>
    rcases bool_em (bit s1 1) with hp | hp
    · have hp' : (bits BinOp.and IntKind.u8 s1 1 != 0) = false := hp
      have HP : Hid (bit s1 1 = false) := hp
      clear hp
      go_wp2_with fail
      go_meet
      exact ⟨by rw [n2_no HP.out], rfl⟩
    · have hp' : (bits BinOp.and IntKind.u8 s1 1 != 0) = true := hp
      have HP : Hid (bit s1 1 = true) := hp
      clear hp
      -- the way of the switch is decided ahead
      have fin : ∀ m : Int, pick2 (b == 35) (b == 34) (b == 39) (last == 0 || last == 32 || last == 9) (!lod last) = m → n2 (bit s1 1) m1 (pick2 (b == 35) (b == 34) (b == 39) (last == 0 || last == 32 || last == 9) (!lod last)) = bits .or .u8 m1 m := fun m hm => by rw [n2_yes HP.out, hm]
      have FIN : Hid (∀ m : Int, pick2 (b == 35) (b == 34) (b == 39) (last == 0 || last == 32 || last == 9) (!lod last) = m → n2 (bit s1 1) m1 (pick2 (b == 35) (b == 34) (b == 39) (last == 0 || last == 32 || last == 9) (!lod last)) = bits .or .u8 m1 m) := fin
      clear fin
      obtain ⟨lb, hlb⟩ : ∃ x, lod last = x := ⟨_, rfl⟩
      have HL : Hid (lod last = lb) := hlb
      have hcall : ∀ w, Calls Try.prog 33 #[.int .u8 last] w fun e w' => e = .returned (.bool lb) ∧ w' = w := fun w => by rw [← HL.out]; exact lod_any last w
      clear hlb
      go_wp2_with fail
      refine (hcall _).mono ?_
      rintro e w1 ⟨rfl, rfl⟩
      clear hcall
      rcases bool_em (b == 35) with h35 | h35
      · rcases bool_em (b == 34) with h34 | h34
        · rcases bool_em (b == 39) with h39 | h39
          · have FQ : Hid (pick2 (b == 35) (b == 34) (b == 39) (last == 0 || last == 32 || last == 9) (!lod last) = 1) := by
              show pick2 _ _ _ _ _ = 1; rw [h35, h34, h39]; simp [pick2]
            go_wp2_with fail
            go_meet
            exact ⟨by rw [FIN.out 1 FQ.out], rfl⟩
          · cases lb
            · have FQ : Hid (pick2 (b == 35) (b == 34) (b == 39) (last == 0 || last == 32 || last == 9) (!lod last) = 5) := by
                show pick2 _ _ _ _ _ = 5; rw [h35, h34, h39, HL.out]; simp [pick2]
              go_wp2_with fail
              go_meet
              exact ⟨by rw [FIN.out 5 FQ.out], rfl⟩
            · have FQ : Hid (pick2 (b == 35) (b == 34) (b == 39) (last == 0 || last == 32 || last == 9) (!lod last) = 1) := by
                show pick2 _ _ _ _ _ = 1; rw [h35, h34, h39, HL.out]; simp [pick2]
              go_wp2_with fail
              go_meet
              exact ⟨by rw [FIN.out 1 FQ.out], rfl⟩
        · have h39 : (b == 39) = false := by simp at h34 ⊢; omega
          cases lb
          · have FQ : Hid (pick2 (b == 35) (b == 34) (b == 39) (last == 0 || last == 32 || last == 9) (!lod last) = 17) := by
              show pick2 _ _ _ _ _ = 17; rw [h35, h34, h39, HL.out]; simp [pick2]
            go_wp2_with fail
            go_meet
            exact ⟨by rw [FIN.out 17 FQ.out], rfl⟩
          · have FQ : Hid (pick2 (b == 35) (b == 34) (b == 39) (last == 0 || last == 32 || last == 9) (!lod last) = 1) := by
              show pick2 _ _ _ _ _ = 1; rw [h35, h34, h39, HL.out]; simp [pick2]
            go_wp2_with fail
            go_meet
            exact ⟨by rw [FIN.out 1 FQ.out], rfl⟩
      · have h34 : (b == 34) = false := by simp at h35 ⊢; omega
        have h39 : (b == 39) = false := by simp at h35 ⊢; omega
        rcases bool_em (last == 0) with e0 | e0
        · rcases bool_em (last == 32) with e1 | e1
          · rcases bool_em (last == 9) with e2 | e2
            · have FQ : Hid (pick2 (b == 35) (b == 34) (b == 39) (last == 0 || last == 32 || last == 9) (!lod last) = 1) := by
                show pick2 _ _ _ _ _ = 1; rw [h35, h34, h39, e0, e1, e2]; simp [pick2]
              go_wp2_with fail
              go_meet
              exact ⟨by rw [FIN.out 1 FQ.out], rfl⟩
            · have FQ : Hid (pick2 (b == 35) (b == 34) (b == 39) (last == 0 || last == 32 || last == 9) (!lod last) = 2) := by
                show pick2 _ _ _ _ _ = 2; rw [h35, h34, h39, e0, e1, e2]; simp [pick2]
              go_wp2_with fail
              go_meet
              exact ⟨by rw [FIN.out 2 FQ.out], rfl⟩
          · have FQ : Hid (pick2 (b == 35) (b == 34) (b == 39) (last == 0 || last == 32 || last == 9) (!lod last) = 2) := by
              show pick2 _ _ _ _ _ = 2; rw [h35, h34, h39, e0, e1]; simp [pick2]
            go_wp2_with fail
            go_meet
            exact ⟨by rw [FIN.out 2 FQ.out], rfl⟩
        · have FQ : Hid (pick2 (b == 35) (b == 34) (b == 39) (last == 0 || last == 32 || last == 9) (!lod last) = 2) := by
            show pick2 _ _ _ _ _ = 2; rw [h35, h34, h39, e0]; simp [pick2]
          go_wp2_with fail
          go_meet
          exact ⟨by rw [FIN.out 2 FQ.out], rfl⟩
  case rest =>
  obtain ⟨rfl, rfl⟩ := hcut
  obtain ⟨m2, hm2⟩ : ∃ m, m = n2 (bit s1 1) m1 (pick2 (b == 35) (b == 34) (b == 39) (last == 0 || last == 32 || last == 9) (!lod last)) := ⟨_, rfl⟩
  rw [← hm2]
  have M2 : Hid (m2 = n2 (bit s1 1) m1 (pick2 (b == 35) (b == 34) (b == 39) (last == 0 || last == 32 || last == 9) (!lod last))) := hm2
  clear hm2
  -- 3
  go_upto_if 61 with fail
  go_cut [7] (fun s7 wx => s7 = .int .u8 (n2 (bit s1 2) m2 2) ∧ w = wx)
  case first =>
    rcases bool_em (bit s1 2) with hp | hp
    · have hp' : (bits BinOp.and IntKind.u8 s1 2 != 0) = false := hp
      have HP : Hid (bit s1 2 = false) := hp
      clear hp
      go_wp2_with fail
      go_meet
      exact ⟨by rw [n2_no HP.out], rfl⟩
    · have hp' : (bits BinOp.and IntKind.u8 s1 2 != 0) = true := hp
      have HP : Hid (bit s1 2 = true) := hp
      clear hp
      go_wp2_with fail
      go_meet
      exact ⟨by rw [n2_yes HP.out], rfl⟩
  case rest =>
  obtain ⟨rfl, rfl⟩ := hcut
  obtain ⟨m3, hm3⟩ : ∃ m, m = n2 (bit s1 2) m2 2 := ⟨_, rfl⟩
  rw [← hm3]
  have M3 : Hid (m3 = n2 (bit s1 2) m2 2) := hm3
  clear hm3
  -- 4
  go_upto_if 66 with fail
  go_cut [7] (fun s7 wx => s7 = .int .u8 (n2 (bit s1 4) m3 (pick4 (b == 39))) ∧ w = wx)
  case first =>
    rcases bool_em (bit s1 4) with hp | hp
    · have hp' : (bits BinOp.and IntKind.u8 s1 4 != 0) = false := hp
      have HP : Hid (bit s1 4 = false) := hp
      clear hp
      go_wp2_with fail
      go_meet
      exact ⟨by rw [n2_no HP.out], rfl⟩
    · have hp' : (bits BinOp.and IntKind.u8 s1 4 != 0) = true := hp
      have HP : Hid (bit s1 4 = true) := hp
      clear hp
      rcases bool_em (b == 39) with hq | hq
      · have HQ : Hid ((b == 39) = false) := hq
        go_wp2_with fail
        go_meet
        exact ⟨by rw [n2_yes HP.out, HQ.out]; rfl, rfl⟩
      · have HQ : Hid ((b == 39) = true) := hq
        go_wp2_with fail
        go_meet
        exact ⟨by rw [n2_yes HP.out, HQ.out]; rfl, rfl⟩
  case rest =>
  obtain ⟨rfl, rfl⟩ := hcut
  obtain ⟨m4, hm4⟩ : ∃ m, m = n2 (bit s1 4) m3 (pick4 (b == 39)) := ⟨_, rfl⟩
  rw [← hm4]
  have M4 : Hid (m4 = n2 (bit s1 4) m3 (pick4 (b == 39))) := hm4
  clear hm4
  -- 5
  go_upto_if 75 with fail
  go_cut [7] (fun s7 wx => s7 = .int .u8 (n2 (bit s1 16) m4 (pick5 (b == 92) (b == 34))) ∧ w = wx)
  case first =>
    rcases bool_em (bit s1 16) with hp | hp
    · have hp' : (bits BinOp.and IntKind.u8 s1 16 != 0) = false := hp
      have HP : Hid (bit s1 16 = false) := hp
      clear hp
      go_wp2_with fail
      go_meet
      exact ⟨by rw [n2_no HP.out], rfl⟩
    · have hp' : (bits BinOp.and IntKind.u8 s1 16 != 0) = true := hp
      have HP : Hid (bit s1 16 = true) := hp
      clear hp
      rcases bool_em (b == 92) with hq | hq
      · rcases bool_em (b == 34) with hr | hr
        · have HQ : Hid ((b == 92) = false ∧ (b == 34) = false) := ⟨hq, hr⟩
          go_wp2_with fail
          go_meet
          exact ⟨by rw [n2_yes HP.out, HQ.out.1, HQ.out.2]; rfl, rfl⟩
        · have HQ : Hid ((b == 92) = false ∧ (b == 34) = true) := ⟨hq, hr⟩
          go_wp2_with fail
          go_meet
          exact ⟨by rw [n2_yes HP.out, HQ.out.1, HQ.out.2]; rfl, rfl⟩
      · have HQ : Hid ((b == 92) = true) := hq
        go_wp2_with fail
        go_meet
        exact ⟨by rw [n2_yes HP.out, HQ.out]; rfl, rfl⟩
  case rest =>
  obtain ⟨rfl, rfl⟩ := hcut
  obtain ⟨m5, hm5⟩ : ∃ m, m = n2 (bit s1 16) m4 (pick5 (b == 92) (b == 34)) := ⟨_, rfl⟩
  rw [← hm5]
  have M5 : Hid (m5 = n2 (bit s1 16) m4 (pick5 (b == 92) (b == 34))) := hm5
  clear hm5
  -- 6
  have F : Hid (nextI s b last = n2 (bit s1 32) m5 16) := by
    show nextI s b last = n2 (bit s1 32) m5 16
    unfold nextI nextC
    rw [M5.out, M4.out, M3.out, M2.out, M1.out, T1.out, T2.out, T4.out, T16.out, T32.out]
  rcases bool_em (bit s1 32) with hp | hp
  · have hp' : (bits BinOp.and IntKind.u8 s1 32 != 0) = false := hp
    have HP : Hid (bit s1 32 = false) := hp
    clear hp
    go_wp2
    go_ret
    exact ⟨by rw [F.out, n2_no HP.out]; rfl, rfl⟩
  · have hp' : (bits BinOp.and IntKind.u8 s1 32 != 0) = true := hp
    have HP : Hid (bit s1 32 = true) := hp
    clear hp
    go_wp2
    go_ret
    exact ⟨by rw [F.out, n2_yes HP.out]; rfl, rfl⟩

end Go.Proofs.Qxb6603268a
