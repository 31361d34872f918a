/- bytes.Repeat (function 34) of one byte; math/bits.Mul (36), Mul64 (39). -/
import Derived.Test.Qxb6603268aProg
import Derived.WalkKit
import Derived.WalkSpells
import Derived.WalkLawsBesides
import Derived.Deep.LoopGhost
import Derived.Deep.OwnRows
import Derived.Deep.Light
import Derived.Deep.QuietTactic
import Derived.BigQuiet
import Derived.Laws.CopyOwn
import Derived.Laws.Bits64b
import Derived.Lib.MakeNoZero
import Derived.Deep.RegionLaw
namespace Go.Proofs.Qxb6603268a
open Go.RowKit
set_option linter.unusedVariables false

theorem hide {p : Prop} (h : p) : Hid p := h
theorem unhide {p : Prop} (h : Hid p) : p := h

theorem mask32 (n : Nat) (hn : n ≤ 4000000) : bits BinOp.and IntKind.u64 (n : Int) 4294967295 = (n : Int) := by
  have h := bits_and_u64_nat n 4294967295 (by omega) (by omega)
  have e : n &&& 4294967295 = n := by
    have := Nat.and_two_pow_sub_one_eq_mod n 32
    simp at this
    rw [this]; omega
  rw [e] at h
  exact h

set_option maxHeartbeats 1000000 in
theorem mul64_any (n : Nat) (w : World) (hn : n ≤ 4000000) : Calls Try.prog 39 #[.int .u64 1, .int .u64 n] w fun e w' => e = .returned (.tuple #[.int .u64 0, .int .u64 n]) ∧ w' = w := by
  have b1 : bits BinOp.and IntKind.u64 1 4294967295 = 1 := by decide +kernel
  have b0 : bits BinOp.and IntKind.u64 0 4294967295 = 0 := by decide +kernel
  have b2 := mask32 n hn
  have d1 : (n : Int) / 4294967296 = 0 := by omega
  have w1 : IntKind.u64.wrap (n : Int) = (n : Int) := by rw [IntKind.wrap_u64]; omega
  have w0 : IntKind.u64.wrap 0 = 0 := by decide +kernel
  go_enter Try.func39, Try.ntmps39
  go_wp2
  go_ret2
  exact ⟨rfl, rfl⟩

set_option maxHeartbeats 1000000 in
theorem mul_any (n : Nat) (w : World) (hn : n ≤ 4000000) : Calls Try.prog 36 #[.int .u64 1, .int .u64 n] w fun e w' => e = .returned (.tuple #[.int .u64 0, .int .u64 n]) ∧ w' = w := by
  go_enter Try.func36, Try.ntmps36
  go_wp2_with fail
  refine (mul64_any n _ hn).mono ?_
  rintro e w1 ⟨rfl, rfl⟩
  go_wp2
  go_ret2
  exact ⟨rfl, rfl⟩

theorem Try.info5 : (Try.prog.info? 5).map (·.size) = some 1 := by kernel_rfl

/-- n copies of x in a row of the call's own. -/
def Repeated (w : World) (x : Int) (n : Nat) (e : Ending) (w' : World) : Prop :=
  ∃ cur : List Value, e = .returned (.slice (some ⟨w.heap.size, 0, none⟩) n n) ∧ w'.heap[w.heap.size]? = some (.cells cur.toArray 5 (0, 0)) ∧ (∀ i, i < n → cur[i]? = some (.int .u8 x)) ∧ Below w.heap.size w w'

/-- The row when k cells are filled. -/
structure RP (w wr : World) (x : Int) (N k : Nat) (cur : List Value) : Prop where
  row : wr.heap[w.heap.size]? = some (.cells cur.toArray 5 (0, 0))
  len : N ≤ cur.length
  fill : ∀ i, i < k → cur[i]? = some (.int .u8 x)
  below : Below w.heap.size w wr

theorem splice_fill {x : Int} {k m : Nat} {cur : List Value} (hf : ∀ i, i < k → cur[i]? = some (.int .u8 x)) (hk : k ≤ cur.length) : ∀ i, i < k + m → (splice cur k (List.replicate m (Value.int .u8 x)))[i]? = some (.int .u8 x) := fun i hi => by
  unfold splice
  rw [List.getElem?_append]
  have hl : (cur.take k).length = k := by simp; omega
  rw [hl]
  by_cases h : i < k
  · rw [if_pos h, List.getElem?_take, if_pos h]; exact hf i h
  · rw [if_neg h, List.getElem?_append_left (by simp; omega), List.getElem?_replicate, if_pos (by omega)]

/-- One copy of m cells into the row, from k on, out of cells that hold x. -/
theorem copy_fill {w wr : World} {x : Int} {N k : Nat} {cur : List Value} (h : RP w wr x N k cur) (m n dc sl sc : Nat) (ad : Addr) (hm : m = Nat.min sl n) (hfit : k + m ≤ N) (hsrc : ∀ j, j < m → wr.cell? (ad.add j) = some (.int .u8 x)) (hk : k ≤ cur.length) :
    ∃ w2, (Builtin.copy_ #[25, 25] 3 #[.slice (some ⟨w.heap.size, k, none⟩) n dc, .slice (some ad) sl sc]).run Try.prog wr = .ok (.int .i64 (m : Int)) w2 ∧ RP w w2 x N (k + m) (splice cur k (List.replicate m (Value.int .u8 x))) := by
  have hl := h.len
  have hrun := run_copy_row (P := Try.prog) wr 25 25 3 5 w.heap.size k n dc ad sl sc cur.toArray 5 (List.replicate m (Value.int .u8 x)) Try.underlying25 Try.info5 h.row (by simpa using hm)
    (fun j v hj => by
      rw [List.getElem?_replicate] at hj
      by_cases e : j < m
      · rw [if_pos e] at hj; simp at hj; subst hj; exact hsrc j e
      · rw [if_neg e] at hj; cases hj) (by simp; omega) (fun v hv => by simp at hv; rw [hv.2]; rfl)
  refine ⟨wr.setRow w.heap.size (cur.toArray.toList.take k ++ List.replicate m (Value.int .u8 x) ++ cur.toArray.toList.drop (k + (List.replicate m (Value.int .u8 x)).length)).toArray, ?_, ?_, ?_, splice_fill h.fill hk, ?_⟩
  · rw [hrun]; simp [goInt]
  · simpa [splice] using setRow_heap wr w.heap.size _ _ 5 _ h.row
  · rw [length_splice _ _ _ (by simp; omega)]; exact h.len
  · exact below_setRow h.below (Nat.le_refl _) _

set_option maxHeartbeats 4000000 in
theorem repeat_any (bb : Nat) (x : Int) (n : Nat) (w : World) (hc : w.cell? ⟨bb, 0, none⟩ = some (.int .u8 x)) (hn1 : 1 ≤ n) (hn : n ≤ 4000000) :
    Calls Try.prog 34 #[.slice (some ⟨bb, 0, none⟩) 1 1, .int .i64 n] w fun e w' => Repeated w x n e w' := by
  have hbb : bb < w.heap.size := World.block_lt_of_cell? _ _ hc
  have z1 : ((n : Int) == 0) = false := by simp; omega
  obtain ⟨cs, hrunM, hle, hmx⟩ := Lib.run_makeNoZero (P := Try.prog) w #[3] 25 5 Try.underlying25 n (by omega)
  have hcall : (callFunc 37 #[.int .i64 (n : Int)]).run Try.prog w = .ok (.value (.slice (some ⟨w.heap.size, 0, none⟩) n cs.size)) ((w.alloc (.cells cs 5)).drewN 2) := by
    rw [run_callFunc_extern Try.func37 (by kernel_rfl) (by kernel_rfl) (by kernel_rfl) (e := Extern.BytealgMakeNoZero.makeNoZero #[3] #[25]) (by kernel_rfl), hrunM]
    rfl
  have hcm : cs.size ≤ 9223372036854775807 := by have := hmx (by unfold maxLen; omega); unfold maxLen at this; omega
  clear hrunM hmx
  have i1 : (n : Int) ≤ (cs.size : Int) := by omega
  have hb0 : Below w.heap.size w ((w.alloc (.cells cs 5)).drewN 2) := by
    have h := (Below.refl w.heap.size w).alloc (Nat.le_refl _) (.cells cs 5)
    exact ⟨h.os, h.tape, h.output, h.size, h.block⟩
  have R0 : RP w ((w.alloc (.cells cs 5)).drewN 2) x n 0 cs.toList := by
    refine ⟨?_, by simpa using hle, fun i hi => absurd hi (Nat.not_lt_zero _), hb0⟩
    show (w.alloc (.cells cs 5)).heap[w.heap.size]? = _
    simpa using Deep.blk_alloc_new w (.cells cs 5)
  obtain ⟨w2, hcp, R1⟩ := copy_fill R0 1 n n 1 1 ⟨bb, 0, none⟩ (Nat.min_eq_left hn1).symm (by omega) (fun j hj => by
    have : j = 0 := by omega
    subst this
    show ((w.alloc (.cells cs 5)).drewN 2).cell? ((⟨bb, 0, none⟩ : Addr).add 0) = _
    rw [show ((⟨bb, 0, none⟩ : Addr).add 0) = ⟨bb, 0, none⟩ from by simp [Addr.add], hb0.cell (p := ⟨bb, 0, none⟩) hbb]; exact hc) (Nat.zero_le _)
  have HR := hide R1
  clear R0 R1 hb0 hc
  go_enter Try.func34, Try.ntmps34
  go_wp2_with fail
  refine (mul_any n _ hn).mono ?_
  rintro e w1 ⟨rfl, rfl⟩
  by_cases hbig : (8192 : Int) < (n : Int)
  · skip
    go_wp2
    clear hcp hcall
    go_loopg [10] (n - 1) (fun gk i wr => ∃ (k : Nat) (cur : List Value), 1 ≤ k ∧ k ≤ n ∧ gk = n - k ∧ i = .int .i64 k ∧ RP w1 wr x n k cur)
    case atStart => exact ⟨1, _, Nat.le_refl _, by omega, rfl, rfl, by simpa using unhide HR⟩
    case round =>
      clear HR
      obtain ⟨k, cur, hk1, hk2, rfl, rfl, hR⟩ := hrel
      by_cases hlt : k < n
      · have i2 : (k : Int) < (n : Int) := by omega
        by_cases hk8 : (k : Int) ≤ 8192
        · skip
          obtain ⟨m, hm, hm1⟩ : ∃ m : Nat, m = Nat.min k (n - k) ∧ 1 ≤ m := ⟨_, rfl, by have : Nat.min k (n - k) = min k (n - k) := rfl; omega⟩
          have hm2 : m ≤ n - k := by rw [hm]; exact Nat.min_le_right _ _
          have hm3 : m ≤ k := by rw [hm]; exact Nat.min_le_left _ _
          have hRd : RP w1 wr.drew x n k cur := ⟨hR.row, hR.len, hR.fill, hR.below.drew⟩
          obtain ⟨w3, hcp, R3⟩ := copy_fill hRd m (n - k) (n - k) k n ⟨w1.heap.size, 0, none⟩ hm (by omega) (fun j hj => by
            have h1 : ((⟨w1.heap.size, 0, none⟩ : Addr).add j) = ⟨w1.heap.size, j, none⟩ := by cases j <;> simp [Addr.add]
            rw [h1]
            simp [World.cell?, hRd.row, hRd.fill j (by omega)]) (by have := hRd.len; omega)
          have HR3 := hide R3
          have i4 : ¬ n = k := by omega
          clear hR hRd R3 hm
          go_wp2
          go_region
          go_wp2
          go_roundg (n - (k + m))
          case measure => go_light; omega
          case rel => go_light; exact ⟨k + m, _, by omega, by omega, rfl, by simp, unhide HR3⟩
        · skip
          obtain ⟨m, hm, hm1⟩ : ∃ m : Nat, m = Nat.min 8192 (n - k) ∧ 1 ≤ m := ⟨_, rfl, by have : Nat.min 8192 (n - k) = min 8192 (n - k) := rfl; omega⟩
          have hm2 : m ≤ n - k := by rw [hm]; exact Nat.min_le_right _ _
          have hm3 : m ≤ 8192 := by rw [hm]; exact Nat.min_le_left _ _
          have hRd : RP w1 wr.drew x n k cur := ⟨hR.row, hR.len, hR.fill, hR.below.drew⟩
          obtain ⟨w3, hcp, R3⟩ := copy_fill hRd m (n - k) (n - k) 8192 n ⟨w1.heap.size, 0, none⟩ hm (by omega) (fun j hj => by
            have h1 : ((⟨w1.heap.size, 0, none⟩ : Addr).add j) = ⟨w1.heap.size, j, none⟩ := by cases j <;> simp [Addr.add]
            rw [h1]
            simp [World.cell?, hRd.row, hRd.fill j (by omega)]) (by have := hRd.len; omega)
          have HR3 := hide R3
          have i4 : ¬ n = k := by omega
          clear hR hRd R3 hm
          go_wp2
          go_region
          go_wp2
          go_roundg (n - (k + m))
          case measure => go_light; omega
          case rel => go_light; exact ⟨k + m, _, by omega, by omega, rfl, by simp, unhide HR3⟩
      · have i2 : ¬ ((k : Int) < (n : Int)) := by omega
        obtain rfl : k = n := by omega
        have F : Hid (Repeated w1 x k (.returned (.slice (some ⟨w1.heap.size, 0, none⟩) k k)) wr) := ⟨cur, rfl, hR.row, hR.fill, hR.below⟩
        clear hR
        go_wp2
        go_ret
        exact F.out
  · skip
    go_wp2
    clear hcp hcall
    go_loopg [10] (n - 1) (fun gk i wr => ∃ (k : Nat) (cur : List Value), 1 ≤ k ∧ k ≤ n ∧ gk = n - k ∧ i = .int .i64 k ∧ RP w1 wr x n k cur)
    case atStart => exact ⟨1, _, Nat.le_refl _, by omega, rfl, rfl, by simpa using unhide HR⟩
    case round =>
      clear HR
      obtain ⟨k, cur, hk1, hk2, rfl, rfl, hR⟩ := hrel
      by_cases hlt : k < n
      · have i2 : (k : Int) < (n : Int) := by omega
        obtain ⟨m, hm, hm1⟩ : ∃ m : Nat, m = Nat.min k (n - k) ∧ 1 ≤ m := ⟨_, rfl, by have : Nat.min k (n - k) = min k (n - k) := rfl; omega⟩
        have hm2 : m ≤ n - k := by rw [hm]; exact Nat.min_le_right _ _
        have hm3 : m ≤ k := by rw [hm]; exact Nat.min_le_left _ _
        have hRd : RP w1 wr.drew x n k cur := ⟨hR.row, hR.len, hR.fill, hR.below.drew⟩
        obtain ⟨w3, hcp, R3⟩ := copy_fill hRd m (n - k) (n - k) k n ⟨w1.heap.size, 0, none⟩ hm (by omega) (fun j hj => by
          have h1 : ((⟨w1.heap.size, 0, none⟩ : Addr).add j) = ⟨w1.heap.size, j, none⟩ := by cases j <;> simp [Addr.add]
          rw [h1]
          simp [World.cell?, hRd.row, hRd.fill j (by omega)]) (by have := hRd.len; omega)
        have HR3 := hide R3
        have i4 : ¬ n = k := by omega
        clear hR hRd R3 hm
        go_wp2
        go_region
        go_wp2
        go_roundg (n - (k + m))
        case measure => go_light; omega
        case rel => go_light; exact ⟨k + m, _, by omega, by omega, rfl, by simp, unhide HR3⟩
      · have i2 : ¬ ((k : Int) < (n : Int)) := by omega
        obtain rfl : k = n := by omega
        have F : Hid (Repeated w1 x k (.returned (.slice (some ⟨w1.heap.size, 0, none⟩) k k)) wr) := ⟨cur, rfl, hR.row, hR.fill, hR.below⟩
        clear hR
        go_wp2
        go_ret
        exact F.out

end Go.Proofs.Qxb6603268a
