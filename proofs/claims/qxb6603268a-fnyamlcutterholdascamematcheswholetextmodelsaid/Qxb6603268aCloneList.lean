/- Slices of slices of bytes; zzd1CloneBytesList (function 22). -/
import Derived.Test.Qxb6603268aClones
namespace Go.Proofs.Qxb6603268a
open Go.RowKit Cu
set_option linter.unusedVariables false

/-- A slice of slices of bytes that is read in w. -/
structure IsL (w : World) (B : Nat) (ga : Option Addr) (gb go n c : Nat) (A : Nat → Option Addr) (RB RO L C : Nat → Nat) (Z : Nat → Nat → Int) : Prop where
  nil : ga = none → n = 0 ∧ c = 0
  adr : 0 < n → ga = some ⟨gb, go, none⟩
  le : n ≤ c
  max : c ≤ 9223372036854775807
  row : ∀ i, i < n → w.cell? ⟨gb, go + i, none⟩ = some (.slice (A i) (L i) (C i))
  blk : 0 < n → gb < B
  rows : ∀ i, i < n → IsV w B (A i) (RB i) (RO i) (L i) (C i) (fun j => .int .u8 (Z i j))

theorem IsL.keep {w w' : World} {B : Nat} {ga : Option Addr} {gb go n c : Nat} {A : Nat → Option Addr} {RB RO L C : Nat → Nat} {Z : Nat → Nat → Int} (h : IsL w B ga gb go n c A RB RO L C Z) (hb : Below B w w') :
    IsL w' B ga gb go n c A RB RO L C Z :=
  ⟨h.nil, h.adr, h.le, h.max, fun i hi => by rw [hb.cell (p := ⟨gb, go + i, none⟩) (h.blk (by omega))]; exact h.row i hi, h.blk, fun i hi => (h.rows i hi).keep hb⟩
theorem IsL.mono {w : World} {B B' : Nat} {ga : Option Addr} {gb go n c : Nat} {A : Nat → Option Addr} {RB RO L C : Nat → Nat} {Z : Nat → Nat → Int} (h : IsL w B ga gb go n c A RB RO L C Z) (hb : B ≤ B') :
    IsL w B' ga gb go n c A RB RO L C Z :=
  ⟨h.nil, h.adr, h.le, h.max, h.row, fun i => by have := h.blk i; omega, fun i hi => (h.rows i hi).mono hb⟩
theorem IsV.setCell {w : World} {B : Nat} {sa : Option Addr} {sb so n c : Nat} {F : Nat → Value} (h : IsV w B sa sb so n c F) {p : Addr} (hp : 0 < n → sb ≠ p.block) (v : Value) : IsV (w.setCell p v) B sa sb so n c F :=
  ⟨h.nil, h.adr, h.le, h.max, fun i hi => by rw [World.cell?_of_block (w := w) (w' := w.setCell p v) (a := ⟨sb, so + i, none⟩) (Below.heap_setCell _ _ _ _ (hp (by omega)))]; exact h.cell i hi, h.blk⟩

def ClonedN (w : World) (n : Nat) (F : Nat → Value) (e : Ending) (w' : World) : Prop :=
  ∃ ga gb, e = .returned (.slice ga n n) ∧ Below w.heap.size w w' ∧ IsV w' w'.heap.size ga gb 0 n n F ∧ (0 < n → w.heap.size ≤ gb)

set_option maxHeartbeats 400000 in
theorem cloneY_new (sa : Option Addr) (sb so n c : Nat) (f : Nat → Int) (B : Nat) (w : World) (h : IsV w B sa sb so n c (fun i => .int .u8 (f i))) (hB : B ≤ w.heap.size) (hn : n ≤ 2000000) :
    Calls Try.prog 12 #[.slice sa n c] w fun e w' => ClonedN w n (fun i => .int .u8 (f i)) e w' := by
  cases sa with
  | none =>
    obtain ⟨rfl, rfl⟩ := h.nil rfl
    have hnil := fun w => Lib.run_eql_slice_nil (P := Try.prog) w 25 5 none 0 0 0 0 Try.underlying25
    clear h
    go_enter Try.func12, Try.ntmps12
    go_wp2
    go_ret
    exact ⟨none, 0, rfl, Below.refl _ _, isV_nil _ _ _ _ _, fun h => absurd h (Nat.lt_irrefl _)⟩
  | some a =>
  have hnil := fun w => Lib.run_eql_slice_nil (P := Try.prog) w 25 5 (some a) n c 0 0 Try.underlying25
  have hmk := run_make_row' (P := Try.prog) 25 5 (.int .u8 0) 1 Try.underlying25 Try.inf5 rfl .i64 .i64 n (by omega) (by omega)
  have hadr := h.adr
  have hblk := h.blk
  have hcl := h.cell
  have hR0 : (w.alloc (.cells (madeCells #[.int .u8 0] n) 5)).rowIs w.heap.size 5 n (fun i => if i < 0 then .int .u8 (f i) else .int .u8 0) := (World.rowIs_made w (.int .u8 0) n 5).congr (fun j _ => by simp)
  have hB0 : Below w.heap.size w (w.alloc (.cells (madeCells #[.int .u8 0] n) 5)) := (Below.refl _ _).alloc (Nat.le_refl _) _
  clear h
  go_enter Try.func12, Try.ntmps12
  go_wp2
  clear hmk hnil
  go_loopg [4] n (fun g i wr => ∃ k : Nat, k ≤ n ∧ g = n - k ∧ i = .int .i64 k ∧ wr.rowIs w.heap.size 5 n (fun i => if i < k then .int .u8 (f i) else .int .u8 0) ∧ Below w.heap.size w wr ∧ wr.heap.size = w.heap.size + 1)
  case atStart => exact ⟨0, Nat.zero_le _, rfl, rfl, hR0, hB0, by simp⟩
  case round =>
    obtain ⟨k, hk, rfl, rfl, hR, hBe, hsz⟩ := hrel
    clear hR0 hB0
    by_cases hlt : k < n
    · have hlz : (k : Int) < (n : Int) := by omega
      obtain rfl : a = ⟨sb, so, none⟩ := by have := hadr (by omega); simpa using this
      have g0 : wr.cell? ⟨sb, so + k, none⟩ = some (.int .u8 (f k)) := by rw [hBe.cell (p := ⟨sb, so + k, none⟩) (by have := hblk (by omega); show sb < _; omega)]; exact hcl k hlt
      have g1 : wr.cell? ⟨w.heap.size, k, none⟩ = some (.int .u8 0) := by have := World.rowIs.cell hR hlt; simpa using this
      have g2 := World.rowIs.frozen hR k
      have S := clone_step (F := fun i => .int .u8 (f i)) hR hBe
      have HS := hide S
      clear hcl hR hBe hadr hblk S
      go_wp2
      go_roundg (n - (k + 1))
      case measure => go_light; omega
      case rel => go_light; exact ⟨k + 1, by omega, rfl, by simp, HS.out.1, HS.out.2, by simpa using hsz⟩
    · have hlz : ¬ ((k : Int) < (n : Int)) := by omega
      have F : Hid (ClonedN w n (fun i => .int .u8 (f i)) (.returned (.slice (some ⟨w.heap.size, 0, none⟩) n n)) wr) := by
        obtain rfl : k = n := by omega
        have hR' : wr.rowIs w.heap.size 5 k (fun i => .int .u8 (f i)) := hR.congr (fun j hj => by rw [if_pos hj])
        exact ⟨_, _, rfl, hBe, (isV_row hR' (by omega)).mono (by omega), fun _ => Nat.le_refl _⟩
      clear hcl hR hBe hadr hblk
      go_wp2
      go_ret
      exact F.out

/-- k rows are copied. -/
structure CL (w wr : World) (n : Nat) (L : Nat → Nat) (Z : Nat → Nat → Int) (k : Nat) (A : Nat → Option Addr) (RB : Nat → Nat) : Prop where
  top : wr.rowIs w.heap.size 25 n (fun i => if i < k then .slice (A i) (L i) (L i) else .slice none 0 0)
  rows : ∀ i, i < k → IsV wr wr.heap.size (A i) (RB i) 0 (L i) (L i) (fun j => .int .u8 (Z i j))
  own : ∀ i, i < k → 0 < L i → w.heap.size < RB i
  below : Below w.heap.size w wr
  size : w.heap.size < wr.heap.size

theorem cl_start (w : World) (n : Nat) (L : Nat → Nat) (Z : Nat → Nat → Int) : CL w (w.alloc (.cells (madeCells #[.slice none 0 0] n) 25)) n L Z 0 (fun _ => none) (fun _ => 0) :=
  ⟨(World.rowIs_made w (.slice none 0 0) n 25).congr (fun j _ => by simp), fun i hi => absurd hi (Nat.not_lt_zero _), fun i hi => absurd hi (Nat.not_lt_zero _), (Below.refl _ _).alloc (Nat.le_refl _) _, by simp⟩

theorem top_step {k : Nat} {L : Nat → Nat} {A : Nat → Option Addr} (A' : Option Addr) (j : Nat) :
    (if j = k then Value.slice A' (L k) (L k) else if j < k then .slice (A j) (L j) (L j) else .slice none 0 0) =
      if j < k + 1 then .slice ((fun i => if i = k then A' else A i) j) (L j) (L j) else .slice none 0 0 := by
  by_cases e : j = k
  · subst e; simp
  · rw [if_neg e]
    by_cases hlt : j < k
    · rw [if_pos hlt, if_pos (by omega)]; simp [e]
    · rw [if_neg hlt, if_neg (by omega)]

theorem cl_row {w wr w1 : World} {n : Nat} {L : Nat → Nat} {Z : Nat → Nat → Int} {k : Nat} {A : Nat → Option Addr} {RB : Nat → Nat} {ga : Option Addr} {gb : Nat} (h : CL w wr n L Z k A RB)
    (hr : IsV w1 w1.heap.size ga gb 0 (L k) (L k) (fun j => .int .u8 (Z k j))) (hown : 0 < L k → wr.heap.size ≤ gb) (hb : Below wr.heap.size wr w1) :
    CL w (w1.setCell ⟨w.heap.size, k, none⟩ (.slice ga (L k) (L k))) n L Z (k + 1) (fun i => if i = k then ga else A i) (fun i => if i = k then gb else RB i) := by
  have hs : (w1.setCell ⟨w.heap.size, k, none⟩ (.slice ga (L k) (L k))).heap.size = w1.heap.size := by simp
  have h0 := h.size
  have h1 := hb.size
  refine ⟨((World.rowIs.of_block h.top (hb.block _ h0)).set k _).congr (fun j _ => top_step _ j), fun i hi => ?_, fun i hi hp => ?_, (h.below.trans (hb.mono (by omega))).setCell (Nat.le_refl _) _, by rw [hs]; omega⟩
  · rw [hs]
    by_cases e : i = k
    · subst e
      simp only [if_true]
      exact hr.setCell (fun hp => by have := hown hp; show gb ≠ w.heap.size; omega) _
    · simp only [e, if_false]
      exact ((((h.rows i (by omega)).keep hb).mono h1)).setCell (fun hp => by have := h.own i (by omega) hp; show RB i ≠ w.heap.size; omega) _
  · by_cases e : i = k
    · subst e
      simp only [if_true]
      have := hown hp; omega
    · simp only [e, if_false]; exact h.own i (by omega) hp

theorem Try.inf25 : (Try.prog.info? 25).map (fun i => (i.zero, i.size, i.bytes)) = some (some (.slice none 0 0), 1, 24) := by kernel_rfl

def ClonedL (w : World) (n : Nat) (L : Nat → Nat) (Z : Nat → Nat → Int) (e : Ending) (w' : World) : Prop :=
  ∃ ga gb A RB, e = .returned (.slice ga n n) ∧ Below w.heap.size w w' ∧ IsL w' w'.heap.size ga gb 0 n n A RB (fun _ => 0) L L Z

set_option maxHeartbeats 800000 in
theorem cloneL_any (ga : Option Addr) (gb go n c : Nat) (A : Nat → Option Addr) (RB RO L C : Nat → Nat) (Z : Nat → Nat → Int) (B : Nat) (w : World) (h : IsL w B ga gb go n c A RB RO L C Z) (hB : B ≤ w.heap.size) (hn : n ≤ 2000000)
    (hL : ∀ i, i < n → L i ≤ 2000000) : Calls Try.prog 22 #[.slice ga n c] w fun e w' => ClonedL w n L Z e w' := by
  cases ga with
  | none =>
    obtain ⟨rfl, rfl⟩ := h.nil rfl
    have hnil := fun w => Lib.run_eql_slice_nil (P := Try.prog) w 42 25 none 0 0 0 0 Try.underlying42
    clear h
    go_enter Try.func22, Try.ntmps22
    go_wp2
    go_ret
    exact ⟨none, 0, fun _ => none, fun _ => 0, rfl, Below.refl _ _, fun _ => ⟨rfl, rfl⟩, fun h => absurd h (Nat.lt_irrefl _), Nat.le_refl _, by omega, fun i h => absurd h (Nat.not_lt_zero _), fun h => absurd h (Nat.lt_irrefl _), fun i h => absurd h (Nat.not_lt_zero _)⟩
  | some a =>
  have hnil := fun w => Lib.run_eql_slice_nil (P := Try.prog) w 42 25 (some a) n c 0 0 Try.underlying42
  have hmk := run_make_row' (P := Try.prog) 42 25 (.slice none 0 0) 24 Try.underlying42 Try.inf25 rfl .i64 .i64 n (by omega) (by omega)
  have H := hide h
  have HL := hide hL
  have h0 : Hid (CL w (w.alloc (.cells (madeCells #[.slice none 0 0] n) 25)) n L Z 0 (fun _ => none) (fun _ => 0)) := cl_start w n L Z
  clear h hL
  go_enter Try.func22, Try.ntmps22
  go_wp2
  clear hmk hnil
  go_loopg [4] n (fun g i wr => ∃ k : Nat, k ≤ n ∧ g = n - k ∧ i = .int .i64 k ∧ ∃ A' RB', CL w wr n L Z k A' RB')
  case atStart => exact ⟨0, Nat.zero_le _, rfl, rfl, _, _, h0.out⟩
  case round =>
    obtain ⟨k, hk, rfl, rfl, A', RB', hC⟩ := hrel
    have HCL := hide hC
    clear h0 hC
    by_cases hlt : k < n
    · have hlz : (k : Int) < (n : Int) := by omega
      obtain rfl : a = ⟨gb, go, none⟩ := by have := H.out.adr (by omega); simpa using this
      have hgb := H.out.blk (by omega)
      obtain ⟨ak, hak⟩ : ∃ x, x = A k := ⟨_, rfl⟩
      obtain ⟨lk, hlk⟩ : ∃ x, x = L k := ⟨_, rfl⟩
      obtain ⟨ck, hck⟩ : ∃ x, x = C k := ⟨_, rfl⟩
      have g0 : wr.cell? ⟨gb, go + k, none⟩ = some (.slice ak lk ck) := by rw [hak, hlk, hck, HCL.out.below.cell (p := ⟨gb, go + k, none⟩) (by show gb < _; omega)]; exact H.out.row k hlt
      have hrk : Hid (IsV wr w.heap.size ak (RB k) (RO k) lk ck (fun j => .int .u8 (Z k j))) := by rw [hak, hlk, hck]; exact ((H.out.rows k hlt).mono hB).keep HCL.out.below
      have HLK := hide hlk
      clear hak hlk hck
      go_wp2_with fail
      refine (cloneY_new ak _ _ lk ck (Z k) w.heap.size wr hrk.out (Nat.le_of_lt HCL.out.size) (by rw [HLK.out]; exact HL.out k hlt)).mono ?_
      rintro e w1 ⟨ga1, gb1, rfl, hb, hr, hown⟩
      have g1 : w1.cell? ⟨w.heap.size, k, none⟩ = some (.slice none 0 0) := by have := (World.rowIs.of_block HCL.out.top (hb.block _ HCL.out.size)).cell hlt; simpa using this
      have g2 := (World.rowIs.of_block HCL.out.top (hb.block _ HCL.out.size)).frozen k
      have S : Hid (∃ A2 RB2, CL w (w1.setCell ⟨w.heap.size, k, none⟩ (.slice ga1 lk lk)) n L Z (k + 1) A2 RB2) := by
        rw [HLK.out] at hr hown ⊢
        exact ⟨_, _, cl_row HCL.out hr hown hb⟩
      clear hr hb hown hrk
      go_wp2
      go_roundg (n - (k + 1))
      case measure => go_light; omega
      case rel => go_light; exact ⟨k + 1, by omega, rfl, by simp, S.out⟩
    · have hlz : ¬ ((k : Int) < (n : Int)) := by omega
      have F : Hid (ClonedL w n L Z (.returned (.slice (some ⟨w.heap.size, 0, none⟩) n n)) wr) := by
        obtain rfl : k = n := by omega
        refine ⟨_, _, A', RB', rfl, HCL.out.below, ⟨(fun e => by cases e), fun _ => rfl, Nat.le_refl _, by omega, fun i hi => ?_, fun _ => HCL.out.size, HCL.out.rows⟩⟩
        rw [Nat.zero_add, HCL.out.top.cell hi, if_pos hi]
      go_wp2
      go_ret
      exact F.out

end Go.Proofs.Qxb6603268a
