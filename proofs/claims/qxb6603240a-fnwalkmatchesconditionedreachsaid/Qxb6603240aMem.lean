/- Memory facts for the seat's walks: slices of int32 and slices of such, as they are read. -/
import Derived.Test.Qxb6603240aProg
import Derived.WalkKit
import Derived.WalkSpells
import Derived.WalkLawsBesides
import Derived.Deep.LoopGhost
import Derived.Deep.OwnRows
import Derived.Deep.Light
import Derived.Deep.QuietTactic
import Derived.BigQuiet
namespace Go.Proofs.Qxb6603240a
open Go.RowKit Go.Proofs

theorem hide {p : Prop} (h : p) : Hid p := h
theorem unhide {p : Prop} (h : Hid p) : p := h

theorem Try.info21 : (Try.prog.info? 21).map (fun i => (i.zero, i.size, i.bytes)) = some (some (.int .i32 0), 1, 4) := by kernel_rfl
theorem Try.info23 : (Try.prog.info? 23).map (fun i => (i.zero, i.size, i.bytes)) = some (some (.slice none 0 0), 1, 24) := by kernel_rfl
theorem Try.info4 : (Try.prog.info? 4).map (fun i => (i.zero, i.size, i.bytes)) = some (some (.bool false), 1, 1) := by kernel_rfl

/-- A slice of int32 that is read in w: n elements f, in a block below B. -/
structure IsI32 (w : World) (B : Nat) (sa : Option Addr) (sb so n c : Nat) (f : Nat → Int) : Prop where
  nil : sa = none → n = 0 ∧ c = 0
  adr : 0 < n → sa = some ⟨sb, so, none⟩
  le : n ≤ c
  max : c ≤ 9223372036854775807
  cell : ∀ i, i < n → w.cell? ⟨sb, so + i, none⟩ = some (.int .i32 (f i))
  blk : 0 < n → sb < B

theorem IsI32.keep {w w' : World} {B : Nat} {sa : Option Addr} {sb so n c : Nat} {f : Nat → Int} (h : IsI32 w B sa sb so n c f) (hb : Below B w w') : IsI32 w' B sa sb so n c f :=
  ⟨h.nil, h.adr, h.le, h.max, fun i hi => by rw [hb.cell (p := ⟨sb, so + i, none⟩) (h.blk (by omega))]; exact h.cell i hi, h.blk⟩

theorem IsI32.mono {w : World} {B B' : Nat} {sa : Option Addr} {sb so n c : Nat} {f : Nat → Int} (h : IsI32 w B sa sb so n c f) (hb : B ≤ B') : IsI32 w B' sa sb so n c f :=
  ⟨h.nil, h.adr, h.le, h.max, h.cell, fun i => by have := h.blk i; omega⟩

theorem IsI32.setCell {w : World} {B : Nat} {sa : Option Addr} {sb so n c : Nat} {f : Nat → Int} (h : IsI32 w B sa sb so n c f) {a : Addr} (hne : 0 < n → sb ≠ a.block) (v : Value) : IsI32 (w.setCell a v) B sa sb so n c f :=
  ⟨h.nil, h.adr, h.le, h.max, fun i hi => by rw [World.cell?_setCell_other _ _ _ _ (fun e => hne (by omega) (congrArg Addr.block e).symm)]; exact h.cell i hi, h.blk⟩

/-- A slice of slices of int32. -/
structure IsLinks (w : World) (B : Nat) (ga : Option Addr) (gb go n c : Nat) (A : Nat → Option Addr) (RB RO L C : Nat → Nat) (Z : Nat → Nat → Int) : Prop where
  nil : ga = none → n = 0 ∧ c = 0
  adr : 0 < n → ga = some ⟨gb, go, none⟩
  le : n ≤ c
  max : c ≤ 9223372036854775807
  row : ∀ i, i < n → w.cell? ⟨gb, go + i, none⟩ = some (.slice (A i) (L i) (C i))
  blk : 0 < n → gb < B
  rows : ∀ i, i < n → IsI32 w B (A i) (RB i) (RO i) (L i) (C i) (Z i)

theorem IsLinks.keep {w w' : World} {B : Nat} {ga : Option Addr} {gb go n c : Nat} {A : Nat → Option Addr} {RB RO L C : Nat → Nat} {Z : Nat → Nat → Int} (h : IsLinks w B ga gb go n c A RB RO L C Z) (hb : Below B w w') :
    IsLinks w' B ga gb go n c A RB RO L C Z :=
  ⟨h.nil, h.adr, h.le, h.max, fun i hi => by rw [hb.cell (p := ⟨gb, go + i, none⟩) (h.blk (by omega))]; exact h.row i hi, h.blk, fun i hi => (h.rows i hi).keep hb⟩

theorem IsLinks.mono {w : World} {B B' : Nat} {ga : Option Addr} {gb go n c : Nat} {A : Nat → Option Addr} {RB RO L C : Nat → Nat} {Z : Nat → Nat → Int} (h : IsLinks w B ga gb go n c A RB RO L C Z) (hb : B ≤ B') :
    IsLinks w B' ga gb go n c A RB RO L C Z :=
  ⟨h.nil, h.adr, h.le, h.max, h.row, fun i => by have := h.blk i; omega, fun i hi => (h.rows i hi).mono hb⟩

/-- A row of int32 of the call's own. -/
def row32 (w : World) (b n : Nat) (f : Nat → Int) : Prop := w.rowIs b 21 n (fun i => .int .i32 (f i))

theorem row32.cell {w : World} {b n : Nat} {f : Nat → Int} (h : row32 w b n f) {i : Nat} (hi : i < n) : w.cell? ⟨b, i, none⟩ = some (.int .i32 (f i)) := World.rowIs.cell h hi
theorem row32.frozen {w : World} {b n : Nat} {f : Nat → Int} (h : row32 w b n f) (i : Nat) : w.frozen? ⟨b, i, none⟩ = false := World.rowIs.frozen h i
theorem row32.congr {w : World} {b n : Nat} {f g : Nat → Int} (h : row32 w b n f) (e : ∀ i, i < n → f i = g i) : row32 w b n g := World.rowIs.congr h (fun i hi => by rw [e i hi])
theorem row32.set {w : World} {b n : Nat} {f : Nat → Int} (h : row32 w b n f) (i : Nat) (x : Int) : row32 (w.setCell ⟨b, i, none⟩ (.int .i32 x)) b n (fun j => if j = i then x else f j) :=
  (World.rowIs.set h i (.int .i32 x)).congr (fun j _ => by dsimp only; split <;> rfl)
theorem row32.setOther {w : World} {b n : Nat} {f : Nat → Int} (h : row32 w b n f) {a : Addr} (ha : b ≠ a.block) (v : Value) : row32 (w.setCell a v) b n f := World.rowIs.setOther h ha v
theorem row32.alloc {w : World} {b n : Nat} {f : Nat → Int} (h : row32 w b n f) (o : Obj) : row32 (w.alloc o) b n f := World.rowIs.alloc h o
theorem row32.drew {w : World} {b n : Nat} {f : Nat → Int} (h : row32 w b n f) : row32 w.drew b n f := h
theorem row32.keep {w w' : World} {B b n : Nat} {f : Nat → Int} (h : row32 w b n f) (hb : Below B w w') (hlt : b < B) : row32 w' b n f := World.rowIs.of_block h (hb.block b hlt)
theorem row32.is {w : World} {b n : Nat} {f : Nat → Int} (h : row32 w b n f) (hm : n ≤ 9223372036854775807) : IsI32 w (b + 1) (some ⟨b, 0, none⟩) b 0 n n f :=
  ⟨(fun e => by cases e), fun _ => rfl, Nat.le_refl _, hm, fun i hi => by rw [Nat.zero_add]; exact World.rowIs.cell h hi, fun _ => Nat.lt_succ_self _⟩
theorem row32.lt {w : World} {b n : Nat} {f : Nat → Int} (h : row32 w b n f) : b < w.heap.size := World.rowIs.lt h

/-- Of the blocks that were there all are as they were, but for those listed. -/
structure Kept (w w' : World) (l : List Nat) : Prop where
  os : w'.os = w.os
  tape : w'.tape = w.tape
  output : w'.output = w.output
  size : w.heap.size ≤ w'.heap.size
  block : ∀ k, k < w.heap.size → k ∉ l → w'.heap[k]? = w.heap[k]?

theorem Kept.refl (w : World) (l : List Nat) : Kept w w l := ⟨rfl, rfl, rfl, Nat.le_refl _, fun _ _ _ => rfl⟩
theorem Kept.trans {a b c : World} {l : List Nat} (h : Kept a b l) (k : Kept b c l) : Kept a c l :=
  ⟨k.os.trans h.os, k.tape.trans h.tape, k.output.trans h.output, Nat.le_trans h.size k.size, fun i hi hl => (k.block i (Nat.lt_of_lt_of_le hi h.size) hl).trans (h.block i hi hl)⟩
theorem Kept.mono {a b : World} {l l' : List Nat} (h : Kept a b l) (hl : ∀ x, x ∈ l → x ∈ l') : Kept a b l' := ⟨h.os, h.tape, h.output, h.size, fun i hi hn => h.block i hi (fun hm => hn (hl i hm))⟩
theorem Kept.of_below {w w' : World} (h : Below w.heap.size w w') (l : List Nat) : Kept w w' l := ⟨h.os, h.tape, h.output, h.size, fun i hi _ => h.block i hi⟩
theorem Kept.setCell {w w' : World} {l : List Nat} (h : Kept w w' l) {p : Addr} (hp : p.block ∈ l) (v : Value) : Kept w (w'.setCell p v) l :=
  h.trans ⟨rfl, rfl, rfl, by simp, fun i _ hn => Below.heap_setCell _ _ _ _ (fun e => hn (e ▸ hp))⟩
theorem Kept.drewN {w w' : World} {l : List Nat} (h : Kept w w' l) (n : Nat) : Kept w (w'.drewN n) l := ⟨h.os, h.tape, h.output, h.size, h.block⟩
theorem Kept.below {w w' : World} {l : List Nat} {B : Nat} (h : Kept w w' l) (hB : B ≤ w.heap.size) (hl : ∀ x, x ∈ l → B ≤ x) : Below B w w' :=
  ⟨h.os, h.tape, h.output, h.size, fun i hi => h.block i (by omega) (fun hm => by have := hl i hm; omega)⟩
theorem row32.kept {w w' : World} {l : List Nat} {b n : Nat} {f : Nat → Int} (h : row32 w b n f) (k : Kept w w' l) (hn : b ∉ l) : row32 w' b n f := World.rowIs.of_block h (k.block b h.lt hn)

end Go.Proofs.Qxb6603240a
