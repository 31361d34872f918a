/- The four rows that zzd1Model builds. -/
import Derived.Test.Qxb6603268aRowsOwn
namespace Go.Proofs.Qxb6603268a
open Go.RowKit Cu
set_option linter.unusedVariables false

def icells (l : List Int) : List Value := l.map (Value.int .i64)
theorem icells_append (a b : List Int) : icells (a ++ b) = icells a ++ icells b := by simp [icells]

structure Mod (w : World) (B : Nat) (dv av cv pv : Value) (dl al cl : List Int) (pl : List Bool) : Prop where
  d : w.ownsRow B 5 1 dv dl.length (dcells dl)
  a : w.ownsRow B 2 1 av al.length (icells al)
  c : w.ownsRow B 3 1 cv cl.length (icells cl)
  p : w.ownsRow B 4 1 pv pl.length (bcells pl)
  le : B ≤ w.heap.size

theorem mod_start (w : World) : Mod w w.heap.size (.slice none 0 0) (.slice none 0 0) (.slice none 0 0) (.slice none 0 0) [] [] [] [] :=
  ⟨⟨rfl, .inl ⟨rfl, rfl⟩⟩, ⟨rfl, .inl ⟨rfl, rfl⟩⟩, ⟨rfl, .inl ⟨rfl, rfl⟩⟩, ⟨rfl, .inl ⟨rfl, rfl⟩⟩, Nat.le_refl _⟩

section
variable {w w' : World} {B : Nat} {dv av cv pv : Value} {dl al cl : List Int} {pl : List Bool}

theorem Mod.dadd (h : Mod w B dv av cv pv dl al cl pl) (hn : dl.length ≤ 4000000) (x : Int) :
    ∃ g cap w2, (Builtin.append_ #[25, 25] 25 #[dv, .slice (some ⟨w.heap.size, 0, none⟩) 1 1]).run Try.prog (w.alloc (.cells #[.int .u8 x] 5)) = .ok (.slice (some ⟨g, 0, none⟩) (dl.length + 1) cap) w2 ∧
      Mod w2 B (.slice (some ⟨g, 0, none⟩) (dl.length + 1) cap) av cv pv (dl ++ [x]) al cl pl ∧ Below B w w2 := by
  obtain ⟨g, cap, w2, h1, h2, h3, h4⟩ := own_append Try.underlying25 Try.inf5 rfl (by omega) h.d h.le hn (.int .u8 x) rfl
  refine ⟨g, cap, w2, h1, ⟨by rw [dcells_append, List.length_append]; exact h2, own_kept h.a h3 (fun b hb hm => own_apart h.a h.d (by decide) b hb (by simpa using hm)), own_kept h.c h3 (fun b hb hm => own_apart h.c h.d (by decide) b hb (by simpa using hm)), own_kept h.p h3 (fun b hb hm => own_apart h.p h.d (by decide) b hb (by simpa using hm)), Nat.le_trans h.le h3.size⟩, h3.below h.le (fun x hx => (h.d.lt x (by simpa using hx)).1)⟩

theorem Mod.aadd (h : Mod w B dv av cv pv dl al cl pl) (hn : al.length ≤ 4000000) (x : Int) :
    ∃ g cap w2, (Builtin.append_ #[57, 57] 57 #[av, .slice (some ⟨w.heap.size, 0, none⟩) 1 1]).run Try.prog (w.alloc (.cells #[.int .i64 x] 2)) = .ok (.slice (some ⟨g, 0, none⟩) (al.length + 1) cap) w2 ∧
      Mod w2 B dv (.slice (some ⟨g, 0, none⟩) (al.length + 1) cap) cv pv dl (al ++ [x]) cl pl ∧ Below B w w2 := by
  obtain ⟨g, cap, w2, h1, h2, h3, h4⟩ := own_append Try.underlying57 Try.inf2 rfl (by omega) h.a h.le hn (.int .i64 x) rfl
  refine ⟨g, cap, w2, h1, ⟨own_kept h.d h3 (fun b hb hm => own_apart h.d h.a (by decide) b hb (by simpa using hm)), by rw [icells_append, List.length_append]; exact h2, own_kept h.c h3 (fun b hb hm => own_apart h.c h.a (by decide) b hb (by simpa using hm)), own_kept h.p h3 (fun b hb hm => own_apart h.p h.a (by decide) b hb (by simpa using hm)), Nat.le_trans h.le h3.size⟩, h3.below h.le (fun x hx => (h.a.lt x (by simpa using hx)).1)⟩

theorem Mod.cadd (h : Mod w B dv av cv pv dl al cl pl) (hn : cl.length ≤ 4000000) (x : Int) :
    ∃ g cap w2, (Builtin.append_ #[26, 26] 26 #[cv, .slice (some ⟨w.heap.size, 0, none⟩) 1 1]).run Try.prog (w.alloc (.cells #[.int .i64 x] 3)) = .ok (.slice (some ⟨g, 0, none⟩) (cl.length + 1) cap) w2 ∧
      Mod w2 B dv av (.slice (some ⟨g, 0, none⟩) (cl.length + 1) cap) pv dl al (cl ++ [x]) pl ∧ Below B w w2 := by
  obtain ⟨g, cap, w2, h1, h2, h3, h4⟩ := own_append Try.underlying26 Try.inf3 rfl (by omega) h.c h.le hn (.int .i64 x) rfl
  refine ⟨g, cap, w2, h1, ⟨own_kept h.d h3 (fun b hb hm => own_apart h.d h.c (by decide) b hb (by simpa using hm)), own_kept h.a h3 (fun b hb hm => own_apart h.a h.c (by decide) b hb (by simpa using hm)), by rw [icells_append, List.length_append]; exact h2, own_kept h.p h3 (fun b hb hm => own_apart h.p h.c (by decide) b hb (by simpa using hm)), Nat.le_trans h.le h3.size⟩, h3.below h.le (fun x hx => (h.c.lt x (by simpa using hx)).1)⟩

theorem Mod.padd (h : Mod w B dv av cv pv dl al cl pl) (hn : pl.length ≤ 4000000) (x : Bool) :
    ∃ g cap w2, (Builtin.append_ #[27, 27] 27 #[pv, .slice (some ⟨w.heap.size, 0, none⟩) 1 1]).run Try.prog (w.alloc (.cells #[.bool x] 4)) = .ok (.slice (some ⟨g, 0, none⟩) (pl.length + 1) cap) w2 ∧
      Mod w2 B dv av cv (.slice (some ⟨g, 0, none⟩) (pl.length + 1) cap) dl al cl (pl ++ [x]) ∧ Below B w w2 := by
  obtain ⟨g, cap, w2, h1, h2, h3, h4⟩ := own_append Try.underlying27 Try.inf4 rfl (by omega) h.p h.le hn (.bool x) rfl
  refine ⟨g, cap, w2, h1, ⟨own_kept h.d h3 (fun b hb hm => own_apart h.d h.p (by decide) b hb (by simpa using hm)), own_kept h.a h3 (fun b hb hm => own_apart h.a h.p (by decide) b hb (by simpa using hm)), own_kept h.c h3 (fun b hb hm => own_apart h.c h.p (by decide) b hb (by simpa using hm)), by rw [bcells_append, List.length_append]; exact h2, Nat.le_trans h.le h3.size⟩, h3.below h.le (fun x hx => (h.p.lt x (by simpa using hx)).1)⟩
end

/-- The rows hold a state. -/
def ModS (w : World) (B : Nat) (dv av cv pv r1 r2 r3 : Value) (s : St) : Prop :=
  Mod w B dv av cv pv s.data (s.extra.map (·.1)) (s.extra.map (·.2.1)) (s.extra.map (·.2.2)) ∧ r1 = .int .i64 s.runAt ∧ r2 = .int .i64 s.runRep ∧ r3 = .bool s.runPad

theorem results_tmp7 {fn : Func} {t1 t2 t3 t4 t5 t6 t7 : Tmp} (h : fn.results = #[.tmp t1, .tmp t2, .tmp t3, .tmp t4, .tmp t5, .tmp t6, .tmp t7]) (tmps : Array Value) (P : Program) (w : World) :
    (results fn tmps).run P w = .ok (.tuple #[tmps.getD t1 undef, tmps.getD t2 undef, tmps.getD t3 undef, tmps.getD t4 undef, tmps.getD t5 undef, tmps.getD t6 undef, tmps.getD t7 undef]) w := by
  simp [results, h]

/-- What zzd1Model answers. -/
def ModelIs (w : World) (s : St) (e : Ending) (w' : World) : Prop :=
  ∃ dv av cv pv r1 r2 r3, e = .returned (.tuple #[dv, av, cv, pv, r1, r2, r3]) ∧ ModS w' w.heap.size dv av cv pv r1 r2 r3 s ∧ Below w.heap.size w w'

end Go.Proofs.Qxb6603268a
