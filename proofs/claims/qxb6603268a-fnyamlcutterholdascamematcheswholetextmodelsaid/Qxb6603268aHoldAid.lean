/- For the walk of hold: an append, a call, as a step; a new run; what is told at the end. -/
import Derived.Test.Qxb6603268aMem
import Derived.Deep.DeepCutAuto
namespace Go.Proofs.Qxb6603268a
open Go.RowKit Cu
set_option linter.unusedVariables false

theorem inf5 : ∃ i, Try.prog.info? 5 = some i ∧ i.zero = some (.int .u8 0) ∧ i.size = 1 ∧ i.bytes = 1 := by
  have h : (Try.prog.info? 5).map (fun i => (i.zero, i.size, i.bytes)) = some (some (.int .u8 0), 1, 1) := by kernel_rfl
  cases hi : Try.prog.info? 5 with
  | none => rw [hi] at h; cases h
  | some i => rw [hi] at h; simp at h; exact ⟨i, rfl, h.1, h.2.1, h.2.2⟩
theorem inf69 : ∃ i z, Try.prog.info? 69 = some i ∧ i.zero = some z ∧ i.size = 3 ∧ i.bytes = 24 ∧ z.cells.size = 3 := by
  have h : (Try.prog.info? 69).map (fun i => (i.zero.map (·.cells.size), i.size, i.bytes)) = some (some 3, 3, 24) := by kernel_rfl
  cases hi : Try.prog.info? 69 with
  | none => rw [hi] at h; cases h
  | some i =>
    rw [hi] at h; simp at h
    obtain ⟨⟨z, hz, hz3⟩, h2, h3⟩ := h
    exact ⟨i, z, rfl, hz, h2, h3, hz3⟩

section
variable {w wx : World} {B cb : Nat} {dv ev : Value} {s : St}

theorem below_own {B : Nat} {e : TypeId} {sz : Nat} {v : Value} {n : Nat} {xs : List Value} (h : w.ownsRow B e sz v n xs) (hb : Below w.heap.size w wx) : wx.ownsRow B e sz v n xs :=
  ownsRow_block h (fun k hk => hb.block k (h.lt k hk).2)

/-- append of bytes to what is held. -/
theorem data_append (h : CutAt w B cb dv ev s) (hb : Below w.heap.size w wx) (bb m c : Nat) (l : List Int) (hl : l.length = m) (hsrc : ∀ j x, l[j]? = some x → wx.cell? ⟨bb, j, none⟩ = some (.int .u8 x)) (hm : 0 < m) (hN : s.data.length + m ≤ 4000000) :
    ∃ g cap w2, (Builtin.append_ #[25, 25] 25 #[dv, .slice (some ⟨bb, 0, none⟩) m c]).run Try.prog wx = .ok (.slice (some ⟨g, 0, none⟩) (s.data.length + m) cap) w2 ∧ w2.cell? ⟨cb, 0, none⟩ = some dv ∧ w2.frozen? ⟨cb, 0, none⟩ = false ∧
      Left w B cb dv ev { s with data := s.data ++ l } (w2.setCell ⟨cb, 0, none⟩ (.slice (some ⟨g, 0, none⟩) (s.data.length + m) cap)) := by
  obtain ⟨i, hi, hz, hs1, hby⟩ := inf5
  have hcl := h.lt
  obtain ⟨g, cap, w2, h1, h2, h3, h4, h5⟩ := run_append_lies (P := Try.prog) wx 25 25 B 5 i (.int .u8 0) 1 1 Try.underlying25 hi hz hs1 hby rfl (by omega) dv s.data.length (dcells s.data) (below_own h.data hb) ⟨bb, 0, none⟩ m c (dcells l) (by rw [dcells_length, hl]; omega)
    (fun j u hj => by
      have e : (⟨bb, 0, none⟩ : Addr).add j = ⟨bb, j, none⟩ := by cases j <;> simp [Addr.add]
      rw [e]
      simp only [dcells, List.getElem?_map, Option.map_eq_some_iff] at hj
      obtain ⟨x, hx, rfl⟩ := hj
      exact hsrc j x hx) (fun u hu => by simp [dcells] at hu; obtain ⟨x, _, rfl⟩ := hu; rfl) hm (by unfold maxLen; omega) (by omega) (by have := h.cbB; have := hb.size; omega) wx.heap.size rfl
  have hne : some cb ≠ dv.ownBlock := fun e => h.dne e.symm
  have hcx : cb < wx.heap.size := Nat.lt_of_lt_of_le hcl hb.size
  refine ⟨g, cap, w2, h1, ?_, ?_, cut_append h hb h3 h2 (by rw [hl]) ?_⟩
  · rw [h3.cell_far ⟨cb, 0, none⟩ hcx hne, hb.cell (p := ⟨cb, 0, none⟩) hcl]; exact h.c0
  · rw [h3.frozen_far ⟨cb, 0, none⟩ hcx hne, hb.frozen (p := ⟨cb, 0, none⟩) hcl]; exact h.fz 0
  · rcases h4 with h4 | h4
    · exact .inl h4
    · exact .inr (by rw [h4]; exact hb.size)

/-- append of one repeat. -/
theorem extra_append (h : CutAt w B cb dv ev s) (hb : Below w.heap.size w wx) (bb c : Nat) (x : Int × Int × Bool) {fr : Nat × Nat} (hsrc : wx.heap[bb]? = some (.cells #[.int .i64 x.1, .int .i64 x.2.1, .bool x.2.2] 69 fr)) (hN : s.extra.length + 1 ≤ 4000000) :
    ∃ g cap w2, (Builtin.append_ #[50, 50] 50 #[ev, .slice (some ⟨bb, 0, none⟩) 1 c]).run Try.prog wx = .ok (.slice (some ⟨g, 0, none⟩) (s.extra.length + 1) cap) w2 ∧ w2.cell? ⟨cb, 2, none⟩ = some ev ∧ w2.frozen? ⟨cb, 2, none⟩ = false ∧
      Left w B cb dv ev { s with extra := s.extra ++ [x] } (w2.setCell ⟨cb, 2, none⟩ (.slice (some ⟨g, 0, none⟩) (s.extra.length + 1) cap)) := by
  obtain ⟨i, z, hi, hz, hs1, hby, hzs⟩ := inf69
  have hcl := h.lt
  obtain ⟨g, cap, w2, h1, h2, h3, h4, h5⟩ := run_append_lies (P := Try.prog) wx 50 50 B 69 i z 3 24 Try.underlying50 hi hz hs1 hby hzs (by omega) ev s.extra.length (xcells s.extra) (below_own h.extra hb) ⟨bb, 0, none⟩ 1 c (xcells [x]) (by rw [xcells_length]; rfl)
    (fun j u hj => World.news_of_block hsrc j u (by simpa [xcells, Go.Proofs.Qxb6603268a.xcell] using hj)) (fun u hu => by simp [xcells, Go.Proofs.Qxb6603268a.xcell] at hu; rcases hu with rfl | rfl | rfl <;> rfl) (by omega) (by unfold maxLen; omega) (by omega) (by have := h.cbB; have := hb.size; omega) wx.heap.size rfl
  have hne : some cb ≠ ev.ownBlock := fun e => h.ene e.symm
  have hcx : cb < wx.heap.size := Nat.lt_of_lt_of_le hcl hb.size
  refine ⟨g, cap, w2, h1, ?_, ?_, left_xappend h hb h3 h2 rfl ?_⟩
  · rw [h3.cell_far ⟨cb, 2, none⟩ hcx hne, hb.cell (p := ⟨cb, 2, none⟩) hcl]; exact h.c2
  · rw [h3.frozen_far ⟨cb, 2, none⟩ hcx hne, hb.frozen (p := ⟨cb, 2, none⟩) hcl]; exact h.fz 2
  · rcases h4 with h4 | h4
    · exact .inl h4
    · exact .inr (by rw [h4]; exact hb.size)

end

theorem rep_src {w1 : World} {bb n : Nat} {b x : Int} {cur : List Value} (h1 : w1.heap[bb]? = some (.cells cur.toArray 5 (0, 0))) (h2 : ∀ i, i < n → cur[i]? = some (.int .u8 b)) {j : Nat} (hj : (List.replicate n b)[j]? = some x) : w1.cell? ⟨bb, j, none⟩ = some (.int .u8 x) := by
  rw [List.getElem?_replicate] at hj
  by_cases e : j < n
  · rw [if_pos e] at hj
    obtain rfl := Option.some.inj hj
    rw [cell_of_row _ _ j _ _ _ h1]
    simpa using h2 j e
  · rw [if_neg e] at hj; cases hj

theorem below_after {a b c : World} (h : Below a.heap.size a b) (k : Below b.heap.size b c) : Below a.heap.size a c :=
  h.trans ⟨k.os, k.tape, k.output, k.size, fun i hi => k.block i (Nat.lt_of_lt_of_le hi h.size)⟩

section
variable {P : Program} {ops : Array Oper} {o : Oper} {a : Act} {w : World} {K : Act → World → Prop} {Q : Exit → Act → World → Prop} {E : Prop}
/-- A call of two arguments by its contract, as one step of a region that draws. -/
theorem step_call2 (hg : o.guard = none) (f : FuncId) (x y : Operand) (ts : Array TypeId) (ho : o.op = .call { callee := .value (.func f), args := #[x, y], argTypes := ts }) (u v : Value) (hx : a.eval x = u) (hy : a.eval y = v)
    (hcf : (callFunc f #[u, v]).run P w = .ok (.enter f #[u, v]) w)
    (hc : Calls P f #[u, v] w fun e w' => ∃ r, e = .returned r ∧ K (a.put o.dst r) w') : if Region.wanted o (yielded ops a.tmps) = true then Oper.wp P o a w K Q else E := by
  have hw : Region.wanted o (yielded ops a.tmps) = true := by simp [Region.wanted, hg]
  rw [if_pos hw]
  have e1 : a.eval (.func f) = .func (.func f) #[] #[] := rfl
  have hrun : (execOp a.eval o).run P w = .ok (.enter f #[u, v]) w := by
    unfold execOp
    simp only [ho, resolve, invoke, Sem.run_bind, Sem.run_pure, List.map_toArray, List.map_cons, List.map_nil, hx, hy, e1, Deferred.ofValue, Result.andThen_ok, Array.append_empty, Array.empty_append, hcf]
  unfold Oper.wp
  rw [hrun, Oper.upon_enter]
  refine hc.mono fun e w'' hh => ?_
  obtain ⟨r, rfl, hk⟩ := hh
  exact hk

theorem wpList_app {rest : List Oper} (hg : o.guard = none) (s x : Operand) (t : TypeId) (ho : o.op = .call { callee := .builtin .append, args := #[s, x], argTypes := #[t, t] }) (vs vx v' : Value) (w' : World) (hs : a.eval s = vs) (hx : a.eval x = vx)
    (hr : (Builtin.append_ #[t, t] o.type #[vs, vx]).run P w = .ok v' w') (h : wpList P ops Q rest (a.put o.dst v') w') : wpList P ops Q (o :: rest) a w :=
  wpList_plain hg fun K hK => by
    unfold Oper.wp execOp
    simp only [ho, resolve, invoke, builtin, Sem.run_bind, Sem.run_pure, Result.andThen_ok, List.map_toArray, List.map_cons, List.map_nil, hs, hx, hr]
    exact hK _ _ h

/-- An append whose run is known, as one step of a region that draws. -/
theorem step_app (hg : o.guard = none) (s x : Operand) (t : TypeId) (ho : o.op = .call { callee := .builtin .append, args := #[s, x], argTypes := #[t, t] }) (vs vx v' : Value) (w' : World) (hs : a.eval s = vs) (hx : a.eval x = vx)
    (hr : (Builtin.append_ #[t, t] o.type #[vs, vx]).run P w = .ok v' w') (h : K (a.put o.dst v') w') : if Region.wanted o (yielded ops a.tmps) = true then Oper.wp P o a w K Q else E := by
  have hw : Region.wanted o (yielded ops a.tmps) = true := by simp [Region.wanted, hg]
  rw [if_pos hw]
  unfold Oper.wp execOp
  simp only [ho, resolve, invoke, builtin, Sem.run_bind, Sem.run_pure, Result.andThen_ok, List.map_toArray, List.map_cons, List.map_nil, hs, hx, hr]
  exact h
end

theorem enter34 (args : Array Value) (w : World) : (callFunc 34 args).run Try.prog w = .ok (.enter 34 args) w := by
  have h := Try.func34
  go_simp

theorem CutAt.dat {w : World} {B cb : Nat} {dv ev : Value} {s : St} (h : CutAt w B cb dv ev s) : ∃ a cap N, dv = .slice a N cap ∧ N = s.data.length ∧ (0 < N → ∃ g, a = some ⟨g, 0, none⟩ ∧ N ≤ cap ∧ cap ≤ maxLen) := by
  rcases h.data.2 with ⟨hv, h0⟩ | ⟨g, cap, cur, hv, hg, hh, h1, h2, h3, h4⟩
  · exact ⟨none, 0, 0, hv, h0.symm, fun h => absurd h (Nat.lt_irrefl _)⟩
  · exact ⟨_, cap, _, hv, rfl, fun _ => ⟨g, rfl, h1, h2⟩⟩

theorem Left.of_drewN {w w' : World} {B cb : Nat} {dv ev : Value} {s : St} {n : Nat} (h : Left (w.drewN n) B cb dv ev s w') : Left w B cb dv ev s w' := by
  obtain ⟨d, e, h1, h2, h3⟩ := h
  exact ⟨d, e, h1, ⟨h2.os, h2.tape, h2.output, h2.size, h2.block⟩, h3⟩

/-- The road from one cutter to the next. -/
def CutIs (w : World) (B cb : Nat) (dv ev dv1 ev1 : Value) (s1 : St) (w1 : World) : Prop := Kept w w1 (foot cb dv ev) ∧ ∀ k, k ∈ foot cb dv1 ev1 → k ∈ foot cb dv ev ∨ w.heap.size ≤ k

theorem CutIs.trans {w w1 w2 : World} {B cb : Nat} {dv ev dv1 ev1 dv2 ev2 : Value} {s1 s2 : St} (h : CutIs w B cb dv ev dv1 ev1 s1 w1) (hk2 : Kept w1 w2 (foot cb dv1 ev1)) (hf2 : ∀ k, k ∈ foot cb dv2 ev2 → k ∈ foot cb dv1 ev1 ∨ w1.heap.size ≤ k) : CutIs w B cb dv ev dv2 ev2 s2 w2 := by
  obtain ⟨hk, hf⟩ := h
  refine ⟨hk.trans hk2 hf, fun x hx => ?_⟩
  rcases hf2 x hx with h1 | h1
  · exact hf x h1
  · exact .inr (Nat.le_trans hk.size h1)

theorem Left.trans' {w w1 w2 : World} {B cb : Nat} {dv ev : Value} {s2 : St} (hk : Kept w w1 (foot cb dv ev)) (k : Left w1 B cb dv ev s2 w2) : Left w B cb dv ev s2 w2 := by
  obtain ⟨dv2, ev2, hc2, hk2, hf2⟩ := k
  refine ⟨dv2, ev2, hc2, hk.trans hk2 (fun x hx => .inl hx), fun x hx => ?_⟩
  rcases hf2 x hx with h1 | h1
  · exact .inl h1
  · exact .inr (Nat.le_trans hk.size h1)

theorem Left.step {w w1 w2 : World} {B cb : Nat} {dv ev dv1 ev1 : Value} {s1 s2 : St} (h : CutIs w B cb dv ev dv1 ev1 s1 w1) (k : Left w1 B cb dv1 ev1 s2 w2) : Left w B cb dv ev s2 w2 := by
  obtain ⟨hk, hf⟩ := h
  obtain ⟨dv2, ev2, hc2, hk2, hf2⟩ := k
  refine ⟨dv2, ev2, hc2, hk.trans hk2 hf, fun x hx => ?_⟩
  rcases hf2 x hx with h1 | h1
  · exact hf x h1
  · exact .inr (Nat.le_trans hk.size h1)

/-- A new run begins: three fields, and one byte more. -/
theorem new_append {w : World} {B cb : Nat} {dv ev : Value} {s : St} {a : Option Addr} {N cap : Nat} (h : CutAt w B cb dv ev s) (hdv : dv = .slice a N cap) (hN : N = s.data.length) (b : Int) (NI : Int) (hNI : NI = N) (hM : N + 1 ≤ 4000000) :
    ∃ g c1 w5, (Builtin.append_ #[25, 25] 25 #[.slice a N cap, .slice (some ⟨w.heap.size, 0, none⟩) 1 1]).run Try.prog ((((w.setCell ⟨cb, 5, none⟩ (.int .i64 NI)).setCell ⟨cb, 6, none⟩ (.int .i64 (-1))).setCell ⟨cb, 7, none⟩ (.bool true)).alloc (.cells #[.int .u8 b] 5)) = .ok (.slice (some ⟨g, 0, none⟩) (N + 1) c1) w5 ∧
      w5.cell? ⟨cb, 0, none⟩ = some (.slice a N cap) ∧ w5.frozen? ⟨cb, 0, none⟩ = false ∧ Left w B cb dv ev (newRun s b) (w5.setCell ⟨cb, 0, none⟩ (.slice (some ⟨g, 0, none⟩) (N + 1) c1)) := by
  have L4 : Left w B cb dv ev { s with runAt := NI, runRep := -1, runPad := true } (((w.setCell ⟨cb, 5, none⟩ (.int .i64 NI)).setCell ⟨cb, 6, none⟩ (.int .i64 (-1))).setCell ⟨cb, 7, none⟩ (.bool true)) :=
    ((left_set5 h NI).trans (fun d1 e1 h1 => left_set6 h1 (-1))).trans (fun d1 e1 h1 => left_set7 h1 true)
  have C4 := ((h.set5 NI).set6 (-1)).set7 true
  obtain ⟨w4, hw4⟩ : ∃ w4, w4 = ((w.setCell ⟨cb, 5, none⟩ (.int .i64 NI)).setCell ⟨cb, 6, none⟩ (.int .i64 (-1))).setCell ⟨cb, 7, none⟩ (.bool true) := ⟨_, rfl⟩
  have hs4 : w4.heap.size = w.heap.size := by rw [hw4]; simp
  rw [← hw4] at L4 C4 ⊢
  obtain ⟨g, c1, w5, a1, a2, a3, a4⟩ := data_append C4 ((Below.refl w4.heap.size w4).alloc (Nat.le_refl _) (.cells #[.int .u8 b] 5)) w.heap.size 1 1 [b] rfl (fun j x hx => by
    have hj : j = 0 := by
      cases j with
      | zero => rfl
      | succ j => simp at hx
    subst hj
    obtain rfl : b = x := by simpa using hx
    rw [← hs4]
    exact cell_of_row _ _ 0 _ _ _ (Deep.blk_alloc_new w4 (.cells #[.int .u8 b] 5))) (by omega) (by show s.data.length + 1 ≤ _; omega)
  subst hdv
  have e1 : s.data.length = N := hN.symm
  have e2 : ({ s with runAt := NI, runRep := -1, runPad := true } : St).data.length = N := e1
  rw [e2] at a1 a4
  refine ⟨g, c1, w5, a1, a2, a3, ?_⟩
  obtain ⟨dv4, ev4, q1, q2, q3⟩ := a4
  have e : ({ ({ s with runAt := NI, runRep := -1, runPad := true } : St) with data := s.data ++ [b] } : St) = newRun s b := by
    show ({ data := s.data ++ [b], extra := s.extra, runAt := NI, runRep := -1, runPad := true } : St) = newRun s b
    rw [hNI, hN]; rfl
  refine ⟨dv4, ev4, by rw [← e]; exact q1, ?_, fun k hk => ?_⟩
  · obtain ⟨_, _, _, q4, _⟩ := L4
    exact q4.trans q2 (fun x hx => .inl hx)
  · rw [← hs4]; exact q3 k hk

def Held (w : World) (B cb : Nat) (dv ev : Value) (s' : St) (e : Ending) (w' : World) : Prop := e = .returned (.tuple #[]) ∧ Left w B cb dv ev s' w'

theorem runF_cut' {s : St} {ra k m : Nat} {b : Int} {p : Bool} (hd : s.data.length = ra + k + 1) (ha : s.runAt = ra) (h0 : ¬ 0 ≤ s.runRep) (h24 : 24 < k + m) :
    runF s b m p = { data := s.data.take (ra + 1), extra := s.extra ++ [((ra : Int), (k : Int) + (m : Int), s.runPad && p)], runAt := s.runAt, runRep := s.extra.length, runPad := s.runPad && p } := by
  have e : (s.data.length : Int) - 1 - s.runAt + m = (k : Int) + (m : Int) := by rw [hd, ha]; omega
  have et : s.runAt.toNat = ra := by rw [ha]; rfl
  unfold runF
  rw [if_neg h0, if_pos (by omega), e, et, ha]
theorem runF_add' {s : St} {ra k m : Nat} {b : Int} {p : Bool} (hd : s.data.length = ra + k + 1) (ha : s.runAt = ra) (h0 : ¬ 0 ≤ s.runRep) (h24 : ¬ 24 < k + m) :
    runF s b m p = { s with data := s.data ++ List.replicate m b, runPad := s.runPad && p } := by
  have e : (s.data.length : Int) - 1 - s.runAt + m = (k : Int) + (m : Int) := by rw [hd, ha]; omega
  unfold runF
  rw [if_neg h0, if_neg (by omega)]

/-- Where the two ways meet: a run of b that goes on by n copies. -/
def Mid (w : World) (B cb : Nat) (dv ev : Value) (b : Int) (p : Bool) (sF : St) (M n : Nat) (v : Value) (wx : World) : Prop :=
  ∃ (s' : St) (m : Nat), v = .int .i64 m ∧ 1 ≤ m ∧ m ≤ n ∧ Left w B cb dv ev s' wx ∧ Wf s' (M + 1) ∧ s'.data.getLast? = some b ∧ runF s' b m p = sF

end Go.Proofs.Qxb6603268a
