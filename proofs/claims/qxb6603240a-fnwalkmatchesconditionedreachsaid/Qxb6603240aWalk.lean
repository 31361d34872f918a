/- (*backbone).walk (function 22), by its contract. -/
import Derived.Test.Qxb6603240aGrow
import Derived.Test.Qxb6603240aPlain
namespace Go.Proofs.Qxb6603240a
open Go.RowKit
set_option linter.unusedVariables false

/-- The queue that is handed in: nil, or a row of the call's own. -/
def QOk (w : World) (B ab sb : Nat) (qa : Option Addr) (qc : Nat) : Prop :=
  (qa = none ∧ qc = 0) ∨ ∃ (qb : Nat) (g : Nat → Int), qa = some ⟨qb, 0, none⟩ ∧ row32 w qb qc g ∧ qc ≤ 9223372036854775807 ∧ B ≤ qb ∧ qb ≠ ab ∧ qb ≠ sb

/-- The queue behind Grow. -/
def Grew2 (w : World) (B ab sb : Nat) (qa : Option Addr) (n : Nat) (e : Ending) (w' : World) : Prop :=
  ∃ (qb qc : Nat) (g : Nat → Int), e = .returned (.slice (some ⟨qb, 0, none⟩) 0 qc) ∧ n ≤ qc ∧ qc ≤ 9223372036854775807 ∧ row32 w' qb qc g ∧ Below w.heap.size w w' ∧ B ≤ qb ∧ qb ≠ ab ∧ qb ≠ sb ∧ (qa = some ⟨qb, 0, none⟩ ∨ w.heap.size ≤ qb)

theorem grow_any (w : World) (B ab sb : Nat) (qa : Option Addr) (qc n : Nat) (N : Int) (hN : N = n) (h : QOk w B ab sb qa qc) (hn : 0 < n) (hbig : n ≤ 2000000) (hB : B ≤ w.heap.size) (ha : ab < w.heap.size) (hs : sb < w.heap.size) :
    Calls Try.prog 24 #[.slice qa 0 qc, .int .i64 N] w fun e w' => Grew2 w B ab sb qa n e w' := by
  subst hN
  rcases h with ⟨rfl, rfl⟩ | ⟨qb, g, rfl, hr, hc, h1, h2, h3⟩
  · refine (grow_new none 0 n (fun _ => 0) w hn hbig (fun _ => rfl) (fun a h => by cases h)).mono ?_
    rintro e w' ⟨G, g, h1, h2, h3, h4, h5, h6⟩
    exact ⟨_, G, g, h3, h1, h2, h4, h5, hB, by omega, by omega, .inr (Nat.le_refl _)⟩
  · by_cases hroom : n ≤ qc
    · refine (grow_room _ qc n w hc hroom).mono ?_
      rintro e w' ⟨h5, rfl⟩
      exact ⟨qb, qc, g, h5, hroom, hc, hr, Below.refl _ _, h1, h2, h3, .inl rfl⟩
    · refine (grow_new _ qc n g w (by omega) hbig (fun h => by cases h) (fun a h j hj => ?_)).mono ?_
      · cases h
        have := hr.cell hj
        rw [show (Addr.add ⟨qb, 0, none⟩ j) = ⟨qb, j, none⟩ from by cases j <;> simp [Addr.add]]
        exact this
      · rintro e w' ⟨G, g, h1, h2, h3, h4, h5, h6⟩
        exact ⟨_, G, g, h3, h1, h2, h4, h5, hB, by omega, by omega, .inr (Nat.le_refl _)⟩

/-- The walk's own memory at a loop's head: away, the queue, the struct. -/
structure WS (w wr : World) (sb ab an qb qc : Nat) (S : Nat → Value) (st : (Nat → Int) × List Nat) : Prop where
  away : row32 wr ab an st.1
  queue : ∃ g : Nat → Int, row32 wr qb qc g ∧ ∀ (i z : Nat), st.2[i]? = some z → g i = z
  str : wr.rowIs sb 41 6 S
  kept : Kept w wr [ab, qb]

theorem WS.qcell {w wr : World} {sb ab an qb qc : Nat} {S : Nat → Value} {st : (Nat → Int) × List Nat} (h : WS w wr sb ab an qb qc S st) {i z : Nat} (hi : st.2[i]? = some z) (hq : i < qc) : wr.cell? ⟨qb, i, none⟩ = some (.int .i32 (z : Int)) := by
  obtain ⟨g, hg, hz⟩ := h.queue
  rw [hg.cell hq, hz i z hi]

/-- 'queue[n] = z', kept, and 'away[z] = d'. -/
theorem WS.yes {w wr : World} {sb ab an qb qc : Nat} {S : Nat → Value} {st : (Nat → Int) × List Nat} (h : WS w wr sb ab an qb qc S st) (hqa : qb ≠ ab) (hsa : ab ≠ sb) (hsq : qb ≠ sb) (z : Nat) (d : Int) (hlt : d < st.1 z) :
    WS w ((wr.setCell ⟨qb, st.2.length, none⟩ (.int .i32 (z : Int))).setCell ⟨ab, z, none⟩ (.int .i32 d)) sb ab an qb qc S (Bf.step d st z) := by
  unfold Bf.step
  rw [if_pos hlt]
  obtain ⟨g, hg, hz⟩ := h.queue
  refine ⟨(h.away.setOther (by show ab ≠ qb; omega) _).set z d, ⟨_, (hg.set st.2.length z).setOther hqa _, fun i x hi => ?_⟩, (h.str.setOther (by show sb ≠ qb; omega) _).setOther (by show sb ≠ ab; omega) _, (h.kept.setCell (by simp) _).setCell (by simp) _⟩
  rw [List.getElem?_append] at hi
  by_cases hil : i < st.2.length
  · rw [if_pos hil] at hi
    rw [if_neg (by omega)]; exact hz i x hi
  · rw [if_neg hil] at hi
    have hl := (List.getElem?_eq_some_iff.1 hi).1
    simp at hl
    have : i - st.2.length = 0 := by omega
    rw [this] at hi; simp at hi
    rw [if_pos (by omega), hi]

/-- 'queue[n] = z', not kept, and 'away[z]' as it was. -/
theorem WS.no {w wr : World} {sb ab an qb qc : Nat} {S : Nat → Value} {st : (Nat → Int) × List Nat} (h : WS w wr sb ab an qb qc S st) (hqa : qb ≠ ab) (hsa : ab ≠ sb) (hsq : qb ≠ sb) (z : Nat) (d : Int) (hlt : ¬ d < st.1 z) :
    WS w ((wr.setCell ⟨qb, st.2.length, none⟩ (.int .i32 (z : Int))).setCell ⟨ab, z, none⟩ (.int .i32 (st.1 z))) sb ab an qb qc S (Bf.step d st z) := by
  unfold Bf.step
  rw [if_neg hlt]
  obtain ⟨g, hg, hz⟩ := h.queue
  refine ⟨((h.away.setOther (by show ab ≠ qb; omega) _).set z (st.1 z)).congr (fun i _ => by by_cases e : i = z <;> simp [e]), ⟨_, (hg.set st.2.length z).setOther hqa _, fun i x hi => ?_⟩, (h.str.setOther (by show sb ≠ qb; omega) _).setOther (by show sb ≠ ab; omega) _, (h.kept.setCell (by simp) _).setCell (by simp) _⟩
  have hil := (List.getElem?_eq_some_iff.1 hi).1
  rw [if_neg (by omega)]; exact hz i x hi

/-- What the walk leaves. -/
def Walked (w : World) (n : Nat) (L : Nat → Nat) (Z : Nat → Nat → Int) (base : Int) (fr : Nat) (aw : Nat → Int) (sb ab an : Nat) (qa : Option Addr) (S : Nat → Value) (e : Ending) (w' : World) : Prop :=
  ∃ (K qb qc : Nat), K = (Bf.out L Z base fr aw K).2.length ∧ e = .returned (.slice (some ⟨qb, 0, none⟩) K qc) ∧ n + 1 ≤ qc ∧ qc ≤ 9223372036854775807 ∧ row32 w' ab an (Bf.out L Z base fr aw K).1 ∧
    (∃ g : Nat → Int, row32 w' qb qc g ∧ ∀ (i z : Nat), (Bf.out L Z base fr aw K).2[i]? = some z → g i = z) ∧ w'.rowIs sb 41 6 (fun i => if i = 4 then .slice (some ⟨qb, 0, none⟩) K qc else S i) ∧
    Bf.Done n L Z base fr aw K (Bf.out L Z base fr aw K) ∧ qb ≠ ab ∧ qb ≠ sb ∧ (qa = some ⟨qb, 0, none⟩ ∨ w.heap.size ≤ qb) ∧ Kept w w' [ab, sb, qb]

set_option maxHeartbeats 2000000 in
theorem walk_any (ga : Option Addr) (gb go n c : Nat) (A : Nat → Option Addr) (RB RO L C : Nat → Nat) (Z : Nat → Nat → Int) (B : Nat) (w : World) (hL : IsLinks w B ga gb go n c A RB RO L C Z)
    (sb ab an qn qc0 fr : Nat) (qa : Option Addr) (lift base : Int) (aw : Nat → Int)
    (S : Nat → Value) (hS : w.rowIs sb 41 6 S) (hS0 : S 0 = .slice ga n c) (hS1 : S 1 = .slice (some ⟨ab, 0, none⟩) an an) (hS2 : S 2 = .int .i32 lift) (hS4 : S 4 = .slice qa qn qc0)
    (hA : row32 w ab an aw) (hQ : QOk w B ab sb qa qc0) (hqn : qn ≤ qc0) (hBa : B ≤ ab) (hBs : B ≤ sb) (has : ab ≠ sb)
    (hfr : fr < n) (hna : n ≤ an) (hn : n ≤ 1000000) (han : an ≤ 2000000) (hb : wrap32 (-lift) = base) (hb1 : -2147483648 ≤ base) (hb2 : base + n ≤ 2147483647)
    (hL2 : ∀ i, i < n → L i ≤ 2000000) (hZ : ∀ i, i < n → ∀ j, j < L i → 0 ≤ Z i j ∧ Z i j < n) :
    Calls Try.prog 22 #[.pointer (some ⟨sb, 0, none⟩), .int .i32 fr] w fun e w' => Walked w n L Z base fr aw sb ab an qa S e w' := by
  obtain rfl := hL.adr (by omega)
  have c0 : w.cell? ⟨sb, 0, none⟩ = some (.slice (some ⟨gb, go, none⟩) n c) := by rw [hS.cell (by omega), hS0]
  have c1 : w.cell? ⟨sb, 1, none⟩ = some (.slice (some ⟨ab, 0, none⟩) an an) := by rw [hS.cell (by omega), hS1]
  have c2 : w.cell? ⟨sb, 2, none⟩ = some (.int .i32 lift) := by rw [hS.cell (by omega), hS2]
  have c4 : w.cell? ⟨sb, 4, none⟩ = some (.slice qa qn qc0) := by rw [hS.cell (by omega), hS4]
  have ca := hA.cell (i := fr) (by omega)
  have fa := hA.frozen fr
  have hfa : (fr : Int) < (an : Int) := by omega
  have hal := hA.lt
  have hsl := hS.lt
  have hle := hL.le
  have hmax := hL.max
  clear hS0 hS1 hS2 hS4
  go_enter Try.func22, Try.ntmps22
  go_wp2
  go_quiet (fail)
  go_wp2_with fail
  -- the world ahead of Grow
  have q1 : QOk ((w.drewN nq).setCell ⟨ab, fr, none⟩ (.int .i32 base)) B ab sb qa qc0 := by
    rcases hQ with ⟨h1, h2⟩ | ⟨qb, g, h1, h2, h3, h4, h5, h6⟩
    · exact .inl ⟨h1, h2⟩
    · exact .inr ⟨qb, g, h1, row32.setOther (w := w.drewN nq) h2 (by exact h5) _, h3, h4, h5, h6⟩
  have a1 : row32 ((w.drewN nq).setCell ⟨ab, fr, none⟩ (.int .i32 base)) ab an (Bf.upd aw fr base) := row32.set (w := w.drewN nq) hA fr base
  have s1 : ((w.drewN nq).setCell ⟨ab, fr, none⟩ (.int .i32 base)).rowIs sb 41 6 S := World.rowIs.setOther (w := w.drewN nq) hS (by exact fun e => has e.symm) _
  have k1 : Kept w ((w.drewN nq).setCell ⟨ab, fr, none⟩ (.int .i32 base)) [ab] := ((Kept.refl w _).drewN nq).setCell (by simp) _
  have z1 : ((w.drewN nq).setCell ⟨ab, fr, none⟩ (.int .i32 base)).heap.size = w.heap.size := by simp [World.drewN]
  obtain ⟨w1, hw1⟩ : ∃ w1, w1 = ((w.drewN nq).setCell ⟨ab, fr, none⟩ (.int .i32 base)) := ⟨_, rfl⟩
  rw [← hw1] at q1 a1 s1 k1 z1 ⊢
  clear hw1 c0 c1 c2 c4 ca fa
  refine (grow_any w1 B ab sb qa qc0 (n + 1) _ (by omega) q1 (by omega) (by omega) (by omega) (by omega) (by omega)).mono ?_
  rintro e w2 ⟨qb, qc, g, rfl, hqc, hqm, hg, hbel, hBq, hqa, hqs, hqo⟩
  have a2 := a1.keep hbel (by omega)
  have s2 := World.rowIs.of_block s1 (hbel.block sb (by omega))
  have k2 : Kept w w2 [ab] := k1.trans (Kept.of_below hbel _)
  have cq := hg.cell (i := 0) (by omega)
  have fq := hg.frozen 0
  clear q1 a1 s1
  go_wp2
  have W0 : WS w ((w2.setCell ⟨qb, 0, none⟩ (.int .i32 (fr : Int)))) sb ab an qb qc S (Bf.out L Z base fr aw 0) := by
    refine ⟨a2.setOther (by show ab ≠ qb; omega) _, ⟨_, hg.set 0 fr, fun i z hi => ?_⟩, s2.setOther (by show sb ≠ qb; omega) _, (k2.mono (by simp)).setCell (by simp) _⟩
    cases i with
    | zero => simp [Bf.out] at hi; subst hi; simp
    | succ i => simp [Bf.out] at hi
  have hLB : ∀ wr, Kept w wr [ab, qb] → IsLinks wr B (some ⟨gb, go, none⟩) gb go n c A RB RO L C Z := fun wr hk => hL.keep (hk.below (by omega) (by simp; omega))
  have hzn : ∀ y, y < n → ∀ i, i < L y → (Z y i).toNat < n := fun y hy i hi => by have := hZ y hy i hi; omega
  have hfinS : ∀ wr (K : Nat), WS w wr sb ab an qb qc S (Bf.out L Z base fr aw K) → (wr.setCell ⟨sb, 4, none⟩ (.slice (some ⟨qb, 0, none⟩) K qc)).rowIs sb 41 6 (fun i => if i = 4 then .slice (some ⟨qb, 0, none⟩) K qc else S i) := fun wr K h => h.str.set 4 _
  have hkf : ∀ wr v, Kept w wr [ab, qb] → Kept w (wr.setCell ⟨sb, 4, none⟩ v) [ab, sb, qb] := fun wr v hk => (hk.mono (by simp)).setCell (by simp) _
  have hqo2 : qa = some ⟨qb, 0, none⟩ ∨ w.heap.size ≤ qb := by rcases hqo with h | h; exact .inl h; exact .inr (by omega)
  clear hqo a2 s2 k2 cq fq hg hQ hA hS k1 hbel hL
  go_loopg [8, 9] n (fun gk m i wr => ∃ k : Nat, gk = n - k ∧ i = .int .i64 k ∧ m = .int .i64 (Bf.out L Z base fr aw k).2.length ∧ k ≤ (Bf.out L Z base fr aw k).2.length ∧ WS w wr sb ab an qb qc S (Bf.out L Z base fr aw k))
  case atStart => exact ⟨0, rfl, rfl, rfl, by simp [Bf.out], W0⟩
  case round =>
    obtain ⟨k, rfl, rfl, rfl, hk, hW⟩ := hrel
    clear W0
    have hD := Bf.out_done (n := n) hfr hzn k hk
    have hlen := hD.core.len
    have hLw := hLB wr hW.kept
    obtain ⟨st, hst⟩ : ∃ st, st = Bf.out L Z base fr aw k := ⟨_, rfl⟩
    have HST : Hid (st = Bf.out L Z base fr aw k) := hst
    rw [← hst] at hk hD hlen hW ⊢
    clear hst
    by_cases hlt : k < st.2.length
    · obtain ⟨y, hq⟩ : ∃ y, st.2[k]? = some y := ⟨_, List.getElem?_eq_getElem hlt⟩
      have hy : y < n := hD.core.lt y (List.mem_of_getElem? hq)
      obtain ⟨d, hd⟩ : ∃ d, st.1 y + 1 = d := ⟨_, rfl⟩
      have hd1 : base + 1 ≤ d := by
        have h1 := hD.core.mono 0 k fr y (Nat.zero_le _) hD.core.head hq
        have h2 := hD.core.start
        omega
      have hd2 : d ≤ base + k + 1 := by have := hD.core.le k y hq; omega
      have hIn := fun j => Bf.inn_core (Z := Z) hD.core hq hd (fun x hx => by have := hD.near y x hq hx; omega) j
      have g1 := hW.qcell hq (by omega)
      have g2 : wr.cell? ⟨ab, y, none⟩ = some (.int .i32 (d - 1)) := by rw [hW.away.cell (by omega)]; congr; omega
      have g3 := hLw.row y hy
      have hR := hLw.rows y hy
      have hRa := hR.adr
      have hLy := hL2 y hy
      obtain ⟨Ay, hAy⟩ : ∃ Ay, Ay = A y := ⟨_, rfl⟩
      rw [← hAy] at g3 hRa
      have hZy := hZ y hy
      have hzy := hzn y hy
      have hRm := hR.max
      have hRl := hR.le
      have i1 : (k : Int) < (st.2.length : Int) := by omega
      have i2 : (k : Int) < ((n + 1 : Nat) : Int) := by omega
      have i3 : (y : Int) < (an : Int) := by omega
      have i4 : (y : Int) < (n : Int) := by omega
      have hRW : ∀ wi, Kept w wi [ab, qb] → ∀ j, j < L y → wi.cell? ⟨RB y, RO y + j, none⟩ = some (.int .i32 (Z y j)) := fun wi hk j hj => ((hLB wi hk).rows y hy).cell j hj
      have HQ : Hid (st.2[k]? = some y ∧ st.1 y + 1 = d) := ⟨hq, hd⟩
      have HLN : Hid (∀ j, j ≤ L y → k < (Bf.inn Z y d st j).2.length ∧ (Bf.inn Z y d st j).2.length ≤ n) := fun j hj => by
        obtain ⟨h1, h2, _⟩ := hIn j (fun i hi => hzy i (by omega))
        exact ⟨(List.getElem?_eq_some_iff.1 h2).1, h1.len⟩
      have HOUT : Hid (Bf.out L Z base fr aw (k + 1) = Bf.inn Z y d st (L y)) := by
        have e := HST.out
        show Bf.out L Z base fr aw (k + 1) = _
        simp only [Bf.out]
        rw [← e, HQ.out.1]
        show Bf.inn Z y (st.1 y + 1) st (L y) = _
        rw [HQ.out.2]
      clear hAy hL2 hZ hD hLw hR hIn hq hd hLB
      go_wp2
      clear g1 g2 g3
      go_loopg [8, 66] (L y) (fun gk m i wi => ∃ j : Nat, j ≤ L y ∧ gk = L y - j ∧ i = .int .i64 j ∧ m = .int .i64 (Bf.inn Z y d st j).2.length ∧ WS w wi sb ab an qb qc S (Bf.inn Z y d st j))
      case atStart => exact ⟨0, Nat.zero_le _, rfl, rfl, rfl, hW⟩
      case round =>
        obtain ⟨j, hj, rfl, rfl, rfl, hWi⟩ := hrel
        clear hW
        by_cases hjl : j < L y
        · obtain rfl := hRa (by omega)
          obtain ⟨hl1, hl2⟩ := HLN.out j (by omega)
          obtain ⟨z, hz⟩ : ∃ z : Nat, Z y j = z := ⟨(Z y j).toNat, by have := (hZy j hjl).1; omega⟩
          have hzlt : z < n := by have := (hZy j hjl).2; omega
          have e1 := hRW wr hWi.kept j hjl
          rw [hz] at e1
          have HNX : Hid (Bf.inn Z y d st (j + 1) = Bf.step d (Bf.inn Z y d st j) z) := by
            show Bf.step d (Bf.inn Z y d st j) (Z y j).toNat = _
            rw [hz]; rfl
          obtain ⟨sj, hsj⟩ : ∃ sj, sj = Bf.inn Z y d st j := ⟨_, rfl⟩
          rw [← hsj] at hl1 hl2 hWi HNX ⊢
          clear hsj hz hRa hRW hZy hzy
          obtain ⟨g, hg, hgz⟩ := hWi.queue
          have e2 := hWi.away.cell (i := z) (by omega)
          have e3 := hWi.away.frozen z
          have e4 := hg.cell (i := sj.2.length) (by omega)
          have e5 := hg.frozen sj.2.length
          have e6 := fun v => ((hWi.away.setOther (a := ⟨qb, sj.2.length, none⟩) (by show ab ≠ qb; omega) v).cell (i := z) (by omega))
          have e7 := fun v => ((hWi.away.setOther (a := ⟨qb, sj.2.length, none⟩) (by show ab ≠ qb; omega) v).frozen z)
          have i5 : (j : Int) < (L y : Int) := by omega
          have i6 : (z : Int) < (an : Int) := by omega
          have i7 : (sj.2.length : Int) < ((n + 1 : Nat) : Int) := by omega
          clear hg hgz
          by_cases hdl : d < sj.1 z
          · have W1 := hWi.yes hqa has hqs z d hdl
            have hlen1 : (Bf.step d sj z).2.length = sj.2.length + 1 := by unfold Bf.step; rw [if_pos hdl]; simp
            have HL1 : Hid ((Bf.step d sj z).2.length = sj.2.length + 1) := hlen1
            have HM : Hid (min (sj.1 z) d = d) := (by omega : min (sj.1 z) d = d)
            clear hWi hlen1
            go_wp2
            go_roundg (L y - (j + 1))
            case measure => go_light; omega
            case rel => go_light; exact ⟨j + 1, by omega, rfl, by simp, by rw [HNX.out, HL1.out]; simp, by rw [HNX.out, HM.out]; exact W1⟩
          · have W1 := hWi.no hqa has hqs z d hdl
            have hlen1 : (Bf.step d sj z).2.length = sj.2.length := by unfold Bf.step; rw [if_neg hdl]
            have HL1 : Hid ((Bf.step d sj z).2.length = sj.2.length) := hlen1
            have HM : Hid (min (sj.1 z) d = sj.1 z) := (by omega : min (sj.1 z) d = sj.1 z)
            clear hWi hlen1
            go_wp2
            go_roundg (L y - (j + 1))
            case measure => go_light; omega
            case rel => go_light; exact ⟨j + 1, by omega, rfl, by simp, by rw [HNX.out, HL1.out], by rw [HNX.out, HM.out]; exact W1⟩
        · have i5 : ¬ ((j : Int) < (L y : Int)) := by omega
          obtain rfl : j = L y := by omega
          obtain ⟨hl1, hl2⟩ := HLN.out (L y) (Nat.le_refl _)
          clear hRa hRW hZy hzy
          go_wp2
          go_roundg (n - (k + 1))
          case measure => go_light; omega
          case rel => go_light; exact ⟨k + 1, rfl, by simp, by rw [HOUT.out], by rw [HOUT.out]; omega, by rw [HOUT.out]; exact hWi⟩
    · have i1 : ¬ ((k : Int) < (st.2.length : Int)) := by omega
      have HK : Hid (k = st.2.length) := (by omega : k = st.2.length)
      have t1 := hW.str.cell (i := 4) (by omega)
      have t2 := hW.str.frozen 4
      have F : Hid (Walked w n L Z base fr aw sb ab an qa S (.returned (.slice (some ⟨qb, 0, none⟩) st.2.length qc)) (wr.setCell ⟨sb, 4, none⟩ (.slice (some ⟨qb, 0, none⟩) st.2.length qc))) := by
        have e := HST.out
        have hK := HK.out
        rw [← hK]
        subst e
        refine ⟨k, qb, qc, hK, rfl, hqc, hqm, hW.away.setOther (by exact has) _, ?_, hfinS wr k hW, hD, hqa, hqs, hqo2, hkf wr _ hW.kept⟩
        obtain ⟨g, hg, hgz⟩ := hW.queue
        exact ⟨g, hg.setOther (by exact hqs) _, hgz⟩
      clear hW hD hfinS hkf hLw hLB hqo2
      go_wp2
      go_ret
      exact F.out

end Go.Proofs.Qxb6603240a
