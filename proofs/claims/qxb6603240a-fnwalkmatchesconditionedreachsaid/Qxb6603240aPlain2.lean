/- The walk's plain model, more: chains, and by which link each place was come to. No Go in sight. -/
import Derived.Test.Qxb6603240aPlain
namespace Go.Proofs.Qxb6603240a.Bf

/-- A chain of k links from fr to z, each place on it (but the first) farther than its number of links. -/
def Chain (n : Nat) (L : Nat → Nat) (Z : Nat → Nat → Int) (base : Int) (fr : Nat) (aw0 : Nat → Int) : Nat → Nat → Prop
  | 0, z => z = fr
  | k + 1, z => (∃ y, y < n ∧ Chain n L Z base fr aw0 k y ∧ ∃ j, j < L y ∧ (Z y j).toNat = z) ∧ base + ((k + 1 : Nat) : Int) < aw0 z

/-- By which entry of the queue (P) and which of its links (K) each further entry was come to. -/
structure Tr (L : Nat → Nat) (Z : Nat → Nat → Int) (k j : Nat) (st : (Nat → Int) × List Nat) (par : List (Nat × Nat)) : Prop where
  len : st.2.length = par.length + 1
  ok : ∀ (p P K : Nat), par[p]? = some (P, K) → (P < k ∨ (P = k ∧ K < j)) ∧ P ≤ p ∧ ∃ y z, st.2[P]? = some y ∧ st.2[p + 1]? = some z ∧ K < L y ∧ (Z y K).toNat = z ∧ st.1 z = st.1 y + 1 ∧
    (∀ (q y' : Nat), q < P → st.2[q]? = some y' → ∀ j', j' < L y' → (Z y' j').toNat ≠ z) ∧ ∀ j', j' < K → (Z y j').toNat ≠ z
  srt : ∀ (p P K P' K' : Nat), par[p]? = some (P, K) → par[p + 1]? = some (P', K') → P < P' ∨ (P = P' ∧ K < K')

theorem Tr.later {L : Nat → Nat} {Z : Nat → Nat → Int} {k j k' j' : Nat} {st : (Nat → Int) × List Nat} {par : List (Nat × Nat)} (h : Tr L Z k j st par) (hl : k < k' ∨ (k = k' ∧ j ≤ j')) : Tr L Z k' j' st par :=
  ⟨h.len, fun p P K hp => ⟨by have := (h.ok p P K hp).1; omega, (h.ok p P K hp).2⟩, h.srt⟩

/-- What is added to Core: every entry is at the end of a chain; every further entry has its link. -/
def More (n : Nat) (L : Nat → Nat) (Z : Nat → Nat → Int) (base : Int) (fr : Nat) (aw0 : Nat → Int) (k j : Nat) (st : (Nat → Int) × List Nat) : Prop :=
  (∀ z, z ∈ st.2 → ∃ i : Nat, st.1 z = base + (i : Int) ∧ Chain n L Z base fr aw0 i z) ∧ ∃ par, Tr L Z k j st par

theorem more_step {n : Nat} {L : Nat → Nat} {Z : Nat → Nat → Int} {base : Int} {fr : Nat} {aw0 : Nat → Int} {st : (Nat → Int) × List Nat} {k y j : Nat} {d : Int} (h : Core n base fr aw0 st) (hk : st.2[k]? = some y) (hd : st.1 y + 1 = d)
    (hD : ∀ x, x ∈ st.2 → st.1 x ≤ d) (hc : ∀ (i y' : Nat), i < k → st.2[i]? = some y' → ∀ j', j' < L y' → st.1 (Z y' j').toNat ≤ st.1 y' + 1) (hj : ∀ j', j' < j → st.1 (Z y j').toNat ≤ d) (hjl : j < L y)
    (hM : More n L Z base fr aw0 k j st) : More n L Z base fr aw0 k (j + 1) (step d st (Z y j).toNat) := by
  obtain ⟨hC, par, hT⟩ := hM
  obtain ⟨z, hz⟩ : ∃ z, z = (Z y j).toNat := ⟨_, rfl⟩
  rw [← hz]
  have hy : y ∈ st.2 := List.mem_of_getElem? hk
  unfold step
  by_cases hlt : d < st.1 z
  · rw [if_pos hlt]
    have hn : z ∉ st.2 := fun hm => by have := hD z hm; omega
    have hu : ∀ x, x ∈ st.2 → upd st.1 z d x = st.1 x := fun x hx => upd_other _ _ (fun e => hn (e ▸ hx))
    have hkl : k < st.2.length := (List.getElem?_eq_some_iff.1 hk).1
    have hleft : ∀ (i x : Nat), st.2[i]? = some x → (st.2 ++ [z])[i]? = some x := fun i x hi => by rw [List.getElem?_append_left (List.getElem?_eq_some_iff.1 hi).1]; exact hi
    have hback : ∀ (i x : Nat), i < st.2.length → (st.2 ++ [z])[i]? = some x → st.2[i]? = some x := fun i x hi h => by rw [List.getElem?_append_left hi] at h; exact h
    have hlast : (st.2 ++ [z])[st.2.length]? = some z := by simp
    have hpl := hT.len
    refine ⟨?_, par ++ [(k, j)], ?_, ?_, ?_⟩
    · intro x hx
      rcases List.mem_append.1 hx with hx | hx
      · obtain ⟨i, h1, h2⟩ := hC x hx
        exact ⟨i, (hu x hx).trans h1, h2⟩
      · simp at hx; subst hx
        obtain ⟨i, h1, h2⟩ := hC y hy
        refine ⟨i + 1, ?_, ⟨⟨y, h.lt y hy, h2, j, hjl, hz.symm⟩, ?_⟩⟩
        · show upd st.1 x d x = _
          rw [upd_same]; omega
        · have := h.others x hn
          omega
    · show (st.2 ++ [z]).length = (par ++ [(k, j)]).length + 1
      simp; omega
    · intro p P K hp
      rw [List.getElem?_append] at hp
      by_cases hpp : p < par.length
      · rw [if_pos hpp] at hp
        obtain ⟨o1, o2, y', z', o3, o4, o5, o6, o7, o8, o9⟩ := hT.ok p P K hp
        have hP : P < st.2.length := (List.getElem?_eq_some_iff.1 o3).1
        refine ⟨by omega, o2, y', z', hleft _ _ o3, hleft _ _ o4, o5, o6, ?_, fun q y'' hq hqy => o8 q y'' hq (hback q y'' (by omega) hqy), o9⟩
        show upd st.1 z d z' = upd st.1 z d y' + 1
        rw [hu z' (List.mem_of_getElem? o4), hu y' (List.mem_of_getElem? o3)]; exact o7
      · rw [if_neg hpp] at hp
        have hp0 : p - par.length = 0 := by
          have := (List.getElem?_eq_some_iff.1 hp).1
          simp at this; omega
        rw [hp0] at hp
        simp at hp
        obtain ⟨rfl, rfl⟩ := hp
        have hpe : p = par.length := by omega
        refine ⟨by omega, by omega, y, z, hleft _ _ hk, ?_, hjl, hz.symm, ?_, ?_, ?_⟩
        · show (st.2 ++ [z])[p + 1]? = some z
          rw [hpe, ← hpl]; exact hlast
        · show upd st.1 z d z = upd st.1 z d y + 1
          rw [upd_same, hu y hy]; omega
        · intro q y' hq hqy j' hj' e
          have hqy' := hback q y' (by omega) hqy
          have h1 := hc q y' hq hqy' j' hj'
          rw [e] at h1
          have h2 := h.mono q k y' y (by omega) hqy' hk
          omega
        · intro j' hj' e
          have h1 := hj j' hj'
          rw [e] at h1
          omega
    · intro p P K P' K' hp hp'
      rw [List.getElem?_append] at hp hp'
      by_cases h1 : p + 1 < par.length
      · rw [if_pos (by omega)] at hp
        rw [if_pos h1] at hp'
        exact hT.srt p P K P' K' hp hp'
      · rw [if_neg h1] at hp'
        have hp0 : p + 1 - par.length = 0 := by
          have := (List.getElem?_eq_some_iff.1 hp').1
          simp at this; omega
        rw [hp0] at hp'
        simp at hp'
        obtain ⟨rfl, rfl⟩ := hp'
        rw [if_pos (by omega)] at hp
        have := (hT.ok p P K hp).1
        omega
  · rw [if_neg hlt]
    exact ⟨hC, par, hT.later (.inr ⟨rfl, Nat.le_succ _⟩)⟩

theorem more_inn {n : Nat} {L : Nat → Nat} {Z : Nat → Nat → Int} {base : Int} {fr : Nat} {aw0 : Nat → Int} {st : (Nat → Int) × List Nat} {k y : Nat} {d : Int} (h : Core n base fr aw0 st) (hk : st.2[k]? = some y) (hd : st.1 y + 1 = d)
    (hD : ∀ x, x ∈ st.2 → st.1 x ≤ d) (hc : ∀ (i y' : Nat), i < k → st.2[i]? = some y' → ∀ j', j' < L y' → st.1 (Z y' j').toNat ≤ st.1 y' + 1) (hz : ∀ i, i < L y → (Z y i).toNat < n)
    (hM : More n L Z base fr aw0 k 0 st) (j : Nat) (hj : j ≤ L y) : More n L Z base fr aw0 k j (inn Z y d st j) := by
  induction j with
  | zero => exact hM
  | succ j ih =>
    obtain ⟨a1, a2, a3, a4, a5, a6, a7, a8, a9⟩ := inn_core h hk hd hD j (fun i hi => hz i (by omega))
    have hkl : k < st.2.length := (List.getElem?_eq_some_iff.1 hk).1
    refine more_step a1 a2 a3 a4 (fun i y' hi hy' j' hj' => ?_) a5 (by omega) (ih (by omega))
    have hold : st.2[i]? = some y' := by
      have hil : i < st.2.length := by omega
      have h5 := List.getElem?_eq_getElem hil
      rw [h5]
      have := a9 i _ h5
      rw [this] at hy'
      exact hy'
    rw [a7 y' (List.mem_of_getElem? hold)]
    exact Int.le_trans (a6 _) (hc i y' hi hold j' hj')

theorem out_more {n : Nat} {L : Nat → Nat} {Z : Nat → Nat → Int} {base : Int} {fr : Nat} {aw0 : Nat → Int} (hf : fr < n) (hz : ∀ y, y < n → ∀ i, i < L y → (Z y i).toNat < n) (k : Nat) (hk : k ≤ (out L Z base fr aw0 k).2.length) :
    More n L Z base fr aw0 k 0 (out L Z base fr aw0 k) := by
  induction k with
  | zero =>
    refine ⟨fun z hz => ⟨0, ?_, ?_⟩, [], ?_, ?_, ?_⟩
    · simp [out] at hz; subst hz; simp [out, upd_same]
    · simp [out] at hz; exact hz
    · simp [out]
    · intro p P K hp; simp at hp
    · intro p P K P' K' hp; simp at hp
  | succ k ih =>
    cases hq : (out L Z base fr aw0 k).2[k]? with
    | none =>
      exfalso
      have e : out L Z base fr aw0 (k + 1) = out L Z base fr aw0 k := by simp only [out, hq]
      rw [e] at hk
      have := List.getElem?_eq_none_iff.1 hq
      omega
    | some y =>
      have hkl := (List.getElem?_eq_some_iff.1 hq).1
      have D := out_done (base := base) (aw0 := aw0) hf hz k (by omega)
      have e : out L Z base fr aw0 (k + 1) = inn Z y ((out L Z base fr aw0 k).1 y + 1) (out L Z base fr aw0 k) (L y) := by simp only [out, hq]
      rw [e]
      have hy : y < n := D.core.lt y (List.mem_of_getElem? hq)
      obtain ⟨m1, par, m2⟩ := more_inn D.core hq rfl (fun x hx => D.near y x hq hx) D.closed (hz y hy) (ih (by omega)) (L y) (Nat.le_refl _)
      exact ⟨m1, par, m2.later (.inl (Nat.lt_succ_self _))⟩

/-- At the walk's end every chain's end has been come to by as few links. -/
theorem chain_le {n : Nat} {L : Nat → Nat} {Z : Nat → Nat → Int} {base : Int} {fr : Nat} {aw0 : Nat → Int} {K : Nat} {st : (Nat → Int) × List Nat} (D : Done n L Z base fr aw0 K st) (hK : K = st.2.length) :
    ∀ (i z : Nat), Chain n L Z base fr aw0 i z → z ∈ st.2 ∧ st.1 z ≤ base + i
  | 0, z, h => by
    have e : z = fr := h
    subst e
    exact ⟨List.mem_of_getElem? D.core.head, by rw [D.core.start]; omega⟩
  | i + 1, z, h => by
    obtain ⟨⟨y, hy, hc, j, hj, hz⟩, hlt⟩ := h
    obtain ⟨hm, hle⟩ := chain_le D hK i y hc
    obtain ⟨a, ha, hya⟩ := List.getElem_of_mem hm
    have hq : st.2[a]? = some y := by rw [List.getElem?_eq_getElem ha, hya]
    have h1 := D.closed a y (by omega) hq j hj
    rw [hz] at h1
    refine ⟨?_, by omega⟩
    apply Classical.byContradiction
    intro hn
    have := D.core.others z hn
    omega

/-- What the reach-set model computes. -/
structure Want (n : Nat) (L : Nat → Nat) (Z : Nat → Nat → Int) (base : Int) (fr : Nat) (aw0 want : Nat → Int) (low : Nat → Bool) : Prop where
  start : want fr = base
  lowfr : low fr = false
  each : ∀ z, z < n → z ≠ fr → (low z = true ∧ ∃ i : Nat, 1 ≤ i ∧ Chain n L Z base fr aw0 i z ∧ (∀ i', 1 ≤ i' → i' < i → ¬ Chain n L Z base fr aw0 i' z) ∧ want z = base + (i : Int)) ∨
    (low z = false ∧ (∀ i, 1 ≤ i → i < n → ¬ Chain n L Z base fr aw0 i z) ∧ want z = aw0 z)
  beyond : ∀ z, n ≤ z → want z = aw0 z

/-- The walk leaves what the model wants; what is lowered is what is queued behind the start. -/
theorem want_is {n : Nat} {L : Nat → Nat} {Z : Nat → Nat → Int} {base : Int} {fr : Nat} {aw0 want : Nat → Int} {low : Nat → Bool} {K : Nat} {st : (Nat → Int) × List Nat} (D : Done n L Z base fr aw0 K st) (hK : K = st.2.length) (hf : fr < n)
    (hM : ∀ z, z ∈ st.2 → ∃ i : Nat, st.1 z = base + (i : Int) ∧ Chain n L Z base fr aw0 i z) (hW : Want n L Z base fr aw0 want low) :
    (∀ z, st.1 z = want z) ∧ ∀ z, z < n → (low z = true ↔ (z ∈ st.2 ∧ z ≠ fr)) := by
  have key : ∀ z, z < n → z ≠ fr → st.1 z = want z ∧ (low z = true ↔ z ∈ st.2) := fun z hz hzf => by
    rcases hW.each z hz hzf with ⟨hl, i, hi1, hc, hmin, hw⟩ | ⟨hl, hno, hw⟩
    · obtain ⟨hm, hle⟩ := chain_le D hK i z hc
      obtain ⟨i', e', hc'⟩ := hM z hm
      have hlow := D.core.low z hm hzf
      have h1 : 1 ≤ i' := by omega
      have h2 : ¬ i' < i := fun hlt => hmin i' h1 hlt hc'
      exact ⟨by omega, ⟨fun _ => hm, fun _ => hl⟩⟩
    · have hn : z ∉ st.2 := fun hm => by
        obtain ⟨i', e', hc'⟩ := hM z hm
        have hlow := D.core.low z hm hzf
        obtain ⟨a, ha, hya⟩ := List.getElem_of_mem hm
        have hq : st.2[a]? = some z := by rw [List.getElem?_eq_getElem ha, hya]
        have h3 := D.core.le a z hq
        have h4 := D.core.len
        exact hno i' (by omega) (by omega) hc'
      exact ⟨(D.core.others z hn).trans hw.symm, ⟨(fun h => by rw [hl] at h; cases h), fun h => absurd h hn⟩⟩
  refine ⟨fun z => ?_, fun z hz => ?_⟩
  · by_cases hz : z < n
    · by_cases hzf : z = fr
      · subst hzf; rw [D.core.start, hW.start]
      · exact (key z hz hzf).1
    · rw [hW.beyond z (by omega)]
      exact D.core.others z (fun hm => by have := D.core.lt z hm; omega)
  · by_cases hzf : z = fr
    · subst hzf; rw [hW.lowfr]; simp
    · rw [(key z hz hzf).2]; simp [hzf]

/-- How many of the first k places are lowered. -/
def cntLow (low : Nat → Bool) : Nat → Nat
  | 0 => 0
  | k + 1 => cntLow low k + if low k then 1 else 0

theorem cntLow_le (low : Nat → Bool) (k : Nat) : cntLow low k ≤ k := by
  induction k with
  | zero => exact Nat.le_refl _
  | succ k ih => unfold cntLow; split <;> omega

theorem cntLow_list (low : Nat → Bool) : ∀ (k : Nat) (l : List Nat), l.Nodup → (∀ z, z ∈ l ↔ (z < k ∧ low z = true)) → l.length = cntLow low k
  | 0, l, _, h => by
    cases l with
    | nil => rfl
    | cons x r => exact absurd ((h x).1 (List.mem_cons_self ..)).1 (Nat.not_lt_zero _)
  | k + 1, l, hd, h => by
    have h1 := cntLow_list low k (l.erase k) (hd.erase k) (fun z => by
      rw [hd.mem_erase_iff, h z]
      constructor
      · rintro ⟨a, b, c⟩; exact ⟨by omega, c⟩
      · rintro ⟨a, b⟩; exact ⟨by omega, by omega, b⟩)
    show l.length = cntLow low k + _
    by_cases hl : low k = true
    · have hm : k ∈ l := (h k).2 ⟨by omega, hl⟩
      rw [List.length_erase_of_mem hm] at h1
      have : 0 < l.length := List.length_pos_of_mem hm
      rw [if_pos hl]; omega
    · have hm : k ∉ l := fun hm => hl ((h k).1 hm).2
      rw [List.erase_of_not_mem hm] at h1
      rw [if_neg hl]; omega

/-- The queue is the start and the lowered ones. -/
theorem size_is {n : Nat} {base : Int} {fr : Nat} {aw0 : Nat → Int} {low : Nat → Bool} {st : (Nat → Int) × List Nat} (h : Core n base fr aw0 st) (hl : ∀ z, z < n → (low z = true ↔ (z ∈ st.2 ∧ z ≠ fr))) : st.2.length = 1 + cntLow low n := by
  have hfm : fr ∈ st.2 := List.mem_of_getElem? h.head
  have h1 := cntLow_list low n (st.2.erase fr) (h.nodup.erase fr) (fun z => by
    rw [h.nodup.mem_erase_iff]
    constructor
    · rintro ⟨a, b⟩; have := h.lt z b; exact ⟨this, (hl z this).2 ⟨b, a⟩⟩
    · rintro ⟨a, b⟩; have := (hl z a).1 b; exact ⟨this.2, this.1⟩)
  rw [List.length_erase_of_mem hfm] at h1
  have : 0 < st.2.length := List.length_pos_of_mem hfm
  omega

end Go.Proofs.Qxb6603240a.Bf
