/- The walk's plain model: no Go in sight. -/
namespace Go.Proofs.Qxb6603240a.Bf

def upd (f : Nat → Int) (i : Nat) (x : Int) : Nat → Int := fun j => if j = i then x else f j
theorem upd_same (f : Nat → Int) (i : Nat) (x : Int) : upd f i x i = x := by simp [upd]
theorem upd_other (f : Nat → Int) {i j : Nat} (x : Int) (h : j ≠ i) : upd f i x j = f j := by simp [upd, h]

/-- One link: z is lowered to d and queued if it was farther. -/
def step (d : Int) (st : (Nat → Int) × List Nat) (z : Nat) : (Nat → Int) × List Nat :=
  if d < st.1 z then (upd st.1 z d, st.2 ++ [z]) else st

/-- The first j links of y. -/
def inn (Z : Nat → Nat → Int) (y : Nat) (d : Int) (st : (Nat → Int) × List Nat) : Nat → (Nat → Int) × List Nat
  | 0 => st
  | j + 1 => step d (inn Z y d st j) (Z y j).toNat

/-- The first k entries of the queue are worked off. -/
def out (L : Nat → Nat) (Z : Nat → Nat → Int) (base : Int) (fr : Nat) (aw0 : Nat → Int) : Nat → (Nat → Int) × List Nat
  | 0 => (upd aw0 fr base, [fr])
  | k + 1 =>
    let st := out L Z base fr aw0 k
    match st.2[k]? with
    | some y => inn Z y (st.1 y + 1) st (L y)
    | none => st

/-- What holds of every state. -/
structure Core (n : Nat) (base : Int) (fr : Nat) (aw0 : Nat → Int) (st : (Nat → Int) × List Nat) : Prop where
  nodup : st.2.Nodup
  lt : ∀ z, z ∈ st.2 → z < n
  head : st.2[0]? = some fr
  start : st.1 fr = base
  le : ∀ (i z : Nat), st.2[i]? = some z → st.1 z ≤ base + i
  mono : ∀ (i j y z : Nat), i ≤ j → st.2[i]? = some y → st.2[j]? = some z → st.1 y ≤ st.1 z
  others : ∀ z, z ∉ st.2 → st.1 z = aw0 z
  low : ∀ z, z ∈ st.2 → z ≠ fr → base < st.1 z ∧ st.1 z < aw0 z

theorem len_le : ∀ {n : Nat} {l : List Nat}, l.Nodup → (∀ z, z ∈ l → z < n) → l.length ≤ n
  | 0, l, _, hl => by
    cases l with
    | nil => exact Nat.le_refl _
    | cons x r => exact absurd (hl x (List.mem_cons_self ..)) (Nat.not_lt_zero _)
  | n + 1, l, hd, hl => by
    have h := len_le (n := n) (hd.erase n) (fun z hz => by
      have h1 := (hd.mem_erase_iff).1 hz
      have h2 := hl z h1.2
      omega)
    by_cases hm : n ∈ l
    · rw [List.length_erase_of_mem hm] at h; omega
    · rw [List.erase_of_not_mem hm] at h; omega

theorem Core.len {n : Nat} {base : Int} {fr : Nat} {aw0 : Nat → Int} {st : (Nat → Int) × List Nat} (h : Core n base fr aw0 st) : st.2.length ≤ n := len_le h.nodup h.lt


theorem start_core {n : Nat} {base : Int} {fr : Nat} {aw0 : Nat → Int} (hf : fr < n) : Core n base fr aw0 (upd aw0 fr base, [fr]) := by
  refine ⟨by simp, by simp; exact hf, by simp, upd_same _ _ _, ?_, ?_, ?_, ?_⟩
  · intro i z h
    cases i with
    | zero => simp at h; subst h; simp [upd_same]
    | succ i => simp at h
  · intro i j y z _ h1 h2
    cases i with
    | zero =>
      cases j with
      | zero => simp at h1 h2; subst h1; subst h2; exact Int.le_refl _
      | succ j => simp at h2
    | succ i => simp at h1
  · intro z h
    simp at h
    exact upd_other _ _ h
  · intro z h hz
    simp at h
    exact absurd h hz

/-- One link keeps all. y stands in the queue at k, d is one more than its distance, nothing in the queue is farther than d. -/
theorem step_core {n : Nat} {base : Int} {fr : Nat} {aw0 : Nat → Int} {st : (Nat → Int) × List Nat} {k y z : Nat} {d : Int} (h : Core n base fr aw0 st) (hk : st.2[k]? = some y) (hd : st.1 y + 1 = d) (hD : ∀ x, x ∈ st.2 → st.1 x ≤ d) (hz : z < n) :
    Core n base fr aw0 (step d st z) ∧ (step d st z).2[k]? = some y ∧ (step d st z).1 y + 1 = d ∧ (∀ x, x ∈ (step d st z).2 → (step d st z).1 x ≤ d) ∧ (step d st z).1 z ≤ d ∧ (∀ x, (step d st z).1 x ≤ st.1 x) ∧
      (∀ x, x ∈ st.2 → (step d st z).1 x = st.1 x) := by
  unfold step
  by_cases hlt : d < st.1 z
  · rw [if_pos hlt]
    have hn : z ∉ st.2 := fun hm => by have := hD z hm; omega
    have hy : y ∈ st.2 := List.mem_of_getElem? hk
    have hu : ∀ x, x ∈ st.2 → upd st.1 z d x = st.1 x := fun x hx => upd_other _ _ (fun e => hn (e ▸ hx))
    have hfm : fr ∈ st.2 := List.mem_of_getElem? h.head
    have hkl : k < st.2.length := (List.getElem?_eq_some_iff.1 hk).1
    have hget : ∀ i x, (st.2 ++ [z])[i]? = some x → (st.2[i]? = some x ∧ i < st.2.length) ∨ (i = st.2.length ∧ x = z) := fun i x hi => by
      rw [List.getElem?_append] at hi
      by_cases hil : i < st.2.length
      · rw [if_pos hil] at hi; exact .inl ⟨hi, hil⟩
      · rw [if_neg hil] at hi
        have : i - st.2.length = 0 := by
          have := (List.getElem?_eq_some_iff.1 hi).1
          simp at this; omega
        rw [this] at hi; simp at hi
        exact .inr ⟨by omega, hi.symm⟩
    refine ⟨⟨?_, ?_, ?_, ?_, ?_, ?_, ?_, ?_⟩, ?_, ?_, ?_, ?_, ?_, hu⟩
    · show (st.2 ++ [z]).Nodup
      rw [List.nodup_append]
      exact ⟨h.nodup, by simp, fun a ha b hb => by simp at hb; subst hb; exact fun e => hn (e ▸ ha)⟩
    · intro x hx
      rcases List.mem_append.1 hx with hx | hx
      · exact h.lt x hx
      · simp at hx; subst hx; exact hz
    · show (st.2 ++ [z])[0]? = some fr
      rw [List.getElem?_append_left (by omega)]; exact h.head
    · show upd st.1 z d fr = base
      rw [hu fr hfm]; exact h.start
    · intro i x hi
      rcases hget i x hi with ⟨hi, _⟩ | ⟨rfl, rfl⟩
      · show upd st.1 z d x ≤ _
        rw [hu x (List.mem_of_getElem? hi)]; exact h.le i x hi
      · show upd st.1 x d x ≤ _
        rw [upd_same]
        have := h.le k y hk
        omega
    · intro i j x x' hij hi hj
      show upd st.1 z d x ≤ upd st.1 z d x'
      rcases hget i x hi with ⟨gi, hil⟩ | ⟨hie, rfl⟩
      · rw [hu x (List.mem_of_getElem? gi)]
        rcases hget j x' hj with ⟨gj, _⟩ | ⟨_, rfl⟩
        · rw [hu x' (List.mem_of_getElem? gj)]; exact h.mono i j x x' hij gi gj
        · rw [upd_same]; exact hD x (List.mem_of_getElem? gi)
      · rcases hget j x' hj with ⟨_, hjl⟩ | ⟨_, rfl⟩
        · omega
        · exact Int.le_refl _
    · intro x hx
      have hx' : x ∉ st.2 ∧ x ≠ z := by
        refine ⟨fun hm => hx (List.mem_append_left _ hm), fun e => hx (List.mem_append_right _ (by simp [e]))⟩
      show upd st.1 z d x = _
      rw [upd_other _ _ hx'.2]; exact h.others x hx'.1
    · intro x hx hxf
      show base < upd st.1 z d x ∧ upd st.1 z d x < aw0 x
      rcases List.mem_append.1 hx with hx | hx
      · rw [hu x hx]; exact h.low x hx hxf
      · simp at hx; subst hx
        rw [upd_same]
        have h1 := h.others x hn
        refine ⟨?_, by omega⟩
        have := h.mono 0 k fr y (Nat.zero_le _) h.head hk
        have := h.start
        omega
    · show (st.2 ++ [z])[k]? = some y
      rw [List.getElem?_append_left hkl]; exact hk
    · show upd st.1 z d y + 1 = d
      rw [hu y hy]; exact hd
    · intro x hx
      show upd st.1 z d x ≤ d
      rcases List.mem_append.1 hx with hx | hx
      · rw [hu x hx]; exact hD x hx
      · simp at hx; subst hx; rw [upd_same]; exact Int.le_refl _
    · show upd st.1 z d z ≤ d
      rw [upd_same]; exact Int.le_refl _
    · intro x
      show upd st.1 z d x ≤ st.1 x
      by_cases e : x = z
      · subst e; rw [upd_same]; omega
      · rw [upd_other _ _ e]; exact Int.le_refl _
  · rw [if_neg hlt]
    exact ⟨h, hk, hd, hD, by omega, fun _ => Int.le_refl _, fun _ _ => rfl⟩

/-- The first j links of y. -/
theorem inn_core {n : Nat} {base : Int} {fr : Nat} {aw0 : Nat → Int} {Z : Nat → Nat → Int} {st : (Nat → Int) × List Nat} {k y : Nat} {d : Int} (h : Core n base fr aw0 st) (hk : st.2[k]? = some y) (hd : st.1 y + 1 = d) (hD : ∀ x, x ∈ st.2 → st.1 x ≤ d)
    (j : Nat) (hz : ∀ i, i < j → (Z y i).toNat < n) :
    Core n base fr aw0 (inn Z y d st j) ∧ (inn Z y d st j).2[k]? = some y ∧ (inn Z y d st j).1 y + 1 = d ∧ (∀ x, x ∈ (inn Z y d st j).2 → (inn Z y d st j).1 x ≤ d) ∧ (∀ i, i < j → (inn Z y d st j).1 (Z y i).toNat ≤ d) ∧
      (∀ x, (inn Z y d st j).1 x ≤ st.1 x) ∧ (∀ x, x ∈ st.2 → (inn Z y d st j).1 x = st.1 x) ∧ (∀ x, x ∈ st.2 → x ∈ (inn Z y d st j).2) ∧ (∀ (i x : Nat), st.2[i]? = some x → (inn Z y d st j).2[i]? = some x) := by
  induction j with
  | zero => exact ⟨h, hk, hd, hD, fun i hi => absurd hi (Nat.not_lt_zero _), fun _ => Int.le_refl _, fun _ _ => rfl, fun _ hx => hx, fun _ _ hx => hx⟩
  | succ j ih =>
    obtain ⟨a1, a2, a3, a4, a5, a6, a7, a8, a9⟩ := ih (fun i hi => hz i (by omega))
    obtain ⟨b1, b2, b3, b4, b5, b6, b7⟩ := step_core a1 a2 a3 a4 (hz j (by omega))
    have hsub : ∀ x, x ∈ (inn Z y d st j).2 → x ∈ (step d (inn Z y d st j) (Z y j).toNat).2 := fun x hx => by
      unfold step; split
      · exact List.mem_append_left _ hx
      · exact hx
    have hsub2 : ∀ (i x : Nat), (inn Z y d st j).2[i]? = some x → (step d (inn Z y d st j) (Z y j).toNat).2[i]? = some x := fun i x hx => by
      unfold step; split
      · show ((inn Z y d st j).2 ++ _)[i]? = _
        rw [List.getElem?_append_left (List.getElem?_eq_some_iff.1 hx).1]; exact hx
      · exact hx
    refine ⟨b1, b2, b3, b4, fun i hi => ?_, fun x => Int.le_trans (b6 x) (a6 x), fun x hx => ?_, fun x hx => hsub x (a8 x hx), fun i x hx => hsub2 i x (a9 i x hx)⟩
    · by_cases e : i = j
      · subst e; exact b5
      · exact Int.le_trans (b6 _) (a5 i (by omega))
    · show (step d (inn Z y d st j) (Z y j).toNat).1 x = _
      rw [b7 x (a8 x hx)]; exact a7 x hx

/-- What holds when k entries are worked off. -/
structure Done (n : Nat) (L : Nat → Nat) (Z : Nat → Nat → Int) (base : Int) (fr : Nat) (aw0 : Nat → Int) (k : Nat) (st : (Nat → Int) × List Nat) : Prop where
  core : Core n base fr aw0 st
  near : ∀ (y x : Nat), st.2[k]? = some y → x ∈ st.2 → st.1 x ≤ st.1 y + 1
  closed : ∀ (i y : Nat), i < k → st.2[i]? = some y → ∀ j, j < L y → st.1 (Z y j).toNat ≤ st.1 y + 1
  some : ∀ (y x : Nat), 0 < k → st.2[k - 1]? = some y → x ∈ st.2 → st.1 x ≤ st.1 y + 1

theorem out_done {n : Nat} {L : Nat → Nat} {Z : Nat → Nat → Int} {base : Int} {fr : Nat} {aw0 : Nat → Int} (hf : fr < n) (hz : ∀ y, y < n → ∀ i, i < L y → (Z y i).toNat < n) (k : Nat) (hk : k ≤ (out L Z base fr aw0 k).2.length) :
    Done n L Z base fr aw0 k (out L Z base fr aw0 k) := by
  induction k with
  | zero =>
    refine ⟨start_core hf, ?_, fun i y hi => absurd hi (Nat.not_lt_zero _), fun y x h => absurd h (Nat.lt_irrefl _)⟩
    intro y x h1 h2
    simp [out] at h1 h2
    subst h1; subst h2
    omega
  | succ k ih =>
    cases hq : (out L Z base fr aw0 k).2[k]? with
    | none =>
      exfalso
      have e : out L Z base fr aw0 (k + 1) = out L Z base fr aw0 k := by simp only [out, hq]
      rw [e] at hk
      have := List.getElem?_eq_none_iff.1 hq
      omega
    | some y =>
      have hkl := (List.getElem?_eq_some_iff.1 hq).1
      have D := ih (by omega)
      have e : out L Z base fr aw0 (k + 1) = inn Z y ((out L Z base fr aw0 k).1 y + 1) (out L Z base fr aw0 k) (L y) := by simp only [out, hq]
      rw [e]
      have hy : y < n := D.core.lt y (List.mem_of_getElem? hq)
      obtain ⟨a1, a2, a3, a4, a5, a6, a7, a8, a9⟩ := inn_core D.core hq rfl (fun x hx => D.near y x hq hx) (L y) (hz y hy)
      refine ⟨a1, ?_, ?_, ?_⟩
      · intro y' x h1 h2
        have h3 := a1.mono k (k + 1) y y' (by omega) a2 h1
        have h4 := a4 x h2
        omega
      · intro i y' hi h1 j hj
        by_cases e : i = k
        · subst e
          have : y' = y := by rw [a2] at h1; exact (Option.some.inj h1).symm
          subst this
          rw [a3]; exact a5 j hj
        · have hold : (out L Z base fr aw0 k).2[i]? = some y' := by
            have hil : i < (out L Z base fr aw0 k).2.length := by omega
            have h5 := List.getElem?_eq_getElem hil
            rw [h5]
            have := a9 i _ h5
            rw [this] at h1
            exact h1
          have hm := List.mem_of_getElem? hold
          rw [a7 y' hm]
          exact Int.le_trans (a6 _) (D.closed i y' (by omega) hold j hj)
      · intro y' x _ h1 h2
        have : y' = y := by
          simp only [Nat.add_sub_cancel] at h1
          rw [a2] at h1; exact (Option.some.inj h1).symm
        subst this
        rw [a3]; exact a4 x h2

/-- A second walk from the same start, on what the first has left, changes nothing. -/
theorem again {n : Nat} {L : Nat → Nat} {Z : Nat → Nat → Int} {base : Int} {fr : Nat} {aw0 : Nat → Int} {k : Nat} (D : Done n L Z base fr aw0 k (out L Z base fr aw0 k)) (hk : 0 < k) (m : Nat) :
    out L Z base fr (out L Z base fr aw0 k).1 m = ((out L Z base fr aw0 k).1, [fr]) := by
  have hup : upd (out L Z base fr aw0 k).1 fr base = (out L Z base fr aw0 k).1 := by
    funext j
    by_cases e : j = fr
    · subst e; rw [upd_same]; exact D.core.start.symm
    · rw [upd_other _ _ e]
  have hin : ∀ j, j ≤ L fr → inn Z fr (base + 1) ((out L Z base fr aw0 k).1, [fr]) j = ((out L Z base fr aw0 k).1, [fr]) := by
    intro j
    induction j with
    | zero => intro _; rfl
    | succ j ih =>
      intro hj
      show step (base + 1) (inn Z fr (base + 1) ((out L Z base fr aw0 k).1, [fr]) j) (Z fr j).toNat = _
      rw [ih (by omega)]
      have := D.closed 0 fr hk D.core.head j (by omega)
      rw [D.core.start] at this
      unfold step
      rw [if_neg (by show ¬ (base + 1 < (out L Z base fr aw0 k).1 _); omega)]
  induction m with
  | zero => show (upd _ fr base, [fr]) = _; rw [hup]
  | succ m ih =>
    simp only [out] at ih ⊢
    rw [ih]
    cases m with
    | zero =>
      show inn Z fr ((out L Z base fr aw0 k).1 fr + 1) ((out L Z base fr aw0 k).1, [fr]) (L fr) = _
      rw [D.core.start]; exact hin _ (Nat.le_refl _)
    | succ m => rfl

end Go.Proofs.Qxb6603240a.Bf
