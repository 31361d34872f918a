/- What a cutter holds, plainly: no Go in sight. -/
namespace Go.Proofs.Qxb6603268a.Cu

structure St where
  data : List Int
  extra : List (Int × Int × Bool)
  runAt : Int
  runRep : Int
  runPad : Bool

def St.init : St := { data := [], extra := [], runAt := 0, runRep := 0, runPad := false }

def isSp (b : Int) : Prop := b = 32 ∨ b = 10

/-- n more copies of b, the byte that what is held ends with. -/
def runF (s : St) (b : Int) (n : Nat) (p : Bool) : St :=
  if 0 ≤ s.runRep then { s with extra := s.extra.modify s.runRep.toNat (fun x => (x.1, x.2.1 + n, s.runPad && p)), runPad := s.runPad && p }
  else if 24 < (s.data.length : Int) - 1 - s.runAt + n then
    { data := s.data.take (s.runAt.toNat + 1), extra := s.extra ++ [(s.runAt, (s.data.length : Int) - 1 - s.runAt + n, s.runPad && p)], runAt := s.runAt, runRep := s.extra.length, runPad := s.runPad && p }
  else { s with data := s.data ++ List.replicate n b, runPad := s.runPad && p }

/-- A new run's first byte. -/
def newRun (s : St) (b : Int) : St := { data := s.data ++ [b], extra := s.extra, runAt := s.data.length, runRep := -1, runPad := true }


def holdF (s : St) (b : Int) (n : Nat) (p : Bool) : St :=
  match n with
  | 0 => s
  | m + 1 =>
    if b = 32 ∨ b = 10 then
      if s.data.getLast? = some b then runF s b (m + 1) p
      else match m with
        | 0 => newRun s b
        | k + 1 => runF (newRun s b) b (k + 1) p
    else { s with data := s.data ++ List.replicate (m + 1) b }

/-- What holds of every state that is come to. -/
structure Wf (s : St) (M : Nat) : Prop where
  dlen : s.data.length ≤ M
  xlen : s.extra.length ≤ M
  cnt : ∀ x, x ∈ s.extra → 0 ≤ x.2.1 ∧ x.2.1 ≤ M
  run : ∀ b, s.data.getLast? = some b → (b = 32 ∨ b = 10) → ∃ (pre : List Int) (k : Nat), s.data = pre ++ List.replicate (k + 1) b ∧ s.runAt = pre.length ∧ (s.runRep = -1 ∨ (0 ≤ s.runRep ∧ s.runRep < s.extra.length))

theorem wf_init (M : Nat) : Wf St.init M := ⟨Nat.zero_le _, Nat.zero_le _, by simp [St.init], by simp [St.init]⟩

theorem Wf.mono {s : St} {M M' : Nat} (h : Wf s M) (hm : M ≤ M') : Wf s M' := ⟨Nat.le_trans h.dlen hm, Nat.le_trans h.xlen hm, fun x hx => by have := h.cnt x hx; omega, h.run⟩

theorem last_rep (pre : List Int) (k : Nat) (b : Int) : (pre ++ List.replicate (k + 1) b).getLast? = some b := by
  rw [List.getLast?_append, List.getLast?_replicate]; simp

theorem take_pre (pre : List Int) (k : Nat) (b : Int) : (pre ++ List.replicate (k + 1) b).take (pre.length + 1) = pre ++ List.replicate (0 + 1) b := by
  rw [List.take_append, List.take_of_length_le (by omega)]
  simp [List.take_replicate]

theorem wf_new {s : St} {M : Nat} (h : Wf s M) (b : Int) : Wf (newRun s b) (M + 1) := by
  refine ⟨by have := h.dlen; simp [newRun]; omega, by have := h.xlen; simp [newRun]; omega, fun x hx => by have := h.cnt x hx; omega, fun b' hb _ => ⟨s.data, 0, ?_, rfl, .inl rfl⟩⟩
  simp [newRun] at hb
  subst hb
  simp [newRun]

theorem new_last (s : St) (b : Int) : (newRun s b).data.getLast? = some b := by simp [newRun]

/-- The three ways of a run that goes on. -/
theorem runF_rep {s : St} (h : 0 ≤ s.runRep) (b : Int) (n : Nat) (p : Bool) : runF s b n p = { s with extra := s.extra.modify s.runRep.toNat (fun x => (x.1, x.2.1 + n, s.runPad && p)), runPad := s.runPad && p } := by
  unfold runF; rw [if_pos h]

theorem runF_cut {s : St} {pre : List Int} {k : Nat} {b : Int} (hd : s.data = pre ++ List.replicate (k + 1) b) (ha : s.runAt = pre.length) (hr : ¬ 0 ≤ s.runRep) (n : Nat) (p : Bool) (h : 24 < k + n) :
    runF s b n p = { data := pre ++ List.replicate (0 + 1) b, extra := s.extra ++ [((pre.length : Int), ((k + n : Nat) : Int), s.runPad && p)], runAt := pre.length, runRep := s.extra.length, runPad := s.runPad && p } := by
  have e : (s.data.length : Int) - 1 - s.runAt + n = ((k + n : Nat) : Int) := by rw [hd, ha]; simp; omega
  unfold runF
  rw [if_neg hr, if_pos (by omega), e, ha, hd]
  simp only [Int.toNat_natCast, take_pre]

theorem runF_add {s : St} {pre : List Int} {k : Nat} {b : Int} (hd : s.data = pre ++ List.replicate (k + 1) b) (ha : s.runAt = pre.length) (hr : ¬ 0 ≤ s.runRep) (n : Nat) (p : Bool) (h : ¬ 24 < k + n) :
    runF s b n p = { s with data := pre ++ List.replicate (k + n + 1) b, runPad := s.runPad && p } := by
  have e : (s.data.length : Int) - 1 - s.runAt + n = ((k + n : Nat) : Int) := by rw [hd, ha]; simp; omega
  unfold runF
  rw [if_neg hr, if_neg (by omega)]
  have hrep : List.replicate (k + 1) b ++ List.replicate n b = List.replicate (k + n + 1) b := by rw [List.replicate_append_replicate]; congr 1; omega
  rw [hd, List.append_assoc, hrep]

theorem wf_run {s : St} {M : Nat} (h : Wf s M) {b : Int} (hl : s.data.getLast? = some b) (hb : b = 32 ∨ b = 10) (n : Nat) (p : Bool) (hn1 : 1 ≤ n) : Wf (runF s b n p) (M + n) ∧ (runF s b n p).data.getLast? = some b := by
  obtain ⟨pre, k, hd, ha, hr⟩ := h.run b hl hb
  have hdl := h.dlen
  have hxl := h.xlen
  have hk : pre.length + k + 1 ≤ M := by rw [hd] at hdl; simpa [Nat.add_assoc] using hdl
  by_cases h0 : 0 ≤ s.runRep
  · rw [runF_rep h0]
    have hr' : 0 ≤ s.runRep ∧ s.runRep < s.extra.length := by rcases hr with hr | hr; omega; exact hr
    refine ⟨⟨by show s.data.length ≤ _; omega, by simp; omega, fun x hx => ?_, fun b' hb' hs => ?_⟩, hl⟩
    · obtain ⟨i, hi, hxi⟩ := List.getElem_of_mem hx
      simp only [List.length_modify] at hi
      rw [List.getElem_modify] at hxi
      have hm := h.cnt _ (List.getElem_mem hi)
      split at hxi
      · rw [← hxi]; dsimp only; omega
      · rw [← hxi]; omega
    · have : b' = b := by have h1 : s.data.getLast? = some b' := hb'; rw [hl] at h1; exact (Option.some.inj h1).symm
      subst this
      exact ⟨pre, k, hd, ha, .inr (by simpa using hr')⟩
  · by_cases h24 : 24 < k + n
    · rw [runF_cut hd ha h0 n p h24]
      refine ⟨⟨by simp; omega, by simp; omega, fun x hx => ?_, fun b' hb' hs => ?_⟩, last_rep _ _ _⟩
      · rcases List.mem_append.1 hx with hx | hx
        · have := h.cnt x hx; omega
        · simp at hx; subst hx; dsimp only; omega
      · have : b' = b := by have h1 : (pre ++ List.replicate (0 + 1) b).getLast? = some b' := hb'; rw [last_rep] at h1; exact (Option.some.inj h1).symm
        subst this
        exact ⟨pre, 0, rfl, rfl, .inr ⟨by show (0 : Int) ≤ (s.extra.length : Int); omega, by show (s.extra.length : Int) < (((s.extra ++ [((pre.length : Int), ((k + n : Nat) : Int), s.runPad && p)]).length : Nat) : Int); rw [List.length_append]; simp; omega⟩⟩
    · rw [runF_add hd ha h0 n p h24]
      refine ⟨⟨by simp; omega, by show s.extra.length ≤ _; omega, fun x hx => by have := h.cnt x hx; omega, fun b' hb' hs => ?_⟩, last_rep _ _ _⟩
      have : b' = b := by have h1 : (pre ++ List.replicate (k + n + 1) b).getLast? = some b' := hb'; rw [last_rep] at h1; exact (Option.some.inj h1).symm
      subst this
      exact ⟨pre, k + n, rfl, ha, hr⟩

theorem holdF_other {s : St} {b : Int} (hb : ¬ (b = 32 ∨ b = 10)) (n : Nat) (p : Bool) : holdF s b n p = { s with data := s.data ++ List.replicate n b } := by
  cases n with
  | zero => simp [holdF]
  | succ m => simp only [holdF]; rw [if_neg hb]

theorem holdF_run {s : St} {b : Int} (hb : b = 32 ∨ b = 10) (hl : s.data.getLast? = some b) (n : Nat) (p : Bool) (hn : 1 ≤ n) : holdF s b n p = runF s b n p := by
  obtain ⟨m, rfl⟩ : ∃ m, n = m + 1 := ⟨n - 1, by omega⟩
  simp only [holdF]; rw [if_pos hb, if_pos hl]

theorem holdF_new1 {s : St} {b : Int} (hb : b = 32 ∨ b = 10) (hl : ¬ s.data.getLast? = some b) (p : Bool) : holdF s b 1 p = newRun s b := by
  simp only [holdF]; rw [if_pos hb, if_neg hl]

theorem holdF_new {s : St} {b : Int} (hb : b = 32 ∨ b = 10) (hl : ¬ s.data.getLast? = some b) (n : Nat) (p : Bool) (hn : 1 ≤ n) : holdF s b (n + 1) p = runF (newRun s b) b n p := by
  obtain ⟨m, rfl⟩ : ∃ m, n = m + 1 := ⟨n - 1, by omega⟩
  simp only [holdF]; rw [if_pos hb, if_neg hl]

theorem wf_hold {s : St} {M : Nat} (h : Wf s M) (b : Int) (n : Nat) (p : Bool) : Wf (holdF s b n p) (M + n) := by
  by_cases hb : b = 32 ∨ b = 10
  · by_cases hl : s.data.getLast? = some b
    · by_cases hn : 1 ≤ n
      · rw [holdF_run hb hl n p hn]; exact (wf_run h hl hb n p hn).1
      · have : n = 0 := by omega
        subst this; exact h
    · match n with
      | 0 => exact h
      | 1 => rw [holdF_new1 hb hl]; exact wf_new h b
      | k + 2 =>
        rw [holdF_new hb hl (k + 1) p (by omega)]
        have := (wf_run (wf_new h b) (new_last s b) hb (k + 1) p (by omega)).1
        exact this.mono (by omega)
  · rw [holdF_other hb]
    refine ⟨by have := h.dlen; simp; omega, by have := h.xlen; show s.extra.length ≤ _; omega, fun x hx => by have := h.cnt x hx; omega, fun b' hb' hs => ?_⟩
    by_cases hn : n = 0
    · subst hn
      simp only [List.replicate_zero, List.append_nil] at hb' ⊢
      exact h.run b' hb' hs
    · obtain ⟨m, rfl⟩ : ∃ m, n = m + 1 := ⟨n - 1, by omega⟩
      have h1 : (s.data ++ List.replicate (m + 1) b).getLast? = some b' := hb'
      rw [last_rep] at h1
      have : b = b' := Option.some.inj h1
      subst this
      exact absurd hs hb

theorem modify_twice {α : Type} (l : List α) (i : Nat) (f g : α → α) : (l.modify i f).modify i g = l.modify i (fun x => g (f x)) := by
  apply List.ext_getElem?
  intro j
  simp only [List.getElem?_modify]
  cases l[j]? with
  | none => simp
  | some y => by_cases e : i = j <;> simp [e]

theorem modify_last {α : Type} (l : List α) (x : α) (f : α → α) : (l ++ [x]).modify l.length f = l ++ [f x] := by
  apply List.ext_getElem?
  intro j
  rw [List.getElem?_modify, List.getElem?_append, List.getElem?_append]
  by_cases h : j < l.length
  · rw [if_pos h, if_pos h]
    have : l.length ≠ j := by omega
    cases l[j]? <;> simp [this]
  · rw [if_neg h, if_neg h]
    by_cases e : l.length = j
    · subst e; simp
    · have : ∃ q, j - l.length = q + 1 := ⟨j - l.length - 1, by omega⟩
      obtain ⟨q, hq⟩ := this
      rw [hq]; simp

/-- A run held in two parts is held as one. -/
theorem run_split {s : St} {M : Nat} (h : Wf s M) {b : Int} (hl : s.data.getLast? = some b) (hb : b = 32 ∨ b = 10) (n1 n2 : Nat) (p : Bool) : runF (runF s b n1 p) b n2 p = runF s b (n1 + n2) p := by
  obtain ⟨pre, k, hd, ha, hr⟩ := h.run b hl hb
  have hpp : ((s.runPad && p) && p) = (s.runPad && p) := by cases s.runPad <;> cases p <;> rfl
  by_cases h0 : 0 ≤ s.runRep
  · rw [runF_rep h0 b (n1 + n2) p, runF_rep h0 b n1 p, runF_rep (by exact h0)]
    simp only [modify_twice, hpp]
    congr 1
    congr 1
    funext x
    simp only [Prod.mk.injEq, true_and, and_true]
    omega
  · by_cases h24 : 24 < k + n1
    · rw [runF_cut hd ha h0 n1 p h24, runF_cut hd ha h0 (n1 + n2) p (by omega)]
      rw [runF_rep (by show (0 : Int) ≤ (s.extra.length : Int); omega)]
      simp only [Int.toNat_natCast, modify_last, hpp]
      congr 3
      simp only [Prod.mk.injEq, true_and, and_true]
      omega
    · rw [runF_add hd ha h0 n1 p h24]
      by_cases h25 : 24 < k + n1 + n2
      · rw [runF_cut (s := { s with data := _, runPad := _ }) rfl ha h0 n2 p h25, runF_cut hd ha h0 (n1 + n2) p (by omega)]
        simp only [hpp, Nat.add_assoc]
      · rw [runF_add (s := { s with data := _, runPad := _ }) rfl ha h0 n2 p h25, runF_add hd ha h0 (n1 + n2) p (by omega)]
        simp only [hpp, Nat.add_assoc]

theorem hold_last {s : St} {M : Nat} (h : Wf s M) {b : Int} (hb : b = 32 ∨ b = 10) (n : Nat) (p : Bool) (hn : 1 ≤ n) : (holdF s b n p).data.getLast? = some b := by
  by_cases hl : s.data.getLast? = some b
  · rw [holdF_run hb hl n p hn]; exact (wf_run h hl hb n p hn).2
  · match n, hn with
    | 1, _ => rw [holdF_new1 hb hl]; exact new_last s b
    | k + 2, _ => rw [holdF_new hb hl (k + 1) p (by omega)]; exact (wf_run (wf_new h b) (new_last s b) hb (k + 1) p (by omega)).2

/-- hold splits freely. -/
theorem hold_split {s : St} {M : Nat} (h : Wf s M) (b : Int) (n1 n2 : Nat) (p : Bool) : holdF (holdF s b n1 p) b n2 p = holdF s b (n1 + n2) p := by
  by_cases hb : b = 32 ∨ b = 10
  · by_cases h1 : n1 = 0
    · subst h1; rw [Nat.zero_add]; rfl
    · by_cases h2 : n2 = 0
      · subst h2; rfl
      · rw [holdF_run hb (hold_last h hb n1 p (by omega)) n2 p (by omega)]
        by_cases hl : s.data.getLast? = some b
        · rw [holdF_run hb hl n1 p (by omega), holdF_run hb hl (n1 + n2) p (by omega)]
          exact run_split h hl hb n1 n2 p
        · by_cases h11 : n1 = 1
          · subst h11
            rw [holdF_new1 hb hl, Nat.add_comm 1 n2, holdF_new hb hl n2 p (by omega)]
          · obtain ⟨m, rfl⟩ : ∃ m, n1 = m + 1 := ⟨n1 - 1, by omega⟩
            rw [holdF_new hb hl m p (by omega), show m + 1 + n2 = m + n2 + 1 by omega, holdF_new hb hl (m + n2) p (by omega)]
            exact run_split (wf_new h b) (new_last s b) hb m n2 p
  · rw [holdF_other hb, holdF_other hb, holdF_other hb]
    simp only [List.append_assoc, List.replicate_append_replicate]

/-- The bytes one at a time. -/
def text (s : St) (t : List (Int × Bool)) : St := t.foldl (fun s x => holdF s x.1 1 x.2) s

theorem text_append (s : St) (t u : List (Int × Bool)) : text s (t ++ u) = text (text s t) u := by simp [text]

theorem wf_text {s : St} {M : Nat} (h : Wf s M) (t : List (Int × Bool)) : Wf (text s t) (M + t.length) := by
  induction t generalizing s M with
  | nil => exact h
  | cons x r ih =>
    have := ih (wf_hold h x.1 1 x.2)
    show Wf (text (holdF s x.1 1 x.2) r) _
    exact this.mono (by simp; omega)

theorem text_rep {s : St} {M : Nat} (h : Wf s M) (b : Int) (n : Nat) (p : Bool) : text s (List.replicate n (b, p)) = holdF s b n p := by
  induction n generalizing s M with
  | zero => rfl
  | succ n ih =>
    show text (holdF s b 1 p) (List.replicate n (b, p)) = _
    rw [ih (wf_hold h b 1 p), hold_split h, Nat.add_comm]

theorem text_plain (s : St) (t : List Int) (ht : ∀ b, b ∈ t → ¬ (b = 32 ∨ b = 10)) (p : Bool) : text s (t.map fun b => (b, p)) = { s with data := s.data ++ t } := by
  induction t generalizing s with
  | nil => simp [text]
  | cons x r ih =>
    show text (holdF s x 1 p) (r.map fun b => (b, p)) = _
    rw [holdF_other (ht x (List.mem_cons_self ..)), ih _ (fun b hb => ht b (List.mem_cons_of_mem _ hb))]
    simp

end Go.Proofs.Qxb6603268a.Cu
