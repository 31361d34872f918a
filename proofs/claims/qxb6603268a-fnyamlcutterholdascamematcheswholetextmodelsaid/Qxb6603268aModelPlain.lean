/- The whole-text model, plainly: a text held byte by byte, told by its maximal runs. -/
import Derived.Test.Qxb6603268aPlain
namespace Go.Proofs.Qxb6603268a.Cu

/-- The state after a run of 1 + m copies of b, all copies past the first padding just where q. -/
def runE (s : St) (b : Int) (m : Nat) (q : Bool) : St :=
  if 24 < m then { data := s.data ++ [b], extra := s.extra ++ [((s.data.length : Int), (m : Int), q)], runAt := s.data.length, runRep := s.extra.length, runPad := q }
  else { data := s.data ++ List.replicate (m + 1) b, extra := s.extra, runAt := s.data.length, runRep := -1, runPad := q }

theorem runE_last (s : St) (b : Int) (m : Nat) (q : Bool) : (runE s b m q).data.getLast? = some b := by
  unfold runE
  split
  · simp
  · exact last_rep _ _ _

theorem runE_step (s : St) (b : Int) (hb : b = 32 ∨ b = 10) (m : Nat) (q p : Bool) : holdF (runE s b m q) b 1 p = runE s b (m + 1) (q && p) := by
  rw [holdF_run hb (runE_last s b m q) 1 p (by omega)]
  by_cases h : 24 < m
  · have e1 : runE s b m q = { data := s.data ++ [b], extra := s.extra ++ [((s.data.length : Int), (m : Int), q)], runAt := s.data.length, runRep := s.extra.length, runPad := q } := by unfold runE; rw [if_pos h]
    have e2 : runE s b (m + 1) (q && p) = { data := s.data ++ [b], extra := s.extra ++ [((s.data.length : Int), ((m + 1 : Nat) : Int), q && p)], runAt := s.data.length, runRep := s.extra.length, runPad := q && p } := by unfold runE; rw [if_pos (by omega)]
    rw [e1, e2, runF_rep (by show (0 : Int) ≤ (s.extra.length : Int); omega)]
    simp only [Int.toNat_natCast, modify_last]
    congr 3
  · have e1 : runE s b m q = { data := s.data ++ List.replicate (m + 1) b, extra := s.extra, runAt := s.data.length, runRep := -1, runPad := q } := by unfold runE; rw [if_neg h]
    rw [e1]
    by_cases h2 : 24 < m + 1
    · have e2 : runE s b (m + 1) (q && p) = { data := s.data ++ [b], extra := s.extra ++ [((s.data.length : Int), ((m + 1 : Nat) : Int), q && p)], runAt := s.data.length, runRep := s.extra.length, runPad := q && p } := by unfold runE; rw [if_pos h2]
      rw [e2, runF_cut (k := m) (pre := s.data) rfl rfl (by show ¬ (0 : Int) ≤ -1; omega) 1 p h2]
      rfl
    · have e2 : runE s b (m + 1) (q && p) = { data := s.data ++ List.replicate (m + 1 + 1) b, extra := s.extra, runAt := s.data.length, runRep := -1, runPad := q && p } := by unfold runE; rw [if_neg h2]
      rw [e2, runF_add (k := m) (pre := s.data) rfl rfl (by show ¬ (0 : Int) ≤ -1; omega) 1 p h2]

theorem runE_zero (s : St) (b : Int) : newRun s b = runE s b 0 true := by
  unfold runE newRun; rw [if_neg (by omega)]; rfl

/-- The first k bytes with their flags. -/
def tz (f : Nat → Int) (p : Nat → Bool) (k : Nat) : List (Int × Bool) := (List.range k).map fun i => (f i, p i)

theorem tz_length (f : Nat → Int) (p : Nat → Bool) (k : Nat) : (tz f p k).length = k := by simp [tz]
theorem tz_succ (f : Nat → Int) (p : Nat → Bool) (k : Nat) : tz f p (k + 1) = tz f p k ++ [(f k, p k)] := by simp [tz, List.range_succ]
theorem text_succ (s : St) (f : Nat → Int) (p : Nat → Bool) (k : Nat) : text s (tz f p (k + 1)) = holdF (text s (tz f p k)) (f k) 1 (p k) := by
  rw [tz_succ, text_append]; rfl

/-- Are all flags of i+1 .. i+m set? -/
def every (p : Nat → Bool) (i : Nat) : Nat → Bool
  | 0 => true
  | m + 1 => every p i m && p (i + 1 + m)

theorem last_text {s : St} {M : Nat} (h : Wf s M) (f : Nat → Int) (p : Nat → Bool) (k : Nat) : (text s (tz f p (k + 1))).data.getLast? = some (f k) := by
  rw [text_succ]
  by_cases hb : f k = 32 ∨ f k = 10
  · exact hold_last (wf_text h _) hb 1 _ (by omega)
  · rw [holdF_other hb]; simp

/-- A maximal run of spaces or line breaks. -/
theorem text_run (s : St) (f : Nat → Int) (p : Nat → Bool) (i m : Nat) (b : Int) (hb : b = 32 ∨ b = 10) (hl : ¬ (text s (tz f p i)).data.getLast? = some b) (hf : ∀ k, k < m + 1 → f (i + k) = b) :
    text s (tz f p (i + 1 + m)) = runE (text s (tz f p i)) b m (every p i m) := by
  induction m with
  | zero =>
    have e : f i = b := hf 0 (by omega)
    rw [Nat.add_zero, text_succ, e, holdF_new1 hb hl, runE_zero]; rfl
  | succ m ih =>
    have e : f (i + 1 + m) = b := by have := hf (m + 1) (by omega); rwa [show i + (m + 1) = i + 1 + m by omega] at this
    rw [show i + 1 + (m + 1) = i + 1 + m + 1 by omega, text_succ, ih (fun k hk => hf k (by omega)), e, runE_step _ _ hb]; rfl

/-- A run of another byte. -/
theorem text_other (s : St) (f : Nat → Int) (p : Nat → Bool) (i m : Nat) (b : Int) (hb : ¬ (b = 32 ∨ b = 10)) (hf : ∀ k, k < m → f (i + k) = b) :
    text s (tz f p (i + m)) = { text s (tz f p i) with data := (text s (tz f p i)).data ++ List.replicate m b } := by
  induction m with
  | zero => simp
  | succ m ih =>
    have e : f (i + m) = b := hf m (by omega)
    rw [show i + (m + 1) = i + m + 1 by omega, text_succ, ih (fun k hk => hf k (by omega)), e, holdF_other hb]
    simp only [List.append_assoc, List.replicate_append_replicate]

end Go.Proofs.Qxb6603268a.Cu
