import PyProof.Rows.All
import Wide.All
import OpenK.AllK
import Wide.FinOn
import PySem.Sre
import PySem.Challenge.RW_om0212_01
set_option Elab.async false
section
namespace Mine
open PySem PySem.Sre
set_option maxRecDepth 100000

def code1 : Array Nat := #[14, 4, 0, 1, 1, 6, 1, 16, 46, 1]
def code3 : Array Nat := #[14, 9, 4, 1, 2, 16, 10, 16, 13, 0, 7, 7, 16, 13, 16, 10, 15, 18, 5, 16, 10, 15, 13, 11, 16, 13, 5, 5, 0, 16, 10, 1, 15, 2, 0, 1]

def iter : Nat → M → M
  | 0, m => m
  | n + 1, m => iter n m.step

theorem step_done {m : M} (h : m.outcome.isSome = true) : m.step = m := by
  unfold M.step
  rw [if_pos h]

theorem iter_done {m : M} (h : m.outcome.isSome = true) : ∀ n, iter n m = m
  | 0 => rfl
  | n + 1 => by unfold iter; rw [step_done h, iter_done h n]

theorem iter_add (m : M) : ∀ a b, iter (a + b) m = iter b (iter a m)
  | 0, b => by rw [Nat.zero_add]; rfl
  | a + 1, b => by
    rw [Nat.add_right_comm]
    exact iter_add m.step a b

theorem runFor_eq : ∀ n m, M.runFor n m = iter n m
  | 0, _ => rfl
  | n + 1, m => by
    unfold M.runFor
    split
    · rename_i h; rw [iter_done h]
    · exact runFor_eq n m.step

/-- the attempt's state for the pattern of a leading dot -/
def C1 (t : Array Nat) (s : Nat) (f : Bool) (sn : Seen) : M :=
  { code := code1, text := t, lim := t.size, start := s, lastStart := t.size, pc := 5, pos := s, handed := s, outermost := f, marks := #[],
    frames := [{ wait := .nextStart, pc := 5, pos := s, outermost := f }], weight := 1, seen := sn }

theorem search1_eq (t : Array Nat) (p : Nat) : forSearch code1 t 0 p t.size false =
    if p > t.size || t.size - p < 1 then
      ({ code := code1, text := t, lim := t.size, start := p, pc := 5, pos := p, handed := p, marks := #[], answer := some false, seen := ({} : Seen).add 14 } : M)
    else C1 t p true (({} : Seen).add 14) := rfl

theorem step1_at (t : Array Nat) (s : Nat) (f : Bool) (sn : Seen) : (C1 t s f sn).step =
    if (s == 0 || t.getD (s - 1) 0 == 10) then { C1 t s f sn with pc := 7, seen := (sn.add 6).add 44 }
    else { C1 t s f sn with answer := some false, seen := (sn.add 6).add 44 } := rfl


theorem step1_lit (t : Array Nat) (s : Nat) (f : Bool) (sn : Seen) : ({ C1 t s f sn with pc := 7, seen := sn } : M).step =
    if s ≥ t.size then { C1 t s f sn with pc := 7, answer := some false, seen := sn.add 16 }
    else match (Except.ok (t.getD s 0 == 46, sn.add 16) : Except String (Bool × Seen)) with
      | .error why => ({ C1 t s f sn with pc := 7, seen := sn.add 16 } : M).stick why
      | .ok (false, sn') => { C1 t s f sn with pc := 7, answer := some false, seen := sn' }
      | .ok (true, sn') => { C1 t s f sn with pc := 9, pos := s + 1, seen := sn' } := rfl

theorem step1_suc (t : Array Nat) (s : Nat) (sn : Seen) : ∀ f, ({ C1 t s f sn with pc := 9, pos := s + 1, seen := sn } : M).step =
    { C1 t s f sn with pc := 9, pos := s + 1, handed := s + 1, answer := some true, seen := sn.add 1 }
  | false => rfl
  | true => rfl

theorem step1_yes (t : Array Nat) (s : Nat) (f : Bool) (sn : Seen) : ({ C1 t s f sn with pc := 9, pos := s + 1, handed := s + 1, answer := some true, seen := sn } : M).step.step =
    { C1 t s f sn with frames := [], weight := 0, handed := s + 1, answer := some true, seen := sn, outcome := some .matched } := rfl

theorem step1_no (t : Array Nat) (s pc : Nat) (f : Bool) (sn : Seen) : ({ C1 t s f sn with pc := pc, answer := some false, seen := sn } : M).step =
    if s < t.size then C1 t (s + 1) false sn else { C1 t s f sn with frames := [], weight := 0, answer := some false, seen := sn } := rfl

theorem step1_end (t : Array Nat) (s : Nat) (f : Bool) (sn : Seen) : ({ C1 t s f sn with frames := [], weight := 0, answer := some false, seen := sn } : M).step.outcome = some .failed := rfl

def Ends (m : M) (n : Nat) : Option (Nat × Nat) → Prop
  | none => (iter n m).outcome = some .failed
  | some (b, e) => (iter n m).outcome = some .matched ∧ (iter n m).start = b ∧ (iter n m).handed = e

theorem Ends.step {m m' : M} {k n : Nat} {r : Option (Nat × Nat)} (e : iter k m = m') (h : Ends m' n r) : Ends m (k + n) r := by
  cases r with
  | none => unfold Ends at *; rw [iter_add, e]; exact h
  | some x => unfold Ends at *; rw [iter_add, e]; exact h

theorem Ends.isSome {m : M} {n : Nat} {r : Option (Nat × Nat)} (h : Ends m n r) : (iter n m).outcome.isSome = true := by
  cases r with
  | none => unfold Ends at h; rw [h]; rfl
  | some x => unfold Ends at h; rw [h.1]; rfl

def hit1 (t : Array Nat) (s : Nat) : Bool := (s == 0 || t.getD (s - 1) 0 == 10) && t.getD s 0 == 46

def next1 (t : Array Nat) : (fuel s : Nat) → Option (Nat × Nat)
  | 0, _ => none
  | fuel + 1, s => if hit1 t s then some (s, s + 1) else next1 t fuel (s + 1)

theorem getD_out {t : Array Nat} {s : Nat} (h : t.size ≤ s) : t.getD s 0 = 0 := by
  unfold Array.getD
  rw [dif_neg (by omega)]

theorem hit1_lt {t : Array Nat} {s : Nat} (h : hit1 t s = true) : s < t.size := by
  unfold hit1 at h
  simp only [Bool.and_eq_true, beq_iff_eq] at h
  apply Decidable.byContradiction
  intro q
  rw [getD_out (s := s) (by omega)] at h
  exact absurd h.2 (by decide)

theorem hit_run {t : Array Nat} {s : Nat} {f : Bool} {sn : Seen} (h : hit1 t s = true) : ∃ sn', iter 5 (C1 t s f sn) = { C1 t s f sn with frames := [], weight := 0, handed := s + 1, answer := some true, seen := sn', outcome := some .matched } := by
  have hl := hit1_lt h
  unfold hit1 at h
  obtain ⟨h1, h2⟩ := Bool.and_eq_true_iff.mp h
  refine ⟨((((sn.add 6).add 44).add 16).add 1), ?_⟩
  show (C1 t s f sn).step.step.step.step.step = _
  rw [step1_at, if_pos h1]
  refine (congrArg (fun m : M => m.step.step.step) (step1_lit t s f ((sn.add 6).add 44))).trans ?_
  rw [if_neg (by omega), h2]
  refine (congrArg (fun m : M => m.step.step) (step1_suc t s (((sn.add 6).add 44).add 16) f)).trans ?_
  exact step1_yes t s f ((((sn.add 6).add 44).add 16).add 1)

theorem miss_run {t : Array Nat} {s : Nat} {f : Bool} {sn : Seen} (h : hit1 t s = false) : ∃ k sn', k ≤ 3 ∧ iter k (C1 t s f sn) = if s < t.size then C1 t (s + 1) false sn' else { C1 t s f sn with frames := [], weight := 0, answer := some false, seen := sn' } := by
  by_cases h1 : (s == 0 || t.getD (s - 1) 0 == 10) = true
  · have h2 : (t.getD s 0 == 46) = false := by
      unfold hit1 at h
      rw [h1, Bool.true_and] at h
      exact h
    refine ⟨3, ((sn.add 6).add 44).add 16, by omega, ?_⟩
    show (C1 t s f sn).step.step.step = _
    rw [step1_at, if_pos h1]
    refine (congrArg (fun m : M => m.step) (step1_lit t s f ((sn.add 6).add 44))).trans ?_
    rw [h2]
    dsimp only
    rw [ite_self]
    exact step1_no t s 7 f (((sn.add 6).add 44).add 16)
  · refine ⟨2, (sn.add 6).add 44, by omega, ?_⟩
    show (C1 t s f sn).step.step = _
    rw [step1_at, if_neg h1]
    exact step1_no t s 5 f ((sn.add 6).add 44)

theorem run1 (t : Array Nat) : ∀ k s f sn, s + k = t.size → ∃ n, n ≤ 3 * k + 10 ∧ Ends (C1 t s f sn) n (next1 t (k + 1) s)
  | k, s, f, sn, hk => by
    cases hh : hit1 t s with
    | true =>
      obtain ⟨sn', e⟩ := hit_run (f := f) (sn := sn) hh
      refine ⟨5, by omega, ?_⟩
      unfold next1
      rw [if_pos hh]
      unfold Ends
      rw [e]
      exact ⟨rfl, rfl, rfl⟩
    | false =>
      obtain ⟨j, sn', hj, e⟩ := miss_run (f := f) (sn := sn) hh
      unfold next1
      rw [if_neg (by rw [hh]; exact Bool.false_ne_true)]
      cases k with
      | zero =>
        rw [if_neg (by omega)] at e
        exact ⟨j + 1, by omega, Ends.step e rfl⟩
      | succ k =>
        rw [if_pos (by omega)] at e
        obtain ⟨n, hn, en⟩ := run1 t k (s + 1) false sn' (by omega)
        exact ⟨j + n, by omega, Ends.step e en⟩

theorem search1 (t : Array Nat) (p : Nat) (hp : p ≤ t.size) : ∃ n, n ≤ 3 * t.size + 10 ∧ Ends (forSearch code1 t 0 p t.size false) n (next1 t (t.size + 1 - p) p) := by
  rw [search1_eq]
  by_cases h : t.size - p < 1
  · rw [if_pos (by simp [h])]
    refine ⟨1, by omega, ?_⟩
    have hq : t.size + 1 - p = 1 := by omega
    rw [hq]
    unfold next1
    have hh : hit1 t p = false := by
      cases q : hit1 t p with
      | false => rfl
      | true => exact absurd (hit1_lt q) (by omega)
    rw [if_neg (by rw [hh]; exact Bool.false_ne_true)]
    exact rfl
  · rw [if_neg (by simp; omega)]
    obtain ⟨n, hn, en⟩ := run1 t (t.size - p) p true (({} : Seen).add 14) (by omega)
    refine ⟨n, by omega, ?_⟩
    rw [show t.size + 1 - p = t.size - p + 1 by omega]
    exact en


/-! the pattern of an end -/
def S3 (t : Array Nat) (st pc pos hd : Nat) (om : Bool) (fr : List PySem.Sre.Frame) (wt : Nat) (ans : Option Bool) (sn : Seen) : M :=
  { code := code3, text := t, lim := t.size, start := st, lastStart := t.size, pc := pc, pos := pos, handed := hd, outermost := om, marks := #[],
    frames := fr, weight := wt, answer := ans, seen := sn }
def fS (s : Nat) (f : Bool) : PySem.Sre.Frame := { wait := .nextStart, pc := 10, pos := s, outermost := f }
def fB (a s : Nat) (f : Bool) : PySem.Sre.Frame := { wait := .nextBranch, pc := a, pos := s, outermost := f, kept := { lastmark := -1, lastindex := -1, whole := false, marks := #[] } }
def fL (s : Nat) (f : Bool) : PySem.Sre.Frame := { wait := .lookNot, pc := 26, pos := s, outermost := f, kept := { lastmark := -1, lastindex := -1, whole := false, marks := #[] } }
def C3 (t : Array Nat) (s : Nat) (f : Bool) (sn : Seen) : M := S3 t s 10 s s f [fS s f] 1 none sn

theorem inset3 (c : Nat) (sn : Seen) : inSet code3 c 36 5 true sn = if c == 10 then .ok (true, sn.add 16) else if c == 13 then .ok (true, (sn.add 16).add 16) else .ok (false, ((sn.add 16).add 16).add 0) := rfl

def isEnd (c : Nat) : Bool := c == 10 || c == 13
def find3 (t : Array Nat) : (fuel s : Nat) → Option Nat
  | 0, _ => none
  | fuel + 1, s => if isEnd (t.getD s 0) then some s else find3 t fuel (s + 1)
def len3 (t : Array Nat) (s : Nat) : Nat := if t.getD s 0 == 13 && t.getD (s + 1) 0 == 10 then 2 else 1
def next3 (t : Array Nat) (fuel s : Nat) : Option (Nat × Nat) := (find3 t fuel s).map fun b => (b, b + len3 t b)

theorem isEnd_lt {t : Array Nat} {s : Nat} (h : isEnd (t.getD s 0) = true) : s < t.size := by
  apply Decidable.byContradiction
  intro q
  rw [getD_out (s := s) (by omega)] at h
  exact absurd h (by decide)

theorem admitted3 (m : M) (hc : m.code = code3) : ∀ k s sn, s + k = m.lim → m.lim = m.text.size → ∃ sn', M.admitted m (k + 1) s sn = .ok (find3 m.text (k + 1) s, sn')
  | 0, s, sn, hk, hl => by
    refine ⟨sn, ?_⟩
    unfold M.admitted find3
    rw [if_pos (by omega), if_neg]
    · rfl
    · intro q
      have := isEnd_lt q
      omega
  | k + 1, s, sn, hk, hl => by
    unfold M.admitted find3
    rw [if_neg (by omega), hc]
    have hi : inSet code3 (m.text.getD s 0) code3.size 5 true sn = _ := inset3 _ _
    rw [hi]
    by_cases h1 : (m.text.getD s 0 == 10) = true
    · rw [if_pos h1, if_pos (by unfold isEnd; rw [h1]; rfl)]
      exact ⟨_, rfl⟩
    · rw [if_neg h1]
      by_cases h2 : (m.text.getD s 0 == 13) = true
      · rw [if_pos h2, if_pos (by unfold isEnd; rw [h2]; exact Bool.or_true _)]
        exact ⟨_, rfl⟩
      · rw [if_neg h2, if_neg (by unfold isEnd; simp only [Bool.not_eq_true] at h1 h2; rw [h1, h2]; exact Bool.false_ne_true)]
        exact admitted3 m hc k (s + 1) _ (by omega) hl

theorem search3_eq (t : Array Nat) (p : Nat) : forSearch code3 t 0 p t.size false =
    if p > t.size || t.size - p < 1 then
      ({ code := code3, text := t, lim := t.size, start := p, pc := 10, pos := p, handed := p, marks := #[], answer := some false, seen := ({} : Seen).add 14 } : M)
    else match M.admitted (S3 t p 10 p p true [] 0 none (({} : Seen).add 14)) (t.size + 1 - p) p (({} : Seen).add 14) with
      | .ok (some s, seen) => C3 t s true seen
      | .ok (none, seen) => S3 t p 10 p p true [] 0 (some false) seen
      | .error why => (S3 t p 10 p p true [] 0 none (({} : Seen).add 14)).stick why := rfl

section
variable (t : Array Nat) (st pos hd : Nat) (f : Bool) (fr : List PySem.Sre.Frame) (wt : Nat) (sn : Seen)
theorem b10 (hw : ¬ wt + 1 + 0 > 16777216) : (S3 t st 10 pos hd f fr wt none sn).step = S3 t st 12 pos pos f (fB 11 pos f :: fr) (wt + 1) none (sn.add 7) := by
  have : (S3 t st 10 pos hd f fr wt none sn).step = if wt + 1 + 0 > 16777216 then _ else S3 t st 12 pos pos f (fB 11 pos f :: fr) (wt + 1) none (sn.add 7) := rfl
  rw [this, if_neg hw]
theorem l12 : (S3 t st 12 pos hd f fr wt none sn).step = if pos ≥ t.size then S3 t st 12 pos hd f fr wt (some false) (sn.add 16)
    else match (Except.ok (t.getD pos 0 == 13, sn.add 16) : Except String (Bool × Seen)) with
      | .error why => (S3 t st 12 pos hd f fr wt none (sn.add 16)).stick why
      | .ok (false, sn') => S3 t st 12 pos hd f fr wt (some false) sn'
      | .ok (true, sn') => S3 t st 14 (pos + 1) hd f fr wt none sn' := rfl
theorem l14 : (S3 t st 14 pos hd f fr wt none sn).step = if pos ≥ t.size then S3 t st 14 pos hd f fr wt (some false) (sn.add 16)
    else match (Except.ok (t.getD pos 0 == 10, sn.add 16) : Except String (Bool × Seen)) with
      | .error why => (S3 t st 14 pos hd f fr wt none (sn.add 16)).stick why
      | .ok (false, sn') => S3 t st 14 pos hd f fr wt (some false) sn'
      | .ok (true, sn') => S3 t st 16 (pos + 1) hd f fr wt none sn' := rfl
theorem l19 : (S3 t st 19 pos hd f fr wt none sn).step = if pos ≥ t.size then S3 t st 19 pos hd f fr wt (some false) (sn.add 16)
    else match (Except.ok (t.getD pos 0 == 10, sn.add 16) : Except String (Bool × Seen)) with
      | .error why => (S3 t st 19 pos hd f fr wt none (sn.add 16)).stick why
      | .ok (false, sn') => S3 t st 19 pos hd f fr wt (some false) sn'
      | .ok (true, sn') => S3 t st 21 (pos + 1) hd f fr wt none sn' := rfl
theorem l24 : (S3 t st 24 pos hd f fr wt none sn).step = if pos ≥ t.size then S3 t st 24 pos hd f fr wt (some false) (sn.add 16)
    else match (Except.ok (t.getD pos 0 == 13, sn.add 16) : Except String (Bool × Seen)) with
      | .error why => (S3 t st 24 pos hd f fr wt none (sn.add 16)).stick why
      | .ok (false, sn') => S3 t st 24 pos hd f fr wt (some false) sn'
      | .ok (true, sn') => S3 t st 26 (pos + 1) hd f fr wt none sn' := rfl
theorem l29 : (S3 t st 29 pos hd f fr wt none sn).step = if pos ≥ t.size then S3 t st 29 pos hd f fr wt (some false) (sn.add 16)
    else match (Except.ok (t.getD pos 0 == 10, sn.add 16) : Except String (Bool × Seen)) with
      | .error why => (S3 t st 29 pos hd f fr wt none (sn.add 16)).stick why
      | .ok (false, sn') => S3 t st 29 pos hd f fr wt (some false) sn'
      | .ok (true, sn') => S3 t st 31 (pos + 1) hd f fr wt none sn' := rfl
theorem j16 : (S3 t st 16 pos hd f fr wt none sn).step = S3 t st 35 pos hd f fr wt none (sn.add 15) := rfl
theorem j21 : (S3 t st 21 pos hd f fr wt none sn).step = S3 t st 35 pos hd f fr wt none (sn.add 15) := rfl
theorem j32 : (S3 t st 32 pos hd f fr wt none sn).step = S3 t st 35 pos hd f fr wt none (sn.add 15) := rfl
theorem s35 : ∀ f, (S3 t st 35 pos hd f fr wt none sn).step = S3 t st 35 pos pos f fr wt (some true) (sn.add 1)
  | false => rfl
  | true => rfl
theorem a26 (hw : ¬ wt + 1 + 0 > 16777216) : (S3 t st 26 pos hd f fr wt none sn).step = S3 t st 29 pos pos false (fL pos f :: fr) (wt + 1) none (sn.add 5) := by
  have : (S3 t st 26 pos hd f fr wt none sn).step = if wt + 1 + 0 > 16777216 then _ else S3 t st 29 pos pos false (fL pos f :: fr) (wt + 1) none (sn.add 5) := rfl
  rw [this, if_neg hw]
/-- a branch that took -/
theorem rB_yes (a s pc : Nat) (g : Bool) : (S3 t st pc pos hd f (fB a s g :: fr) (wt + 1) (some true) sn).step = S3 t st a s hd g fr wt (some true) sn := rfl
theorem rS_yes (s pc : Nat) (g : Bool) : (S3 t st pc pos hd f [fS s g] 1 (some true) sn).step = S3 t st 10 s hd g [] 0 (some true) sn := rfl
theorem fin_yes (pc : Nat) : (S3 t st pc pos hd f [] 0 (some true) sn).step = { S3 t st pc pos hd f [] 0 (some true) sn with outcome := some .matched } := rfl
theorem rB_no1 (s pc : Nat) (g : Bool) (hw : ¬ wt + 1 + 0 > 16777216) : (S3 t st pc pos hd f (fB 11 s g :: fr) (wt + 1) (some false) sn).step = S3 t st 19 s s g (fB 18 s g :: fr) (wt + 1) none sn := by
  have : (S3 t st pc pos hd f (fB 11 s g :: fr) (wt + 1) (some false) sn).step = if wt + 1 + 0 > 16777216 then _ else S3 t st 19 s s g (fB 18 s g :: fr) (wt + 1) none sn := rfl
  rw [this, if_neg hw]
theorem rB_no2 (s pc : Nat) (g : Bool) (hw : ¬ wt + 1 + 0 > 16777216) : (S3 t st pc pos hd f (fB 18 s g :: fr) (wt + 1) (some false) sn).step = S3 t st 24 s s g (fB 23 s g :: fr) (wt + 1) none sn := by
  have : (S3 t st pc pos hd f (fB 18 s g :: fr) (wt + 1) (some false) sn).step = if wt + 1 + 0 > 16777216 then _ else S3 t st 24 s s g (fB 23 s g :: fr) (wt + 1) none sn := rfl
  rw [this, if_neg hw]
theorem rL_no (s pc : Nat) (g : Bool) : (S3 t st pc pos hd f (fL s g :: fr) (wt + 1) (some false) sn).step = S3 t st 32 s hd g fr wt none sn := rfl
end

theorem lt1 : ¬ 1 + 1 + 0 > 16777216 := by decide
theorem lt2 : ¬ 1 + 1 + 1 + 0 > 16777216 := by decide

theorem tail3 (t : Array Nat) (s a pos hd : Nat) (f : Bool) (sn : Seen) : ∃ m, iter 4 (S3 t s 35 pos hd f [fB a s f, fS s f] 2 none sn) = m ∧ m.outcome = some .matched ∧ m.start = s ∧ m.handed = pos := by
  refine ⟨_, rfl, ?_⟩
  show (S3 t s 35 pos hd f [fB a s f, fS s f] 2 none sn).step.step.step.step.outcome = _ ∧ (S3 t s 35 pos hd f [fB a s f, fS s f] 2 none sn).step.step.step.step.start = _ ∧ (S3 t s 35 pos hd f [fB a s f, fS s f] 2 none sn).step.step.step.step.handed = _
  rw [s35, rB_yes, rS_yes, fin_yes]
  exact ⟨rfl, rfl, rfl⟩

theorem ends_tail {m : M} {k : Nat} {t : Array Nat} {s a pos hd : Nat} {f : Bool} {sn : Seen} (h : iter k m = S3 t s 35 pos hd f [fB a s f, fS s f] 2 none sn) : Ends m (k + 4) (some (s, pos)) := by
  obtain ⟨m', e, h1, h2, h3⟩ := tail3 t s a pos hd f sn
  refine Ends.step h ?_
  unfold Ends
  rw [e]
  exact ⟨h1, h2, h3⟩

theorem run3 (t : Array Nat) (s : Nat) (f : Bool) (sn : Seen) (h : isEnd (t.getD s 0) = true) : ∃ n, n ≤ 20 ∧ Ends (C3 t s f sn) n (some (s, s + len3 t s)) := by
  have hs := isEnd_lt h
  have e0 : iter 1 (C3 t s f sn) = S3 t s 12 s s f [fB 11 s f, fS s f] 2 none (sn.add 7) := b10 t s s s f [fS s f] 1 sn lt1
  cases h13 : (t.getD s 0 == 13) with
  | true =>
    have h10 : (t.getD s 0 == 10) = false := by
      rw [beq_iff_eq] at h13
      rw [h13]; rfl
    have e1 : iter 1 (S3 t s 12 s s f [fB 11 s f, fS s f] 2 none (sn.add 7)) = S3 t s 14 (s + 1) s f [fB 11 s f, fS s f] 2 none ((sn.add 7).add 16) := by
      show (S3 t s 12 s s f [fB 11 s f, fS s f] 2 none (sn.add 7)).step = _
      rw [l12, if_neg (by omega), h13]
    by_cases hn : (t.getD (s + 1) 0 == 10) = true
    · have hs1 : s + 1 < t.size := isEnd_lt (by unfold isEnd; rw [hn]; rfl)
      have e2 : iter 2 (S3 t s 14 (s + 1) s f [fB 11 s f, fS s f] 2 none ((sn.add 7).add 16)) = S3 t s 35 (s + 1 + 1) s f [fB 11 s f, fS s f] 2 none ((((sn.add 7).add 16).add 16).add 15) := by
        show (S3 t s 14 (s + 1) s f [fB 11 s f, fS s f] 2 none ((sn.add 7).add 16)).step.step = _
        rw [l14, if_neg (by omega), hn]
        exact j16 ..
      have hl : len3 t s = 2 := by unfold len3; rw [h13, hn]; rfl
      rw [hl]
      exact ⟨1 + (1 + (2 + 4)), by omega, Ends.step e0 (Ends.step e1 (ends_tail e2))⟩
    · have hl : len3 t s = 1 := by
        unfold len3
        rw [h13, Bool.true_and, if_neg hn]
      have hn' : (t.getD (s + 1) 0 == 10) = false := by simpa using hn
      have e2 : iter 1 (S3 t s 14 (s + 1) s f [fB 11 s f, fS s f] 2 none ((sn.add 7).add 16)) = S3 t s 14 (s + 1) s f [fB 11 s f, fS s f] 2 (some false) (((sn.add 7).add 16).add 16) := by
        show (S3 t s 14 (s + 1) s f [fB 11 s f, fS s f] 2 none ((sn.add 7).add 16)).step = _
        rw [l14, hn']
        dsimp only
        rw [ite_self]
      have e3 : iter 1 (S3 t s 14 (s + 1) s f [fB 11 s f, fS s f] 2 (some false) (((sn.add 7).add 16).add 16)) = S3 t s 19 s s f [fB 18 s f, fS s f] 2 none (((sn.add 7).add 16).add 16) := rB_no1 t s (s + 1) s f [fS s f] 1 _ s 14 f lt1
      have e4 : ∀ sn, iter 2 (S3 t s 19 s s f [fB 18 s f, fS s f] 2 none sn) = S3 t s 24 s s f [fB 23 s f, fS s f] 2 none (sn.add 16) := by
        intro sn
        show (S3 t s 19 s s f [fB 18 s f, fS s f] 2 none sn).step.step = _
        rw [l19, if_neg (by omega), h10]
        exact rB_no2 t s s s f [fS s f] 1 _ s 19 f lt1
      have e5 : ∀ sn, iter 2 (S3 t s 24 s s f [fB 23 s f, fS s f] 2 none sn) = S3 t s 29 (s + 1) (s + 1) false [fL (s + 1) f, fB 23 s f, fS s f] 3 none ((sn.add 16).add 5) := by
        intro sn
        show (S3 t s 24 s s f [fB 23 s f, fS s f] 2 none sn).step.step = _
        rw [l24, if_neg (by omega), h13]
        exact a26 t s (s + 1) s f _ 2 _ lt2
      have e6 : ∀ sn, iter 3 (S3 t s 29 (s + 1) (s + 1) false [fL (s + 1) f, fB 23 s f, fS s f] 3 none sn) = S3 t s 35 (s + 1) (s + 1) f [fB 23 s f, fS s f] 2 none ((sn.add 16).add 15) := by
        intro sn
        show (S3 t s 29 (s + 1) (s + 1) false [fL (s + 1) f, fB 23 s f, fS s f] 3 none sn).step.step.step = _
        rw [l29, hn']
        dsimp only
        rw [ite_self]
        refine (congrArg M.step (rL_no t s (s + 1) (s + 1) false [fB 23 s f, fS s f] 2 _ (s + 1) 29 f)).trans ?_
        exact j32 ..
      rw [hl]
      exact ⟨1 + (1 + (1 + (1 + (2 + (2 + (3 + 4)))))), by omega, Ends.step e0 (Ends.step e1 (Ends.step e2 (Ends.step e3 (Ends.step (e4 _) (Ends.step (e5 _) (ends_tail (e6 _)))))))⟩
  | false =>
    have h10 : (t.getD s 0 == 10) = true := by
      unfold isEnd at h
      rw [h13, Bool.or_false] at h
      exact h
    have hl : len3 t s = 1 := by
      unfold len3
      rw [h13, Bool.false_and]
      rfl
    have e1 : iter 2 (S3 t s 12 s s f [fB 11 s f, fS s f] 2 none (sn.add 7)) = S3 t s 19 s s f [fB 18 s f, fS s f] 2 none ((sn.add 7).add 16) := by
      show (S3 t s 12 s s f [fB 11 s f, fS s f] 2 none (sn.add 7)).step.step = _
      rw [l12, if_neg (by omega), h13]
      exact rB_no1 t s s s f [fS s f] 1 _ s 12 f lt1
    have e2 : ∀ sn, iter 2 (S3 t s 19 s s f [fB 18 s f, fS s f] 2 none sn) = S3 t s 35 (s + 1) s f [fB 18 s f, fS s f] 2 none ((sn.add 16).add 15) := by
      intro sn
      show (S3 t s 19 s s f [fB 18 s f, fS s f] 2 none sn).step.step = _
      rw [l19, if_neg (by omega), h10]
      exact j21 ..
    rw [hl]
    exact ⟨1 + (2 + (2 + 4)), by omega, Ends.step e0 (Ends.step e1 (ends_tail (e2 _)))⟩

theorem find3_isEnd {t : Array Nat} : ∀ {k s b : Nat}, find3 t k s = some b → isEnd (t.getD b 0) = true ∧ s ≤ b
  | 0, _, _, h => nomatch h
  | k + 1, s, b, h => by
    unfold find3 at h
    split at h
    · cases h; exact ⟨by assumption, Nat.le_refl _⟩
    · have := find3_isEnd h; exact ⟨this.1, by omega⟩

theorem search3 (t : Array Nat) (p : Nat) (hp : p ≤ t.size) : ∃ n, n ≤ 3 * t.size + 20 ∧ Ends (forSearch code3 t 0 p t.size false) n (next3 t (t.size + 1 - p) p) := by
  rw [search3_eq]
  by_cases h : t.size - p < 1
  · rw [if_pos (by simp [h])]
    refine ⟨1, by omega, ?_⟩
    have hq : t.size + 1 - p = 1 := by omega
    have hh : isEnd (t.getD p 0) = false := by
      cases q : isEnd (t.getD p 0) with
      | false => rfl
      | true => exact absurd (isEnd_lt q) (by omega)
    have hn : next3 t (t.size + 1 - p) p = none := by
      rw [hq]
      unfold next3 find3
      rw [if_neg (by rw [hh]; exact Bool.false_ne_true)]
      rfl
    rw [hn]
    exact rfl
  · rw [if_neg (by simp; omega)]
    obtain ⟨sn', e⟩ := admitted3 (S3 t p 10 p p true [] 0 none (({} : Seen).add 14)) rfl (t.size - p) p (({} : Seen).add 14) (by show p + (t.size - p) = t.size; omega) rfl
    rw [show t.size + 1 - p = t.size - p + 1 by omega, e]
    show ∃ n, n ≤ 3 * t.size + 20 ∧ Ends (match (Except.ok (find3 t (t.size - p + 1) p, sn') : Except String (Option Nat × Seen)) with
      | .ok (some s, seen) => C3 t s true seen
      | .ok (none, seen) => S3 t p 10 p p true [] 0 (some false) seen
      | .error why => (S3 t p 10 p p true [] 0 none (({} : Seen).add 14)).stick why) n (next3 t (t.size - p + 1) p)
    unfold next3
    cases hf : find3 t (t.size - p + 1) p with
    | none => exact ⟨1, by omega, rfl⟩
    | some b =>
      obtain ⟨n, hn, en⟩ := run3 t b true sn' (find3_isEnd hf).1
      exact ⟨n, by omega, en⟩

end Mine
end

section
open PySem PySem.W PyProof.Rows
open PySem.Builtin PySem.Builtin.Re
set_option Elab.async false
set_option maxRecDepth 100000
namespace Mine

theorem slot_sub : Slot "re.Pattern" "sub" "re.Pattern.sub" :=
  .of (owner := "re.Pattern") (n := "sub") (by rw [typeLookup_type, builtinLookup_eq_fast]; kernel_rfl) (by decide +kernel) (by decide +kernel) (by decide +kernel)
    (by first | exact .inl (by decide +kernel) | exact .inr (by decide +kernel)) (by rw [isSubtype_type]; kernel_rfl)
theorem type_sub : typeOf (.builtin "re.Pattern.sub") = pure (.type "method_descriptor") := by show builtinType _ = _; rw [builtinType_eq_fast]; kernel_rfl
theorem entry_sub : entryFor table "re.Pattern.sub" = some Builtin.«re.Pattern.sub» := entryFor_of_tree (by kernel_rfl)
theorem entry_loop : entryFor table "re.Pattern.sub.loop" = some Builtin.«re.Pattern.sub.loop» := entryFor_of_tree (by kernel_rfl)
theorem plain_loop : plainId "re.Pattern.sub.loop" = true := by decide +kernel
theorem args_sub (a b c : Value) : argsOk "re.Pattern.sub" ⟨[a, b, c], []⟩ := by
  unfold argsOk
  have e : Manifest.owners.lookup (String.ofList ['n', 'r', 'e', 't', 't', 'a', 'P', '.', 'e', 'r'].reverse) = some Manifest.sig_re_Pattern := by kernel_rfl
  rw [signature?_of (id := "re.Pattern.sub") (n := ['b', 'u', 's']) (o := ['n', 'r', 'e', 't', 't', 'a', 'P', '.', 'e', 'r']) (by kernel_rfl) e]
  kernel_rfl
theorem attrs_pat : PlainAttrs "re.Pattern" := ⟨⟨"object.__getattribute__", by rw [typeLookup_type, builtinLookup_eq_fast]; kernel_rfl, by decide +kernel⟩, by rw [typeLookup_type, builtinLookup_eq_fast]; kernel_rfl⟩
theorem nocall_str : typeLookup (.type "str") "__call__" = pure none := by rw [typeLookup_type, builtinLookup_eq_fast]; kernel_rfl
theorem nocall_bytes : typeLookup (.type "bytes") "__call__" = pure none := by rw [typeLookup_type, builtinLookup_eq_fast]; kernel_rfl
theorem isi_bytes : isSubtype (.type "bytes") (.type "bytes") = pure true := F.sub_bytes_bytes

section
variable {M : Model} {A : Around} {E : Value → Shared → Prop} {s : Shared}
theorem wp_drive {Q : Sre.M → Shared → Prop} : ∀ {turns n : Nat} {m : Sre.M}, (iter n m).outcome.isSome = true → n ≤ 4 * turns → 0 < turns → Q (iter n m) s → wpAny M A (reDrive turns m) Q E s
  | 0, _, _, _, _, h0, _ => absurd h0 (Nat.lt_irrefl _)
  | k + 1, n, m, hs, hn, _, q => by
    unfold reDrive
    dsimp only
    rw [runFor_eq]
    by_cases h4 : n ≤ 4
    · have e : iter reTurnSteps m = iter n m := by
        show iter 4 m = _
        rw [show 4 = n + (4 - n) by omega, iter_add, iter_done hs]
      rw [e, if_pos hs]
      exact wpAny_pure q
    · by_cases hm : (iter 4 m).outcome.isSome = true
      · have e : iter n m = iter 4 m := by
          rw [show n = 4 + (n - 4) by omega, iter_add, iter_done hm]
        have e' : iter reTurnSteps m = iter 4 m := rfl
        rw [e', if_pos hm]
        rw [e] at q
        exact wpAny_pure q
      · have e' : iter reTurnSteps m = iter 4 m := rfl
        rw [e', if_neg hm]
        refine wpAny_bind (wpAny_rule ?_)
        have e : iter n m = iter (n - 4) (iter 4 m) := by rw [← iter_add]; congr 1; omega
        rw [e] at hs q
        exact wp_drive (turns := k) hs (by omega) (by omega) q

theorem wp_runToEnd {m : Sre.M} {n : Nat} {r : Option (Nat × Nat)} {Q : Option Sre.M → Shared → Prop} (h : Ends m n r) (hn : n ≤ 2 ^ 40)
    (q0 : r = none → Q none s) (q1 : ∀ b e, r = some (b, e) → ∀ m' : Sre.M, m'.start = b → m'.handed = e → Q (some m') s) : wpAny M A (reRunToEnd m) Q E s := by
  unfold reRunToEnd
  refine wpAny_bind (wp_drive h.isSome (Nat.le_trans hn (by decide)) (by decide) ?_)
  refine wpAny_bind ?_
  refine wpAny_forIn_list _ (fun _ _ s' => s' = s) _ ?_ ?_ _ _ rfl
  · intro x rest b s' hs'
    subst hs'
    split
    · exact wpAny_bind (wpAny_rule (wpAny_pure rfl))
    · exact wpAny_pure rfl
  · intro b s' hs'
    subst hs'
    cases r with
    | none =>
      have e : (iter n m).outcome = some .failed := h
      rw [e]
      exact wpAny_pure (q0 rfl)
    | some x =>
      obtain ⟨x1, x2⟩ := x
      obtain ⟨e, e1, e2⟩ := (h : _ ∧ _ ∧ _)
      rw [e]
      exact wpAny_pure (q1 _ _ rfl _ e1 e2)
end
end Mine
end

section
open PySem PySem.W PyProof.Rows
open PySem.Builtin PySem.Builtin.Bytes
set_option Elab.async false
set_option maxRecDepth 100000
namespace Mine

theorem slot_bjoin : Slot "bytes" "join" "bytes.join" :=
  .of (owner := "bytes") (n := "join") (by rw [typeLookup_type, builtinLookup_eq_fast]; kernel_rfl) (by decide +kernel) (by decide +kernel) (by decide +kernel)
    (by first | exact .inl (by decide +kernel) | exact .inr (by decide +kernel)) (by rw [isSubtype_type]; kernel_rfl)
theorem entry_bjoin : entryFor table "bytes.join" = some Builtin.«bytes.join» := entryFor_of_tree (by kernel_rfl)
theorem args_bjoin (a b : Value) : argsOk "bytes.join" ⟨[a, b], []⟩ := by
  unfold argsOk
  have e : Manifest.owners.lookup (String.ofList ['s', 'e', 't', 'y', 'b'].reverse) = some Manifest.sig_bytes := by kernel_rfl
  rw [signature?_of (id := "bytes.join") (n := ['n', 'i', 'o', 'j']) (o := ['s', 'e', 't', 'y', 'b']) (by kernel_rfl) e]
  kernel_rfl

section
variable {α : Type} {M : Model} {A : Around} {E : Value → Shared → Prop} {s : Shared} {Q : α → Shared → Prop} {a b : Sem α} {c : Prop} [Decidable c]
theorem wif (hc : c) (h : wpAny M A a Q E s) : wpAny M A (if c then a else b) Q E s := by rw [if_pos hc]; exact h
theorem wnif (hc : ¬ c) (h : wpAny M A b Q E s) : wpAny M A (if c then a else b) Q E s := by rw [if_neg hc]; exact h
end
theorem wp_letGo {M : Model} {A : Around} {E : Value → Shared → Prop} {s : Shared} {Q : Unit → Shared → Prop} (h : Q () s) : ∀ (l k : List Value), wpAny M A (letGo l k) Q E s
  | [], _ => wpAny_pure h
  | _ :: r, k => by
    unfold letGo
    exact wpAny_bind (wpAny_holding (wpAny_point (wp_letGo h r k)))
theorem wp_joinLetGo {M : Model} {A : Around} {E : Value → Shared → Prop} {s : Shared} {Q : Unit → Shared → Prop} (h : Q () s) : ∀ (l : List (Value × Option Value)) (k : List Value), (∀ p ∈ l, p.2 = none) → wpAny M A (joinLetGo l k) Q E s
  | [], _, _ => wpAny_pure h
  | (x, u) :: r, k, hn => by
    have e : u = none := hn _ (.head _)
    subst e
    unfold joinLetGo
    exact wpAny_bind (wp_letGo (wp_joinLetGo h r k fun p hp => hn p (.tail _ hp)) _ _)

theorem take_bytes {id : String} {b : Array UInt8} {t : Tok} : takeBufferQuiet? id (.bytes b t) 0 = pure (some (b, none)) := by
  unfold takeBufferQuiet? takeBuffer?
  rw [KBy.special_eq KBy.look_buffer, KBy.own_buffer]
  kernel_rfl
section
variable {prog : Program} {w : World} {A : Around} {E : Value → Shared → Prop} {s : Shared}
def bvals (l : List (Array UInt8 × Tok)) : List Value := l.map fun p => .bytes p.1 p.2

theorem foldl_sizes_from (l : List (Array UInt8)) : ∀ k : Nat, l.foldl (fun (x1 : Nat) (x2 : Array UInt8) => x1 + x2.size) k = k + (l.map (·.size)).sum := by
  induction l with
  | nil => intro k; rfl
  | cons a r ih => intro k; rw [List.foldl_cons, ih, List.map_cons, List.sum_cons, Nat.add_assoc]
theorem foldl_sizes (l : List (Array UInt8)) : l.foldl (fun (x1 : Nat) (x2 : Array UInt8) => x1 + x2.size) 0 = (l.map (·.size)).sum := by
  rw [foldl_sizes_from, Nat.zero_add]

theorem joined_from (l : List (Array UInt8)) : ∀ (k : Nat) (acc : Array UInt8), (l.zipIdx k).foldl (fun out (x : Array UInt8 × Nat) => (if x.2 > 0 then out ++ (#[] : Array UInt8) else out) ++ x.1) acc = acc ++ (l.map (·.toList)).flatten.toArray := by
  induction l with
  | nil => intro k acc; simp
  | cons a r ih =>
    intro k acc
    rw [List.zipIdx_cons, List.foldl_cons, ih]
    apply Array.toList_inj.mp
    simp
theorem joined_nil (l : List (Array UInt8)) : joined #[] l = (l.map (·.toList)).flatten.toArray := by
  have := joined_from l 0 #[]
  rw [Array.empty_append] at this
  exact this

theorem bjoin_tree {l : Addr} {o : Obj} {n : Nat} {ps : List (Array UInt8 × Tok)} {t : Tok} {Q : Value → Shared → Prop}
    (ho : s.heap.get? l = some o) (hc : o.cls = .type "list") (hd : o.data = .seq (bvals ps).toArray n) (hsz : ((ps.map (·.1)).map (·.size)).sum ≤ 16777216)
    (h : ∀ t' k, Q (.bytes (joined #[] (ps.map (·.1))) t') { s with toks := k }) :
    wpAny (model prog w) A (call (.builtin "bytes.join") [.bytes #[] t, .ref l]) Q E s := by
  refine wpAny_call_entry slot_bjoin (typeIs_bytes s #[] t) entry_bjoin ?_ (args_bjoin _ _)
  unfold Builtin.«bytes.join» joinM
  refine wpAny_bind (wpAny_of_eq (a := (Value.bytes #[] t, Value.ref l)) rfl ?_)
  refine wif rfl ?_
  refine wpAny_bind (m := joinItems (.ref l)) ?_
  unfold joinItems
  refine wpAny_bind (wpAny_typeOf (T := "list") ⟨o, ho, hc⟩ ?_)
  refine wif rfl ?_
  refine wpAny_pure ?_
  refine wpAny_bind (wpAny_seqItems ho hd ?_)
  generalize hi : (bvals ps).toArray = items
  rw [hi] at hd
  refine wif rfl ?_
  have hone : ∀ x, items = #[x] → ∃ p, ps = [p] ∧ x = .bytes p.1 p.2 := by
    intro x hx
    match ps, hi with
    | [], hi => exact absurd (congrArg Array.size (hi.trans hx)) (by simp [bvals])
    | [p], hi => exact ⟨p, rfl, by simpa [bvals] using (hi.trans hx).symm⟩
    | p :: q :: r, hi => exact absurd (congrArg Array.size (hi.trans hx)) (by simp [bvals])
  obtain ⟨il⟩ := items
  match il with
  | [x] =>
    obtain ⟨p, hp, hx⟩ := hone x rfl
    subst hx hp
    refine wpAny_bind (wpAny_typeOf (typeIs_bytes s _ _) ?_)
    refine wif rfl ?_
    refine wpAny_bind (wpAny_rule (wpAny_pure ⟨_, rfl, ?_⟩))
    have := h p.2 s.toks
    rw [joined_nil] at this
    have e : (List.map (·.toList) (List.map (·.1) [p])).flatten.toArray = p.1 := by simp
    rw [e] at this
    exact this
  | [] =>
    refine wpAny_bind ?_
    rw [Std.Legacy.Range.forIn_eq_forIn_range']
    refine wpAny_forIn_list _ (fun rest st s' => s' = s ∧ ∃ done todo, ps = done ++ todo ∧ rest = List.range' done.length todo.length ∧ st.1 = (done.map (·.1)).toArray ∧ st.2 = done.map (fun p => (Value.bytes p.1 p.2, none))) _ ?_ ?_ _ _ ?_
    · intro i rest st s' hI
      obtain ⟨rfl, done, todo, hp, hr, h1, h2⟩ := hI
      obtain ⟨pa, tk⟩ := st
      dsimp only at h1 h2
      subst h1 h2
      cases todo with
      | nil => exact absurd hr (by simp)
      | cons x todo =>
        obtain ⟨xb, xt⟩ := x
        rw [List.length_cons, List.range'_succ] at hr
        obtain ⟨rfl, rfl⟩ := List.cons.inj hr
        have hx : (⟨[]⟩ : Array Value).getD done.length .none = .bytes xb xt := by
          rw [← hi, hp]
          simp [bvals, Array.getD]
        refine wpAny_bind (wpAny_seqItems ho hd ?_)
        dsimp only
        rw [hx]
        refine wnif ?_ ?_
        · rw [Bool.or_eq_true, not_or]
          refine ⟨by decide, ?_⟩
          simp [Value.onHeap]
        refine wpAny_bind (wpAny_holding (wpAny_of_eq take_bytes ?_))
        refine wpAny_bind (wpAny_seqItems ho hd ?_)
        refine wnif (by simp) ?_
        refine wpAny_pure ⟨rfl, done ++ [(xb, xt)], todo, by rw [hp]; simp, by simp, by simp, by simp⟩
    · intro st s' hI
      obtain ⟨rfl, done, todo, hp, hr, h1, h2⟩ := hI
      cases todo with
      | cons x todo => exact absurd hr (by simp)
      | nil =>
        rw [List.append_nil] at hp
        subst hp
        refine wpAny_bind (wpAny_of_eq (a := (#[] : Array UInt8)) rfl ?_)
        refine wnif ?_ ?_
        · rw [h1]
          have e : Array.foldl (fun (x1 : Nat) (x2 : Array UInt8) => x1 + x2.size) ((#[] : Array UInt8).size * ((List.map (·.1) ps).toArray.size - 1)) (List.map (·.1) ps).toArray = ((ps.map (·.1)).map (·.size)).sum := by
            rw [Array.size_empty, Nat.zero_mul, List.foldl_toArray]
            exact foldl_sizes _
          rw [e, KBy.tooLong_not hsz]
          exact Bool.false_ne_true
        have hj : (joined #[] (List.map (·.1) ps)).size ≤ sizeLine := by
          rw [joined_nil, sizeLine_eq, List.size_toArray, List.length_flatten, List.map_map]
          rw [List.map_map] at hsz ⊢
          exact hsz
        refine wpAny_bind (wpAny_mkBytes ?_ (by rw [h1]; exact hj))
        refine wpAny_bind (wpAny_holding (wpAny_point ?_))
        refine wpAny_bind (wp_joinLetGo ?_ _ _ ?_)
        · refine wpAny_pure ⟨_, rfl, ?_⟩
          rw [h1]
          exact h _ _
        · rw [h2]
          intro p hp
          obtain ⟨q, _, rfl⟩ := List.mem_map.mp hp
          rfl
    · refine ⟨rfl, [], ps, rfl, ?_, rfl, rfl⟩
      rw [← hi]
      simp [bvals]
  | a :: b :: r =>
    refine wpAny_bind ?_
    rw [Std.Legacy.Range.forIn_eq_forIn_range']
    refine wpAny_forIn_list _ (fun rest st s' => s' = s ∧ ∃ done todo, ps = done ++ todo ∧ rest = List.range' done.length todo.length ∧ st.1 = (done.map (·.1)).toArray ∧ st.2 = done.map (fun p => (Value.bytes p.1 p.2, none))) _ ?_ ?_ _ _ ?_
    · intro i rest st s' hI
      obtain ⟨rfl, done, todo, hp, hr, h1, h2⟩ := hI
      obtain ⟨pa, tk⟩ := st
      dsimp only at h1 h2
      subst h1 h2
      cases todo with
      | nil => exact absurd hr (by simp)
      | cons x todo =>
        obtain ⟨xb, xt⟩ := x
        rw [List.length_cons, List.range'_succ] at hr
        obtain ⟨rfl, rfl⟩ := List.cons.inj hr
        have hx : (⟨a :: b :: r⟩ : Array Value).getD done.length .none = .bytes xb xt := by
          rw [← hi, hp]
          simp [bvals, Array.getD]
        refine wpAny_bind (wpAny_seqItems ho hd ?_)
        dsimp only
        rw [hx]
        refine wnif ?_ ?_
        · rw [Bool.or_eq_true, not_or]
          refine ⟨by decide, ?_⟩
          simp [Value.onHeap]
        refine wpAny_bind (wpAny_holding (wpAny_of_eq take_bytes ?_))
        refine wpAny_bind (wpAny_seqItems ho hd ?_)
        refine wnif (by simp) ?_
        refine wpAny_pure ⟨rfl, done ++ [(xb, xt)], todo, by rw [hp]; simp, by simp, by simp, by simp⟩
    · intro st s' hI
      obtain ⟨rfl, done, todo, hp, hr, h1, h2⟩ := hI
      cases todo with
      | cons x todo => exact absurd hr (by simp)
      | nil =>
        rw [List.append_nil] at hp
        subst hp
        refine wpAny_bind (wpAny_of_eq (a := (#[] : Array UInt8)) rfl ?_)
        refine wnif ?_ ?_
        · rw [h1]
          have e : Array.foldl (fun (x1 : Nat) (x2 : Array UInt8) => x1 + x2.size) ((#[] : Array UInt8).size * ((List.map (·.1) ps).toArray.size - 1)) (List.map (·.1) ps).toArray = ((ps.map (·.1)).map (·.size)).sum := by
            rw [Array.size_empty, Nat.zero_mul, List.foldl_toArray]
            exact foldl_sizes _
          rw [e, KBy.tooLong_not hsz]
          exact Bool.false_ne_true
        have hj : (joined #[] (List.map (·.1) ps)).size ≤ sizeLine := by
          rw [joined_nil, sizeLine_eq, List.size_toArray, List.length_flatten, List.map_map]
          rw [List.map_map] at hsz ⊢
          exact hsz
        refine wpAny_bind (wpAny_mkBytes ?_ (by rw [h1]; exact hj))
        refine wpAny_bind (wpAny_holding (wpAny_point ?_))
        refine wpAny_bind (wp_joinLetGo ?_ _ _ ?_)
        · refine wpAny_pure ⟨_, rfl, ?_⟩
          rw [h1]
          exact h _ _
        · rw [h2]
          intro p hp
          obtain ⟨q, _, rfl⟩ := List.mem_map.mp hp
          rfl
    · refine ⟨rfl, [], ps, rfl, ?_, rfl, rfl⟩
      rw [← hi]
      simp [bvals]
end
end Mine
end

section
open PySem PySem.W PyProof.Rows
open PySem.Builtin PySem.Builtin.Re
set_option Elab.async false
set_option maxRecDepth 100000
namespace Mine

/-- a text, as a str (0) or as bytes (1) -/
inductive TextIs : Value → Nat → Array Nat → Prop
  | str (t : Array Nat) (tk : Tok) : TextIs (.str ⟨t⟩ tk) 0 t
  | bytes (b : Array UInt8) (tk : Tok) : TextIs (.bytes b tk) 1 (b.map (·.toNat))

def val (k : Nat) (xs : Array Nat) (t : Tok) : Value := if k == 0 then .str ⟨xs⟩ t else .bytes (xs.map (·.toUInt8)) t
theorem val_ne_none {k : Nat} {xs : Array Nat} {t : Tok} : (val k xs t != .none) = true := by
  unfold val
  split <;> rfl
theorem TextIs.kind {v : Value} {k : Nat} {t : Array Nat} (h : TextIs v k t) : k = 0 ∨ k = 1 := by cases h <;> simp
theorem TextIs.val {v : Value} {k : Nat} {t : Array Nat} (h : TextIs v k t) : ∃ tk, v = val k t tk := by
  cases h with
  | str t tk => exact ⟨tk, rfl⟩
  | bytes b tk =>
    refine ⟨tk, ?_⟩
    show Value.bytes b tk = .bytes ((b.map (·.toNat)).map (·.toUInt8)) tk
    rw [Array.map_map]
    congr 1
    apply Array.toList_inj.mp
    rw [Array.toList_map]
    conv => lhs; rw [← List.map_id b.toList]
    apply List.map_congr_left
    intro a _
    simp

theorem textOf {v : Value} {k : Nat} {t : Array Nat} (h : TextIs v k t) : reTextOf v = pure (t, k) := by
  cases h with
  | str t tk => rfl
  | bytes b tk =>
    unfold reTextOf
    have e : asStr? (.bytes b tk) = pure none := rfl
    rw [e, KBy.quiet_eq]
    rfl

structure PatAt (h : Heap) (P : Addr) (code : Array Nat) (k : Nat) : Prop where
  ex : ∃ o C oc vs items n, h.get? P = some o ∧ o.cls = .type "re.Pattern" ∧ o.dict = none ∧ o.data = .fields vs ∧ vs.getD 2 .none = .int 0 0 ∧ vs.getD 5 .none = .ref C ∧ vs.getD 6 .none = .int k 0 ∧
    h.get? C = some oc ∧ oc.data = .seq items n ∧ (items.map reRawOf).map (·.toNat) = code
theorem PatAt.keeps {h h' : Heap} {P : Addr} {code : Array Nat} {k : Nat} (x : PatAt h P code k) (hk : ∀ b o, h.get? b = some o → h'.get? b = some o) : PatAt h' P code k := by
  obtain ⟨o, C, oc, vs, items, n, h1, h2, h3, h4, h5, h6, h7, h8, h9, h10⟩ := x.ex
  exact ⟨o, C, oc, vs, items, n, hk _ _ h1, h2, h3, h4, h5, h6, h7, hk _ _ h8, h9, h10⟩

section
variable {M : Model} {A : Around} {E : Value → Shared → Prop} {s : Shared}
theorem wp_whole {P : Addr} {code t : Array Nat} {k : Nat} {v : Value} {Q : ReTarget → Shared → Prop} (hp : PatAt s.heap P code k) (ht : TextIs v k t)
    (q : Q { pattern := .ref P, string := v, code := code, text := t, kind := k, groups := 0, pos := 0, lim := t.size } s) : wpAny M A (reWholeTarget (.ref P) v) Q E s := by
  obtain ⟨o, C, oc, vs, items, n, h1, h2, h3, h4, h5, h6, h7, h8, h9, h10⟩ := hp.ex
  unfold reWholeTarget
  refine wpAny_bind (wpAny_fieldsOf h1 h4 ?_)
  rw [textOf ht]
  refine wpAny_bind (wpAny_pure ?_)
  dsimp only
  have hk : reRawNat (vs.getD 6 .none) = k := by rw [h7]; rfl
  rw [hk]
  refine wnif (by rcases ht.kind with rfl | rfl <;> decide) ?_
  refine wnif (by rcases ht.kind with rfl | rfl <;> decide) ?_
  refine wpAny_bind (m := reNoCollectionInside v k) ?_
  have hin : ∀ {Q : Unit → Shared → Prop}, Q () s → wpAny M A (reNoCollectionInside v k) Q E s := by
    intro Q' q'
    cases ht with
    | str t tk => exact wpAny_pure q'
    | bytes b tk =>
      unfold reNoCollectionInside
      refine wif rfl ?_
      refine wpAny_bind (wpAny_isInstance (typeIs_bytes s b tk) isi_bytes ?_)
      exact wpAny_pure q'
  refine hin ?_
  refine wpAny_bind (m := reRawItems (vs.getD 5 .none)) ?_
  unfold reRawItems
  rw [h6]
  refine wpAny_bind (wpAny_seqItems h8 h9 ?_)
  refine wpAny_pure ?_
  refine wpAny_pure ?_
  have hg : reRawNat (vs.getD 2 .none) = 0 := by rw [h5]; rfl
  rw [hg]
  show Q { pattern := .ref P, string := v, code := (items.map reRawOf).map (·.toNat), text := t, kind := k, groups := 0, pos := 0, lim := t.size } s
  rw [h10]
  exact q

theorem wp_slice {t : Array Nat} {k b e : Nat} {Q : Value → Shared → Prop} (hsz : t.size ≤ sizeLine) (q : Q (val k (t.extract b e) s.toks) { s with toks := s.toks + 1 }) : wpAny M A (reSlice t k b e) Q E s := by
  have h1 : (t.extract b e).size ≤ sizeLine := by rw [Array.size_extract]; omega
  unfold reSlice
  unfold val at q
  cases hk : (k == 0) with
  | true =>
    refine wif rfl ?_
    rw [hk, if_pos rfl] at q
    exact wpAny_mkStr q h1
  | false =>
    refine wnif Bool.false_ne_true ?_
    rw [hk, if_neg Bool.false_ne_true] at q
    exact wpAny_mkBytes q (by rw [Array.size_map]; exact h1)

theorem wp_literal {v : Value} {k : Nat} {t : Array Nat} {Q : Unit → Shared → Prop} (ht : TextIs v k t) (q : Q () s) : wpAny M A (reLiteralCannotBeTurned v) Q E s := by
  cases ht with
  | str t tk => exact wpAny_pure q
  | bytes b tk =>
    unfold reLiteralCannotBeTurned
    refine wpAny_bind (wpAny_of_eq (a := none) rfl ?_)
    refine wif rfl ?_
    refine wpAny_bind (wpAny_isInstance (typeIs_bytes s b tk) isi_bytes ?_)
    exact wpAny_pure q
end

def subFrom (next : Nat → Option (Nat × Nat)) (r t : Array Nat) : (fuel p : Nat) → Array Nat
  | 0, p => t.extract p t.size
  | fuel + 1, p => match next p with
    | none => t.extract p t.size
    | some (b, e) => t.extract p b ++ r ++ subFrom next r t fuel e

abbrev lobj (vs : Array Value) (n : Nat) : Obj := { cls := .type "list", data := .seq vs n }
def vals (k : Nat) (l : List (Array Nat × Tok)) : Array Value := (l.map fun p => val k p.1 p.2).toArray
def flat (l : List (Array Nat × Tok)) : Array Nat := (l.map fun p => p.1.toList).flatten.toArray

theorem vals_push (k : Nat) (l : List (Array Nat × Tok)) (x : Array Nat) (t : Tok) : (vals k l).push (val k x t) = vals k (l ++ [(x, t)]) := by
  unfold vals
  simp
theorem flat_push (l : List (Array Nat × Tok)) (x : Array Nat) (t : Tok) : flat (l ++ [(x, t)]) = flat l ++ x := by
  unfold flat
  apply Array.toList_inj.mp
  simp
theorem mapSeq_push (xs : Array Value) (n : Nat) (x : Value) : Obj.mapSeq (·.push x) (lobj xs n) = lobj (xs.push x) (n + 1) := by
  unfold Obj.mapSeq lobj
  simp

section
variable {prog : Program} {w : World} {A : Around} {E : Value → Shared → Prop} {s : Shared}

theorem strs_of (l : List (Array Nat × Tok)) : StrsAre (vals 0 l).toList (l.map fun p => (⟨p.1⟩ : Str)) := by
  unfold vals
  induction l with
  | nil => exact .nil
  | cons p r ih => exact .cons _ _ ih

theorem str_append (a b : Str) : (a ++ b).cps = a.cps ++ b.cps := rfl
theorem join_empty_toList : ∀ l : List (Array Nat × Tok), (Txt.join ⟨#[]⟩ (l.map fun p => (⟨p.1⟩ : Str))).cps = flat l := by
  intro l
  unfold Txt.join
  rw [StrLaws.glued_eq_join]
  induction l with
  | nil => rfl
  | cons p r ih =>
    rw [List.map_cons, PyProof.Rows.join_nil_cons, str_append, ih]
    unfold flat
    apply Array.toList_inj.mp
    simp
theorem flat_size (l : List (Array Nat × Tok)) : (flat l).size = (l.map fun p => p.1.size).sum := by
  unfold flat
  rw [List.size_toArray, List.length_flatten, List.map_map]
  rfl

theorem wp_join {k : Nat} {L : Addr} {l : List (Array Nat × Tok)} {n : Nat} {tk : Tok} {Q : Value → Shared → Prop} (hk : k = 0 ∨ k = 1) (ho : s.heap.get? L = some (lobj (vals k l) n)) (hsz : (flat l).size ≤ 16777216)
    (q : ∀ t' tk', Q (val k (flat l) t') { s with toks := tk' }) : wpAny (model prog w) A (call (.builtin (if k == 0 then "str.join" else "bytes.join")) [val k #[] tk, .ref L]) Q E s := by
  rw [flat_size] at hsz
  rcases hk with rfl | rfl
  · refine join_list (x := ⟨#[]⟩) (ys := l.map fun p => ⟨p.1⟩) ⟨_, ho, rfl, _, rfl⟩ (strs_of l) ?_ ?_
    · rw [List.map_map]
      show (l.map fun p => p.1.size).sum + _ * 0 ≤ _
      omega
    · intro t' k'
      have := q t' k'
      rw [← join_empty_toList] at this
      exact this
  · have hd : (lobj (vals 1 l) n).data = .seq (bvals (l.map fun p => (p.1.map (·.toUInt8), p.2))).toArray n := by
      show Data.seq (vals 1 l) n = _
      congr 1
      unfold vals bvals
      rw [List.map_map]
      rfl
    have hv : val 1 #[] tk = .bytes #[] tk := by
      show Value.bytes ((#[] : Array Nat).map (·.toUInt8)) tk = _
      rw [Array.map_empty]
    rw [hv]
    show wpAny (model prog w) A (call (.builtin "bytes.join") [.bytes #[] tk, .ref L]) Q E s
    refine bjoin_tree (ps := l.map fun p => (p.1.map (·.toUInt8), p.2)) ho rfl hd ?_ ?_
    · rw [List.map_map, List.map_map]
      have e : ((fun x : Array UInt8 => x.size) ∘ (fun x : Array UInt8 × Tok => x.1)) ∘ (fun p : Array Nat × Tok => (p.1.map (·.toUInt8), p.2)) = fun p => p.1.size := by
        funext p
        simp
      have e' := e
      simp only [Function.comp_def] at e' ⊢
      rw [e']
      exact hsz
    · intro t' k'
      have := q t' k'
      rw [joined_nil]
      have e : val 1 (flat l) t' = .bytes ((List.map (·.toList) (List.map (·.1) (List.map (fun (p : Array Nat × Tok) => (p.1.map (·.toUInt8), p.2)) l))).flatten.toArray) t' := by
        show Value.bytes ((flat l).map (·.toUInt8)) t' = _
        congr 1
        unfold flat
        apply Array.toList_inj.mp
        rw [Array.toList_map]
        simp only [List.map_map, List.map_flatten]
        congr 1
        apply List.map_congr_left
        intro p _
        simp
      rw [← e]
      exact this

abbrev subArgs (P : Addr) (v r : Value) (n p : Nat) (L : Addr) : Args :=
  ⟨[.ref P, v, r, rawInt 0, rawInt 0, rawInt n, rawInt p, rawInt p, .bool false, .ref L, .bool false], []⟩

theorem wp_pushL {k L n : Nat} {l : List (Array Nat × Tok)} {x : Array Nat} {tk : Tok} {M : Model} {Q : Unit → Shared → Prop} (ho : s.heap.get? L = some (lobj (vals k l) n)) (hlen : l.length ≤ 16000000)
    (q : ∀ h', (∀ b o, L ≠ b → s.heap.get? b = some o → h'.get? b = some o) → h'.get? L = some (lobj (vals k (l ++ [(x, tk)])) (n + 1)) → Q () { s with heap := h' }) :
    wpAny M A (updateSeq L fun y => y.push (val k x tk)) Q E s := by
  have hv : (vals k l).size = l.length := by unfold vals; simp
  refine wpAny_updateSeq ho rfl (q _ ?_ ?_) (by rw [hv, sizeLine_eq]; omega) (by rw [Array.size_push, hv, sizeLine_eq]; omega)
  · intro b o hb e
    rw [Heap.get?_update_other _ _ hb]
    exact e
  · rw [Heap.get?_update_self _ ho (by rw [mapSeq_push]; rfl), mapSeq_push, vals_push]

theorem extract_none {t : Array Nat} {p : Nat} (h : ¬ p < t.size) : t.extract p t.size = #[] := by
  apply Array.eq_empty_of_size_eq_zero
  rw [Array.size_extract]
  omega

theorem wp_subloop {P L : Addr} {code t r : Array Nat} {k : Nat} {v rv : Value} {h₀ : Heap} {next : Nat → Option (Nat × Nat)} {R : Result → Shared → Prop}
    (hp : PatAt h₀ P code k) (ht : TextIs v k t) (hr : TextIs rv k r) (hr2 : r.size ≤ 2) (hsz : t.size ≤ 1000000) (hL : h₀.get? L = none)
    (hnext : ∀ p, p ≤ t.size → ∃ n, n ≤ 2 ^ 40 ∧ Ends (Sre.forSearch code t 0 p t.size false) n (next p))
    (hgo : ∀ p b e, p ≤ t.size → next p = some (b, e) → p ≤ b ∧ b < e ∧ e ≤ t.size) :
    ∀ (fuel p n ver : Nat) (l : List (Array Nat × Tok)) (s : Shared), t.size < p + fuel → p ≤ t.size → l.length ≤ 2 * p → (flat l).size ≤ 3 * p →
      (∀ b o, h₀.get? b = some o → s.heap.get? b = some o) → s.heap.get? L = some (lobj (vals k l) ver) →
      (∀ t' h' tk', (∀ b o, h₀.get? b = some o → h'.get? b = some o) → R (.ok (.ret (val k (flat l ++ subFrom next r t fuel p) t'))) { s with heap := h', toks := tk' }) →
      codeAny (model prog w) A (.builtin "re.Pattern.sub.loop" (subArgs P v rv n p L)) R s
  | 0, p, n, ver, l, s, hf, hpt, _, _, _, _, _ => absurd hf (by omega)
  | fuel + 1, p, n, ver, l, s, hf, hpt, hl1, hl2, hkeep, hlo, post => by
    have hne : ∀ b o, h₀.get? b = some o → L ≠ b := by
      intro b o hb he
      subst he
      rw [hL] at hb
      cases hb
    have hline : sizeLine = 16777216 := sizeLine_eq
    have htl : t.size ≤ sizeLine := by omega
    refine codeAny_builtin entry_loop ?_
    rw [Around.under_plainId plain_loop]
    unfold Builtin.«re.Pattern.sub.loop»
    refine wpAny_bind (wp_whole (hp.keeps hkeep) ht ?_)
    refine wif rfl ?_
    refine wpAny_bind (wp_literal hr ?_)
    refine wpAny_bind ?_
    refine wnif (by rw [Bool.and_eq_true]; exact fun h => absurd h.1 (by decide)) ?_
    obtain ⟨nn, hn, hE⟩ := hnext p hpt
    unfold reNextFound
    have hpn : ((p : Int)).toNat = p := Int.toNat_natCast p
    refine wp_runToEnd (n := nn) (r := next p) hE hn ?_ ?_
    · intro heq
      have hend : ∀ (l' : List (Array Nat × Tok)) (ver' : Nat) (s' : Shared), (flat l').size ≤ 4000000 → l'.length ≤ 4000000 → flat l' = flat l ++ t.extract p t.size → s'.heap.get? L = some (lobj (vals k l') ver') →
          (∀ b o, h₀.get? b = some o → s'.heap.get? b = some o) → s'.gens = s.gens → s'.drawn = s.drawn → s'.os = s.os →
          wpAny (model prog w) A.in1 (do
            let joiner ← reSlice t k 0 0
            let items ← seqItems? (.ref L)
            if (items.getD #[]).isEmpty = true then (do let text ← pure joiner; ret text)
            else (do let text ← call (.builtin (if (k == 0) = true then "str.join" else "bytes.join")) [joiner, .ref L]; ret text))
            (fun fin s' => match fin with | .done f => R (.ok f) s' | .again c' => c'.quiet = true ∧ codeAny (model prog w) A c' R s') (fun e s' => R (.error e) s') s' := by
        intro l' ver' s' hz1 hz2 hfl hlo' hk' eg ed eo
        have hp' : ∀ t' h' tk', (∀ b o, h₀.get? b = some o → h'.get? b = some o) → R (.ok (.ret (val k (flat l') t'))) { s' with heap := h', toks := tk' } := by
          intro t' h' tk' hk
          have := post t' h' tk' hk
          unfold subFrom at this
          rw [heq] at this
          rw [hfl, eg, ed, eo]
          exact this
        refine wpAny_bind (wp_slice htl ?_)
        refine wpAny_bind (wpAny_seqItems hlo' rfl ?_)
        have he0 : t.extract 0 0 = #[] := by apply Array.eq_empty_of_size_eq_zero; rw [Array.size_extract]; omega
        rw [he0]
        refine wpAny_ite ?_
        split
        · rename_i hem
          refine wpAny_bind (wpAny_pure (wpAny_pure ?_))
          have hnil : l' = [] := by
            have : (vals k l').size = 0 := by
              have := Array.isEmpty_iff_size_eq_zero.mp hem
              exact this
            unfold vals at this
            simpa using this
          have := hp' s'.toks s'.heap (s'.toks + 1) hk'
          rw [hnil] at this
          exact this
        · refine wpAny_bind (wp_join (l := l') ht.kind hlo' (by omega) ?_)
          intro t' tk'
          exact wpAny_pure (hp' t' s'.heap tk' hk')
      show wpAny _ _ (if (p : Int).toNat < t.size then _ else _) _ _ _
      rw [hpn]
      refine wpAny_ite ?_
      split
      · rename_i hlt
        refine wpAny_bind (wp_slice htl ?_)
        refine wpAny_bind (wp_pushL hlo (by omega) ?_)
        intro h' hk' hlo'
        have hfz : (flat (l ++ [(t.extract p t.size, s.toks)])).size ≤ 4000000 := by
          rw [flat_push, Array.size_append, Array.size_extract]
          omega
        exact hend _ _ { s with heap := h', toks := s.toks + 1 } hfz (by rw [List.length_append]; simp only [List.length_cons, List.length_nil]; omega) (flat_push ..) hlo' (fun b o hb => hk' b o (hne b o hb) (hkeep b o hb)) rfl rfl rfl
      · rename_i hge
        exact hend l ver s (by omega) (by omega) (by rw [extract_none hge, Array.append_empty]) hlo hkeep rfl rfl rfl
    · intro b e heq m' hs he
      obtain ⟨g1, g2, g3⟩ := hgo p b e hpt heq
      obtain ⟨rtk, hrv⟩ := hr.val
      have hmust : (m'.handed == b) = false := by
        rw [he]
        simp
        omega
      have hstep : ∀ (l' : List (Array Nat × Tok)) (ver' : Nat) (s' : Shared), (flat l').size ≤ 2 * p + b + 10 → l'.length ≤ l.length + 1 → flat l' = flat l ++ t.extract p b → s'.heap.get? L = some (lobj (vals k l') ver') →
          (∀ b o, h₀.get? b = some o → s'.heap.get? b = some o) → s'.gens = s.gens → s'.drawn = s.drawn → s'.os = s.os →
          wpAny (model prog w) A.in1 (do
            let item ← pure rv
            if (item != Value.none) = true then (do
              let __r ← updateSeq L fun x => x.push item
              again (Code.builtin "re.Pattern.sub.loop" { pos := [Value.ref P, v, rv, rawInt 0, rawInt 0, rawInt ((n : Int) + 1), rawInt (m'.handed : Nat), rawInt (m'.handed : Nat), Value.bool (m'.handed == b), Value.ref L, Value.bool false] }))
            else again (Code.builtin "re.Pattern.sub.loop" { pos := [Value.ref P, v, rv, rawInt 0, rawInt 0, rawInt ((n : Int) + 1), rawInt (m'.handed : Nat), rawInt (m'.handed : Nat), Value.bool (m'.handed == b), Value.ref L, Value.bool false] }))
            (fun fin s' => match fin with | .done f => R (.ok f) s' | .again c' => c'.quiet = true ∧ codeAny (model prog w) A c' R s') (fun e s' => R (.error e) s') s' := by
        intro l' ver' s' hz1 hz2 hfl hlo' hk' eg ed eo
        refine wpAny_bind (wpAny_pure ?_)
        rw [hrv]
        refine wif val_ne_none ?_
        refine wpAny_bind (wp_pushL hlo' (by omega) ?_)
        intro h' hk2 hlo2
        refine wpAny_pure ⟨plainId_quiet plain_loop _, ?_⟩
        rw [hmust, he]
        have hfs : (flat (l' ++ [(r, rtk)])).size = (flat l').size + r.size := by rw [flat_push, Array.size_append]
        have hfs' : (flat l').size = (flat l).size + (b - p) := by
          rw [hfl, Array.size_append, Array.size_extract]
          omega
        refine wp_subloop hp ht (hrv ▸ hr) hr2 hsz hL hnext hgo fuel e (n + 1) (ver' + 1) (l' ++ [(r, rtk)]) { s' with heap := h' } (by omega) g3 ?_ ?_ ?_ hlo2 ?_
        · rw [List.length_append]
          simp only [List.length_cons, List.length_nil]
          omega
        · rw [hfs, hfs']
          omega
        · exact fun b o hb => hk2 b o (hne b o hb) (hk' b o hb)
        · intro t' h'' tk' hk3
          have := post t' h'' tk' hk3
          unfold subFrom at this
          rw [heq] at this
          rw [flat_push, hfl, eg, ed, eo]
          simp only [Array.append_assoc] at this ⊢
          exact this
      show wpAny _ _ (if (p : Int).toNat < m'.start then _ else _) _ _ _
      rw [hpn, hs]
      have hfl2 : (flat l).size ≤ 3 * p := hl2
      refine wpAny_ite ?_
      split
      · rename_i hlt
        refine wpAny_bind (wp_slice htl ?_)
        refine wpAny_bind (wp_pushL hlo (by omega) ?_)
        intro h' hk' hlo'
        refine hstep _ _ { s with heap := h', toks := s.toks + 1 } ?_ (by rw [List.length_append]; simp) (flat_push ..) hlo' (fun b o hb => hk' b o (hne b o hb) (hkeep b o hb)) rfl rfl rfl
        rw [flat_push, Array.size_append, Array.size_extract]
        omega
      · rename_i hge
        have hbp : b = p := by omega
        have hex : t.extract p b = #[] := by
          apply Array.eq_empty_of_size_eq_zero
          rw [Array.size_extract]
          omega
        exact hstep l ver s (by omega) (by omega) (by rw [hex, Array.append_empty]) hlo hkeep rfl rfl rfl
end
end Mine
end

section
open PySem PySem.W PyProof.Rows
open PySem.Builtin PySem.Builtin.Re
set_option Elab.async false
set_option maxRecDepth 100000
namespace Mine
section
variable {prog : Program} {w : World} {A : Around} {E : Value → Shared → Prop} {s : Shared}

theorem named_eq (rv v : Value) : reNamed "re.Pattern.sub" "sub" ["repl", "string", "count"] 2 [rv, v] [] = pure [some rv, some v, none] := rfl

theorem wp_sub {P : Addr} {code t r : Array Nat} {k : Nat} {v rv : Value} {next : Nat → Option (Nat × Nat)} {Q : Value → Shared → Prop}
    (hp : PatAt s.heap P code k) (ht : TextIs v k t) (hr : TextIs rv k r) (hr2 : r.size ≤ 2) (h92 : r.contains 92 = false) (hsz : t.size ≤ 1000000)
    (hnext : ∀ p, p ≤ t.size → ∃ n, n ≤ 2 ^ 40 ∧ Ends (Sre.forSearch code t 0 p t.size false) n (next p))
    (hgo : ∀ p b e, p ≤ t.size → next p = some (b, e) → p ≤ b ∧ b < e ∧ e ≤ t.size)
    (q : ∀ t' h' tk', (∀ b o, s.heap.get? b = some o → h'.get? b = some o) → Q (val k (subFrom next r t (t.size + 1) 0) t') { s with heap := h', toks := tk' }) :
    wpAny (model prog w) A (call (.builtin "re.Pattern.sub") [.ref P, rv, v]) Q E s := by
  have hT : s.TypeIs (.ref P) "re.Pattern" := by
    obtain ⟨o, C, oc, vs, items, n, h1, h2, _⟩ := hp.ex
    exact ⟨o, h1, h2⟩
  refine wpAny_call (codeAny_call_builtin slot_sub.plain entry_sub (slot_sub.check _ _ _ _ _ _ _ _ hT (args_sub _ _ _) ?_))
  unfold Builtin.«re.Pattern.sub» reSubstitute
  refine wpAny_bind (wpAny_of_eq (named_eq rv v) ?_)
  refine wpAny_bind (wpAny_pure ?_)
  have hL : s.heap.get? s.heap.objs.size = none := by
    cases hq : s.heap.get? s.heap.objs.size with
    | none => rfl
    | some o => exact absurd (Heap.lt_size hq) (Nat.lt_irrefl _)
  cases hr with
  | str _ tk =>
    have hr' := TextIs.str r tk
    refine wpAny_bind (wpAny_specialOf (typeIs_str s _ _) nocall_str ?_)
    refine wnif Bool.false_ne_true ?_
    refine wpAny_bind (wpAny_of_eq (a := some ⟨r⟩) rfl ?_)
    refine wpAny_bind (wpAny_pure ?_)
    refine wnif Bool.false_ne_true ?_
    dsimp only
    rw [h92]
    refine wif rfl ?_
    refine wpAny_bind (wpAny_pure ?_)
    refine wpAny_bind (wpAny_holding (wp_whole hp ht ?_))
    refine wnif Bool.false_ne_true ?_
    refine wpAny_bind (wpAny_newList ?_)
    refine wpAny_pure ⟨plainId_quiet plain_loop _, ?_⟩
    refine wp_subloop (h₀ := s.heap) hp ht hr' hr2 hsz hL hnext hgo (t.size + 1) 0 0 0 [] _ (by omega) (by omega) (by simp) (by simp [flat]) ?_ ?_ ?_
    · exact fun b o e => Heap.get?_push_of_some _ e
    · exact Heap.get?_push_size _ rfl
    · intro t' h' tk' hk
      have e : flat [] ++ subFrom next r t (t.size + 1) 0 = subFrom next r t (t.size + 1) 0 := by
        unfold flat
        simp
      rw [e]
      exact q t' h' tk' hk
  | bytes b tk =>
    have hr' := TextIs.bytes b tk
    refine wpAny_bind (wpAny_specialOf (typeIs_bytes s _ _) nocall_bytes ?_)
    refine wnif Bool.false_ne_true ?_
    refine wpAny_bind (wpAny_of_eq (a := none) rfl ?_)
    refine wpAny_bind (wpAny_of_eq KBy.quiet_eq ?_)
    refine wpAny_bind (wpAny_pure ?_)
    refine wnif Bool.false_ne_true ?_
    have h92' : b.contains 92 = false := by
      cases hq : b.contains 92 with
      | false => rfl
      | true =>
        have hm := Array.contains_iff_mem.mp hq
        have : (b.map (·.toNat)).contains 92 = true := Array.contains_iff_mem.mpr (Array.mem_map.mpr ⟨92, hm, rfl⟩)
        rw [this] at h92
        cases h92
    rw [h92']
    refine wif rfl ?_
    refine wpAny_bind (wpAny_pure ?_)
    refine wpAny_bind (wpAny_holding (wp_whole hp ht ?_))
    refine wnif Bool.false_ne_true ?_
    refine wpAny_bind (wpAny_newList ?_)
    refine wpAny_pure ⟨plainId_quiet plain_loop _, ?_⟩
    refine wp_subloop (h₀ := s.heap) hp ht hr' hr2 hsz hL hnext hgo (t.size + 1) 0 0 0 [] _ (by omega) (by omega) (by simp) (by simp [flat]) ?_ ?_ ?_
    · exact fun b o e => Heap.get?_push_of_some _ e
    · exact Heap.get?_push_size _ rfl
    · intro t' h' tk' hk
      have e : flat [] ++ subFrom next (b.map (·.toNat)) t (t.size + 1) 0 = subFrom next (b.map (·.toNat)) t (t.size + 1) 0 := by
        unfold flat
        simp
      rw [e]
      exact q t' h' tk' hk
end
end Mine
end

section
open PySem PySem.W PyProof.Rows
set_option Elab.async false
set_option maxRecDepth 100000
namespace Mine

def fixL : List Nat → List Nat
  | [] => []
  | [c] => if isEnd c then [13, 10] else [c]
  | c :: d :: r => if c == 13 && d == 10 then 13 :: 10 :: fixL r else if isEnd c then 13 :: 10 :: fixL (d :: r) else c :: fixL (d :: r)

def quoteL : Bool → List Nat → List Nat
  | _, [] => []
  | b, c :: r => if b && c == 46 then 46 :: 46 :: quoteL false r else c :: quoteL (c == 10) r

abbrev nx1 (t : Array Nat) (p : Nat) : Option (Nat × Nat) := next1 t (t.size + 1 - p) p
abbrev nx3 (t : Array Nat) (p : Nat) : Option (Nat × Nat) := next3 t (t.size + 1 - p) p

theorem drop_cons {t : Array Nat} {p : Nat} (h : p < t.size) : t.toList.drop p = t.getD p 0 :: t.toList.drop (p + 1) := by
  rw [List.drop_eq_getElem_cons (by simpa using h)]
  congr 1
  simp [Array.getD, h]

theorem extract_cons {t : Array Nat} {p b : Nat} (h : p < t.size) (hb : p < b) : (t.extract p b).toList = t.getD p 0 :: (t.extract (p + 1) b).toList := by
  rw [Array.toList_extract, Array.toList_extract, List.extract_eq_take_drop, List.extract_eq_take_drop, drop_cons h]
  rw [show b - p = (b - (p + 1)) + 1 by omega, List.take_succ_cons]

theorem extract_nil {t : Array Nat} {p b : Nat} (h : b ≤ p) : t.extract p b = #[] := by
  apply Array.eq_empty_of_size_eq_zero
  rw [Array.size_extract]
  omega

theorem fixL_one {c : Nat} {r : List Nat} (h : isEnd c = false) : fixL (c :: r) = c :: fixL r := by
  have h13 : (c == 13) = false := by
    unfold isEnd at h
    exact (Bool.or_eq_false_iff.mp h).2
  cases r with
  | nil => unfold fixL; rw [h]; rfl
  | cons d r =>
    conv => lhs; unfold fixL
    rw [h13, h]
    rfl

theorem next3_skip {t : Array Nat} {p : Nat} (hp : p < t.size) (h : isEnd (t.getD p 0) = false) : nx3 t p = nx3 t (p + 1) := by
  unfold nx3 next3
  rw [show t.size + 1 - p = (t.size + 1 - (p + 1)) + 1 by omega]
  conv => lhs; unfold find3
  rw [h]
  rfl
theorem next3_here {t : Array Nat} {p : Nat} (hp : p < t.size) (h : isEnd (t.getD p 0) = true) : nx3 t p = some (p, p + len3 t p) := by
  unfold nx3 next3
  rw [show t.size + 1 - p = (t.size + 1 - (p + 1)) + 1 by omega]
  unfold find3
  rw [if_pos h]
  rfl
theorem next3_end (t : Array Nat) : nx3 t t.size = none := by
  unfold nx3 next3
  rw [show t.size + 1 - t.size = 0 + 1 by omega]
  unfold find3
  rw [if_neg]
  · rfl
  · intro q
    exact absurd (isEnd_lt q) (by omega)

theorem find3_ge {t : Array Nat} : ∀ {k s b : Nat}, find3 t k s = some b → s ≤ b := fun h => (find3_isEnd h).2
theorem len3_pos (t : Array Nat) (b : Nat) : 0 < len3 t b := by unfold len3; split <;> omega
theorem len3_le {t : Array Nat} {b : Nat} (h : isEnd (t.getD b 0) = true) : b + len3 t b ≤ t.size := by
  have h1 := isEnd_lt h
  unfold len3
  by_cases q : (t.getD b 0 == 13 && t.getD (b + 1) 0 == 10) = true
  · rw [if_pos q]
    have : b + 1 < t.size := isEnd_lt (by unfold isEnd; rw [(Bool.and_eq_true_iff.mp q).2]; rfl)
    omega
  · rw [if_neg q]
    omega
theorem go3 {t : Array Nat} : ∀ p b e, p ≤ t.size → nx3 t p = some (b, e) → p ≤ b ∧ b < e ∧ e ≤ t.size := by
  intro p b e _ h
  unfold nx3 next3 at h
  cases hf : find3 t (t.size + 1 - p) p with
  | none => rw [hf] at h; cases h
  | some c =>
    rw [hf] at h
    obtain ⟨rfl, rfl⟩ := Prod.mk.inj (Option.some.inj h)
    have := find3_isEnd hf
    have := len3_pos t c
    exact ⟨(find3_isEnd hf).2, by omega, len3_le (find3_isEnd hf).1⟩

theorem fixL_end {t : Array Nat} {p : Nat} (h : isEnd (t.getD p 0) = true) : fixL (t.toList.drop p) = 13 :: 10 :: fixL (t.toList.drop (p + len3 t p)) := by
  have hp := isEnd_lt h
  rw [drop_cons hp]
  unfold len3
  by_cases h1 : p + 1 < t.size
  · rw [drop_cons h1]
    conv => lhs; unfold fixL
    by_cases q : (t.getD p 0 == 13 && t.getD (p + 1) 0 == 10) = true
    · rw [if_pos q, if_pos q]
    · rw [if_neg q, if_neg q, if_pos h, drop_cons h1]
  · have hn : t.toList.drop (p + 1) = [] := List.drop_eq_nil_of_le (by simpa using Nat.le_of_not_lt h1)
    have h0 : t.getD (p + 1) 0 = 0 := getD_out (by omega)
    rw [h0]
    have : (t.getD p 0 == 13 && (0 : Nat) == 10) = false := by simp
    rw [this, hn]
    unfold fixL
    rw [if_pos h]
    rw [show (if (false = true) then 2 else 1) = 1 from rfl, hn]

theorem sub3 (t : Array Nat) : ∀ (k fuel p : Nat), p + k = t.size → k < fuel → (subFrom (nx3 t) #[13, 10] t fuel p).toList = fixL (t.toList.drop p) := by
  intro k
  induction k using Nat.strongRecOn with
  | ind k ih =>
    intro fuel p hk hf
    obtain ⟨fuel, rfl⟩ : ∃ f, fuel = f + 1 := ⟨fuel - 1, by omega⟩
    by_cases hp : p < t.size
    · cases he : isEnd (t.getD p 0) with
      | true =>
        unfold subFrom
        rw [next3_here hp he]
        dsimp only
        rw [extract_nil (Nat.le_refl p), Array.empty_append, Array.toList_append]
        have hl := len3_pos t p
        have hl2 := len3_le he
        rw [ih (k - len3 t p) (by omega) fuel (p + len3 t p) (by omega) (by omega), fixL_end he]
        rfl
      | false =>
        have hs := ih (k - 1) (by omega) (fuel + 1) (p + 1) (by omega) (by omega)
        rw [drop_cons hp, fixL_one he, ← hs]
        unfold subFrom
        rw [next3_skip hp he]
        cases hn : nx3 t (p + 1) with
        | none =>
          dsimp only
          exact extract_cons hp hp
        | some x =>
          obtain ⟨b, e⟩ := x
          have hb := (go3 (p + 1) b e (by omega) hn).1
          dsimp only
          simp only [Array.toList_append]
          rw [extract_cons hp (by omega)]
          rfl
    · have hpe : p = t.size := by omega
      subst hpe
      unfold subFrom
      rw [next3_end]
      dsimp only
      rw [extract_nil (Nat.le_refl _), List.drop_eq_nil_of_le (by simp)]
      rfl

/-! dots -/
def bol (t : Array Nat) (p : Nat) : Bool := p == 0 || t.getD (p - 1) 0 == 10

theorem next1_skip {t : Array Nat} {p : Nat} (hp : p < t.size) (h : hit1 t p = false) : nx1 t p = nx1 t (p + 1) := by
  unfold nx1
  rw [show t.size + 1 - p = (t.size + 1 - (p + 1)) + 1 by omega]
  conv => lhs; unfold next1
  rw [h]
  rfl
theorem next1_here {t : Array Nat} {p : Nat} (hp : p < t.size) (h : hit1 t p = true) : nx1 t p = some (p, p + 1) := by
  unfold nx1
  rw [show t.size + 1 - p = (t.size + 1 - (p + 1)) + 1 by omega]
  unfold next1
  rw [if_pos h]
theorem next1_end (t : Array Nat) : nx1 t t.size = none := by
  unfold nx1
  rw [show t.size + 1 - t.size = 0 + 1 by omega]
  unfold next1
  rw [if_neg]
  · rfl
  · intro q
    exact absurd (hit1_lt q) (by omega)
theorem next1_some {t : Array Nat} : ∀ {k p b e : Nat}, next1 t k p = some (b, e) → p ≤ b ∧ e = b + 1 ∧ hit1 t b = true
  | 0, _, _, _, h => nomatch h
  | k + 1, p, b, e, h => by
    unfold next1 at h
    split at h
    · obtain ⟨rfl, rfl⟩ := Prod.mk.inj (Option.some.inj h)
      exact ⟨Nat.le_refl _, rfl, by assumption⟩
    · have := next1_some h
      exact ⟨by omega, this.2⟩
theorem go1 {t : Array Nat} : ∀ p b e, p ≤ t.size → nx1 t p = some (b, e) → p ≤ b ∧ b < e ∧ e ≤ t.size := by
  intro p b e _ h
  obtain ⟨h1, h2, h3⟩ := next1_some h
  have := hit1_lt h3
  exact ⟨h1, by omega, by omega⟩

theorem sub1 (t : Array Nat) : ∀ (k fuel p : Nat), p + k = t.size → k < fuel → (subFrom (nx1 t) #[46, 46] t fuel p).toList = quoteL (bol t p) (t.toList.drop p) := by
  intro k
  induction k using Nat.strongRecOn with
  | ind k ih =>
    intro fuel p hk hf
    obtain ⟨fuel, rfl⟩ : ∃ f, fuel = f + 1 := ⟨fuel - 1, by omega⟩
    by_cases hp : p < t.size
    · rw [drop_cons hp]
      unfold quoteL
      have hb1 : bol t (p + 1) = (t.getD p 0 == 10) := by unfold bol; simp
      cases he : hit1 t p with
      | true =>
        have he' : (bol t p && t.getD p 0 == 46) = true := he
        have h46 : t.getD p 0 = 46 := by simpa using (Bool.and_eq_true_iff.mp he').2
        rw [if_pos he']
        unfold subFrom
        rw [next1_here hp he]
        dsimp only
        rw [extract_nil (Nat.le_refl p), Array.empty_append, Array.toList_append]
        rw [ih (k - 1) (by omega) fuel (p + 1) (by omega) (by omega), hb1, h46]
        rfl
      | false =>
        have he' : (bol t p && t.getD p 0 == 46) = false := he
        rw [if_neg (by rw [he']; exact Bool.false_ne_true)]
        have hs := ih (k - 1) (by omega) (fuel + 1) (p + 1) (by omega) (by omega)
        rw [hb1] at hs
        rw [← hs]
        unfold subFrom
        rw [next1_skip hp he]
        cases hn : nx1 t (p + 1) with
        | none =>
          dsimp only
          exact extract_cons hp hp
        | some x =>
          obtain ⟨b, e⟩ := x
          have hb := (go1 (p + 1) b e (by omega) hn).1
          dsimp only
          simp only [Array.toList_append]
          rw [extract_cons hp (by omega)]
          rfl
    · have hpe : p = t.size := by omega
      subst hpe
      unfold subFrom
      rw [next1_end]
      dsimp only
      rw [extract_nil (Nat.le_refl _), List.drop_eq_nil_of_le (by simp)]
      rfl

theorem sub3_all (t : Array Nat) : subFrom (nx3 t) #[13, 10] t (t.size + 1) 0 = (fixL t.toList).toArray := by
  apply Array.toList_inj.mp
  rw [sub3 t t.size (t.size + 1) 0 (by omega) (by omega)]
  rfl
theorem sub1_all (t : Array Nat) : subFrom (nx1 t) #[46, 46] t (t.size + 1) 0 = (quoteL true t.toList).toArray := by
  apply Array.toList_inj.mp
  rw [sub1 t t.size (t.size + 1) 0 (by omega) (by omega)]
  rfl

section
variable {prog : Program} {w : World} {A : Around} {E : Value → Shared → Prop} {s : Shared}
theorem wp_sub3 {P : Addr} {t : Array Nat} {tk rk : Tok} {Q : Value → Shared → Prop} (hp : PatAt s.heap P code3 0) (hsz : t.size ≤ 1000000)
    (q : ∀ t' h' tk', (∀ b o, s.heap.get? b = some o → h'.get? b = some o) → Q (.str ⟨(fixL t.toList).toArray⟩ t') { s with heap := h', toks := tk' }) :
    wpAny (model prog w) A (call (.builtin "re.Pattern.sub") [.ref P, .str ⟨#[13, 10]⟩ rk, .str ⟨t⟩ tk]) Q E s := by
  refine wp_sub (next := nx3 t) hp (.str t tk) (.str #[13, 10] rk) (by decide) (by decide +kernel) hsz ?_ go3 ?_
  · intro p hp
    obtain ⟨n, hn, e⟩ := search3 t p hp
    exact ⟨n, by omega, e⟩
  · rw [sub3_all]
    exact q
theorem wp_sub1 {P : Addr} {t : Array Nat} {tk rk : Tok} {Q : Value → Shared → Prop} (hp : PatAt s.heap P code1 0) (hsz : t.size ≤ 1000000)
    (q : ∀ t' h' tk', (∀ b o, s.heap.get? b = some o → h'.get? b = some o) → Q (.str ⟨(quoteL true t.toList).toArray⟩ t') { s with heap := h', toks := tk' }) :
    wpAny (model prog w) A (call (.builtin "re.Pattern.sub") [.ref P, .str ⟨#[46, 46]⟩ rk, .str ⟨t⟩ tk]) Q E s := by
  refine wp_sub (next := nx1 t) hp (.str t tk) (.str #[46, 46] rk) (by decide) (by decide +kernel) hsz ?_ go1 ?_
  · intro p hp
    obtain ⟨n, hn, e⟩ := search1 t p hp
    exact ⟨n, by omega, e⟩
  · rw [sub1_all]
    exact q
theorem wp_sub2 {P : Addr} {b : Array UInt8} {tk rk : Tok} {Q : Value → Shared → Prop} (hp : PatAt s.heap P code1 1) (hsz : b.size ≤ 1000000)
    (q : ∀ t' h' tk', (∀ b o, s.heap.get? b = some o → h'.get? b = some o) → Q (.bytes ((quoteL true (b.toList.map (·.toNat))).map (·.toUInt8)).toArray t') { s with heap := h', toks := tk' }) :
    wpAny (model prog w) A (call (.builtin "re.Pattern.sub") [.ref P, .bytes #[46, 46] rk, .bytes b tk]) Q E s := by
  have hr : TextIs (.bytes #[46, 46] rk) 1 #[46, 46] := by
    have := TextIs.bytes #[46, 46] rk
    rw [show (#[46, 46] : Array UInt8).map (·.toNat) = #[46, 46] by decide +kernel] at this
    exact this
  refine wp_sub (next := nx1 (b.map (·.toNat))) hp (.bytes b tk) hr (by decide) (by decide +kernel) (by simpa using hsz) ?_ go1 ?_
  · intro p hp
    obtain ⟨n, hn, e⟩ := search1 (b.map (·.toNat)) p hp
    have : (b.map (·.toNat)).size = b.size := by simp
    exact ⟨n, by omega, e⟩
  · rw [sub1_all, Array.toList_map]
    intro t' h' tk' hk
    have e : val 1 (quoteL true (b.toList.map (·.toNat))).toArray t' = .bytes ((quoteL true (b.toList.map (·.toNat))).map (·.toUInt8)).toArray t' := by
      show Value.bytes ((quoteL true (b.toList.map (·.toNat))).toArray.map (·.toUInt8)) t' = _
      simp
    rw [e]
    exact q t' h' tk' hk
end
end Mine
end

section
open PySem PySem.W PyProof.Rows
set_option Elab.async false
namespace Mine
set_option maxRecDepth 100000
set_option maxHeartbeats 8000000
open_top hd for PySem.Challenge.rw_om0212_01
end Mine
end

section
open PySem PySem.W PyProof.Rows
set_option Elab.async false
set_option maxRecDepth 100000
namespace Mine

noncomputable abbrev PG : Program := PySem.Challenge.rw_om0212_01.row.prog
noncomputable abbrev LS : List Str := looseW hd.view_39 [Str.ofString "_twin_re_1", Str.ofString "_twin_re_2", Str.ofString "_twin_re_3"]

theorem enterD {w : World} {A : Around} {s : Shared} {K : Frag} {R : Result → Shared → Prop} {name qual : Str} {params : Arguments} {body : List Stmt} {scope : Scope} {dV kV doc pm cdv ct oc : Value} {an od : Option Addr} {osl : Array (Option Value)} {f : Addr} {args : Args} {binds : List (Str × Value)}
    (X : K.In s.heap) (hlim : s.heap.NoLimit)
    (ho : K.lookup f = some ⟨oc, od, .func (fnOf name qual params body scope dV kV doc pm an cdv ct), osl⟩) (hcd : codeIn K cdv qual = true) (hroom : A.depth < recursionLimit)
    (hbind : BindsTo s (fnOf name qual params body scope dV kV doc pm an cdv ct) args binds) (hloc : ∀ y ∈ binds, scope.names.lookup y.1 = some .local)
    (h : ∀ L' h₁, Fr s.heap L' h₁ (fun y => binds.reverse.lookup y) → News s.heap L' h₁ [] →
      wpAny (model PG w) (A.deeper (envOf qual scope L' f cdv)) (execs body (envOf qual scope L' f cdv))
        (fun fl s' => R (.ok (.ret (match fl with | .ret v => v | _ => .none))) s')
        (fun e s' => wpAny (model PG w) (A.deeper (envOf qual scope L' f cdv)) (leaving (envOf qual scope L' f cdv) e) (fun _ s'' => R (.error e) s'') (fun e' s'' => R (.error e') s'') s')
        { s with heap := h₁, toks := s.toks + binds.length })
    (hcell : ∀ x ∈ scope.names, x.2 ≠ .cell) (hco : scope.isCoroutine = false) (hgen : scope.isGenerator = false) (hk : scope.kind = .function) : codeAny (model PG w) A (.call (.ref f) args) R s := by
  refine codeAny_call_def (fd := fnOf name qual params body scope dV kV doc pm an cdv ct) (body := body) (binds := binds) hroom (X _ _ ho) rfl hlim (codeRec_of X hcd) rfl hbind hcell hloc (fun h₁ hns hk₁ => ?_) hco hgen hk
  exact h s.heap.objs.size h₁ ⟨hns, hk₁, Nat.le_refl _⟩ News.nil
end Mine
end

section
open PySem PySem.W PyProof.Rows
set_option Elab.async false
set_option maxRecDepth 100000
namespace Mine
theorem fixL_length : ∀ l : List Nat, (fixL l).length ≤ 2 * l.length
  | [] => by simp [fixL]
  | [c] => by unfold fixL; split <;> simp
  | c :: d :: r => by
    unfold fixL
    have h1 := fixL_length r
    have h2 := fixL_length (d :: r)
    simp only [List.length_cons] at *
    split
    · simp only [List.length_cons]; omega
    · split <;> (simp only [List.length_cons]; omega)

section
variable {w : World} {h₀ : Heap} {L : Addr} {m : Str → Option Value} {news : List (Addr × Obj)} {A : Around} {E : Value → Shared → Prop} {s : Shared}

theorem pat1 {h : Heap} (X : (hd.heap_39 w.params).In h) : PatAt h 36 code1 0 :=
  ⟨_, _, _, _, _, _, X 36 _ rfl, rfl, rfl, rfl, rfl, rfl, rfl, X 35 _ rfl, rfl, by decide +kernel⟩
theorem pat2 {h : Heap} (X : (hd.heap_39 w.params).In h) : PatAt h 41 code1 1 :=
  ⟨_, _, _, _, _, _, X 41 _ rfl, rfl, rfl, rfl, rfl, rfl, rfl, X 40 _ rfl, rfl, by decide +kernel⟩
theorem pat3 {h : Heap} (X : (hd.heap_39 w.params).In h) : PatAt h 46 code3 0 :=
  ⟨_, _, _, _, _, _, X 46 _ rfl, rfl, rfl, rfl, rfl, rfl, rfl, X 45 _ rfl, rfl, by decide +kernel⟩

theorem PatAt.method {M : Model} {P : Addr} {code : Array Nat} {k : Nat} {pl : Sem Bool} {Q : Value × List Value → Shared → Prop} (hp : PatAt s.heap P code k) (q : Q (.builtin "re.Pattern.sub", [.ref P]) s) :
    wpAny M A (getMethod (.ref P) "sub" pl) Q E s := by
  obtain ⟨o, C, oc, vs, items, n, h1, h2, h3, _⟩ := hp.ex
  refine getMethod_builtin (T := "re.Pattern") ⟨o, h1, h2⟩ attrs_pat slot_sub type_sub ?_ q
  intro a e
  cases e
  exact ⟨o, h1, h3⟩

theorem meth1 {M : Model} {pl : Sem Bool} {Q : Value × List Value → Shared → Prop} (F : Fr h₀ L s.heap m) (X : (hd.heap_39 w.params).In h₀) (q : Q (.builtin "re.Pattern.sub", [.ref 36]) s) :
    wpAny M A (getMethod (.ref 36) (Str.ofString "sub") pl) Q E s := ((pat1 X).keeps F.keep).method q
theorem meth2 {M : Model} {pl : Sem Bool} {Q : Value × List Value → Shared → Prop} (F : Fr h₀ L s.heap m) (X : (hd.heap_39 w.params).In h₀) (q : Q (.builtin "re.Pattern.sub", [.ref 41]) s) :
    wpAny M A (getMethod (.ref 41) (Str.ofString "sub") pl) Q E s := ((pat2 X).keeps F.keep).method q
theorem meth3 {M : Model} {pl : Sem Bool} {Q : Value × List Value → Shared → Prop} (F : Fr h₀ L s.heap m) (X : (hd.heap_39 w.params).In h₀) (q : Q (.builtin "re.Pattern.sub", [.ref 46]) s) :
    wpAny M A (getMethod (.ref 46) (Str.ofString "sub") pl) Q E s := ((pat3 X).keeps F.keep).method q

def fixS (x : Str) : Str := ⟨(fixL x.cps.toList).toArray⟩
def quoteS (x : Str) : Str := ⟨(quoteL true x.cps.toList).toArray⟩
def quoteB (b : Array UInt8) : Array UInt8 := ((quoteL true (b.toList.map (·.toNat))).map (·.toUInt8)).toArray

theorem fixS_length (x : Str) : (fixS x).cps.size ≤ 2 * x.cps.size := by
  have := fixL_length x.cps.toList
  unfold fixS
  simpa using this

theorem k_sub3 {prog : Program} {x r : Str} {tk rk : Tok} {Q : Value → Shared → Prop} (F : Fr h₀ L s.heap m) (N : News h₀ L s.heap news) (X : (hd.heap_39 w.params).In h₀) (hr : r = ⟨#[13, 10]⟩) (hsz : x.cps.size ≤ 1000000)
    (q : ∀ t' h' tk', Fr h₀ L h' m → News h₀ L h' news → Q (.str (fixS x) t') { s with heap := h', toks := tk' }) :
    wpAny (model prog w) A (call (.builtin "re.Pattern.sub") [.ref 46, .str r rk, .str x tk]) Q E s := by
  subst hr
  exact wp_sub3 (t := x.cps) ((pat3 X).keeps F.keep) hsz fun t' h' tk' hk => q t' h' tk' (F.grownK hk) (N.grown hk)
theorem k_sub1 {prog : Program} {x r : Str} {tk rk : Tok} {Q : Value → Shared → Prop} (F : Fr h₀ L s.heap m) (N : News h₀ L s.heap news) (X : (hd.heap_39 w.params).In h₀) (hr : r = ⟨#[46, 46]⟩) (hsz : x.cps.size ≤ 1000000)
    (q : ∀ t' h' tk', Fr h₀ L h' m → News h₀ L h' news → Q (.str (quoteS x) t') { s with heap := h', toks := tk' }) :
    wpAny (model prog w) A (call (.builtin "re.Pattern.sub") [.ref 36, .str r rk, .str x tk]) Q E s := by
  subst hr
  exact wp_sub1 (t := x.cps) ((pat1 X).keeps F.keep) hsz fun t' h' tk' hk => q t' h' tk' (F.grownK hk) (N.grown hk)
theorem k_sub2 {prog : Program} {b r : Array UInt8} {tk rk : Tok} {Q : Value → Shared → Prop} (F : Fr h₀ L s.heap m) (N : News h₀ L s.heap news) (X : (hd.heap_39 w.params).In h₀) (hr : r = #[46, 46]) (hsz : b.size ≤ 1000000)
    (q : ∀ t' h' tk', Fr h₀ L h' m → News h₀ L h' news → Q (.bytes (quoteB b) t') { s with heap := h', toks := tk' }) :
    wpAny (model prog w) A (call (.builtin "re.Pattern.sub") [.ref 41, .bytes r rk, .bytes b tk]) Q E s := by
  subst hr
  exact wp_sub2 ((pat2 X).keeps F.keep) hsz fun t' h' tk' hk => q t' h' tk' (F.grownK hk) (N.grown hk)
end
local macro_rules | `(tactic| walk_at "getMethod ref") => `(tactic| (k_here; k_dflt (first | (refine' meth1 ?k1 ?k2 ?_; (case k1 => k_asm); (case k2 => k_asm)) | (refine' meth2 ?k1 ?k2 ?_; (case k1 => k_asm); (case k2 => k_asm)) | (refine' meth3 ?k1 ?k2 ?_; (case k1 => k_asm); (case k2 => k_asm)))))
local macro_rules | `(tactic| walk_at "call builtin:re.Pattern.sub") => `(tactic| (k_here; k_dflt (first
  | (refine' k_sub3 ?k1 ?k2 ?k3 ?k4 ?k5 ?_; (case k1 => k_asm); (case k2 => k_asm); (case k3 => k_asm); (case k4 => decide +kernel); (case k5 => first | assumption | omega); intro t' h' tk' F' N'; (try k_sweep))
  | (refine' k_sub1 ?k1 ?k2 ?k3 ?k4 ?k5 ?_; (case k1 => k_asm); (case k2 => k_asm); (case k3 => k_asm); (case k4 => decide +kernel); (case k5 => first | assumption | omega); intro t' h' tk' F' N'; (try k_sweep))
  | (refine' k_sub2 ?k1 ?k2 ?k3 ?k4 ?k5 ?_; (case k1 => k_asm); (case k2 => k_asm); (case k3 => k_asm); (case k4 => decide +kernel); (case k5 => first | assumption | omega); intro t' h' tk' F' N'; (try k_sweep)))))

set_option maxHeartbeats 8000000
theorem quote_spec {w : World} {A : Around} {s : Shared} {mean mg mb} {Q E : Value → Shared → Prop} (X : (hd.heap_39 w.params).In s.heap) (T : Top hd.view_39 LS mean mg mb s.heap)
    (hroom : A.depth + 1 < recursionLimit) {x : Str} {tk : Tok} (hx : x.cps.size ≤ 400000)
    (post : ∀ t' h' tk', (∀ b o, s.heap.get? b = some o → h'.get? b = some o) → Q (.str (quoteS (fixS x)) t') { s with heap := h', toks := tk' }) :
    wpAny (model PG w) A (call (.ref 53) [.str x tk]) Q E s := by
  have : hd.heap_39 = hd.heap_39 ∧ PySem.Challenge.rw_om0212_01 = PySem.Challenge.rw_om0212_01 := by
    k_fill
    exact ⟨rfl, rfl⟩
  clear this
  have hx1 : x.cps.size ≤ 1000000 := by omega
  have hx2 : (fixS x).cps.size ≤ 1000000 := by have := fixS_length x; omega
  refine wpAny_call ?_
  refine' enterD X T.nolimit ?k6 ?k7 ?k8 ?k9 ?kB ?_ ?c5 ?c2 ?c3 ?c4
  (case k6 => k_is); (case k7 => k_is); (case k8 => omega)
  (case k9 => exact BindsTo.of_eq (binds := [(Str.ofString "data", .str x tk)]) rfl)
  (case c5 => decide); (case kB => exact locs rfl); (case c2 => exact rfl); (case c3 => exact rfl); (case c4 => exact rfl)
  intro L' h' F' N'
  dsimp only
  k_fold
  w_on
  k_steps
  all_goals (exact post _ _ _ (Fr.keep (by assumption)))
theorem fix_spec {w : World} {A : Around} {s : Shared} {mean mg mb} {Q E : Value → Shared → Prop} (X : (hd.heap_39 w.params).In s.heap) (T : Top hd.view_39 LS mean mg mb s.heap)
    (hroom : A.depth + 1 < recursionLimit) {x : Str} {tk : Tok} (hx : x.cps.size ≤ 400000)
    (post : ∀ t' h' tk', (∀ b o, s.heap.get? b = some o → h'.get? b = some o) → Q (.str (fixS x) t') { s with heap := h', toks := tk' }) :
    wpAny (model PG w) A (call (.ref 67) [.str x tk]) Q E s := by
  have : hd.heap_39 = hd.heap_39 ∧ PySem.Challenge.rw_om0212_01 = PySem.Challenge.rw_om0212_01 := by
    k_fill
    exact ⟨rfl, rfl⟩
  clear this
  have hx1 : x.cps.size ≤ 1000000 := by omega
  refine wpAny_call ?_
  refine' enterD X T.nolimit ?k6 ?k7 ?k8 ?k9 ?kB ?_ ?c5 ?c2 ?c3 ?c4
  (case k6 => k_is); (case k7 => k_is); (case k8 => omega)
  (case k9 => exact BindsTo.of_eq (binds := [(Str.ofString "data", .str x tk)]) rfl)
  (case c5 => decide); (case kB => exact locs rfl); (case c2 => exact rfl); (case c3 => exact rfl); (case c4 => exact rfl)
  intro L' h' F' N'
  dsimp only
  k_fold
  w_on
  k_steps
  all_goals (exact post _ _ _ (Fr.keep (by assumption)))
theorem qp_spec {w : World} {A : Around} {s : Shared} {mean mg mb} {Q E : Value → Shared → Prop} (X : (hd.heap_39 w.params).In s.heap) (T : Top hd.view_39 LS mean mg mb s.heap)
    (hroom : A.depth + 1 < recursionLimit) {x : Array UInt8} {tk : Tok} (hx : x.size ≤ 1000000)
    (post : ∀ t' h' tk', (∀ b o, s.heap.get? b = some o → h'.get? b = some o) → Q (.bytes (quoteB x) t') { s with heap := h', toks := tk' }) :
    wpAny (model PG w) A (call (.ref 60) [.bytes x tk]) Q E s := by
  have : hd.heap_39 = hd.heap_39 ∧ PySem.Challenge.rw_om0212_01 = PySem.Challenge.rw_om0212_01 := by
    k_fill
    exact ⟨rfl, rfl⟩
  clear this
  refine wpAny_call ?_
  refine' enterD X T.nolimit ?k6 ?k7 ?k8 ?k9 ?kB ?_ ?c5 ?c2 ?c3 ?c4
  (case k6 => k_is); (case k7 => k_is); (case k8 => omega)
  (case k9 => exact BindsTo.of_eq (binds := [(Str.ofString "bindata", .bytes x tk)]) rfl)
  (case c5 => decide); (case kB => exact locs rfl); (case c2 => exact rfl); (case c3 => exact rfl); (case c4 => exact rfl)
  intro L' h' F' N'
  dsimp only
  k_fold
  w_on
  k_steps
  all_goals (exact post _ _ _ (Fr.keep (by assumption)))
end Mine
end

section
open PySem PySem.W PyProof.Rows PySem.Calls
set_option Elab.async false
set_option maxRecDepth 100000
namespace Mine
section
variable {prog : Program} {w : World} {A : Around} {E : Value → Shared → Prop} {s : Shared} {h₀ : Heap} {L : Addr} {m : Str → Option Value} {env : Env}

def SrcS (prog : Program) (w : World) (A : Around) (h₀ : Heap) (L : Addr) (m : Str → Option Value) (env : Env) (elt : Expr) (x : Str) (scope : Scope) (cl : List (Str × Addr)) (Q : Value → Shared → Prop) (xv : Value) (s₁ : Shared) : Prop :=
  ∃ y t news, xv = .str y t ∧ A.handled = none ∧ Fr h₀ L s₁.heap m ∧ News h₀ L s₁.heap news ∧ y.cps.size ≤ sizeLine ∧
      ∀ s₂ : Shared, (∃ h, s₂ = { s₁ with heap := h }) → LCg.CompRest prog w A h₀ L m env elt x scope cl s₂ (fun _ => True) (SignAt y) (LCg.FinE h₀ L m s₂ Q) y.cps.size 0 [] news

theorem ListComp_S {elt iter : Expr} {x : Str} {px : Pos} {scope : Scope} {cl : List (Str × Addr)} {pos : Pos} {Q : Value → Shared → Prop} (F₀ : Fr h₀ L s.heap m)
    (hclos : closureFor scope env = pure cl) (hcell : ∀ y ∈ scope.names, y.2 ≠ .cell) (hkind : scope.kind = .function)
    (hnames : ∀ y ∈ scope.names, y.2 = .local → scope.names.lookup y.1 = some .local) (hx : scope.names.lookup x = some .local)
    (h : wpAny (model prog w) A (eval iter env) (SrcS prog w A h₀ L m env elt x scope cl Q) E s)
    (hs : ∀ x, foldedSetIterable iter env x = pure x := by intro _; rfl) :
    wpAny (model prog w) A (eval (.ListComp elt [⟨.Name x px, iter, [], 0⟩] scope pos) env) Q E s := by
  have _ := F₀
  rw [eval_ListComp]
  refine wpAny_comprehension_free (use := none) rfl hs hclos hkind hnames (wpAny_mono h (fun xv s₁ h₁ => ?_) fun _ _ e => e)
  obtain ⟨y, t, news, rfl, hh, F, N, hsz, R⟩ := h₁
  have key : ∀ (T : String) (o : Obj), o = { cls := .type T, data := .fields #[.str y t, .int 0 0] } → Walks prog w A s₁.heap.objs.size [s₁.heap.objs.size] [s₁.heap.objs.size] y.cps.size (SignAt y) (fun i h => h.IsStrIter s₁.heap.objs.size T y t i) →
      wpAny (model prog w) A (newList []) (fun acc s₃ => wpAny (model prog w) A (newFunctionEnv scope env.globals cl [] env.qual none .none (some env)) (fun cenv s₄ =>
        codeAny (model prog w) A (.compStart (.ListComp elt [⟨.Name x px, iter, [], 0⟩] scope pos) 0 (.ref s₁.heap.objs.size) acc { cenv with scope := relabel scope env }) (compPost (model prog w) A E none Q acc cenv.locals) s₄) E s₃) E { s₁ with heap := s₁.heap.push o } := by
    intro T o ho W
    have up : ∀ b o', s₁.heap.get? b = some o' → (s₁.heap.push o).get? b = some o' := fun b o' e => Heap.get?_push_of_some _ e
    subst ho
    refine LCg.block_U (S := fun _ => True) (Fin := LCg.FinE h₀ L m { s₁ with heap := _ } Q) W hsz (fun i h st => by obtain ⟨o, e, _⟩ := st; exact ⟨o, e⟩) ?_ hcell hkind hx ⟨_, Heap.get?_push_size _ rfl, rfl, rfl⟩ ?_
      (F.keeps up) (N.grown up) (Nat.ne_of_lt F.ns.lt) (next_is_new F) (fun p hp => Nat.ne_of_lt (Heap.lt_size (N p hp).1)) trivial (R _ ⟨_, rfl⟩) ?_
    · intro i h h' o nw st e e' _ _ _
      obtain ⟨o', q, r⟩ := st
      rw [e] at q
      cases q
      exact ⟨o, e', r⟩
    · intro b hb
      rw [List.mem_singleton.mp hb]
      show s₁.heap.objs.size < (s₁.heap.push _).objs.size
      rw [Heap.size_push]
      exact Nat.lt_succ_self _
    · intro D C h tk m' ys news' F' N' o1 hn hC₀ hD₀ hCL hDL hCD offC fin
      refine ⟨m', hn, fun h'' hs'' => fin D h'' tk (F'.change hs'' hCL hC₀) (fun p hp => ?_) o1⟩
      refine ⟨hs''.extBut _ _ ?_ (N' p hp).1, (N' p hp).2⟩
      rcases List.mem_cons.mp hp with rfl | hp
      · exact Ne.symm hCD
      · exact offC p hp
  cases ha : y.cps.all (· < 128)
  · exact wpAny_pyIter_wide ha (key "str_iterator" _ rfl (Walks.strWide hh _ y t))
  · exact wpAny_pyIter_ascii ha (key "str_ascii_iterator" _ rfl (Walks.strAscii hh _ y t))
end
end Mine
end

section
open PySem PySem.W PyProof.Rows
set_option Elab.async false
set_option maxRecDepth 100000
namespace Mine

theorem ints_snoc {n : Int} {t : Tok} : ∀ {vs : List Value} {ns : List Int}, IntsAre vs ns → IntsAre (vs ++ [.int n t]) (ns ++ [n])
  | _, _, .nil => .cons _ _ .nil
  | _, _, .cons _ _ r => .cons _ _ (ints_snoc r)

def IntEl (news : List (Addr × Obj)) (n : Int) (v : Value) (news' : List (Addr × Obj)) : Prop := news' = news ∧ ∃ t : Tok, v = .int n t
theorem IntEl.mk {news : List (Addr × Obj)} {n k : Int} {t : Tok} (e : k = n) : IntEl news n (.int k t) news := ⟨rfl, t, by rw [e]⟩

section
variable {prog : Program} {w : World} {A : Around} {h₀ : Heap} {L : Addr} {m : Str → Option Value} {env : Env} {elt : Expr} {x : Str} {scope : Scope} {cl : List (Str × Addr)} {s : Shared} {Fin : List Value → List (Addr × Obj) → Prop} {news : List (Addr × Obj)}

theorem rest_signs {y : Str} (g : Nat → Int)
    (turn : ∀ c u I oI C oC D m₂ ys h tk (E' : Value → Shared → Prop), LCg.NsObj oC m₂ → m₂ x = some (.str ⟨#[c]⟩ u) → Fr h₀ L h m → News h₀ L h ((I, oI) :: (C, oC) :: (D, LCg.lst ys) :: news) → LCg.Off3 I C D news → ((@Ne Nat I C) ∧ (@Ne Nat I D) ∧ (@Ne Nat C D)) →
      wpAny (model prog w) A (eval elt (compEnvC scope cl C env)) (LCg.CompEnd h₀ L m { s with heap := h, toks := tk } I oI C oC D (LCg.lst ys) (fun _ => True) (fun v news' => IntEl news (g c) v news')) E' { s with heap := h, toks := tk })
    (fin : ∀ ys, IntsAre ys (y.cps.toList.map g) → Fin ys news) : LCg.CompRest prog w A h₀ L m env elt x scope cl s (fun _ => True) (SignAt y) Fin y.cps.size 0 [] news := by
  have key : ∀ (j i : Nat) (ys : List Value), i + j = y.cps.size → IntsAre ys ((y.cps.toList.take i).map g) → LCg.CompRest prog w A h₀ L m env elt x scope cl s (fun _ => True) (SignAt y) Fin j i ys news := by
    intro j
    induction j with
    | zero =>
      intro i ys hi hy
      refine LCg.CompRest.zero (fin ys ?_)
      rw [List.take_of_length_le (by simp; omega)] at hy
      exact hy
    | succ j ih =>
      intro i ys hi hy
      refine LCg.CompRest.succ ?_
      intro v I oI C oC D m₂ h tk E' hv hC hx F N off ne
      obtain ⟨c, u, hc, rfl⟩ := hv
      refine wpAny_mono (turn c u I oI C oC D m₂ ys h tk E' hC hx F N off ne) (fun v s₂ hq => ?_) fun _ _ e => e
      obtain ⟨h', tk', nw, e, F', N', off', hS, hn, t', hy'⟩ := hq
      subst hn hy'
      refine ⟨h', tk', _, e, F', N', off', trivial, ih (i + 1) _ (by omega) ?_⟩
      have hc' : y.cps.toList[i]? = some c := by rw [Array.getElem?_toList]; exact hc
      rw [List.take_succ, hc', List.map_append]
      exact ints_snoc hy
  exact key y.cps.size 0 [] (by omega) .nil
end

def octN (c : Nat) : Int := if (c : Int) < 128 then (c : Int) else 128 + Int.fmod (c : Int) 128
def octS (x : Str) : Array UInt8 := (byteArr (x.cps.toList.map octN))

theorem octN_in (c : Nat) : 0 ≤ octN c ∧ octN c < 256 := by
  unfold octN
  split
  · omega
  · have h1 := Int.fmod_nonneg_of_pos (c : Int) (b := 128) (by decide)
    have h2 := Int.fmod_lt_of_pos (c : Int) (b := 128) (by decide)
    omega

local macro_rules | `(tactic| walk_at "eval ListComp") => `(tactic| (k_here; k_dflt (refine ListComp_S (F₀ := by k_asm) (by rfl) (by decide) (by rfl) (by decide) (by rfl) ?_)))

set_option maxHeartbeats 8000000
theorem oct_spec {w : World} {A : Around} {s : Shared} {mean mg mb} {Q E : Value → Shared → Prop} (X : (hd.heap_39 w.params).In s.heap) (T : Top hd.view_39 LS mean mg mb s.heap)
    (hroom : A.depth + 1 < recursionLimit) (hh : A.handled = none) {x : Str} {tk : Tok} (hx : x.cps.size ≤ 1000000)
    (post : ∀ t' h' tk', (∀ b o, s.heap.get? b = some o → h'.get? b = some o) → Q (.bytes (octS x) t') { s with heap := h', toks := tk' }) :
    wpAny (model PG w) A (call (.ref 98) [.str x tk]) Q E s := by
  have : hd.heap_39 = hd.heap_39 ∧ PySem.Challenge.rw_om0212_01 = PySem.Challenge.rw_om0212_01 := by
    k_fill
    exact ⟨rfl, rfl⟩
  clear this
  refine wpAny_call ?_
  refine' enterD X T.nolimit ?k6 ?k7 ?k8 ?k9 ?kB ?_ ?c5 ?c2 ?c3 ?c4
  (case k6 => k_is); (case k7 => k_is); (case k8 => omega)
  (case k9 => exact BindsTo.of_eq (binds := [(Str.ofString "text", .str x tk)]) rfl)
  (case c5 => decide); (case kB => exact locs rfl); (case c2 => exact rfl); (case c3 => exact rfl); (case c4 => exact rfl)
  intro L' h' F' N'
  dsimp only
  k_fold
  w_on
  k_steps
  refine ⟨_, _, _, rfl, hh, F', N', by rw [sizeLine_eq]; omega, ?_⟩
  rintro s₂ ⟨g, rfl⟩
  refine rest_signs octN ?_ ?_
  · intro c u I oI C oC D m₂ ys h tk E' hC hx F N off ne
    k_steps
    all_goals refine IntEl.mk ?_
    all_goals (unfold octN; first | (rw [if_pos (by assumption)]; done) | rw [if_neg (by assumption)])
  · intro ys hys
    k_steps
    rename_i D₁ h₁ tk₁ F₁ N₁ _
    have hlen : ys.length = x.cps.size := by
      have := IntsAre.length hys
      rw [this]
      simp
    refine bytes_K F₁ N₁ ⟨_, (N₁ _ (.head _)).1, rfl, _, rfl⟩ hys ?_ (by rw [sizeLine_eq]; omega) hh ?_
    · intro n hn
      obtain ⟨c, _, rfl⟩ := List.mem_map.mp hn
      exact octN_in c
    · intro h₂ t₂ k₂ F₂ _ _
      exact post _ _ _ F₂.keep
end Mine
end

section
open PySem PySem.W PyProof.Rows PySem.Builtin PySem.Builtin.Str
namespace Mine
theorem clip1 (n : Nat) : strSliceIndices none (some 1) 1 (n + 1) = [0] := by
  unfold strSliceIndices
  dsimp only
  rw [if_pos (by decide : (1 : Int) > 0), if_pos (by decide : (1 : Int) > 0), if_neg (by decide : ¬ (1 : Int) < 0)]
  have e : max (0 : Int) (min 1 ((n + 1 : Nat) : Int)) = 1 := by omega
  rw [e]
  decide +kernel
theorem slice1 (x : Str) : Txt.slice x none (some 1) = ⟨(x.cps.toList.take 1).toArray⟩ := by
  obtain ⟨⟨l⟩⟩ := x
  cases l with
  | nil => decide +kernel
  | cons c r =>
    have hl : Str.length ⟨⟨c :: r⟩⟩ = r.length + 1 := rfl
    unfold Txt.slice
    rw [hl, clip1]
    cases r with
    | nil => rfl
    | cons d r => simp
theorem slice_dot (x : Str) : (Txt.slice x none (some 1) == Str.ofString ".") = decide (x.cps[0]? = some 46) := by
  rw [slice1, show Str.ofString "." = ⟨#[46]⟩ by decide +kernel]
  obtain ⟨⟨l⟩⟩ := x
  cases l with
  | nil => decide +kernel
  | cons c r =>
    show ((⟨#[c]⟩ : Str) == ⟨#[46]⟩) = decide (some c = some 46)
    by_cases h : c = 46
    · subst h; decide +kernel
    · rw [decide_eq_false (by simpa using h), beq_eq_false_iff_ne]
      intro e
      exact h (by simpa using e)
end Mine
end

section
open PySem PySem.W PyProof.Rows
set_option Elab.async false
set_option maxRecDepth 100000
namespace Mine

section
variable {w : World} {A : Around} {s : Shared} {h₀ : Heap} {L : Addr} {m : Str → Option Value} {news : List (Addr × Obj)} {mean : ExcName → Option Value} {mg mb : Str → Option Value} {Q E : Value → Shared → Prop}
theorem quote_K {x : Str} {tk : Tok} (F : Fr h₀ L s.heap m) (N : News h₀ L s.heap news) (X : (hd.heap_39 w.params).In h₀) (T : Top hd.view_39 LS mean mg mb h₀)
    (hroom : A.depth + 1 < recursionLimit) (hx : x.cps.size ≤ 400000)
    (post : ∀ t' h' tk', Fr h₀ L h' m → News h₀ L h' news → Q (.str (quoteS (fixS x)) t') { s with heap := h', toks := tk' }) : wpAny (model PG w) A (call (.ref 53) [.str x tk]) Q E s :=
  quote_spec (X.keeps F.keep) (T.keeps F.keep) hroom hx fun t' h' tk' hk => post t' h' tk' (F.grownK hk) (N.grown hk)
theorem fix_K {x : Str} {tk : Tok} (F : Fr h₀ L s.heap m) (N : News h₀ L s.heap news) (X : (hd.heap_39 w.params).In h₀) (T : Top hd.view_39 LS mean mg mb h₀)
    (hroom : A.depth + 1 < recursionLimit) (hx : x.cps.size ≤ 400000)
    (post : ∀ t' h' tk', Fr h₀ L h' m → News h₀ L h' news → Q (.str (fixS x) t') { s with heap := h', toks := tk' }) : wpAny (model PG w) A (call (.ref 67) [.str x tk]) Q E s :=
  fix_spec (X.keeps F.keep) (T.keeps F.keep) hroom hx fun t' h' tk' hk => post t' h' tk' (F.grownK hk) (N.grown hk)
theorem qp_K {x : Array UInt8} {tk : Tok} (F : Fr h₀ L s.heap m) (N : News h₀ L s.heap news) (X : (hd.heap_39 w.params).In h₀) (T : Top hd.view_39 LS mean mg mb h₀)
    (hroom : A.depth + 1 < recursionLimit) (hx : x.size ≤ 1000000)
    (post : ∀ t' h' tk', Fr h₀ L h' m → News h₀ L h' news → Q (.bytes (quoteB x) t') { s with heap := h', toks := tk' }) : wpAny (model PG w) A (call (.ref 60) [.bytes x tk]) Q E s :=
  qp_spec (X.keeps F.keep) (T.keeps F.keep) hroom hx fun t' h' tk' hk => post t' h' tk' (F.grownK hk) (N.grown hk)
theorem oct_K {x : Str} {tk : Tok} (F : Fr h₀ L s.heap m) (N : News h₀ L s.heap news) (X : (hd.heap_39 w.params).In h₀) (T : Top hd.view_39 LS mean mg mb h₀)
    (hroom : A.depth + 1 < recursionLimit) (hh : A.handled = none) (hx : x.cps.size ≤ 1000000)
    (post : ∀ t' h' tk', Fr h₀ L h' m → News h₀ L h' news → Q (.bytes (octS x) t') { s with heap := h', toks := tk' }) : wpAny (model PG w) A (call (.ref 98) [.str x tk]) Q E s :=
  oct_spec (X.keeps F.keep) (T.keeps F.keep) hroom hh hx fun t' h' tk' hk => post t' h' tk' (F.grownK hk) (N.grown hk)
end

def StrEl (news : List (Addr × Obj)) (n : Str) (v : Value) (news' : List (Addr × Obj)) : Prop := news' = news ∧ ∃ t : Tok, v = .str n t
theorem StrEl.mk {news : List (Addr × Obj)} {n k : Str} {t : Tok} (e : k = n) : StrEl news n (.str k t) news := ⟨rfl, t, by rw [e]⟩

theorem strs_snoc {y : Str} {t : Tok} : ∀ {vs : List Value} {ys : List Str}, StrsAre vs ys → StrsAre (vs ++ [.str y t]) (ys ++ [y])
  | _, _, .nil => .cons y t .nil
  | _, _, .cons z u r => .cons z u (strs_snoc r)
theorem strs_get : ∀ {vs : List Value} {ys : List Str} {i : Nat} {v : Value}, StrsAre vs ys → vs[i]? = some v → ∃ y t, ys[i]? = some y ∧ v = .str y t
  | _, _, 0, _, .cons y t _, h => ⟨y, t, rfl, (Option.some.inj h).symm⟩
  | _, _, i + 1, _, .cons _ _ r, h => strs_get (i := i) r h
  | _, _, _, _, .nil, h => by simp at h

section
variable {prog : Program} {w : World} {A : Around} {h₀ : Heap} {L : Addr} {m : Str → Option Value} {env : Env} {elt : Expr} {x : Str} {scope : Scope} {cl : List (Str × Addr)} {s : Shared} {Fin : List Value → List (Addr × Obj) → Prop} {news : List (Addr × Obj)}

theorem rest_strs {ra : Addr} {rv : List Value} {ks : List Str} (g : Str → Str) (hl : h₀.IsList ra rv.toArray) (hi : StrsAre rv ks)
    (turn : ∀ c u I oI C oC D m₂ ys h tk (E' : Value → Shared → Prop), c ∈ ks → LCg.NsObj oC m₂ → m₂ x = some (.str c u) → Fr h₀ L h m → News h₀ L h ((I, oI) :: (C, oC) :: (D, LCg.lst ys) :: news) → LCg.Off3 I C D news → ((@Ne Nat I C) ∧ (@Ne Nat I D) ∧ (@Ne Nat C D)) →
      wpAny (model prog w) A (eval elt (compEnvC scope cl C env)) (LCg.CompEnd h₀ L m { s with heap := h, toks := tk } I oI C oC D (LCg.lst ys) (fun _ => True) (fun v news' => StrEl news (g c) v news')) E' { s with heap := h, toks := tk })
    (fin : ∀ ys, StrsAre ys (ks.map g) → Fin ys news) : LCg.CompRest prog w A h₀ L m env elt x scope cl s (LCg.SrcAt h₀ ra rv.toArray) (fun i v => rv.toArray[i]? = some v) Fin rv.toArray.size 0 [] news := by
  have hlen : rv.length = ks.length := StrsAre.len_eq hi
  have key : ∀ (j i : Nat) (ys : List Value), i + j = rv.length → StrsAre ys ((ks.take i).map g) → LCg.CompRest prog w A h₀ L m env elt x scope cl s (LCg.SrcAt h₀ ra rv.toArray) (fun i v => rv.toArray[i]? = some v) Fin j i ys news := by
    intro j
    induction j with
    | zero =>
      intro i ys hi' hy
      refine LCg.CompRest.zero (fin ys ?_)
      rw [List.take_of_length_le (by omega)] at hy
      exact hy
    | succ j ih =>
      intro i ys hi' hy
      refine LCg.CompRest.succ ?_
      intro v I oI C oC D m₂ h tk E' hv hC hx F N off ne
      obtain ⟨c, u, hc, rfl⟩ := strs_get hi (by simpa using hv)
      refine wpAny_mono (turn c u I oI C oC D m₂ ys h tk E' (List.mem_of_getElem? hc) hC hx F N off ne) (fun v s₂ hq => ?_) fun _ _ e => e
      obtain ⟨h', tk', nw, e, F', N', off', hS, hn, t', hy'⟩ := hq
      subst hn hy'
      refine ⟨h', tk', _, e, F', N', off', .inl hl, ih (i + 1) _ (by omega) ?_⟩
      rw [List.take_add_one, hc, List.map_append]
      exact strs_snoc hy
  have e : rv.toArray.size = rv.length := by simp
  rw [e]
  exact key rv.length 0 [] (by omega) .nil
end

theorem len_le_sum {c : Str} : ∀ {ks : List Str}, c ∈ ks → c.length ≤ (ks.map (·.length)).sum
  | _ :: _, .head _ => by simp
  | _ :: _, .tail _ h => by have := len_le_sum h; simp; omega

def dotS (x : Str) : Str := if x.cps[0]? = some 46 then ⟨#[46] ++ x.cps⟩ else x
def CR : Str := ⟨#[13, 10]⟩
theorem dots_sum (ks : List Str) : ((ks.map dotS).map (·.length)).sum ≤ (ks.map (·.length)).sum + ks.length := by
  induction ks with
  | nil => exact Nat.le_refl _
  | cons k r ih =>
    have h1 : (dotS k).length ≤ k.length + 1 := by
      unfold dotS
      split
      · show (#[46] ++ k.cps).size ≤ k.cps.size + 1
        rw [Array.size_append]
        show 1 + _ ≤ _
        omega
      · omega
    simp only [List.map_cons, List.sum_cons, List.length_cons]
    omega
theorem join_len (sep : Str) (ks : List Str) : (Txt.join sep ks).length ≤ (ks.map (·.length)).sum + ks.length * sep.length := by
  unfold Txt.join
  rw [StrLaws.glued_eq_join]
  exact StrLaws.join_length_le sep ks

local macro_rules | `(tactic| walk_at "call ref") => `(tactic| (k_here; k_dflt (first
  | (refine' quote_K ?k1 ?k2 ?k3 ?k4 ?k5 ?k6 ?_; (case k1 => k_asm); (case k2 => k_asm); (case k3 => k_asm); (case k4 => k_asm); (case k5 => (simp only [depth_deeper]; omega)); (case k6 => assumption); intro t' h' tk' F' N'; (try k_sweep))
  | (refine' fix_K ?k1 ?k2 ?k3 ?k4 ?k5 ?k6 ?_; (case k1 => k_asm); (case k2 => k_asm); (case k3 => k_asm); (case k4 => k_asm); (case k5 => (simp only [depth_deeper]; omega)); (case k6 => assumption); intro t' h' tk' F' N'; (try k_sweep))
  | (refine' qp_K ?k1 ?k2 ?k3 ?k4 ?k5 ?k6 ?_; (case k1 => k_asm); (case k2 => k_asm); (case k3 => k_asm); (case k4 => k_asm); (case k5 => (simp only [depth_deeper]; omega)); (case k6 => assumption); intro t' h' tk' F' N'; (try k_sweep))
  | (refine' oct_K ?k1 ?k2 ?k3 ?k4 ?k5 ?k6 ?k7 ?_; (case k1 => k_asm); (case k2 => k_asm); (case k3 => k_asm); (case k4 => k_asm); (case k5 => (simp only [depth_deeper]; omega)); (case k6 => assumption); (case k7 => assumption); intro t' h' tk' F' N'; (try k_sweep)))))
local macro_rules | `(tactic| walk_at "call builtin:str.join") => `(tactic| (k_here; k_dflt (refine' join_list ?k1 ?k2 ?k3 ?_; (case k1 => is_list); (case k2 => (with_reducible assumption)); (case k3 => assumption); intro t' tk')))
local macro_rules | `(tactic| walk_at "CompSrc") => `(tactic| (k_here; k_dflt (refine LCg.CompSrc.base (by assumption) (by k_asm) (by k_asm) (by assumption) (by assumption) ?_; intro g')))
local macro_rules | `(tactic| walk_at "CompRest") => `(tactic| fail "mine")

set_option maxHeartbeats 8000000
theorem fits_spec {w : World} {A : Around} {s : Shared} {mean mg mb} {Q E : Value → Shared → Prop} (X : (hd.heap_39 w.params).In s.heap) (T : Top hd.view_39 LS mean mg mb s.heap)
    (hroom : A.depth + 5 < recursionLimit) (hh : A.handled = none) {x : Str} {tk : Tok} {ra : Addr} {rv : List Value} {ks : List Str} (hl : s.heap.IsList ra rv.toArray) (hi : StrsAre rv ks)
    (hq : quoteS (fixS x) = Txt.join CR (ks.map dotS)) (hf : fixS x = Txt.join CR ks) (hb : quoteB (octS (Txt.join CR ks)) = octS (Txt.join CR (ks.map dotS)))
    (hsz : (ks.map (·.length)).sum + ks.length * 4 ≤ 100000) (hxs : x.cps.size ≤ 400000)
    (post : ∀ h' tk', (∀ b o, s.heap.get? b = some o → h'.get? b = some o) → Q (.bool true) { s with heap := h', toks := tk' }) :
    wpAny (model PG w) A (call (.ref 103) [.str x tk, .ref ra]) Q E s := by
  have : hd.heap_39 = hd.heap_39 ∧ PySem.Challenge.rw_om0212_01 = PySem.Challenge.rw_om0212_01 := by
    k_fill
    exact ⟨rfl, rfl⟩
  clear this
  have hcr : Str.ofString "\x0d\n" = CR := by decide +kernel
  have hj1 : (ks.map (·.length)).sum + ks.length * (Str.ofString "\x0d\n").length ≤ 16777216 := by
    rw [hcr]
    show _ + _ * 2 ≤ _
    omega
  have hj2 : ((ks.map dotS).map (·.length)).sum + (ks.map dotS).length * (Str.ofString "\x0d\n").length ≤ 16777216 := by
    rw [hcr, List.length_map]
    have := dots_sum ks
    show _ + _ * 2 ≤ _
    omega
  have hs1 : (Txt.join (Str.ofString "\x0d\n") ks).cps.size ≤ 1000000 := by
    have := join_len (Str.ofString "\x0d\n") ks
    rw [hcr] at this ⊢
    have e : CR.length = 2 := rfl
    rw [e] at this
    show (Txt.join CR ks).length ≤ _
    omega
  have hs2 : (Txt.join (Str.ofString "\x0d\n") (ks.map dotS)).cps.size ≤ 1000000 := by
    have := join_len (Str.ofString "\x0d\n") (ks.map dotS)
    have h2 := dots_sum ks
    rw [hcr] at this ⊢
    have e : CR.length = 2 := rfl
    rw [e, List.length_map] at this
    show (Txt.join CR (ks.map dotS)).length ≤ _
    omega
  have hs3 : (octS (Txt.join (Str.ofString "\x0d\n") ks)).size ≤ 1000000 := by
    unfold octS
    rw [byteArr_size]
    simpa using hs1
  rw [← hcr] at hq hf hb
  have hrsz : rv.toArray.size ≤ sizeLine := by
    rw [List.size_toArray, StrsAre.len_eq hi, sizeLine_eq]
    omega
  refine wpAny_call ?_
  refine' enterD X T.nolimit ?k6 ?k7 ?k8 ?k9 ?kB ?_ ?c5 ?c2 ?c3 ?c4
  (case k6 => k_is); (case k7 => k_is); (case k8 => omega)
  (case k9 => exact BindsTo.of_eq (binds := [(Str.ofString "text", .str x tk), (Str.ofString "kept", .ref ra)]) rfl)
  (case c5 => decide); (case kB => exact locs rfl); (case c2 => exact rfl); (case c3 => exact rfl); (case c4 => exact rfl)
  intro L' h' F' N'
  dsimp only
  k_fold
  w_on
  k_steps
  refine rest_strs dotS hl hi ?_ ?_
  · intro c u I oI C oC D m₂ ys h tk E' hc hC hx F N off ne
    have hcl : c.length ≤ 1048576 := by
      have := len_le_sum hc
      omega
    k_steps
    · refine StrEl.mk ?_
      rename ((Txt.slice c none (some 1) == _) = true) => hd
      rw [slice_dot, decide_eq_true_iff] at hd
      unfold dotS
      rw [if_pos hd]
      show (⟨(Str.ofString ".").cps ++ c.cps⟩ : Str) = _
      rw [show Str.ofString "." = ⟨#[46]⟩ by decide +kernel]
    · refine StrEl.mk ?_
      rename ((Txt.slice c none (some 1) == _) = false) => hd
      rw [slice_dot, decide_eq_false_iff_not] at hd
      unfold dotS
      rw [if_neg hd]
  · intro ys hys
    k_steps
    · rename ((quoteS (fixS x) != _) = true) => hn
      rw [hq] at hn
      exact absurd hn (by simp)
    · rename ((fixS x != _) = true) => hn
      rw [hf] at hn
      exact absurd hn (by simp)
    · rw [hb, beq_self_eq_true]
      exact post _ _ (Fr.keep (by assumption))

theorem fits_K {w : World} {A : Around} {s : Shared} {h₀ : Heap} {L : Addr} {m : Str → Option Value} {news : List (Addr × Obj)} {mean mg mb} {Q E : Value → Shared → Prop} {x : Str} {tk : Tok} {ra : Addr} {rv : List Value} {ks : List Str}
    (F : Fr h₀ L s.heap m) (N : News h₀ L s.heap news) (X : (hd.heap_39 w.params).In h₀) (T : Top hd.view_39 LS mean mg mb h₀) (hroom : A.depth + 5 < recursionLimit) (hh : A.handled = none) (hl : s.heap.IsList ra rv.toArray) (hi : StrsAre rv ks)
    (hq : quoteS (fixS x) = Txt.join CR (ks.map dotS)) (hf : fixS x = Txt.join CR ks) (hb : quoteB (octS (Txt.join CR ks)) = octS (Txt.join CR (ks.map dotS)))
    (hsz : (ks.map (·.length)).sum + ks.length * 4 ≤ 100000) (hxs : x.cps.size ≤ 400000)
    (post : ∀ h' tk', Fr h₀ L h' m → News h₀ L h' news → Q (.bool true) { s with heap := h', toks := tk' }) :
    wpAny (model PG w) A (call (.ref 103) [.str x tk, .ref ra]) Q E s :=
  fits_spec (X.keeps F.keep) (T.keeps F.keep) hroom hh hl hi hq hf hb hsz hxs fun h' tk' hk => post h' tk' (F.grownK hk) (N.grown hk)
end Mine
end

section
open PySem PySem.W PyProof.Rows
set_option Elab.async false
set_option maxRecDepth 100000
namespace Mine

def LFs : Str := ⟨#[10]⟩
def CRs : Str := ⟨#[13]⟩
def NOs : Str := ⟨#[]⟩
def sAt (ys : List Str) (i : Nat) : Str := ys.getD i NOs
def keptN (rs ws : List Str) : Nat → List Str
  | 0 => [sAt rs 0]
  | i + 1 => (if i ≠ 0 ∧ sAt ws i = LFs ∧ sAt ws (i - 1) = CRs ∧ sAt rs i = NOs then (keptN rs ws i).dropLast else keptN rs ws i) ++ [sAt rs (i + 1)]

section
variable {prog : Program} {w : World} {A : Around} {E : Value → Shared → Prop} {s : Shared} {env : Env} {h₀ : Heap} {x : Str} {body : List Stmt} {Q : Flow → Shared → Prop}

/-- what a turn hands on: the one list of the ledger, the frame but for the loop's name -/
def TurnEnd (h₀ : Heap) (L D : Addr) (x : Str) (m₀ : Str → Option Value) (P : List Value → Prop) (own : List (Addr × Obj)) (s₁ : Shared) (Q : Flow → Shared → Prop) (f : Flow) (s₂ : Shared) : Prop :=
  match f with
  | .ret v => Q (.ret v) s₂
  | .brk => Q .next s₂
  | _ => ∃ h' tk m' us ver, s₂ = { s₁ with heap := h', toks := tk } ∧ Fr h₀ L h' m' ∧ News h₀ L h' ((D, listOf us.toArray ver) :: own) ∧ (∀ z, z ≠ x → m' z = m₀ z) ∧ P us

theorem rangeLoop {r D : Addr} {n ver : Nat} {t₀ u₀ v₀ : Tok} {us : List Value} {m₀ : Str → Option Value} (P : Nat → List Value → Prop) (hn : n ≤ 1000)
    (hh : A.handled = none) (hr : IsRange s.heap r 0 (n : Int) 1 t₀ u₀ v₀) (F : Fr h₀ env.locals s.heap m₀) (N : News h₀ env.locals s.heap [(D, listOf us.toArray ver)]) (hp : P 0 us)
    (turn : ∀ i us ver t h tk own, i < n → P i us → (∀ p ∈ own, p.1 ≠ D) → Fr h₀ env.locals h (fun y => if y = x then some (.int (i : Int) t) else m₀ y) → News h₀ env.locals h ((D, listOf us.toArray ver) :: own) →
      wpAny (model prog w) A (execs body env) (TurnEnd h₀ env.locals D x m₀ (P (i + 1)) own { s with heap := h, toks := tk } Q) E { s with heap := h, toks := tk })
    (done : ∀ us ver (u : Str → Option Value) h tk, P n us → Fr h₀ env.locals h (fun y => if y = x then u y else m₀ y) → News h₀ env.locals h [(D, listOf us.toArray ver)] → Q .next { s with heap := h, toks := tk }) :
    wpAny (model prog w) A (pyIter (.ref r)) (fun it s₂ => LoopAtV prog w A h₀ env x body Q E it s₂) E s := by
  have hsz : Builtin.Range.rangeSize 0 (n : Int) 1 = (n : Int) := by
    unfold Builtin.Range.rangeSize
    rw [if_pos (by decide)]
    split
    · rw [Int.ediv_one]; omega
    · omega
  have hsm : Builtin.Range.small 0 (n : Int) 1 = true := by
    exact small_one (by decide) (by decide) (by omega) (by omega)
  refine kst_range (σ := List Value × Nat) (fun c => [(D, listOf c.1.toArray c.2)]) (fun _ => []) (fun _ => True) [] (fun pre c => P pre.length c.1) (us, ver) hh hr hsm hsz F N trivial (fun _ hp => nomatch hp) hp ?_ ?_
  · intro c pre k t u h tk own hk hlt hoff _ hP F₁ N₁
    have e : k = (pre.length : Int) := by omega
    subst e
    refine wpAny_mono (turn pre.length c.1 c.2 t h tk own hlt hP (fun p hp => hoff p hp D (.head _)) F₁ N₁) (fun f s₂ q => ?_) fun _ _ e => e
    have up : (∃ h' tk' m' us ver, s₂ = ({ s with heap := h', toks := tk' } : Shared) ∧ Fr h₀ env.locals h' m' ∧ News h₀ env.locals h' ((D, listOf us.toArray ver) :: own) ∧ (∀ z, z ≠ x → m' z = m₀ z) ∧ P (pre.length + 1) us) →
        InvEndN h₀ env.locals (KstS (fun c : List Value × Nat => [(D, listOf c.1.toArray c.2)]) (fun _ => []) (fun _ => True) x [] m₀ (fun pre c => P pre.length c.1) (pre ++ [(pre.length : Int)])) own [D] { s with heap := h, toks := tk } s₂ := by
      rintro ⟨h', tk', m', us', ver', e, F', N', hm, hP'⟩
      refine ⟨h', tk', m', _, [(D, listOf us'.toArray ver')], e, F', N', ?_, (fun p hp => .tail _ hp), rfl, (us', ver'), rfl, trivial, (fun _ hp => nomatch hp), (fun z hz _ _ => hm z hz), ?_⟩
      · intro p hp
        rw [List.mem_singleton.mp hp]
        exact .head _
      · show P (pre ++ [(pre.length : Int)]).length us'
        rw [List.length_append]
        exact hP'
    cases f with
    | ret v => exact q
    | brk => exact q
    | next => exact up q
    | cont => exact up q
  · intro c u h tk _ hP F₁ N₁
    have e : (rangeKs 0 n).length = n := rangeKs_length 0 n
    have hP' : P (rangeKs 0 n).length c.1 := hP
    rw [e] at hP'
    exact done c.1 c.2 u h tk hP' F₁ N₁
end

theorem keptN_length (rs ws : List Str) : ∀ i, (keptN rs ws i).length ≤ i + 1
  | 0 => Nat.le_refl _
  | i + 1 => by
    have := keptN_length rs ws i
    unfold keptN
    rw [List.length_append]
    split
    · rw [List.length_dropLast]; simp; omega
    · simp; omega
theorem keptN_pos (rs ws : List Str) (i : Nat) : 0 < (keptN rs ws i).length := by
  cases i with
  | zero => exact Nat.one_pos
  | succ i => unfold keptN; rw [List.length_append]; simp

theorem strs_dropLast : ∀ {vs : List Value} {ys : List Str}, StrsAre vs ys → StrsAre vs.dropLast ys.dropLast
  | _, _, .nil => .nil
  | _, _, .cons y t .nil => .nil
  | _, _, .cons y t (.cons z u r) => .cons y t (strs_dropLast (.cons z u r))

section
variable {rs ws : List Str} {i : Nat}
theorem i_nat : ((i : Int)).toNat = i := Int.toNat_natCast i
theorem i_pred : ((i : Int) - 1).toNat = i - 1 := by omega
theorem i_succ : ((i : Int) + 1).toNat = i + 1 := by omega
theorem eqS {a b c : Str} (hc : b = c) : (a == b) = true ↔ a = c := by rw [← hc]; exact beq_iff_eq
theorem lf_eq : Str.ofString "\n" = LFs := by decide +kernel
theorem cr_eq : Str.ofString "\x0d" = CRs := by decide +kernel
theorem no_eq : Str.ofString "" = NOs := by decide +kernel

theorem keptN_true (h0 : (i : Int) ≠ 0) (h1 : (ws.getD (i : Int).toNat Str.empty == Str.ofString "\n") = true) (h2 : (ws.getD ((i : Int) - 1).toNat Str.empty == Str.ofString "\x0d") = true) (h3 : (rs.getD (i : Int).toNat Str.empty == Str.ofString "") = true) :
    keptN rs ws (i + 1) = (keptN rs ws i).dropLast ++ [rs.getD ((i : Int) + 1).toNat Str.empty] := by
  rw [i_nat, eqS lf_eq] at h1
  rw [i_pred, eqS cr_eq] at h2
  rw [i_nat, eqS no_eq] at h3
  rw [i_succ]
  conv => lhs; unfold keptN
  rw [if_pos ⟨by omega, h1, h2, h3⟩]
  rfl
theorem keptN_else (h : ¬ (i ≠ 0 ∧ sAt ws i = LFs ∧ sAt ws (i - 1) = CRs ∧ sAt rs i = NOs)) : keptN rs ws (i + 1) = keptN rs ws i ++ [rs.getD ((i : Int) + 1).toNat Str.empty] := by
  rw [i_succ]
  conv => lhs; unfold keptN
  rw [if_neg h]
  rfl
theorem keptN_f0 (h0 : (i : Int) = 0) : keptN rs ws (i + 1) = keptN rs ws i ++ [rs.getD ((i : Int) + 1).toNat Str.empty] :=
  keptN_else fun h => h.1 (by omega)
theorem keptN_f1 (h1 : (ws.getD (i : Int).toNat Str.empty == Str.ofString "\n") = false) : keptN rs ws (i + 1) = keptN rs ws i ++ [rs.getD ((i : Int) + 1).toNat Str.empty] :=
  keptN_else fun h => by
    rw [i_nat] at h1
    exact absurd ((eqS lf_eq).mpr h.2.1) (by rw [show ws.getD i Str.empty = sAt ws i from rfl] at h1; rw [h1]; exact Bool.false_ne_true)
theorem keptN_f2 (h1 : (ws.getD ((i : Int) - 1).toNat Str.empty == Str.ofString "\x0d") = false) : keptN rs ws (i + 1) = keptN rs ws i ++ [rs.getD ((i : Int) + 1).toNat Str.empty] :=
  keptN_else fun h => by
    rw [i_pred] at h1
    exact absurd ((eqS cr_eq).mpr h.2.2.1) (by rw [show ws.getD (i - 1) Str.empty = sAt ws (i - 1) from rfl] at h1; rw [h1]; exact Bool.false_ne_true)
theorem keptN_f3 (h1 : (rs.getD (i : Int).toNat Str.empty == Str.ofString "") = false) : keptN rs ws (i + 1) = keptN rs ws i ++ [rs.getD ((i : Int) + 1).toNat Str.empty] :=
  keptN_else fun h => by
    rw [i_nat] at h1
    exact absurd ((eqS no_eq).mpr h.2.2.2) (by rw [show rs.getD i Str.empty = sAt rs i from rfl] at h1; rw [h1]; exact Bool.false_ne_true)
end

theorem TurnEnd.mk {h₀ : Heap} {L D : Addr} {x : Str} {m₀ m' : Str → Option Value} {P : List Value → Prop} {own : List (Addr × Obj)} {s₁ : Shared} {Q : Flow → Shared → Prop} {h' : Heap} {tk ver : Nat} {us : List Value} {v : Value}
    (F : Fr h₀ L h' m') (N : News h₀ L h' ((D, listOf (us.toArray.push v) ver) :: own)) (hm : ∀ z, z ≠ x → m' z = m₀ z) (hP : P (us ++ [v])) : TurnEnd h₀ L D x m₀ P own s₁ Q .next { s₁ with heap := h', toks := tk } := by
  refine ⟨h', tk, m', us ++ [v], ver, rfl, F, ?_, hm, hP⟩
  rw [← List.push_toArray]
  exact N

theorem pop_strs {prog : Program} {w : World} {A : Around} {E : Value → Shared → Prop} {s : Shared} {h₀ : Heap} {L D : Addr} {m : Str → Option Value} {news news' : List (Addr × Obj)} {n : Nat} {us : List Value} {Q : Value → Shared → Prop}
    (F : Fr h₀ L s.heap m) (N : News h₀ L s.heap news) (hne : 0 < us.length) (hz : us.length ≤ sizeLine) (U : Upd D (listOf us.toArray n) (listOf us.dropLast.toArray (n + 1)) news news')
    (h : ∀ v h', Fr h₀ L h' m → News h₀ L h' news' → Q v { s with heap := h' }) : wpAny (model prog w) A (call (.builtin "list.pop") [.ref D]) Q E s := by
  have hl : us ≠ [] := fun e => by rw [e] at hne; exact absurd hne (Nat.lt_irrefl _)
  refine kl_pop F N (p := us.dropLast) (y := us.getLast hl) ?_ U (by simpa using hz) fun h' F' N' => h _ h' F' N'
  have e := kpa_last (us.getLast hl) us.dropLast
  rw [List.dropLast_concat_getLast] at e
  simpa using e

local macro_rules | `(tactic| walk_at "call builtin:list.pop") => `(tactic| (k_here; k_dflt (refine' pop_strs ?F ?N ?l ?z ?U ?_; (case F => k_asm); (case N => k_asm); (case U => exact Upd.head (by assumption)); (case l => assumption); (case z => assumption)); intro v' h' F' N'; (try k_sweep)))
local macro_rules | `(tactic| walk_at "call builtin:list.append") => `(tactic| (k_here; k_dflt (refine' append_K ?k1 ?k2 ?k3 ?_ ?z; (case k1 => k_asm); (case k2 => k_asm); (case k3 => exact Upd.head (by assumption)); (case z => assumption); k_whole); intro h' F' N'; (try k_sweep)))

set_option maxHeartbeats 8000000
theorem kept_spec {w : World} {A : Around} {s : Shared} {mean mg mb} {Q E : Value → Shared → Prop} (X : (hd.heap_39 w.params).In s.heap) (T : Top hd.view_39 LS mean mg mb s.heap)
    (hroom : A.depth + 1 < recursionLimit) (hh : A.handled = none) {ra wa : Addr} {rv wv : List Value} {rs ws : List Str} (hlr : s.heap.IsList ra rv.toArray) (hir : StrsAre rv rs) (hlw : s.heap.IsList wa wv.toArray) (hiw : StrsAre wv ws)
    (hlen : rs.length = ws.length + 1) (hmax : ws.length ≤ 1000)
    (post : ∀ D kv n h' tk', (∀ b o, s.heap.get? b = some o → h'.get? b = some o) → s.heap.get? D = none → h'.get? D = some (listOf kv n) → StrsAre kv.toList (keptN rs ws ws.length) → Q (.ref D) { s with heap := h', toks := tk' }) :
    wpAny (model PG w) A (call (.ref 93) [.ref ra, .ref wa]) Q E s := by
  have : hd.heap_39 = hd.heap_39 ∧ PySem.Challenge.rw_om0212_01 = PySem.Challenge.rw_om0212_01 := by
    k_fill
    exact ⟨rfl, rfl⟩
  clear this
  have hrl : rs.length ≤ 1001 := by omega
  have hwv : wv.length = ws.length := StrsAre.len_eq hiw
  refine wpAny_call ?_
  refine' enterD X T.nolimit ?k6 ?k7 ?k8 ?k9 ?kB ?_ ?c5 ?c2 ?c3 ?c4
  (case k6 => k_is); (case k7 => k_is); (case k8 => omega)
  (case k9 => exact BindsTo.of_eq (binds := [(Str.ofString "rows", .ref ra), (Str.ofString "word", .ref wa)]) rfl)
  (case c5 => decide); (case kB => exact locs rfl); (case c2 => exact rfl); (case c3 => exact rfl); (case c4 => exact rfl)
  intro L' h' F' N'
  dsimp only
  k_fold
  w_on
  k_steps
  refine rangeLoop (n := ws.length) (fun i us => StrsAre us (keptN rs ws i)) hmax hh (by assumption) (by assumption) (by assumption) ?_ ?_ ?_
  · exact .cons _ _ .nil
  · intro i us ver t h tk own hi hP hoff F N
    have hi0 : 0 ≤ (i : Int) := by omega
    have hi1 : (i : Int) < (ws.length : Int) := by omega
    have hul : us.length = (keptN rs ws i).length := StrsAre.len_eq hP
    have hk1 := keptN_length rs ws i
    have hk2 := keptN_pos rs ws i
    have hu0 : 0 < us.length := by omega
    have hu1 : us.length ≤ sizeLine := by rw [sizeLine_eq]; omega
    have hu2 : us.toArray.size ≤ sizeLine := by rw [List.size_toArray]; exact hu1
    have hu3 : us.dropLast.toArray.size ≤ sizeLine := by rw [List.size_toArray, List.length_dropLast]; omega
    dsimp only
    repeat' (first | walk1 | (dsimp only; walk1))
    · refine TurnEnd.mk (by assumption) (by assumption) (fun z hz => by rw [if_neg hz]) ?_
      show StrsAre _ (keptN rs ws (i + 1))
      rw [keptN_true (by assumption) (by assumption) (by assumption) (by assumption)]
      exact strs_snoc (strs_dropLast (by assumption))
    all_goals
      refine TurnEnd.mk (by assumption) (by assumption) (fun z hz => by rw [if_neg hz]) ?_
      show StrsAre _ (keptN rs ws (i + 1))
      first | rw [keptN_f3 (by assumption)] | rw [keptN_f2 (by assumption)] | rw [keptN_f1 (by assumption)] | rw [keptN_f0 (by omega)]
      exact strs_snoc (by assumption)
  · intro us ver u h tk hP F N
    dsimp only
    repeat' (first | (k_unfold; (try dsimp only)) | walk1 | (dsimp only; walk1))
    exact post _ us.toArray _ _ _ (Fr.keep F) (N _ (.head _)).2.2 (N _ (.head _)).1 (by assumption)

theorem kept_K {w : World} {A : Around} {s : Shared} {h₀ : Heap} {L : Addr} {m : Str → Option Value} {news : List (Addr × Obj)} {mean mg mb} {Q E : Value → Shared → Prop} {ra wa : Addr} {rv wv : List Value} {rs ws : List Str}
    (F : Fr h₀ L s.heap m) (N : News h₀ L s.heap news) (X : (hd.heap_39 w.params).In h₀) (T : Top hd.view_39 LS mean mg mb h₀) (hroom : A.depth + 1 < recursionLimit) (hh : A.handled = none) (hlr : s.heap.IsList ra rv.toArray) (hir : StrsAre rv rs) (hlw : s.heap.IsList wa wv.toArray) (hiw : StrsAre wv ws)
    (hlen : rs.length = ws.length + 1) (hmax : ws.length ≤ 1000)
    (post : ∀ D kv n h' tk', Fr h₀ L h' m → News h₀ L h' ((D, listOf kv n) :: news) → (∀ p ∈ news, p.1 ≠ D) → StrsAre kv.toList (keptN rs ws ws.length) → Q (.ref D) { s with heap := h', toks := tk' }) :
    wpAny (model PG w) A (call (.ref 93) [.ref ra, .ref wa]) Q E s := by
  refine kept_spec (X.keeps F.keep) (T.keeps F.keep) hroom hh hlr hir hlw hiw hlen hmax fun D kv n h' tk' hk hD hD' hS => ?_
  have hne : ∀ b o, s.heap.get? b = some o → b ≠ D := by
    intro b o e q
    rw [q, hD] at e
    cases e
  obtain ⟨oL, _, _, hL, _⟩ := F.ns
  refine post D kv n h' tk' (F.grownK hk) ?_ (fun p hp => hne _ _ (N p hp).1) hS
  intro p hp
  rcases List.mem_cons.mp hp with rfl | hp
  · refine ⟨hD', Ne.symm (hne _ _ hL), ?_⟩
    cases e : h₀.get? D with
    | none => rfl
    | some o => exact absurd rfl (hne D o (F.keep D o e))
  · exact N.grown hk p hp
end Mine
end

section
open PySem PySem.W PyProof.Rows
set_option Elab.async false
set_option maxRecDepth 100000
namespace Mine

structure Good (x : Str) : Prop where
  ends : ∀ c ∈ x.cps.toList, isEnd c = false
  short : x.length ≤ 3
theorem good_one {c : Int} (h : 0 ≤ c) (h1 : c ≠ 10) (h2 : c ≠ 13) : Good ⟨#[c.toNat]⟩ := by
  refine ⟨?_, by show 1 ≤ 3; omega⟩
  intro d hd
  have e : d = c.toNat := by simpa using hd
  rw [e]
  unfold isEnd
  rw [Bool.or_eq_false_iff]
  exact ⟨by rw [beq_eq_false_iff_ne]; omega, by rw [beq_eq_false_iff_ne]; omega⟩
theorem good_two {c : Int} (h : 0 ≤ c) (h1 : c ≠ 10) (h2 : c ≠ 13) : Good (Str.ofString "." ++ ⟨#[c.toNat]⟩) := by
  rw [show Str.ofString "." = ⟨#[46]⟩ by decide +kernel]
  refine ⟨?_, by show 2 ≤ 3; omega⟩
  intro d hd
  have hd' : d ∈ [46, c.toNat] := hd
  rcases List.mem_cons.mp hd' with e | hd'
  · rw [e]; rfl
  · exact (good_one h h1 h2).ends d hd'

set_option maxHeartbeats 8000000
theorem row_spec {w : World} {A : Around} {s : Shared} {mean mg mb} {Q E : Value → Shared → Prop} (X : (hd.heap_39 w.params).In s.heap) (T : Top hd.view_39 LS mean mg mb s.heap)
    (hroom : A.depth + 1 < recursionLimit) {v : Int} {tk : Tok} (h0 : 0 ≤ v)
    (post : ∀ x t' h' tk', (∀ b o, s.heap.get? b = some o → h'.get? b = some o) → Good x → Q (.str x t') { s with heap := h', toks := tk' }) :
    wpAny (model PG w) A (call (.ref 74) [.int v tk]) Q E s := by
  have : hd.heap_39 = hd.heap_39 ∧ PySem.Challenge.rw_om0212_01 = PySem.Challenge.rw_om0212_01 := by
    k_fill
    exact ⟨rfl, rfl⟩
  clear this
  refine wpAny_call ?_
  refine' enterD X T.nolimit ?k6 ?k7 ?k8 ?k9 ?kB ?_ ?c5 ?c2 ?c3 ?c4
  (case k6 => k_is); (case k7 => k_is); (case k8 => omega)
  (case k9 => exact BindsTo.of_eq (binds := [(Str.ofString "v", .int v tk)]) rfl)
  (case c5 => decide); (case kB => exact locs rfl); (case c2 => exact rfl); (case c3 => exact rfl); (case c4 => exact rfl)
  intro L' h' F' N'
  dsimp only
  k_fold
  w_on
  repeat' (first | (k_unfold; (try dsimp only)) | walk1 | (dsimp only; walk1))
  all_goals first
    | exact post _ _ _ _ (Fr.keep (by assumption)) ⟨by decide +kernel, by decide +kernel⟩
    | exact post _ _ _ _ (Fr.keep (by assumption)) (good_one (Int.fmod_nonneg_of_pos _ (by decide)) (by assumption) (by assumption))
    | exact post _ _ _ _ (Fr.keep (by assumption)) (good_two (Int.fmod_nonneg_of_pos _ (by decide)) (by assumption) (by assumption))

theorem row_K {w : World} {A : Around} {s : Shared} {h₀ : Heap} {L : Addr} {m : Str → Option Value} {p₁ : Addr × Obj} {news : List (Addr × Obj)} {mean mg mb} {Q E : Value → Shared → Prop} {v : Int} {tk : Tok}
    (F : Fr h₀ L s.heap m) (N : News h₀ L s.heap (p₁ :: news)) (X : (hd.heap_39 w.params).In h₀) (T : Top hd.view_39 LS mean mg mb h₀) (hroom : A.depth + 1 < recursionLimit) (h0 : 0 ≤ v)
    (post : ∀ x t' h' tk', Fr h₀ L h' m → News h₀ L h' news → Good x → Q (.str x t') { s with heap := h', toks := tk' }) : wpAny (model PG w) A (call (.ref 74) [.int v tk]) Q E s :=
  row_spec (X.keeps F.keep) (T.keeps F.keep) hroom h0 fun x t' h' tk' hk hg => post x t' h' tk' (F.grownK hk) (fun p hp => N.grown hk p (.tail _ hp)) hg

local macro_rules | `(tactic| walk_at "call ref") => `(tactic| (k_here; k_dflt (refine' row_K ?k1 ?k2 ?k3 ?k4 ?k5 ?k6 ?_; (case k1 => k_asm); (case k2 => k_asm); (case k3 => k_asm); (case k4 => k_asm); (case k5 => (simp only [depth_deeper]; omega)); (case k6 => exact Int.fmod_nonneg_of_pos _ (by decide)); intro x' t' h' tk' F' N' hg'; (try dsimp only); (try k_sweep))))
local macro_rules | `(tactic| walk_at "call builtin:list.append") => `(tactic| (k_here; k_dflt (refine' append_K ?k1 ?k2 ?k3 ?_ ?z; (case k1 => k_asm); (case k2 => k_asm); (case k3 => exact Upd.head (by assumption)); (case z => assumption); k_whole); intro h' F' N'; (try k_sweep)))

theorem allInts_pick {sv : List Value} {ns : List Int} (hi : IntsAre sv ns) (a b c : Option Int) : AllInts (slicePick sv.toArray a b c) := by
  intro v hv
  unfold slicePick at hv
  rw [List.mem_toArray, List.mem_filterMap] at hv
  obtain ⟨i, _, hi'⟩ := hv
  exact hi.allInts v (Array.mem_of_getElem? hi')

theorem sum_K {prog : Program} {w : World} {A : Around} {s : Shared} {h₀ : Heap} {L : Addr} {m : Str → Option Value} {p₁ : Addr × Obj} {news : List (Addr × Obj)} {Q E : Value → Shared → Prop} {l : Addr} {items : Array Value}
    (F : Fr h₀ L s.heap m) (N : News h₀ L s.heap (p₁ :: news)) (hh : A.handled = none) (hl : s.heap.IsList l items) (hall : AllInts items)
    (q : ∀ n t' h' tk', Fr h₀ L h' m → News h₀ L h' news → Q (.int n t') { s with heap := h', toks := tk' }) : wpAny (model prog w) A (call (.builtin "sum") [.ref l]) Q E s := by
  obtain ⟨xs, rfl⟩ := hall.items
  exact sum_intListG hh hl fun h' tk t' hk => q _ t' h' tk (F.grownK hk) fun p hp => N.grown hk p (.tail _ hp)

local macro_rules | `(tactic| walk_at "call builtin:sum") => `(tactic| (k_here; k_dflt (refine' sum_K ?k1 ?k2 ?k3 ?k4 ?k5 ?_; (case k1 => k_asm); (case k2 => k_asm); (case k3 => assumption); (case k4 => is_list); (case k5 => exact allInts_pick (by assumption) _ _ _); intro n' t' h' tk' F' N'; (try dsimp only); (try k_sweep))))

theorem pow_ten6 {prog : Program} {w : World} {A : Around} {s : Shared} {Q E : Value → Shared → Prop} {t u : Tok} (h : Q (.int 1000000 s.toks) { s with toks := s.toks + 1 }) :
    wpAny (model prog w) A (binaryOp .Pow (.int 10 t) (.int 6 u)) Q E s := by
  refine PyProof.Rows.pow_int (by decide) (by decide +kernel) ?_
  rw [show (10 : Int) ^ (6 : Int).toNat = 1000000 by decide]
  exact h
local macro_rules | `(tactic| walk_at "binaryOp Pow int int") => `(tactic| (refine pow_ten6 ?_))

def GoodL (us : List Value) (i : Nat) : Prop := ∃ rs, StrsAre us rs ∧ rs.length = i ∧ ∀ r ∈ rs, Good r

theorem goodL_snoc {us : List Value} {i : Nat} {x : Str} {t : Tok} (h : GoodL us i) (hg : Good x) : GoodL (us ++ [.str x t]) (i + 1) := by
  obtain ⟨rs, hrs, hlen, hgood⟩ := h
  refine ⟨rs ++ [x], strs_snoc hrs, by rw [List.length_append, hlen]; rfl, ?_⟩
  intro r hr
  rcases List.mem_append.mp hr with hr | hr
  · exact hgood r hr
  · rw [List.mem_singleton.mp hr]; exact hg

theorem rows_spec {w : World} {A : Around} {s : Shared} {mean mg mb} {Q E : Value → Shared → Prop} (X : (hd.heap_39 w.params).In s.heap) (T : Top hd.view_39 LS mean mg mb s.heap)
    (hroom : A.depth + 5 < recursionLimit) (hh : A.handled = none) {sa : Addr} {sv : List Value} {ns : List Int} (hl : s.heap.IsList sa sv.toArray) (hi : IntsAre sv ns) (hn : ns.length ≤ 63)
    (post : ∀ D us n h' tk', (∀ b o, s.heap.get? b = some o → h'.get? b = some o) → s.heap.get? D = none → h'.get? D = some (listOf (List.toArray us) n) → GoodL us 3 ∨ GoodL us 4 → Q (.ref D) { s with heap := h', toks := tk' }) :
    wpAny (model PG w) A (call (.ref 81) [.ref sa]) Q E s := by
  have : hd.heap_39 = hd.heap_39 ∧ PySem.Challenge.rw_om0212_01 = PySem.Challenge.rw_om0212_01 := by
    k_fill
    exact ⟨rfl, rfl⟩
  clear this
  refine wpAny_call ?_
  refine' enterD X T.nolimit ?k6 ?k7 ?k8 ?k9 ?kB ?_ ?c5 ?c2 ?c3 ?c4
  (case k6 => k_is); (case k7 => k_is); (case k8 => omega)
  (case k9 => exact BindsTo.of_eq (binds := [(Str.ofString "script", .ref sa)]) rfl)
  (case c5 => decide); (case kB => exact locs rfl); (case c2 => exact rfl); (case c3 => exact rfl); (case c4 => exact rfl)
  intro L' h' F' N'
  dsimp only
  k_fold
  w_on
  repeat' (first | (k_unfold; (try dsimp only)) | walk1 | (dsimp only; walk1))
  · refine rangeLoop (n := 3) (us := []) (fun i us => GoodL us i) (by decide) hh (by assumption) (by assumption) (by assumption) ⟨[], .nil, rfl, fun _ h => nomatch h⟩ ?_ ?_
    · intro i us ver t h tk own hi hP hoff F N
      obtain ⟨rs, hrs, hlen, hgood⟩ := hP
      have hi0 : 0 ≤ (i : Int) := by omega
      have hi1 : (i : Int) < 3 := by omega
      have hu2 : us.toArray.size ≤ sizeLine := by rw [List.size_toArray, StrsAre.len_eq hrs, sizeLine_eq]; omega
      dsimp only
      repeat' (first | walk1 | (dsimp only; walk1))
      rename (Good _) => hg
      refine TurnEnd.mk (by assumption) (by assumption) (fun z hz => by rw [if_neg hz]) ?_
      exact goodL_snoc ⟨rs, by assumption, hlen, hgood⟩ hg
    · intro us ver u h tk hP F N
      dsimp only
      repeat' (first | (k_unfold; (try dsimp only)) | walk1 | (dsimp only; walk1))
      exact post _ us _ _ _ (Fr.keep F) (N _ (.head _)).2.2 (N _ (.head _)).1 (.inl hP)
  · refine rangeLoop (n := 4) (us := []) (fun i us => GoodL us i) (by decide) hh (by assumption) (by assumption) (by assumption) ⟨[], .nil, rfl, fun _ h => nomatch h⟩ ?_ ?_
    · intro i us ver t h tk own hi hP hoff F N
      obtain ⟨rs, hrs, hlen, hgood⟩ := hP
      have hi0 : 0 ≤ (i : Int) := by omega
      have hi1 : (i : Int) < 4 := by omega
      have hu2 : us.toArray.size ≤ sizeLine := by rw [List.size_toArray, StrsAre.len_eq hrs, sizeLine_eq]; omega
      dsimp only
      repeat' (first | walk1 | (dsimp only; walk1))
      rename (Good _) => hg
      refine TurnEnd.mk (by assumption) (by assumption) (fun z hz => by rw [if_neg hz]) ?_
      exact goodL_snoc ⟨rs, by assumption, hlen, hgood⟩ hg
    · intro us ver u h tk hP F N
      dsimp only
      repeat' (first | (k_unfold; (try dsimp only)) | walk1 | (dsimp only; walk1))
      exact post _ us _ _ _ (Fr.keep F) (N _ (.head _)).2.2 (N _ (.head _)).1 (.inr hP)

theorem rows_K {w : World} {A : Around} {s : Shared} {h₀ : Heap} {L : Addr} {m : Str → Option Value} {news : List (Addr × Obj)} {mean mg mb} {Q E : Value → Shared → Prop} {sa : Addr} {sv : List Value} {ns : List Int}
    (F : Fr h₀ L s.heap m) (N : News h₀ L s.heap news) (X : (hd.heap_39 w.params).In h₀) (T : Top hd.view_39 LS mean mg mb h₀) (hroom : A.depth + 5 < recursionLimit) (hh : A.handled = none) (hl : s.heap.IsList sa sv.toArray) (hi : IntsAre sv ns) (hn : ns.length ≤ 63)
    (post : ∀ D us n h' tk', Fr h₀ L h' m → News h₀ L h' ((D, listOf (List.toArray us) n) :: news) → (∀ p ∈ news, p.1 ≠ D) → GoodL us 3 ∨ GoodL us 4 → Q (.ref D) { s with heap := h', toks := tk' }) :
    wpAny (model PG w) A (call (.ref 81) [.ref sa]) Q E s := by
  refine rows_spec (X.keeps F.keep) (T.keeps F.keep) hroom hh hl hi hn fun D us n h' tk' hk hD hD' hS => ?_
  have hne : ∀ b o, s.heap.get? b = some o → b ≠ D := by
    intro b o e q
    rw [q, hD] at e
    cases e
  obtain ⟨oL, _, _, hL, _⟩ := F.ns
  refine post D us n h' tk' (F.grownK hk) ?_ (fun p hp => hne _ _ (N p hp).1) hS
  intro p hp
  rcases List.mem_cons.mp hp with rfl | hp
  · refine ⟨hD', Ne.symm (hne _ _ hL), ?_⟩
    cases e : h₀.get? D with
    | none => rfl
    | some o => exact absurd rfl (hne D o (F.keep D o e))
  · exact N.grown hk p hp
end Mine
end

section
open PySem PySem.W PyProof.Rows PySem.Calls
set_option Elab.async false
set_option maxRecDepth 100000
namespace Mine

def Keep (S : List Addr) (h h' : Heap) : Prop := ∀ b o, b ∉ S → h.get? b = some o → h'.get? b = some o
theorem Keep.refl (S : List Addr) (h : Heap) : Keep S h h := fun _ _ _ e => e
theorem Keep.trans {S : List Addr} {h h' h'' : Heap} (a : Keep S h h') (b : Keep S h' h'') : Keep S h h'' := fun x o hx e => b x o hx (a x o hx e)
theorem Keep.mono {S T : List Addr} {h h' : Heap} (a : Keep S h h') (hs : ∀ b ∈ S, b ∈ T) : Keep T h h' := fun x o hx e => a x o (fun q => hx (hs x q)) e
theorem Keep.same {C : Addr} {S : List Addr} {h h' : Heap} (a : Heap.SameBut C h h') (hC : C ∈ S) : Keep S h h' := fun x o hx e => a.extBut x o (fun q => hx (q ▸ hC)) e
theorem Keep.one {I : Addr} {S : List Addr} {h h' : Heap} (a : ∀ b o, b ∉ [I] → h.get? b = some o → h'.get? b = some o) (hI : I ∈ S) : Keep S h h' := fun x o hx e => a x o (fun q => hx (by rw [List.mem_singleton.mp q]; exact hI)) e
theorem Keep.all {S : List Addr} {h h' : Heap} (a : ∀ b o, h.get? b = some o → h'.get? b = some o) : Keep S h h' := fun x o _ e => a x o e

abbrev lst (ys : List Value) : Obj := LCg.lst ys

section
variable {prog : Program} {w : World} {A : Around} {E : Value → Shared → Prop} {R : Result → Shared → Prop} {s : Shared}

abbrev comp2 (elt : Expr) (x y : Str) (px py : Pos) (i1 i2 : Expr) (scope : Scope) (pos : Pos) : Expr := .ListComp elt [⟨.Name x px, i1, [], 0⟩, ⟨.Name y py, i2, [], 0⟩] scope pos

theorem turn_inner (elt : Expr) (x y : Str) (px py : Pos) (i1 i2 : Expr) (scope : Scope) (pos : Pos) (it acc : Value) (env : Env) :
    compTurn (comp2 elt x y px py i1 i2 scope pos) 1 it acc env = (standAt i2.pos >>= fun _ => pyNext it >>= fun r => match r with
      | none => pure (.done .next)
      | some v => letOwnedTupleGo (.Name y py) it v >>= fun _ => assign (.Name y py) env v >>= fun _ =>
        (eval elt env >>= fun x => call (.builtin "list.append") [acc, x] >>= fun _ => pure ()) >>= fun _ =>
          again (.compLoop (comp2 elt x y px py i1 i2 scope pos) 1 it acc env)) := by rfl

theorem turn_outer (elt : Expr) (x y : Str) (px py : Pos) (i1 i2 : Expr) (scope : Scope) (pos : Pos) (it acc : Value) (env : Env) :
    compTurn (comp2 elt x y px py i1 i2 scope pos) 0 it acc env = (standAt i1.pos >>= fun _ => pyNext it >>= fun r => match r with
      | none => pure (.done .next)
      | some v => letOwnedTupleGo (.Name x px) it v >>= fun _ => assign (.Name x px) env v >>= fun _ =>
        (eval i2 env >>= fun xv => standAt i2.pos >>= fun _ => foldedSetIterable i2 env xv >>= fun xv => holding [xv] (pyIter xv) >>= fun it2 =>
          runOwn (.compStart (comp2 elt x y px py i1 i2 scope pos) 1 it2 acc env) env >>= fun _ => 
          again (.compLoop (comp2 elt x y px py i1 i2 scope pos) 0 it acc env))) := by rfl

theorem start_inner {elt : Expr} {x y : Str} {px py : Pos} {i1 i2 : Expr} {scope : Scope} {pos : Pos} {it acc : Value} {env : Env}
    (h0 : codeAny (model prog w) A (.compLoop (comp2 elt x y px py i1 i2 scope pos) 1 it acc env) R s)
    (h : ∀ E', wpAny (model prog w) A (pyIter it) (fun it' s' => codeAny (model prog w) A (.compLoop (comp2 elt x y px py i1 i2 scope pos) 1 it' acc env) R s') E' s) :
    codeAny (model prog w) A (.compStart (comp2 elt x y px py i1 i2 scope pos) 1 it acc env) R s := by
  refine codeAny_of_tree ?_
  show wpAny _ _ ((compStart (comp2 elt x y px py i1 i2 scope pos) 1 it acc env).onRaise (fun x => do noteFrame x env; standAt theWindowsPlace)) _ _ s
  refine wpAny_notedAt ?_
  unfold compStart
  show wpAny _ _ (ask >>= _) _ _ s
  refine wpAny_bind (wpAny_askSetting (wpAny_ite ?_))
  split
  · exact wpAny_pure (And.intro rfl h0)
  · exact wpAny_bind (wpAny_rule (wpAny_bind (wpAny_standAt (wpAny_bind (wpAny_mono (h _) (fun it' s' h' => wpAny_pure (And.intro rfl h')) fun _ _ x => x)))))

theorem inner_loop {elt : Expr} {x y : Str} {px py : Pos} {i1 i2 : Expr} {scope : Scope} {pos : Pos} {cl : List (Str × Addr)} {env : Env} {C D I : Addr} {fp : List Addr} {n : Nat} {P : Nat → Value → Prop} {St : Nat → Heap → Prop} {m m₀ : Str → Option Value} {ys₀ : List Value}
    (W : Walks prog w A I fp [I] n P St) (hy : scope.names.lookup y = some .local) (hkind : scope.kind = .function)
    (hIC : I ≠ C) (hID : I ≠ D) (hCD : C ≠ D) (hCf : C ∉ fp) (hDf : D ∉ fp)
    (J : Nat → List Value → Heap → Prop) (hJ : ∀ i ys h h', J i ys h → Keep [I, C, D] h h' → J i ys h') (hlen : ∀ i ys h, J i ys h → ys.length ≤ sizeLine)
    (helt : ∀ i v m' h' tk ys (E' : Value → Shared → Prop), i < n → P i v → h'.Ns C m' → m' y = some v → (∀ z, z ≠ y → m' z = m₀ z) → Keep [I, C, D] s.heap h' → h'.get? D = some (lst ys) → (∃ o, h'.get? I = some o) → J i ys h' →
      wpAny (model prog w) A (eval elt (compEnvC scope cl C env)) (fun r s₂ => ∃ h'' tk'', s₂ = { s with heap := h'', toks := tk'' } ∧ (∀ b o, h'.get? b = some o → h''.get? b = some o) ∧ J (i + 1) (ys ++ [r]) h'') E' { s with heap := h', toks := tk })
    (hIo : ∀ i h, St i h → ∃ o, h.get? I = some o)
    (fin : ∀ h' tk m' ys, Keep [I, C, D] s.heap h' → h'.Ns C m' → (∀ z, z ≠ y → m' z = m₀ z) → h'.get? D = some (lst ys) → J n ys h' → R (.ok .next) { s with heap := h', toks := tk })
    (hst : St 0 s.heap) (hn : s.heap.Ns C m) (hm : ∀ z, z ≠ y → m z = m₀ z) (hD : s.heap.get? D = some (lst ys₀)) (h0 : J 0 ys₀ s.heap) :
    codeAny (model prog w) A (.compLoop (comp2 elt x y px py i1 i2 scope pos) 1 (.ref I) (.ref D) (compEnvC scope cl C env)) R s := by
  refine codeAny_loop rfl (fun k s' => ∃ h' tk i m' ys, s' = { s with heap := h', toks := tk } ∧ i ≤ n ∧ k = n + 1 - i ∧ St i h' ∧ h'.Ns C m' ∧ (∀ z, z ≠ y → m' z = m₀ z) ∧ Keep [I, C, D] s.heap h' ∧ h'.get? D = some (lst ys) ∧ J i ys h') ?_ (n + 1)
    ⟨s.heap, s.toks, 0, m, ys₀, rfl, Nat.zero_le _, rfl, hst, hn, hm, Keep.refl _ _, hD, h0⟩
  rintro k s' ⟨h', tk, i, m', ys, rfl, hi, rfl, hst', hn', hm', hk', hD', hJ'⟩
  show wpAny _ A ((compTurn (comp2 elt x y px py i1 i2 scope pos) 1 (.ref I) (.ref D) (compEnvC scope cl C env)).onRaise (fun x => do noteFrame x (compEnvC scope cl C env); theTreesLotGoes x)) _ _ _
  refine wpAny_noted ?_
  rw [turn_inner]
  refine wpAny_bind (wpAny_standAt (wpAny_bind ?_))
  by_cases hlt : i < n
  · refine W.item i _ _ _ hlt hst' fun v h₂ tk₂ hP hst₂ hk₂ => ?_
    refine wpAny_bind (wpAny_of_eq rfl ?_)
    have hn₂ : h₂.Ns C m' := hn'.at' fun o e => hk₂ C o (by simpa using Ne.symm hIC) e
    refine wpAny_bind (wpAny_assign_Name (wpAny_storeName_local (lookup_relabel_local hy) hn₂ (fun h₃ hn₃ hs₃ => ?_) (by simp [compEnvC, relabel, hkind])))
    have hk₃ : Keep [I, C, D] h' h₃ := (Keep.one hk₂ (by simp)).trans (Keep.same hs₃ (by show C ∈ _; simp))
    have hst₃ : St (i + 1) h₃ := W.frame _ _ _ hst₂ fun b hb o e => hs₃.extBut b o (fun q => hCf (by rw [← show b = C from q]; exact hb)) e
    have hD₃ : h₃.get? D = some (lst ys) := hs₃.extBut D _ (fun q => hCD (show D = C from q).symm) (hk₂ D _ (by simpa using Ne.symm hID) hD')
    refine wpAny_bind (wpAny_bind (wpAny_mono (helt i v _ h₃ _ ys _ hlt hP hn₃ (by simp) (fun z hz => by rw [if_neg hz]; exact hm' z hz) (hk'.trans hk₃) hD₃ (hIo _ _ hst₃) (hJ _ _ _ _ hJ' hk₃)) (fun r s₄ h₄ => ?_) fun _ _ e => e))
    obtain ⟨h₄, tk₄, rfl, hk₄, hJ₄⟩ := h₄
    have hys : ys.length ≤ sizeLine := hlen _ _ _ hJ'
    refine wpAny_bind (append_at (hsz := by show ys.toArray.size ≤ sizeLine; rw [List.size_toArray]; exact hys) (hk₄ D _ hD₃) fun h₅ hs₅ hD₅ => ?_)
    refine wpAny_pure (wpAny_pure ⟨rfl, n + 1 - (i + 1), by omega, h₅, tk₄, i + 1, (fun z => if z = y then some v else m' z), ys ++ [r], rfl, hlt, rfl, ?_, ?_, fun z hz => ?_, ?_, ?_, ?_⟩)
    · exact W.frame _ _ _ (W.frame _ _ _ hst₃ fun b _ o e => hk₄ b o e) fun b hb o e => hs₅.extBut b o (fun q => hDf (q ▸ hb)) e
    · exact (hn₃.at' fun o e => hk₄ C o e).at' fun o e => hs₅.extBut C o hCD e
    · show (if z = y then some v else m' z) = m₀ z
      rw [if_neg hz]
      exact hm' z hz
    · exact ((hk'.trans hk₃).trans (Keep.all hk₄)).trans (Keep.same hs₅ (by simp))
    · exact hD₅.trans (congrArg some (LCg.lst_snoc ys r))
    · exact hJ _ _ _ _ hJ₄ (Keep.same hs₅ (by simp))
  · obtain rfl : i = n := Nat.le_antisymm hi (Nat.not_lt.mp hlt)
    refine W.done _ _ _ hst' fun h₂ tk₂ hk₂ => ?_
    have hk3 : Keep [I, C, D] h' h₂ := Keep.one hk₂ (by simp)
    exact wpAny_pure (fin h₂ tk₂ m' ys (hk'.trans hk3) (hn'.at' fun o e => hk₂ C o (by simpa using Ne.symm hIC) e) hm' (hk₂ D _ (by simpa using Ne.symm hID) hD') (hJ _ _ _ _ hJ' hk3))

def InnerPost (s : Shared) (C D : Addr) (JO : List Value → Heap → Prop) (h' : Heap) (r : Result) (s₄ : Shared) : Prop :=
  match r with
  | .ok _ => ∃ h'' tk'' m'' ys'', s₄ = { s with heap := h'', toks := tk'' } ∧ Keep [C, D] h' h'' ∧ h''.Ns C m'' ∧ h''.get? D = some (lst ys'') ∧ JO ys'' h''
  | .error _ => False

theorem outer_loop {elt : Expr} {x y : Str} {px py : Pos} {i1 i2 : Expr} {scope : Scope} {pos : Pos} {cl : List (Str × Addr)} {env : Env} {C D I : Addr} {fp : List Addr} {n : Nat} {P : Nat → Value → Prop} {St : Nat → Heap → Prop} {m : Str → Option Value} {ys₀ : List Value}
    (W : Walks prog w A I fp [I] n P St) (hx : scope.names.lookup x = some .local) (hkind : scope.kind = .function)
    (hIC : I ≠ C) (hID : I ≠ D) (hCD : C ≠ D) (hCf : C ∉ fp) (hDf : D ∉ fp) (hfold : ∀ xv, foldedSetIterable i2 (compEnvC scope cl C env) xv = pure xv)
    (JO : Nat → List Value → Heap → Prop) (hJ : ∀ i ys h h', JO i ys h → Keep [I, C, D] h h' → JO i ys h')
    (hin : ∀ i v m' h' tk ys (E' : Value → Shared → Prop), i < n → P i v → h'.Ns C m' → m' x = some v → Keep [I, C, D] s.heap h' → h'.get? D = some (lst ys) → (∃ o, h'.get? I = some o) → JO i ys h' →
      wpAny (model prog w) A (eval i2 (compEnvC scope cl C env)) (fun xv s₂ => wpAny (model prog w) A (pyIter xv) (fun it2 s₃ =>
        codeAny (model prog w) A (.compStart (comp2 elt x y px py i1 i2 scope pos) 1 it2 (.ref D) (compEnvC scope cl C env)) (InnerPost s C D (JO (i + 1)) h') s₃) E' s₂) E' { s with heap := h', toks := tk })
    (hIo : ∀ i h, St i h → ∃ o, h.get? I = some o)
    (fin : ∀ h' tk m' ys, Keep [I, C, D] s.heap h' → h'.Ns C m' → h'.get? D = some (lst ys) → JO n ys h' → R (.ok .next) { s with heap := h', toks := tk })
    (hst : St 0 s.heap) (hn : s.heap.Ns C m) (hD : s.heap.get? D = some (lst ys₀)) (h0 : JO 0 ys₀ s.heap) :
    codeAny (model prog w) A (.compLoop (comp2 elt x y px py i1 i2 scope pos) 0 (.ref I) (.ref D) (compEnvC scope cl C env)) R s := by
  refine codeAny_loop rfl (fun k s' => ∃ h' tk i m' ys, s' = { s with heap := h', toks := tk } ∧ i ≤ n ∧ k = n + 1 - i ∧ St i h' ∧ h'.Ns C m' ∧ Keep [I, C, D] s.heap h' ∧ h'.get? D = some (lst ys) ∧ JO i ys h') ?_ (n + 1)
    ⟨s.heap, s.toks, 0, m, ys₀, rfl, Nat.zero_le _, rfl, hst, hn, Keep.refl _ _, hD, h0⟩
  rintro k s' ⟨h', tk, i, m', ys, rfl, hi, rfl, hst', hn', hk', hD', hJ'⟩
  show wpAny _ A ((compTurn (comp2 elt x y px py i1 i2 scope pos) 0 (.ref I) (.ref D) (compEnvC scope cl C env)).onRaise (fun x => do noteFrame x (compEnvC scope cl C env); theTreesLotGoes x)) _ _ _
  refine wpAny_noted ?_
  rw [turn_outer]
  refine wpAny_bind (wpAny_standAt (wpAny_bind ?_))
  by_cases hlt : i < n
  · refine W.item i _ _ _ hlt hst' fun v h₂ tk₂ hP hst₂ hk₂ => ?_
    refine wpAny_bind (wpAny_of_eq rfl ?_)
    have hn₂ : h₂.Ns C m' := hn'.at' fun o e => hk₂ C o (by simpa using Ne.symm hIC) e
    refine wpAny_bind (wpAny_assign_Name (wpAny_storeName_local (lookup_relabel_local hx) hn₂ (fun h₃ hn₃ hs₃ => ?_) (by simp [compEnvC, relabel, hkind])))
    have hk₃ : Keep [I, C, D] h' h₃ := (Keep.one hk₂ (by simp)).trans (Keep.same hs₃ (by show C ∈ _; simp))
    have hst₃ : St (i + 1) h₃ := W.frame _ _ _ hst₂ fun b hb o e => hs₃.extBut b o (fun q => hCf (by rw [← show b = C from q]; exact hb)) e
    have hD₃ : h₃.get? D = some (lst ys) := hs₃.extBut D _ (fun q => hCD (show D = C from q).symm) (hk₂ D _ (by simpa using Ne.symm hID) hD')
    refine wpAny_bind (wpAny_mono (hin i v _ h₃ _ ys _ hlt hP hn₃ (by simp) (hk'.trans hk₃) hD₃ (hIo _ _ hst₃) (hJ _ _ _ _ hJ' hk₃)) (fun xv s₄ h₄ => ?_) fun _ _ e => e)
    refine wpAny_bind (wpAny_standAt (wpAny_bind (wpAny_of_eq (hfold xv) (wpAny_bind (wpAny_holding (wpAny_mono h₄ (fun it2 s₅ h₅ => ?_) fun _ _ e => e))))))
    refine wpAny_bind (wpAny_runOwn (codeAny_mono h₅ (fun r s₆ h₆ => ?_)))
    cases r with
    | error e => exact h₆.elim
    | ok f =>
      obtain ⟨h₇, tk₇, m₇, ys₇, rfl, hk₇, hn₇, hD₇, hJ₇⟩ := h₆
      refine wpAny_pure ⟨rfl, n + 1 - (i + 1), by omega, h₇, tk₇, i + 1, m₇, ys₇, rfl, hlt, rfl, ?_, hn₇, ?_, hD₇, hJ₇⟩
      · refine W.frame _ _ _ hst₃ fun b hb o e => hk₇ b o ?_ e
        intro q
        rcases List.mem_cons.mp q with q | q
        · exact hCf (q ▸ hb)
        · exact hDf ((List.mem_singleton.mp q) ▸ hb)
      · exact (hk'.trans hk₃).trans (hk₇.mono fun b hb => .tail _ hb)
  · obtain rfl : i = n := Nat.le_antisymm hi (Nat.not_lt.mp hlt)
    refine W.done _ _ _ hst' fun h₂ tk₂ hk₂ => ?_
    have hk3 : Keep [I, C, D] h' h₂ := Keep.one hk₂ (by simp)
    exact wpAny_pure (fin h₂ tk₂ m' ys (hk'.trans hk3) (hn'.at' fun o e => hk₂ C o (by simpa using Ne.symm hIC) e) (hk₂ D _ (by simpa using Ne.symm hID) hD') (hJ _ _ _ _ hJ' hk3))
end
end Mine
end

section
open PySem PySem.W PyProof.Rows PySem.Calls
set_option Elab.async false
set_option maxRecDepth 100000
namespace Mine
section
variable {prog : Program} {w : World} {A : Around} {E : Value → Shared → Prop} {s : Shared} {env : Env}

/-- the ground of a comprehension's block: its iterator I, its frame C, its list D -/
structure Block (h h₁ : Heap) (ax I C D : Addr) (m : Str → Option Value) : Prop where
  keep : ∀ b o, h.get? b = some o → h₁.get? b = some o
  newI : h.get? I = none
  newC : h.get? C = none
  newD : h.get? D = none
  ic : I ≠ C
  idd : I ≠ D
  cd : C ≠ D
  iter : h₁.IsListIter I ax 0
  ns : h₁.Ns C m
  acc : h₁.get? D = some (lst [])

theorem block_open {e : Expr} {elt : Expr} {target iter : Expr} {rest : List Comprehension} {scope : Scope} {cl : List (Str × Addr)} {pos : Pos} {s₁ : Shared} {ax : Addr} {items : Array Value} {RR : Value → Addr → Result → Shared → Prop}
    (he : e = .ListComp elt (⟨target, iter, [], 0⟩ :: rest) scope pos) (hh : A.handled = none) (hl : s₁.heap.IsList ax items)
    (hcell : ∀ y ∈ scope.names, y.2 ≠ .cell) (hkind : scope.kind = .function)
    (loop : ∀ I C D h₁ m tk, Block s₁.heap h₁ ax I C D m → codeAny (model prog w) A (.compLoop e 0 (.ref I) (.ref D) (compEnvC scope cl C env)) (RR (.ref D) C) { s₁ with heap := h₁, toks := tk }) :
    wpAny (model prog w) A (pyIter (.ref ax)) (fun it s₂ => wpAny (model prog w) A (newList []) (fun acc s₃ => wpAny (model prog w) A (newFunctionEnv scope env.globals cl [] env.qual none .none (some env)) (fun cenv s₄ =>
      codeAny (model prog w) A (.compStart e 0 it acc { cenv with scope := relabel scope env }) (RR acc cenv.locals) s₄) E s₃) E s₂) E s₁ := by
  subst he
  have hax : ax < s₁.heap.objs.size := by obtain ⟨_, e, _⟩ := hl; exact Heap.lt_size e
  refine wpAny_pyIter_list hl ?_
  refine wpAny_newObj_type (wpAny_newFunctionEnv hcell (by intro y hy; simp at hy) (fun h₁ hns₁ hsb₁ => ?_) hkind)
  dsimp only at hns₁ hsb₁ ⊢
  generalize hH1 : s₁.heap.push { cls := .type "list_iterator", data := .fields #[.ref ax, .int 0 0] } = H1 at hns₁ hsb₁ ⊢
  generalize hH2 : H1.push { cls := .type "list", dict := none, data := .seq ([] : List Value).toArray } = H2 at hns₁ hsb₁ ⊢
  have z1 : H1.objs.size = s₁.heap.objs.size + 1 := by rw [← hH1, Heap.size_push]
  have z2 : H2.objs.size = s₁.heap.objs.size + 2 := by rw [← hH2, Heap.size_push, z1]
  have fresh : ∀ a, s₁.heap.objs.size ≤ a → s₁.heap.get? a = none := fun a ha => by
    cases e : s₁.heap.get? a with
    | none => rfl
    | some o' => exact absurd (Heap.lt_size e) (Nat.not_lt.mpr ha)
  have up2 : ∀ b o, H1.get? b = some o → H2.get? b = some o := fun b o e => by rw [← hH2]; exact Heap.get?_push_of_some _ e
  have up1 : ∀ b o, s₁.heap.get? b = some o → H1.get? b = some o := fun b o e => by rw [← hH1]; exact Heap.get?_push_of_some _ e
  have up3 : ∀ b o, H2.get? b = some o → h₁.get? b = some o := fun b o e => hsb₁.extBut b o (Nat.ne_of_lt (Heap.lt_size e)) (Heap.get?_push_of_some _ e)
  have hI : h₁.get? s₁.heap.objs.size = some { cls := .type "list_iterator", data := .fields #[.ref ax, .int 0 0] } := up3 _ _ (up2 _ _ (by rw [← hH1]; exact Heap.get?_push_size _ rfl))
  have hD : h₁.get? H1.objs.size = some (lst []) := up3 _ _ (by rw [← hH2]; exact Heap.get?_push_size _ rfl)
  have B : Block s₁.heap h₁ ax s₁.heap.objs.size H2.objs.size H1.objs.size _ :=
    { keep := fun b o e => up3 _ _ (up2 _ _ (up1 _ _ e)), newI := fresh _ (Nat.le_refl _), newC := fresh _ (by omega), newD := fresh _ (by omega),
      ic := by rw [z2]; exact Nat.ne_of_lt (by omega), idd := by rw [z1]; exact Nat.ne_of_lt (by omega), cd := by rw [z1, z2]; exact Nat.ne_of_gt (by omega),
      iter := ⟨_, hI, rfl, rfl⟩, ns := hns₁, acc := hD }
  have W := Walks.list (prog := prog) (w := w) hh s₁.heap.objs.size ax (Nat.ne_of_lt hax) items
  have hlp := loop _ _ _ h₁ _ (s₁.toks + ([] : List (Str × Value)).length) B
  exact codeAny_compStart_list hlp (W.self 0 _ _ _ ⟨B.iter, hl.at fun o e => B.keep ax o e⟩ hlp)

def Src2 (prog : Program) (w : World) (A : Around) (env : Env) (e : Expr) (scope : Scope) (cl : List (Str × Addr)) (RR : Value → Addr → Result → Shared → Prop) (xv : Value) (s₁ : Shared) : Prop :=
  ∃ ax items, xv = .ref ax ∧ A.handled = none ∧ s₁.heap.IsList ax items ∧ ∀ I C D h₁ m tk, Block s₁.heap h₁ ax I C D m → codeAny (model prog w) A (.compLoop e 0 (.ref I) (.ref D) (compEnvC scope cl C env)) (RR (.ref D) C) { s₁ with heap := h₁, toks := tk }

theorem ListComp_2 {elt i1 i2 : Expr} {x y : Str} {px py : Pos} {scope : Scope} {cl : List (Str × Addr)} {pos : Pos} {Q : Value → Shared → Prop}
    (hclos : closureFor scope env = pure cl) (hcell : ∀ y ∈ scope.names, y.2 ≠ .cell) (hkind : scope.kind = .function)
    (hnames : ∀ y ∈ scope.names, y.2 = .local → scope.names.lookup y.1 = some .local)
    (h : wpAny (model prog w) A (eval i1 env) (Src2 prog w A env (comp2 elt x y px py i1 i2 scope pos) scope cl (compPost (model prog w) A E none Q)) E s)
    (hs : ∀ x, foldedSetIterable i1 env x = pure x := by intro _; rfl) :
    wpAny (model prog w) A (eval (comp2 elt x y px py i1 i2 scope pos) env) Q E s := by
  unfold comp2
  rw [eval_ListComp]
  refine wpAny_comprehension_free (use := none) rfl hs hclos hkind hnames (wpAny_mono h (fun xv s₁ h₁ => ?_) fun _ _ e => e)
  obtain ⟨ax, items, rfl, hh, hl, loop⟩ := h₁
  exact block_open rfl hh hl hcell hkind loop

theorem Assign_ListComp_2 {elt i1 i2 : Expr} {x y z : Str} {px py pz : Pos} {scope : Scope} {cl : List (Str × Addr)} {pos spos : Pos} {Q : Flow → Shared → Prop}
    (hsw : swapsWith (comp2 elt x y px py i1 i2 scope pos) (some (.Name z pz)) spos.line env = pure true)
    (hclos : closureFor scope env = pure cl) (hcell : ∀ y ∈ scope.names, y.2 ≠ .cell) (hkind : scope.kind = .function)
    (hnames : ∀ y ∈ scope.names, y.2 = .local → scope.names.lookup y.1 = some .local)
    (h : wpAny (model prog w) A (eval i1 env) (Src2 prog w A env (comp2 elt x y px py i1 i2 scope pos) scope cl (compPost (model prog w) A E (some (assign (.Name z pz) env)) (fun _ s' => Q .next s'))) E s)
    (hs : ∀ x, foldedSetIterable i1 env x = pure x := by intro _; rfl) :
    wpAny (model prog w) A (exec (.Assign [.Name z pz] (comp2 elt x y px py i1 i2 scope pos) spos) env) Q E s := by
  rw [exec_Assign_Name_used _ _ _ _ hsw]
  refine wpAny_bind (wpAny_standAt (wpAny_bind ?_))
  show wpAny _ A (do let _ ← comprehension (comp2 elt x y px py i1 i2 scope pos) scope env _ (newList []) false (eval i1 env) (some (assign (.Name z pz) env))) _ _ s
  refine wpAny_bind (wpAny_mono (wpAny_comprehension_free (use := some (assign (.Name z pz) env)) (Q := fun _ s' => Q .next s') rfl hs hclos hkind hnames
    (wpAny_mono h (fun xv s₁ h₁ => ?_) fun _ _ e => e)) (fun _ s' hq => wpAny_pure (wpAny_pure hq)) fun _ _ e => e)
  obtain ⟨ax, items, rfl, hh, hl, loop⟩ := h₁
  exact block_open rfl hh hl hcell hkind loop
end
end Mine
end

section
open PySem PySem.W PyProof.Rows PySem.Calls
set_option Elab.async false
set_option maxRecDepth 100000
namespace Mine
section
variable {prog : Program} {w : World} {A : Around} {E : Value → Shared → Prop} {s : Shared} {env : Env}

/-- a list's items, each a list of its own -/
def PartsAt (h : Heap) (vs : List Value) (parts : List (List Value)) : Prop := vs.length = parts.length ∧ ∀ (i : Nat) (v : Value), vs[i]? = some v → ∃ (a : Addr) (p : List Value), v = Value.ref a ∧ parts[i]? = some p ∧ h.IsList a p.toArray

theorem new_of_size {h : Heap} : h.get? h.objs.size = none := by
  cases e : h.get? h.objs.size with
  | none => rfl
  | some o => exact absurd (Heap.lt_size e) (Nat.lt_irrefl _)
theorem ne_of_new {h : Heap} {a b : Addr} {o : Obj} (hb : h.get? b = some o) (ha : h.get? a = none) : b ≠ a := by
  intro q
  rw [q, ha] at hb
  cases hb

theorem lines_loop {x y : Str} {px py p1 p2 : Pos} {i1 : Expr} {scope : Scope} {pos : Pos} {cl : List (Str × Addr)} {C D I ax : Addr} {items : Array Value} {parts : List (List Value)} {h₁ : Heap} {tk₁ : Nat} {m : Str → Option Value} {Q : Value → Shared → Prop}
    (hh : A.handled = none) (hx : scope.names.lookup x = some .local) (hy : scope.names.lookup y = some .local) (hxy : x ≠ y) (hkind : scope.kind = .function)
    (hdx : (x == ("__debug__" : Str)) = false) (hdy : (y == ("__debug__" : Str)) = false)
    (hl : s.heap.IsList ax items) (hp : PartsAt s.heap items.toList parts) (hsz : parts.flatten.length ≤ 10000)
    (B : Block s.heap h₁ ax I C D m)
    (hQ : ∀ h' tk, (∀ b o, s.heap.get? b = some o → h'.get? b = some o) → h'.get? D = some (lst parts.flatten) → Q (.ref D) { s with heap := h', toks := tk }) :
    codeAny (model prog w) A (.compLoop (comp2 (.Name y p1) x y px py i1 (.Name x p2) scope pos) 0 (.ref I) (.ref D) (compEnvC scope cl C env)) (compPost (model prog w) A E none Q (.ref D) C) { s with heap := h₁, toks := tk₁ } := by
  have hax : ax ≠ I := by obtain ⟨o, e, _⟩ := hl; exact ne_of_new e B.newI
  have haC : ax ≠ C := by obtain ⟨o, e, _⟩ := hl; exact ne_of_new e B.newC
  have haD : ax ≠ D := by obtain ⟨o, e, _⟩ := hl; exact ne_of_new e B.newD
  have hlen : items.size = parts.length := by have := hp.1; simpa using this
  refine outer_loop (Walks.list hh I ax hax items) hx hkind B.ic B.idd B.cd (by simp; exact ⟨Ne.symm B.ic, Ne.symm haC⟩) (by simp; exact ⟨Ne.symm B.idd, Ne.symm haD⟩) (fun _ => rfl)
    (fun i ys _ => ys = (parts.take i).flatten) (fun _ _ _ _ h _ => h) ?_ (fun i h st => by obtain ⟨o, e, _⟩ := st.1; exact ⟨o, e⟩) ?_ ⟨B.iter, hl.at fun o e => B.keep ax o e⟩ B.ns B.acc (by simp)
  · intro i v m' h' tk ys E' hi hP hn hm hk hD hI hJ
    obtain ⟨a, p, rfl, hpi, hap⟩ := hp.2 i v (by rw [Array.getElem?_toList]; exact hP)
    have hns : ∀ b o, s.heap.get? b = some o → b ∉ [I, C, D] := by
      intro b o e q
      rcases List.mem_cons.mp q with q | q
      · exact ne_of_new e B.newI q
      · rcases List.mem_cons.mp q with q | q
        · exact ne_of_new e B.newC q
        · exact ne_of_new e B.newD (List.mem_singleton.mp q)
    have hap' : h'.IsList a p.toArray := hap.at fun o e => hk a o (hns a o e) (B.keep a o e)
    have haS : a ∉ [I, C, D] := by obtain ⟨o, e, _⟩ := hap; exact hns a o e
    refine ldVarK hn hm ?_ (by simp [compEnvC, relabel, hkind]) (lookup_relabel_local hx) hdx
    refine wpAny_pyIter_list hap' ?_
    have hnewI2 : h'.get? h'.objs.size = none := new_of_size
    obtain ⟨oC, _, _, eC, _⟩ := id hn
    have h2C : h'.objs.size ≠ C := Ne.symm (ne_of_new eC hnewI2)
    have h2D : h'.objs.size ≠ D := Ne.symm (ne_of_new hD hnewI2)
    have h2a : a ≠ h'.objs.size := by obtain ⟨o, e, _⟩ := hap'; exact ne_of_new e hnewI2
    have hflat : (parts.take (i + 1)).flatten = (parts.take i).flatten ++ p := by
      rw [List.take_add_one, hpi]
      simp
    have hle : ∀ j, ((parts.take j).flatten).length ≤ 10000 := by
      intro j
      have e : parts.flatten = (parts.take j).flatten ++ (parts.drop j).flatten := by rw [← List.flatten_append, List.take_append_drop]
      rw [e, List.length_append] at hsz
      omega
    have W2 := Walks.list (prog := prog) (w := w) hh h'.objs.size a h2a p.toArray
    have up : ∀ b o, h'.get? b = some o → (h'.push { cls := .type "list_iterator", data := .fields #[.ref a, .int 0 0] }).get? b = some o := fun b o e => Heap.get?_push_of_some _ e
    have st0 : Heap.IsListIter (h'.push { cls := .type "list_iterator", data := .fields #[.ref a, .int 0 0] }) h'.objs.size a 0 ∧ Heap.IsList (h'.push { cls := .type "list_iterator", data := .fields #[.ref a, .int 0 0] }) a p.toArray :=
      ⟨⟨_, Heap.get?_push_size _ rfl, rfl, rfl⟩, hap'.at fun o e => up a o e⟩
    have loop : codeAny (model prog w) A (.compLoop (comp2 (.Name y p1) x y px py i1 (.Name x p2) scope pos) 1 (.ref h'.objs.size) (.ref D) (compEnvC scope cl C env)) (InnerPost { s with heap := h₁, toks := tk₁ } C D (fun ys _ => ys = (parts.take (i + 1)).flatten) h')
        { s with heap := h'.push { cls := .type "list_iterator", data := .fields #[.ref a, .int 0 0] }, toks := tk } := by
      refine inner_loop (m₀ := m') W2 hy hkind h2C h2D B.cd (by simp; exact ⟨Ne.symm h2C, fun q => haS (by rw [← q]; simp)⟩) (by simp; exact ⟨Ne.symm h2D, fun q => haS (by rw [← q]; simp)⟩)
        (fun j zs _ => zs = ys ++ p.take j) (fun _ _ _ _ h _ => h) ?_ ?_ (fun i h st => by obtain ⟨o, e, _⟩ := st.1; exact ⟨o, e⟩) ?_ st0 (hn.at' fun o e => up C o e) (fun _ _ => rfl) (up D _ hD) (by simp)
      · intro j zs _ e
        rw [e, hJ, List.length_append, sizeLine_eq]
        have h1 := hle (i + 1)
        rw [hflat, List.length_append] at h1
        have := (List.take_sublist j p).length_le
        omega
      · intro j v' m'' h'' tk' zs E'' hj hP' hn'' hm'' _ _ _ _ hz
        refine ldVarK hn'' hm'' ?_ (by simp [compEnvC, relabel, hkind]) (lookup_relabel_local hy) hdy
        refine ⟨h'', tk', rfl, fun _ _ e => e, ?_⟩
        have hv : p[j]? = some v' := by simpa using hP'
        rw [hz, List.take_add_one, hv]
        simp
      · intro h'' tk' m'' zs hk'' hn'' _ hD'' hz
        refine ⟨h'', tk', m'', zs, rfl, ?_, hn'', hD'', ?_⟩
        · intro b o hb e
          refine hk'' b o ?_ (up b o e)
          intro q
          rcases List.mem_cons.mp q with q | q
          · exact ne_of_new e hnewI2 q
          · exact hb q
        · show zs = _
          rw [hz, hJ, hflat]
          congr 1
          exact List.take_of_length_le (by simp)
    exact start_inner loop fun E'' => W2.self 0 _ _ _ st0 loop
  · intro h' tk m' ys hk hn hD hJ
    refine ⟨m', hn, fun h'' hs'' => ?_⟩
    refine hQ h'' tk (fun b o e => ?_) ?_
    · have hbS : b ∉ [I, C, D] := by
        intro q
        rcases List.mem_cons.mp q with q | q
        · exact ne_of_new e B.newI q
        · rcases List.mem_cons.mp q with q | q
          · exact ne_of_new e B.newC q
          · exact ne_of_new e B.newD (List.mem_singleton.mp q)
      exact hs''.extBut b o (ne_of_new e B.newC) (hk b o hbS (B.keep b o e))
    · have hD'' := hs''.extBut D _ (Ne.symm B.cd) hD
      rw [hD'', hJ, List.take_of_length_le (by omega)]

def EndS (e : Str) : Prop := e = ⟨#[13, 10]⟩ ∨ e = ⟨#[10]⟩ ∨ e = ⟨#[13]⟩
def GoodWord (hb h : Heap) (S : List Addr) (n : Nat) (v : Value) : Prop :=
  ∃ (a : Addr) (wv : Array Value) (nn : Nat) (ws : List Str), v = .ref a ∧ hb.get? a = none ∧ a ∉ S ∧ h.get? a = some (listOf wv nn) ∧ StrsAre wv.toList ws ∧ ws.length = n ∧ ∀ e ∈ ws, EndS e
theorem GoodWord.keep {hb h h' : Heap} {S T : List Addr} {n : Nat} {v : Value} (g : GoodWord hb h S n v) (k : Keep T h h') (hs : ∀ b ∈ T, b ∈ S) : GoodWord hb h' S n v := by
  obtain ⟨a, wv, nn, ws, rfl, hN, ha, e, r⟩ := g
  exact ⟨a, wv, nn, ws, rfl, hN, ha, k a _ (fun q => ha (hs a q)) e, r⟩
theorem GoodWord.sub {hb h : Heap} {S T : List Addr} {n : Nat} {v : Value} (g : GoodWord hb h S n v) (hs : ∀ b ∈ T, b ∈ S) : GoodWord hb h T n v := by
  obtain ⟨a, wv, nn, ws, rfl, hN, ha, r⟩ := g
  exact ⟨a, wv, nn, ws, rfl, hN, fun q => ha (hs a q), r⟩

theorem strs_snoc2 {y : Str} {t : Tok} : ∀ {vs : List Value} {ys : List Str}, StrsAre vs ys → StrsAre (vs ++ [.str y t]) (ys ++ [y])
  | _, _, .nil => .cons y t .nil
  | _, _, .cons z u r => .cons z u (strs_snoc2 r)
theorem strs_len2 : ∀ {vs : List Value} {ys : List Str}, StrsAre vs ys → vs.length = ys.length
  | _, _, .nil => rfl
  | _, _, .cons _ _ r => congrArg (· + 1) (strs_len2 r)

theorem word_elt {x y : Str} {p1 p2 p3 p4 : Pos} {scope : Scope} {cl : List (Str × Addr)} {C a : Addr} {wv : Array Value} {nn n : Nat} {ws : List Str} {e : Str} {te : Tok} {S : List Addr} {m : Str → Option Value} {Q : Value → Shared → Prop}
    (hx : scope.names.lookup x = some .local) (hy : scope.names.lookup y = some .local) (hkind : scope.kind = .function)
    (hdx : (x == ("__debug__" : Str)) = false) (hdy : (y == ("__debug__" : Str)) = false) (hn : s.heap.Ns C m) (hmx : m x = some (.ref a)) (hmy : m y = some (.str e te))
    (ha : s.heap.get? a = some (listOf wv nn)) (hs : StrsAre wv.toList ws) (hl : ws.length = n) (hn100 : n ≤ 100) (he : EndS e) (hws : ∀ e ∈ ws, EndS e) (hS : ∀ b ∈ S, ∃ o, s.heap.get? b = some o) {hb₀ : Heap} (hb₀k : ∀ b o, hb₀.get? b = some o → s.heap.get? b = some o)
    (q : ∀ r h' tk, (∀ b o, s.heap.get? b = some o → h'.get? b = some o) → GoodWord hb₀ h' S (n + 1) r → Q r { s with heap := h', toks := tk }) :
    wpAny (model prog w) A (eval (.BinOp (.Name x p1) .Add (.List [.Name y p2] p3) p4) (compEnvC scope cl C env)) Q E s := by
  refine wpAny_BinOp (ldVarK hn hmx ?_ (by simp [compEnvC, relabel, hkind]) (lookup_relabel_local hx) hdx)
  refine List_ (spliced_more (ldVarK hn hmy ?_ (by simp [compEnvC, relabel, hkind]) (lookup_relabel_local hy) hdy))
  refine spliced_none ?_
  refine wpAny_newList ?_
  have hb : (s.heap.push { cls := .type "list", data := .seq ([Value.str e te] : List Value).toArray }).get? s.heap.objs.size = some (listOf #[Value.str e te] 0) := Heap.get?_push_size _ rfl
  have ha' : (s.heap.push { cls := .type "list", data := .seq ([Value.str e te] : List Value).toArray }).get? a = some (listOf wv nn) := Heap.get?_push_of_some _ ha
  have hwl : wv.size = n := by
    have := strs_len2 hs
    rw [hl] at this
    simpa using this
  refine PySem.P.add_list ha' hb ?_ (by rw [hwl, sizeLine_eq]; show n + 1 ≤ _; omega)
  have up : ∀ b o, s.heap.get? b = some o → ((s.heap.push { cls := .type "list", data := .seq ([Value.str e te] : List Value).toArray }).push { cls := .type "list", data := .seq (wv ++ #[Value.str e te]) }).get? b = some o :=
    fun b o eb => Heap.get?_push_of_some _ (Heap.get?_push_of_some _ eb)
  refine q _ _ s.toks up ⟨_, wv ++ #[Value.str e te], 0, ws ++ [e], rfl, ?_, ?_, Heap.get?_push_size _ rfl, ?_, by rw [List.length_append, hl]; rfl, ?_⟩
  · cases q0 : hb₀.get? (s.heap.push { cls := .type "list", data := .seq ([Value.str e te] : List Value).toArray }).objs.size with
    | none => rfl
    | some o =>
      have := Heap.lt_size (Heap.get?_push_of_some { cls := .type "list", data := .seq ([Value.str e te] : List Value).toArray } (hb₀k _ _ q0))
      exact absurd this (Nat.lt_irrefl _)
  · intro hm
    obtain ⟨o, eo⟩ := hS _ hm
    have := Heap.lt_size (Heap.get?_push_of_some { cls := .type "list", data := .seq ([Value.str e te] : List Value).toArray } eo)
    exact absurd this (Nat.lt_irrefl _)
  · rw [Array.toList_append]
    exact strs_snoc2 hs
  · intro f hf
    rcases List.mem_append.mp hf with hf | hf
    · exact hws f hf
    · rw [List.mem_singleton.mp hf]; exact he
end
end Mine
end

section
open PySem PySem.W PyProof.Rows PySem.Calls
set_option Elab.async false
set_option maxRecDepth 100000
namespace Mine
section
variable {prog : Program} {w : World} {A : Around} {E : Value → Shared → Prop} {s : Shared} {env : Env}

abbrev endsT (e1 e2 e3 : Str) (k1 k2 k3 kt : Nat) (q1 q2 q3 qt : Pos) : Expr := .Tuple [.Constant (.str e1) k1 q1, .Constant (.str e2) k2 q2, .Constant (.str e3) k3 q3] kt qt
abbrev wordE (x y : Str) (p1 p2 p3 p4 : Pos) : Expr := .BinOp (.Name x p1) .Add (.List [.Name y p2] p3) p4

theorem words_loop {x y : Str} {px py p1 p2 p3 p4 q1 q2 q3 qt : Pos} {e1 e2 e3 : Str} {k1 k2 k3 kt : Nat} {i1 : Expr} {scope : Scope} {pos : Pos} {cl : List (Str × Addr)} {C D I ax : Addr} {items : Array Value} {n : Nat} {h₁ : Heap} {tk₁ : Nat} {m : Str → Option Value} {R : Result → Shared → Prop} {hb₀ : Heap}
    (hh : A.handled = none) (hx : scope.names.lookup x = some .local) (hy : scope.names.lookup y = some .local) (hxy : x ≠ y) (hkind : scope.kind = .function)
    (hdx : (x == ("__debug__" : Str)) = false) (hdy : (y == ("__debug__" : Str)) = false) (he1 : EndS e1) (he2 : EndS e2) (he3 : EndS e3)
    (hl : s.heap.IsList ax items) (hw : ∀ v ∈ items, GoodWord hb₀ s.heap [] n v) (hn100 : n ≤ 100) (hsz : items.size ≤ 10000)
    (B : Block s.heap h₁ ax I C D m)
    (hQ : ∀ h' tk m' ys, Keep [I, C, D] h₁ h' → h'.Ns C m' → h'.get? D = some (lst ys) → ys.length = 3 * items.size → (∀ v ∈ ys, GoodWord s.heap h' [I, C, D] (n + 1) v) → R (.ok .next) { s with heap := h', toks := tk }) :
    codeAny (model prog w) A (.compLoop (comp2 (wordE x y p1 p2 p3 p4) x y px py i1 (endsT e1 e2 e3 k1 k2 k3 kt q1 q2 q3 qt) scope pos) 0 (.ref I) (.ref D) (compEnvC scope cl C env)) R { s with heap := h₁, toks := tk₁ } := by
  have hax : ax ≠ I := by obtain ⟨o, e, _⟩ := hl; exact ne_of_new e B.newI
  have haC : ax ≠ C := by obtain ⟨o, e, _⟩ := hl; exact ne_of_new e B.newC
  have haD : ax ≠ D := by obtain ⟨o, e, _⟩ := hl; exact ne_of_new e B.newD
  have hns : ∀ b o, s.heap.get? b = some o → b ∉ [I, C, D] := by
    intro b o e q
    rcases List.mem_cons.mp q with q | q
    · exact ne_of_new e B.newI q
    · rcases List.mem_cons.mp q with q | q
      · exact ne_of_new e B.newC q
      · exact ne_of_new e B.newD (List.mem_singleton.mp q)
  refine outer_loop (Walks.list hh I ax hax items) hx hkind B.ic B.idd B.cd (by simp; exact ⟨Ne.symm B.ic, Ne.symm haC⟩) (by simp; exact ⟨Ne.symm B.idd, Ne.symm haD⟩) (fun _ => rfl)
    (fun i ys h => ys.length = 3 * i ∧ ∀ v ∈ ys, GoodWord s.heap h [I, C, D] (n + 1) v) (fun _ _ _ _ h k => ⟨h.1, fun v hv => (h.2 v hv).keep k fun _ q => q⟩) ?_ (fun i h st => by obtain ⟨o, e, _⟩ := st.1; exact ⟨o, e⟩) ?_ ⟨B.iter, hl.at fun o e => B.keep ax o e⟩ B.ns B.acc ⟨rfl, fun _ hv => nomatch hv⟩
  · intro i v m' h' tk ys E' hi hP hn hm hk hD hI hJ
    obtain ⟨hJl, hJw⟩ := hJ
    obtain ⟨a, wv, nn, ws, rfl, _, _, ea, hs, hlw, hws⟩ := hw v (Array.mem_of_getElem? hP)
    have haS : a ∉ [I, C, D] := hns a _ ea
    have ea' : h'.get? a = some (listOf wv nn) := hk a _ haS (B.keep a _ ea)
    -- the tuple of ends
    refine Tuple_ (spliced_more (Constant_str (spliced_more (Constant_str (spliced_more (Constant_str (spliced_none ?_)))))))
    dsimp only
    refine wpAny_newObj_type ?_ (by show 3 ≤ sizeLine; rw [sizeLine_eq]; omega)
    dsimp only
    obtain ⟨tups, htups⟩ : ∃ tups : Array Value, tups = ([Value.str e1 tk, Value.str e2 (tk + 1), Value.str e3 (tk + 1 + 1)] : List Value).toArray := ⟨_, rfl⟩
    generalize hH1 : h'.push { cls := .type "tuple", dict := none, data := .seq ([Value.str e1 tk, Value.str e2 (tk + 1), Value.str e3 (tk + 1 + 1)] : List Value).toArray } = H1
    have z1 : H1.objs.size = h'.objs.size + 1 := by rw [← hH1, Heap.size_push]
    have up1 : ∀ b o, h'.get? b = some o → H1.get? b = some o := fun b o e => by rw [← hH1]; exact Heap.get?_push_of_some _ e
    have hT : H1.IsTuple h'.objs.size tups := ⟨_, by rw [← hH1]; exact Heap.get?_push_size _ rfl, rfl, _, by rw [htups]⟩
    refine wpAny_pyIter_tuple (items := tups) hT ?_
    have hnewI2 : H1.get? H1.objs.size = none := new_of_size
    obtain ⟨oC, _, _, eC, _⟩ := id hn
    obtain ⟨oI, eI⟩ := hI
    have h2C : H1.objs.size ≠ C := Ne.symm (ne_of_new (up1 _ _ eC) hnewI2)
    have h2D : H1.objs.size ≠ D := Ne.symm (ne_of_new (up1 _ _ hD) hnewI2)
    have h2I : I ≠ H1.objs.size := ne_of_new (up1 _ _ eI) hnewI2
    have hTI : h'.objs.size ≠ H1.objs.size := by rw [z1]; exact Nat.ne_of_lt (Nat.lt_succ_self _)
    have hTC : C ≠ h'.objs.size := ne_of_new eC new_of_size
    have hTD : D ≠ h'.objs.size := ne_of_new hD new_of_size
    have W2 := Walks.tuple (prog := prog) (w := w) hh H1.objs.size h'.objs.size hTI tups
    generalize hH2 : H1.push { cls := .type "tuple_iterator", data := .fields #[.ref h'.objs.size, .int 0 0] } = H2
    have up2 : ∀ b o, H1.get? b = some o → H2.get? b = some o := fun b o e => by rw [← hH2]; exact Heap.get?_push_of_some _ e
    have up : ∀ b o, h'.get? b = some o → H2.get? b = some o := fun b o e => up2 _ _ (up1 _ _ e)
    have st0 : H2.IsTupleIter H1.objs.size h'.objs.size 0 ∧ H2.IsTuple h'.objs.size tups :=
      ⟨⟨_, by rw [← hH2]; exact Heap.get?_push_size _ rfl, rfl, rfl⟩, hT.at fun o e => up2 _ o e⟩
    have hten : ∀ (j : Nat) (v' : Value), tups[j]? = some v' → ∃ e t, v' = .str e t ∧ EndS e := by
      intro j v' hv
      rw [htups] at hv
      match j, hv with
      | 0, hv => exact ⟨e1, tk, (Option.some.inj hv).symm, he1⟩
      | 1, hv => exact ⟨e2, tk + 1, (Option.some.inj hv).symm, he2⟩
      | 2, hv => exact ⟨e3, tk + 1 + 1, (Option.some.inj hv).symm, he3⟩
      | j + 3, hv => simp at hv
    have htl : tups.size = 3 := by rw [htups]; rfl
    have loop : codeAny (model prog w) A (.compLoop (comp2 (wordE x y p1 p2 p3 p4) x y px py i1 (endsT e1 e2 e3 k1 k2 k3 kt q1 q2 q3 qt) scope pos) 1 (.ref H1.objs.size) (.ref D) (compEnvC scope cl C env)) (InnerPost { s with heap := h₁, toks := tk₁ } C D (fun ys h => ys.length = 3 * (i + 1) ∧ ∀ v ∈ ys, GoodWord s.heap h [I, C, D] (n + 1) v) h')
        { s with heap := H2, toks := tk + 1 + 1 + 1 } := by
      refine inner_loop (m₀ := m') W2 hy hkind h2C h2D B.cd (by simp; exact ⟨Ne.symm h2C, hTC⟩) (by simp; exact ⟨Ne.symm h2D, hTD⟩)
        (fun j zs h => zs.length = ys.length + j ∧ j ≤ 3 ∧ ∀ v ∈ zs, GoodWord s.heap h [H1.objs.size, I, C, D] (n + 1) v) ?_ ?_ ?_ (fun i h st => by obtain ⟨o, e, _⟩ := st.1; exact ⟨o, e⟩) ?_ st0 (hn.at' fun o e => up C o e) (fun _ _ => rfl) (up D _ hD) ⟨rfl, by omega, ?_⟩
      · intro j zs h h'' hz k
        refine ⟨hz.1, hz.2.1, fun v hv => (hz.2.2 v hv).keep k ?_⟩
        intro b hb
        rcases List.mem_cons.mp hb with rfl | hb
        · exact .head _
        · exact .tail _ (.tail _ hb)
      · intro j zs _ hz
        rw [hz.1, hJl, sizeLine_eq]
        omega
      · intro j v' m'' h'' tk' zs E'' hj hP' hn'' hm'' hmz hk'' hD'' hI2 hz
        obtain ⟨e, te, rfl, hee⟩ := hten j v' hP'
        have haS2 : a ∉ [H1.objs.size, C, D] := by
          intro q
          rcases List.mem_cons.mp q with q | q
          · exact ne_of_new (up1 _ _ ea') hnewI2 q
          · exact haS (.tail _ q)
        have hIS : I ∉ [H1.objs.size, C, D] := by
          intro q
          rcases List.mem_cons.mp q with q | q
          · exact h2I q
          · rcases List.mem_cons.mp q with q | q
            · exact B.ic q
            · exact B.idd (List.mem_singleton.mp q)
        have hmx : m'' x = some (.ref a) := (hmz x hxy).trans hm
        obtain ⟨oC'', _, _, eC'', _⟩ := id hn''
        refine word_elt (n := n) (S := [H1.objs.size, I, C, D]) (s := { s with heap := h'', toks := tk' }) hx hy hkind hdx hdy hn'' hmx hm'' (hk'' a _ haS2 (up a _ ea')) hs hlw hn100 hee hws ?_ (hb₀ := s.heap) ?_ ?_
        · intro b hb
          rcases List.mem_cons.mp hb with rfl | hb
          · exact hI2
          · rcases List.mem_cons.mp hb with rfl | hb
            · exact ⟨_, hk'' _ _ hIS (up _ _ eI)⟩
            · rcases List.mem_cons.mp hb with rfl | hb
              · exact ⟨_, eC''⟩
              · rw [List.mem_singleton.mp hb]; exact ⟨_, hD''⟩
        · intro b o eb
          have h1 := hk b o (hns b o eb) (B.keep b o eb)
          refine hk'' b o ?_ (up b o h1)
          intro q
          rcases List.mem_cons.mp q with q | q
          · exact ne_of_new (up1 _ _ h1) hnewI2 q
          · exact hns b o eb (.tail _ q)
        · intro r h₃ tk₃ hk₃ hg
          refine ⟨h₃, tk₃, rfl, hk₃, by rw [List.length_append, hz.1]; show _ + 1 = _; omega, by rw [htl] at hj; omega, ?_⟩
          intro u hu
          rcases List.mem_append.mp hu with hu | hu
          · exact (hz.2.2 u hu).keep (Keep.all (S := []) hk₃) fun _ q => nomatch q
          · rw [List.mem_singleton.mp hu]; exact hg
      · intro h'' tk' m'' zs hk'' hn'' _ hD'' hz
        refine ⟨h'', tk', m'', zs, rfl, ?_, hn'', hD'', ?_, ?_⟩
        · intro b o hb e
          refine hk'' b o ?_ (up b o e)
          intro q
          rcases List.mem_cons.mp q with q | q
          · exact ne_of_new (up1 _ _ e) hnewI2 q
          · exact hb q
        · have := hz.1
          rw [htl] at this
          omega
        · intro u hu
          exact (hz.2.2 u hu).sub fun b hb => .tail _ hb
      · intro u hu
        obtain ⟨b, bv, bn, bs, rfl, hbN, hb, eb, r⟩ := hJw u hu
        refine ⟨b, bv, bn, bs, rfl, hbN, ?_, up b _ eb, r⟩
        intro q
        rcases List.mem_cons.mp q with q | q
        · exact ne_of_new (up1 _ _ eb) hnewI2 q
        · exact hb q
    exact start_inner loop fun E'' => W2.self 0 _ _ _ st0 loop
  · intro h' tk m' ys hk hn hD hJ
    exact hQ h' tk m' ys hk hn hD hJ.1 hJ.2
end
end Mine
end

section
open PySem PySem.W PyProof.Rows PySem.Calls
set_option Elab.async false
set_option maxRecDepth 100000
namespace Mine
section
variable {prog : Program} {w : World} {A : Around} {E : Value → Shared → Prop} {s : Shared} {env : Env}

def TurnH (s : Shared) (L : Addr) (fp : List Addr) (J : (Str → Option Value) → Heap → Prop) (h' : Heap) (Q : Flow → Shared → Prop) (f : Flow) (s₃ : Shared) : Prop :=
  match f with
  | .ret v => Q (.ret v) s₃
  | .brk => Q .next s₃
  | _ => ∃ h'' tk'' m'', s₃ = { s with heap := h'', toks := tk'' } ∧ (∀ b ∈ fp, ∀ o, h'.get? b = some o → h''.get? b = some o) ∧ h''.Ns L m'' ∧ J m'' h''

def ForAt (prog : Program) (w : World) (A : Around) (env : Env) (x : Str) (body : List Stmt) (Q : Flow → Shared → Prop) (it : Value) (s₂ : Shared) : Prop :=
  ∃ (I : Addr) (fp : List Addr) (n : Nat) (P : Nat → Value → Prop) (St : Nat → Heap → Prop) (m : Str → Option Value) (J : Nat → (Str → Option Value) → Heap → Prop),
    it = .ref I ∧ Walks prog w A I fp [I] n P St ∧ env.locals ∉ fp ∧ St 0 s₂.heap ∧ s₂.heap.Ns env.locals m ∧ J 0 m s₂.heap ∧
    (∀ i m h h', J i m h → Keep [I, env.locals] h h' → J i m h') ∧ (∀ i h, St i h → ∃ o, h.get? I = some o) ∧
    (∀ i v m' h' tk (E' : Value → Shared → Prop), i < n → P i v → h'.Ns env.locals (fun y => if y = x then some v else m' y) → (∃ o, h'.get? I = some o) → J i m' h' →
      wpAny (model prog w) A (execs body env) (TurnH s₂ env.locals fp (J (i + 1)) h' Q) E' { s₂ with heap := h', toks := tk }) ∧
    ∀ h' tk m', h'.Ns env.locals m' → J n m' h' → Q .next { s₂ with heap := h', toks := tk }

theorem for_heap {x : Str} {px pos : Pos} {iter : Expr} {body : List Stmt} {Q : Flow → Shared → Prop} (hx : env.kindOf x = some .local)
    (hp : (env.scope.kind == .class || (env.scope.kind == .module && env.locals != env.globals)) = false)
    (h : wpAny (model prog w) A (eval iter env) (fun xv s₁ => wpAny (model prog w) A (pyIter xv) (ForAt prog w A env x body Q) E s₁) E s)
    (hs : ∀ x, foldedSetIterable iter env x = pure x := by intro _; rfl) :
    wpAny (model prog w) A (exec (.For (.Name x px) iter body [] pos) env) Q E s := by
  refine wpAny_For (wpAny_mono h (fun xv s₁ h₁ => wpAny_mono h₁ (fun it s₂ h₂ => ?_) fun _ _ e => e) fun _ _ e => e) hs
  obtain ⟨I, fp, n, P, St, m, J, rfl, W, hLf, hst, hn, h0, hJk, hIo, turn, fin⟩ := h₂
  have hIf : I ∈ fp := W.sub I (by simp)
  have hLI : env.locals ≠ I := fun q => hLf (q ▸ hIf)
  refine codeAny_forLoop (fun k s' => ∃ h' tk m' i, s' = { s₂ with heap := h', toks := tk } ∧ St i h' ∧ h'.Ns env.locals m' ∧ J i m' h' ∧ i ≤ n ∧ k = n + 1 - i) ?_ (n + 1)
    ⟨s₂.heap, s₂.toks, m, 0, rfl, hst, hn, h0, Nat.zero_le _, rfl⟩
  rintro k s' ⟨h', tk, m', i, rfl, hst', hn', hJ', hi, rfl⟩
  by_cases hlt : i < n
  · refine W.item i _ _ _ hlt hst' fun v h₁ tk₁ hP hst₁ hk₁ => ?_
    have hn₁ : h₁.Ns env.locals m' := hn'.at' fun o e => hk₁ _ o (by simpa using hLI) e
    refine wpAny_assign_Name (wpAny_storeName_local hx hn₁ (fun h₂ hn₂ hs₂ => ?_) hp)
    have hst₂ : St (i + 1) h₂ := W.frame _ _ _ hst₁ fun b hb o e => hs₂.extBut b o (fun q => hLf (q ▸ hb)) e
    have hk₂ : Keep [I, env.locals] h' h₂ := (Keep.one hk₁ (by simp)).trans (Keep.same hs₂ (by simp))
    refine wpAny_mono (turn i v m' h₂ _ _ hlt hP hn₂ (hIo _ _ hst₂) (hJk _ _ _ _ hJ' hk₂)) (fun f s₃ h₃ => ?_) fun _ _ e => e
    have next : (∃ h'' tk'' m'', s₃ = ({ s₂ with heap := h'', toks := tk'' } : Shared) ∧ (∀ b ∈ fp, ∀ o, h₂.get? b = some o → h''.get? b = some o) ∧ h''.Ns env.locals m'' ∧ J (i + 1) m'' h'') →
        ∃ m, m < n + 1 - i ∧ ∃ h' tk m' i, s₃ = ({ s₂ with heap := h', toks := tk } : Shared) ∧ St i h' ∧ h'.Ns env.locals m' ∧ J i m' h' ∧ i ≤ n ∧ m = n + 1 - i := by
      rintro ⟨h'', tk'', m'', rfl, hk, hn'', hJ''⟩
      exact ⟨n + 1 - (i + 1), by omega, h'', tk'', m'', i + 1, rfl, W.frame _ _ _ hst₂ fun b hb o e => hk b hb o e, hn'', hJ'', hlt, rfl⟩
    cases f with
    | ret v => exact h₃
    | brk => exact h₃
    | next => exact next h₃
    | cont => exact next h₃
  · obtain rfl : i = n := Nat.le_antisymm hi (Nat.not_lt.mp hlt)
    refine W.done _ _ _ hst' fun h₁ tk₁ hk₁ => ?_
    exact wpAny_execs_nil (fin h₁ tk₁ m' (hn'.at' fun o e => hk₁ _ o (by simpa using hLI) e) (hJk _ _ _ _ hJ' (Keep.one hk₁ (by simp))))
end
end Mine
end

section
open PySem PySem.W PyProof.Rows PySem.Calls
set_option Elab.async false
set_option maxRecDepth 100000
namespace Mine
section
variable {prog : Program} {w : World} {A : Around} {E : Value → Shared → Prop} {s : Shared} {env : Env}

def WordsJ (h₀ : Heap) (L I : Addr) (z : Str) (i : Nat) (m : Str → Option Value) (h : Heap) : Prop :=
  (∀ b o, h₀.get? b = some o → h.get? b = some o) ∧
  ∃ (D : Addr) (us : List Value) (n : Nat), m z = some (.ref D) ∧ h₀.get? D = none ∧ D ≠ L ∧ D ≠ I ∧ h.get? D = some (listOf us.toArray n) ∧ us.length ≤ 3 ^ i ∧ ∀ v ∈ us, GoodWord h₀ h [L, I, D] i v

theorem words_for {z x y tn : Str} {px py pz pn p1 p2 p3 p4 q1 q2 q3 qt pos spos : Pos} {e1 e2 e3 : Str} {k1 k2 k3 kt : Nat} {scope : Scope} {h₀ : Heap} {m : Str → Option Value} {r D₀ a₀ : Addr} {n₀ na k : Nat} {t₀ u₀ v₀ : Tok} {Q : Flow → Shared → Prop}
    (hh : A.handled = none) (hk : k ≤ 3) (hr : IsRange s.heap r 0 (k : Int) 1 t₀ u₀ v₀) (F : Fr h₀ env.locals s.heap m)
    (hkind : env.scope.kind = .function) (hz : env.kindOf z = some .local) (hzt : z ≠ tn) (hdz : (z == ("__debug__" : Str)) = false)
    (hsw : swapsWith (comp2 (wordE x y p1 p2 p3 p4) x y px py (.Name z pn) (endsT e1 e2 e3 k1 k2 k3 kt q1 q2 q3 qt) scope pos) (some (.Name z pz)) spos.line env = pure true)
    (hclos : closureFor scope env = pure []) (hcell : ∀ y ∈ scope.names, y.2 ≠ .cell) (hsk : scope.kind = .function)
    (hnames : ∀ y ∈ scope.names, y.2 = .local → scope.names.lookup y.1 = some .local)
    (hx : scope.names.lookup x = some .local) (hy : scope.names.lookup y = some .local) (hxy : x ≠ y)
    (hdx : (x == ("__debug__" : Str)) = false) (hdy : (y == ("__debug__" : Str)) = false) (he1 : EndS e1) (he2 : EndS e2) (he3 : EndS e3)
    (hm : m z = some (.ref D₀)) (hD₀ : h₀.get? D₀ = none) (hDL : D₀ ≠ env.locals) (hD : s.heap.get? D₀ = some (listOf #[.ref a₀] n₀))
    (ha₀ : h₀.get? a₀ = none) (haL : a₀ ≠ env.locals) (haD : a₀ ≠ D₀) (ha : s.heap.get? a₀ = some (listOf #[] na))
    (fin : ∀ D us n h' tk m', h'.Ns env.locals m' → m' z = some (.ref D) → (∀ b o, h₀.get? b = some o → h'.get? b = some o) → h₀.get? D = none → D ≠ env.locals → h'.get? D = some (listOf (List.toArray us) n) → us.length ≤ 27 → (∀ v ∈ us, GoodWord h₀ h' [D] k v) →
      Q .next { s with heap := h', toks := tk }) :
    wpAny (model prog w) A (pyIter (.ref r)) (ForAt prog w A env tn [Stmt.Assign [.Name z pz] (comp2 (wordE x y p1 p2 p3 p4) x y px py (.Name z pn) (endsT e1 e2 e3 k1 k2 k3 kt q1 q2 q3 qt) scope pos) spos] Q) E s := by
  have hp : (env.scope.kind == .class || (env.scope.kind == .module && env.locals != env.globals)) = false := by rw [hkind]; rfl
  have hsz : Builtin.Range.rangeSize 0 (k : Int) 1 = (k : Int) := by
    unfold Builtin.Range.rangeSize
    rw [if_pos (by decide)]
    split
    · rw [Int.ediv_one]; omega
    · omega
  have hsm : Builtin.Range.small 0 (k : Int) 1 = true := small_one (by decide) (by decide) (by omega) (by omega)
  refine wpAny_pyIter_range hr hsm ?_
  have W : Walks prog w A s.heap.objs.size [s.heap.objs.size] [s.heap.objs.size] k (fun i v => i < k ∧ ∃ t, v = .int (0 + i * 1) t)
      (fun i h => IsRangeIter h s.heap.objs.size (0 + (i : Nat) * 1) ((k : Int) - (i : Nat)) 1) := (Walks.range hh _ 0 1 k).bound
  obtain ⟨oL, _, _, eL, _⟩ := id F.ns
  have hIL : s.heap.objs.size ≠ env.locals := Ne.symm (ne_of_new eL new_of_size)
  have hI₀ : h₀.get? s.heap.objs.size = none := by
    cases e : h₀.get? s.heap.objs.size with
    | none => rfl
    | some o => exact absurd (Heap.lt_size (F.keep _ _ e)) (Nat.lt_irrefl _)
  have hL₀ : h₀.get? env.locals = none := by
    cases e : h₀.get? env.locals with
    | none => rfl
    | some o => exact absurd (Nat.lt_of_lt_of_le (Heap.lt_size e) F.above) (Nat.lt_irrefl _)
  refine ⟨s.heap.objs.size, [s.heap.objs.size], k, _, _, m, WordsJ h₀ env.locals s.heap.objs.size z, rfl, W, by simpa using Ne.symm hIL,
    (by show IsRangeIter _ _ _ _ _; rw [hsz]; simpa using Heap.get?_push_size _ rfl), F.ns.at' (fun o e => Heap.get?_push_of_some _ e), ?_, ?_, (fun i h st => ⟨_, st⟩), ?_, ?_⟩
  · refine ⟨fun b o e => Heap.get?_push_of_some _ (F.keep b o e), D₀, [.ref a₀], n₀, hm, hD₀, hDL, ne_of_new hD new_of_size, Heap.get?_push_of_some _ hD, by simp, ?_⟩
    intro v hv
    rw [List.mem_singleton.mp hv]
    refine ⟨a₀, #[], na, [], rfl, ha₀, ?_, Heap.get?_push_of_some _ ha, .nil, rfl, fun _ h => nomatch h⟩
    intro q
    rcases List.mem_cons.mp q with q | q
    · exact haL q
    · rcases List.mem_cons.mp q with q | q
      · exact ne_of_new ha new_of_size q
      · exact haD (List.mem_singleton.mp q)
  · rintro i m h h' ⟨hk1, D, us, n, h1, h2, h3, h4, h5, h6, h7⟩ hK
    have hb : ∀ b o, h₀.get? b = some o → b ∉ [s.heap.objs.size, env.locals] := by
      intro b o e q
      rcases List.mem_cons.mp q with q | q
      · exact ne_of_new e hI₀ q
      · exact ne_of_new e hL₀ (List.mem_singleton.mp q)
    refine ⟨fun b o e => hK b o (hb b o e) (hk1 b o e), D, us, n, h1, h2, h3, h4, hK D _ (by simp; exact ⟨h4, h3⟩) h5, h6, fun v hv => (h7 v hv).keep hK ?_⟩
    intro b hb
    rcases List.mem_cons.mp hb with rfl | hb
    · simp
    · rw [List.mem_singleton.mp hb]; simp
  · rintro i v m' h' tk E' hi _ hn ⟨oI, eI⟩ ⟨hk1, D, us, n, h1, h2, h3, h4, h5, h6, h7⟩
    refine wpAny_execs_cons ?_
    refine Assign_ListComp_2 hsw hclos hcell hsk hnames ?_
    refine wpAny_Name (wpAny_loadName_local hkind hz hn (v := .ref D) ?_ ?_) hdz
    · show (if z = tn then some v else m' z) = _
      rw [if_neg hzt]
      exact h1
    obtain ⟨oL', _, _, eL', _⟩ := id hn
    have hi3 : i ≤ 2 := by omega
    have hus : us.length ≤ 9 := by
      have : 3 ^ i ≤ 3 ^ 2 := Nat.pow_le_pow_right (by omega) hi3
      omega
    refine ⟨D, us.toArray, rfl, hh, ⟨_, h5, rfl, _, rfl⟩, ?_⟩
    intro I' C D' h₁ m₁ tk₁ B
    refine words_loop (s := { s with heap := h', toks := tk }) (n := i) (hb₀ := h₀) hh hx hy hxy hsk hdx hdy he1 he2 he3 ⟨_, h5, rfl, _, rfl⟩ ?_ (by omega) (by simpa using Nat.le_trans hus (by omega)) B ?_
    · intro v hv
      exact (h7 v (by simpa using hv)).sub fun _ q => nomatch q
    · intro h₂ tk₂ m₂ ys hK hn₂ hD₂ hlen hgood
      have hnI' : ∀ b o, h'.get? b = some o → b ∉ [I', C, D'] := by
        intro b o e q
        rcases List.mem_cons.mp q with q | q
        · exact ne_of_new e B.newI q
        · rcases List.mem_cons.mp q with q | q
          · exact ne_of_new e B.newC q
          · exact ne_of_new e B.newD (List.mem_singleton.mp q)
      have up : ∀ b o, h'.get? b = some o → h₂.get? b = some o := fun b o e => hK b o (hnI' b o e) (B.keep b o e)
      have hCL : C ≠ env.locals := Ne.symm (ne_of_new eL' B.newC)
      show wpAny _ A (assign (.Name z pz) env (.ref D')) _ _ _
      refine wpAny_assign_Name (wpAny_storeName_local hz (hn.at' fun o e => up _ o e) (fun h₃ hn₃ hs₃ => ?_) hp)
      refine ⟨m₂, hn₂.sameBut hs₃ hCL, fun h₄ hs₄ => ?_⟩
      refine wpAny_execs_nil ?_
      have hD'L : D' ≠ env.locals := Ne.symm (ne_of_new eL' B.newD)
      have hD₄ : h₄.get? D' = some (lst ys) := hs₄.extBut _ _ (Ne.symm B.cd) (hs₃.extBut _ _ hD'L hD₂)
      have hkeep : ∀ b o, b ≠ env.locals → h'.get? b = some o → h₄.get? b = some o := fun b o hb e => hs₄.extBut _ _ (ne_of_new e B.newC) (hs₃.extBut _ _ hb (up b o e))
      refine ⟨h₄, tk₂ + 1, _, rfl, fun b hb o e => hkeep b o (by rw [List.mem_singleton.mp hb]; exact hIL) e, hn₃.sameBut hs₄ (Ne.symm hCL), ?_, D', ys, ys.length, by simp, ?_, hD'L, ?_, hD₄, ?_, ?_⟩
      · exact fun b o e => hkeep b o (ne_of_new e hL₀) (hk1 b o e)
      · cases e : h₀.get? D' with
        | none => rfl
        | some o => exact absurd rfl (ne_of_new (hk1 _ _ e) B.newD)
      · exact Ne.symm (ne_of_new eI B.newD)
      · rw [hlen, List.size_toArray, Nat.pow_succ]
        omega
      · intro v hv
        obtain ⟨a, wv, nn, ws, rfl, hN, haS, ea, r⟩ := hgood v hv
        have haL' : a ≠ env.locals := fun q => by rw [q] at hN; exact ne_of_new eL' hN rfl
        have haI : a ≠ s.heap.objs.size := fun q => by rw [q] at hN; exact ne_of_new eI hN rfl
        refine ⟨a, wv, nn, ws, rfl, ?_, ?_, ?_, r⟩
        · cases e : h₀.get? a with
          | none => rfl
          | some o => exact absurd rfl (ne_of_new (hk1 _ _ e) hN)
        · intro q
          rcases List.mem_cons.mp q with q | q
          · exact haL' q
          · rcases List.mem_cons.mp q with q | q
            · exact haI q
            · exact haS (by rw [List.mem_singleton.mp q]; simp)
        · exact hs₄.extBut _ _ (fun q => haS (by rw [q]; simp)) (hs₃.extBut _ _ haL' ea)
  · rintro h' tk m' hn ⟨hk1, D, us, n, h1, h2, h3, h4, h5, h6, h7⟩
    refine fin D us n h' tk m' hn h1 hk1 h2 h3 h5 ?_ fun v hv => (h7 v hv).sub fun b hb => by rw [List.mem_singleton.mp hb]; simp
    have : 3 ^ k ≤ 3 ^ 3 := Nat.pow_le_pow_right (by omega) hk
    omega
end
end Mine
end

section
open PySem PySem.W PyProof.Rows
set_option Elab.async false
set_option maxRecDepth 100000
namespace Mine

local macro_rules | `(tactic| walk_at "exec For") => `(tactic| (k_here; k_dflt (refine for_heap (by rfl) (by rfl) ?_)))
local macro_rules | `(tactic| walk_at "exec For Name Call cons nil") => `(tactic| (k_here; k_dflt (refine for_heap (by rfl) (by rfl) ?_)))
local macro_rules | `(tactic| walk_at "pyIter ref") => `(tactic| (fail_if_success skip))

set_option maxHeartbeats 8000000
theorem words_spec {w : World} {A : Around} {s : Shared} {mean mg mb} {Q E : Value → Shared → Prop} (X : (hd.heap_39 w.params).In s.heap) (T : Top hd.view_39 LS mean mg mb s.heap)
    (hroom : A.depth + 1 < recursionLimit) (hh : A.handled = none) {k : Nat} {tk : Tok} (hk : k ≤ 3)
    (post : ∀ D us n h' tk', (∀ b o, s.heap.get? b = some o → h'.get? b = some o) → s.heap.get? D = none → h'.get? D = some (listOf (List.toArray us) n) → us.length ≤ 27 → (∀ v ∈ us, GoodWord s.heap h' [D] k v) → Q (.ref D) { s with heap := h', toks := tk' }) :
    wpAny (model PG w) A (call (.ref 86) [.int (k : Int) tk]) Q E s := by
  have : hd.heap_39 = hd.heap_39 ∧ PySem.Challenge.rw_om0212_01 = PySem.Challenge.rw_om0212_01 := by
    k_fill
    exact ⟨rfl, rfl⟩
  clear this
  have hk0 : 0 ≤ (k : Int) := by omega
  have hk3 : (k : Int) ≤ 3 := by omega
  refine wpAny_call ?_
  refine' enterD X T.nolimit ?k6 ?k7 ?k8 ?k9 ?kB ?_ ?c5 ?c2 ?c3 ?c4
  (case k6 => k_is); (case k7 => k_is); (case k8 => omega)
  (case k9 => exact BindsTo.of_eq (binds := [(Str.ofString "ends", .int (k : Int) tk)]) rfl)
  (case c5 => decide); (case kB => exact locs rfl); (case c2 => exact rfl); (case c3 => exact rfl); (case c4 => exact rfl)
  intro L' h' F' N'
  dsimp only
  k_fold
  w_on
  iterate 20 (all_goals (first | (k_unfold; (try dsimp only)) | walk1 | (dsimp only; walk1)))
  rename_i hr F₁ N₁ hkk
  have n1 := N₁ _ (.head _)
  have n2 := N₁ _ (.tail _ (.head _))
  refine words_for (k := k) (h₀ := s.heap) hh hk hr F₁ rfl rfl (by decide) (by decide) (by with_unfolding_all rfl) (by with_unfolding_all rfl) (by decide) rfl (by decide) rfl rfl (by decide) (by decide) (by decide)
    (.inl (by decide +kernel)) (.inr (.inl (by decide +kernel))) (.inr (.inr (by decide +kernel))) rfl n1.2.2 n1.2.1 n1.1 n2.2.2 n2.2.1 ?_ n2.1 ?_
  · intro q
    have h1 := n1.1
    have h2 := n2.1
    dsimp only at h1 h2
    rw [q, h1] at h2
    have h3 := congrArg Obj.data (Option.some.inj h2)
    have h4 : (#[Value.ref _] : Array Value) = #[] := (Data.seq.inj h3).1
    exact absurd (congrArg Array.size h4) Nat.one_ne_zero
  · intro D us n h₂ tk₂ m₂ hn₂ hm₂ hk₂ hD₂ hDL₂ hDD hlen hgood
    dsimp only
    refine wpAny_execs_cons (wpAny_Return_some (wpAny_Name (wpAny_loadName_local rfl rfl hn₂ hm₂ ?_) (by decide)))
    exact post D us n _ _ hk₂ hD₂ hDD hlen hgood

theorem words_K {w : World} {A : Around} {s : Shared} {h₀ : Heap} {L : Addr} {m : Str → Option Value} {news : List (Addr × Obj)} {mean mg mb} {Q E : Value → Shared → Prop} {k : Nat} {tk : Tok}
    (F : Fr h₀ L s.heap m) (N : News h₀ L s.heap news) (X : (hd.heap_39 w.params).In h₀) (T : Top hd.view_39 LS mean mg mb h₀) (hroom : A.depth + 1 < recursionLimit) (hh : A.handled = none) (hk : k ≤ 3)
    (post : ∀ D us n h' tk', Fr h₀ L h' m → News h₀ L h' news → s.heap.get? D = none → (∀ b o, s.heap.get? b = some o → h'.get? b = some o) → h'.get? D = some (listOf (List.toArray us) n) → us.length ≤ 27 → (∀ v ∈ us, GoodWord s.heap h' [D] k v) → Q (.ref D) { s with heap := h', toks := tk' }) :
    wpAny (model PG w) A (call (.ref 86) [.int (k : Int) tk]) Q E s :=
  words_spec (X.keeps F.keep) (T.keeps F.keep) hroom hh hk fun D us n h' tk' hk' hD hD' hl hg => post D us n h' tk' (F.grownK hk') (N.grown hk') hD hk' hD' hl hg
end Mine
end

section
open PySem PySem.W PyProof.Rows PySem.Calls
set_option Elab.async false
set_option maxRecDepth 100000
namespace Mine
section
variable {prog : Program} {w : World} {A : Around} {E : Value → Shared → Prop} {s : Shared} {env : Env}

abbrev compZ (a b : Str) (pa pb tp p1 p2 p3 : Pos) (kk : Nat) (iter : Expr) (scope : Scope) (pos : Pos) : Expr :=
  .ListComp (.BinOp (.Name a p1) .Add (.Name b p2) p3) [⟨.Tuple [.Name a pa, .Name b pb] kk tp, iter, [], 0⟩] scope pos

structure ZipAt (h : Heap) (z TI TO i1 i2 l1 l2 : Addr) (xs ys : Array Value) : Prop where
  apart : ZipApart z TI TO i1 i2 l1 l2
  st : IsZip h z TI TO .none ∧ IsPair h TI (.ref i1) (.ref i2) ∧ (∃ a b, IsPair h TO a b) ∧ h.IsListIter i1 l1 0 ∧ h.IsListIter i2 l2 0 ∧ h.IsList l1 xs ∧ h.IsList l2 ys

def SrcZ (A : Around) (Q : Value → Shared → Prop) (xv : Value) (s₁ : Shared) : Prop :=
  ∃ (z TI TO i1 i2 l1 l2 : Addr) (xv' yv' : List Value) (ws rs : List Str) (hB : Heap), xv = .ref z ∧ A.handled = none ∧ ZipAt s₁.heap z TI TO i1 i2 l1 l2 xv'.toArray yv'.toArray ∧ StrsAre xv' ws ∧ StrsAre yv' rs ∧
    ws.length = rs.length ∧ ws.length ≤ 1000 ∧ (∀ y ∈ ws, y.length ≤ 1000) ∧ (∀ y ∈ rs, y.length ≤ 1000) ∧
    (∀ b o, hB.get? b = some o → s₁.heap.get? b = some o) ∧ hB.get? z = none ∧ hB.get? TO = none ∧ hB.get? i1 = none ∧ hB.get? i2 = none ∧
    ∀ D vs n h' tk, (∀ b o, hB.get? b = some o → h'.get? b = some o) → hB.get? D = none → h'.get? D = some (listOf (List.toArray vs) n) → StrsAre vs (List.zipWith (· ++ ·) ws rs) → Q (.ref D) { s₁ with heap := h', toks := tk }

theorem strs_at2 : ∀ {vs : List Value} {ys : List Str} {i : Nat} {v : Value}, StrsAre vs ys → vs[i]? = some v → ∃ y t, ys[i]? = some y ∧ v = .str y t
  | _, _, 0, _, .cons y t _, h => ⟨y, t, rfl, (Option.some.inj h).symm⟩
  | _, _, i + 1, _, .cons _ _ r, h => strs_at2 (i := i) r h
  | _, _, _, _, .nil, h => by simp at h

theorem ListComp_Z {iter : Expr} {a b : Str} {pa pb tp p1 p2 p3 : Pos} {kk : Nat} {scope : Scope} {cl : List (Str × Addr)} {pos : Pos} {Q : Value → Shared → Prop}
    (hclos : closureFor scope env = pure cl) (hcell : ∀ y ∈ scope.names, y.2 ≠ .cell) (hkind : scope.kind = .function)
    (hnames : ∀ y ∈ scope.names, y.2 = .local → scope.names.lookup y.1 = some .local)
    (ha : scope.names.lookup a = some .local) (hb : scope.names.lookup b = some .local) (hab : a ≠ b)
    (hda : (a == ("__debug__" : Str)) = false) (hdb : (b == ("__debug__" : Str)) = false)
    (h : wpAny (model prog w) A (eval iter env) (SrcZ A Q) E s)
    (hs : ∀ x, foldedSetIterable iter env x = pure x := by intro _; rfl) :
    wpAny (model prog w) A (eval (compZ a b pa pb tp p1 p2 p3 kk iter scope pos) env) Q E s := by
  unfold compZ
  rw [eval_ListComp]
  refine wpAny_comprehension_free (use := none) rfl hs hclos hkind hnames (wpAny_mono h (fun xv s₁ h₁ => ?_) fun _ _ e => e)
  obtain ⟨z, TI, TO, i1, i2, l1, l2, xs, ys, ws, rs, hB, rfl, hh, Z, hx, hy, hlen, h1000, hwl, hrl, hBk, bz, bTO, b1, b2, fin⟩ := h₁
  have W := WalksT.zip2 (prog := prog) (w := w) hh z TI TO i1 i2 l1 l2 Z.apart xs.toArray ys.toArray
  have hpres : ∀ c ∈ [z, TI, TO, i1, i2, l1, l2], ∃ o, s₁.heap.get? c = some o := by
    obtain ⟨q1, q2, ⟨ta, tb, q3⟩, ⟨o4, q4, _⟩, ⟨o5, q5, _⟩, ⟨o6, q6, _⟩, ⟨o7, q7, _⟩⟩ := Z.st
    intro c hc
    simp only [List.mem_cons, List.not_mem_nil, or_false] at hc
    rcases hc with rfl | rfl | rfl | rfl | rfl | rfl | rfl
    · exact ⟨_, q1⟩
    · exact ⟨_, q2⟩
    · exact ⟨_, q3⟩
    · exact ⟨_, q4⟩
    · exact ⟨_, q5⟩
    · exact ⟨_, q6⟩
    · exact ⟨_, q7⟩
  refine W.self 0 _ _ _ Z.st ?_
  refine wpAny_newObj_type (wpAny_newFunctionEnv hcell (by intro y hy; simp at hy) (fun h₁ hns₁ hsb₁ => ?_) hkind)
  dsimp only at hns₁ hsb₁ ⊢
  generalize hH2 : s₁.heap.push { cls := .type "list", dict := none, data := .seq ([] : List Value).toArray } = H2 at hns₁ hsb₁ ⊢
  have z2 : H2.objs.size = s₁.heap.objs.size + 1 := by rw [← hH2, Heap.size_push]
  have fresh : ∀ a, s₁.heap.objs.size ≤ a → s₁.heap.get? a = none := fun a ha => by
    cases e : s₁.heap.get? a with
    | none => rfl
    | some o' => exact absurd (Heap.lt_size e) (Nat.not_lt.mpr ha)
  have up1 : ∀ b o, s₁.heap.get? b = some o → H2.get? b = some o := fun b o e => by rw [← hH2]; exact Heap.get?_push_of_some _ e
  have up3 : ∀ b o, H2.get? b = some o → h₁.get? b = some o := fun b o e => hsb₁.extBut b o (Nat.ne_of_lt (Heap.lt_size e)) (Heap.get?_push_of_some _ e)
  have up : ∀ b o, s₁.heap.get? b = some o → h₁.get? b = some o := fun b o e => up3 _ _ (up1 _ _ e)
  have hD : h₁.get? s₁.heap.objs.size = some (lst []) := up3 _ _ (by rw [← hH2]; exact Heap.get?_push_size _ rfl)
  have nD : s₁.heap.get? s₁.heap.objs.size = none := fresh _ (Nat.le_refl _)
  have nC : s₁.heap.get? H2.objs.size = none := fresh _ (by omega)
  have hCD : H2.objs.size ≠ s₁.heap.objs.size := by rw [z2]; exact Nat.ne_of_gt (Nat.lt_succ_self _)
  have hfC : ∀ c ∈ [z, TI, TO, i1, i2, l1, l2], c ≠ H2.objs.size := fun c hc => by obtain ⟨o, e⟩ := hpres c hc; exact ne_of_new e nC
  have hfD : ∀ c ∈ [z, TI, TO, i1, i2, l1, l2], c ≠ s₁.heap.objs.size := fun c hc => by obtain ⟨o, e⟩ := hpres c hc; exact ne_of_new e nD
  have hwf : ∀ c ∈ [z, TO, i1, i2], c ∈ [z, TI, TO, i1, i2, l1, l2] := W.sub
  have st₁ := W.frame 0 s₁.heap h₁ Z.st fun b _ o e => up b o e
  have hmin : min xs.toArray.size ys.toArray.size = ws.length := by
    have e1 := strs_len2 hx
    have e2 := strs_len2 hy
    simp only [List.size_toArray]
    omega
  rw [hmin] at W
  generalize hC : H2.objs.size = C at *
  generalize hDD : s₁.heap.objs.size = D at *
  have loop : ∀ tk, codeAny (model prog w) A (.compLoop (compZ a b pa pb tp p1 p2 p3 kk iter scope pos) 0 (.ref z) (.ref D) (compEnvC scope cl C env)) (compPost (model prog w) A E none Q (.ref D) C) { s₁ with heap := h₁, toks := tk } := by
    intro tk
    have zl : (List.zipWith (· ++ ·) ws rs).length = ws.length := by rw [List.length_zipWith]; omega
    refine kcp_loop (fun k s' => ∃ h' tk i m' vs, s' = { s₁ with heap := h', toks := tk } ∧ i ≤ ws.length ∧ k = ws.length + 1 - i ∧
        (IsZip h' z TI TO .none ∧ IsPair h' TI (.ref i1) (.ref i2) ∧ (∃ a b, IsPair h' TO a b) ∧ h'.IsListIter i1 l1 i ∧ h'.IsListIter i2 l2 i ∧ h'.IsList l1 xs.toArray ∧ h'.IsList l2 ys.toArray) ∧ h'.Ns C m' ∧
        Keep [z, TO, i1, i2, C, D] h₁ h' ∧ h'.get? D = some (lst vs) ∧ StrsAre vs ((List.zipWith (· ++ ·) ws rs).take i)) ?_ (ws.length + 1)
      ⟨h₁, tk, 0, _, [], rfl, Nat.zero_le _, rfl, st₁, hns₁, Keep.refl _ _, hD, .nil⟩
    rintro k s' ⟨h', tk', i, m', vs, rfl, hi, rfl, hst', hn', hk', hD', hvs⟩
    have hCw : C ∉ [z, TO, i1, i2] := fun q => hfC C (hwf C q) rfl
    have hDw : D ∉ [z, TO, i1, i2] := fun q => hfD D (hwf D q) rfl
    have wsub : ∀ b ∈ [z, TO, i1, i2], b ∈ [z, TO, i1, i2, C, D] := by
      intro b hb
      simp only [List.mem_cons, List.not_mem_nil, or_false] at hb ⊢
      rcases hb with hb | hb | hb | hb <;> simp [hb]
    by_cases hlt : i < ws.length
    · refine W.item i _ _ _ hlt hst' fun T vals h₂ tk₂ hP hTs hT hMid hk₂ => ?_
      obtain ⟨x, y, hxi, hyi, rfl⟩ := hP
      obtain ⟨xw, xt, hxw, rfl⟩ := strs_at2 hx (by simpa using hxi)
      obtain ⟨yw, yt, hyw, rfl⟩ := strs_at2 hy (by simpa using hyi)
      have hTw := W.apart _ _ _ hMid
      refine W.go _ _ _ i T _ _ _ hMid fun h₃ hst₃ hk₃ => ?_
      have hT₃ : h₃.IsTuple T #[.str xw xt, .str yw yt] := hT.at fun o e => hk₃ T o hTw e
      have hn₃ : h₃.Ns C m' := (hn'.at' fun o e => hk₂ C o hCw e).at' fun o e => hk₃ C o hCw e
      refine kcp_assign hh hT₃ (lookup_relabel_local ha) (lookup_relabel_local hb) (by simp [compEnvC, relabel, hkind]) hn₃ fun h₄ tk₄ hn₄ hk₄ => ?_
      have hk₄' : ∀ c o, c ≠ C → h₃.get? c = some o → h₄.get? c = some o := hk₄
      have hst₄ := W.frame _ _ _ hst₃ fun b hb o e => hk₄' b o (hfC b hb) e
      refine wpAny_BinOp (ldVarK hn₄ (v := .str xw xt) (by show (if a = b then _ else if a = a then _ else _) = _; rw [if_neg hab, if_pos rfl]) ?_ (by simp [compEnvC, relabel, hkind]) (lookup_relabel_local ha) hda)
      refine ldVarK hn₄ (v := .str yw yt) (by show (if b = b then _ else _) = _; rw [if_pos rfl]) ?_ (by simp [compEnvC, relabel, hkind]) (lookup_relabel_local hb) hdb
      have l1' := hwl xw (List.mem_of_getElem? hxw)
      have l2' := hrl yw (List.mem_of_getElem? hyw)
      refine PyProof.Rows.add_str (fun t' k' => ?_) (by rw [sizeLine_eq]; omega)
      have hD₄ : h₄.get? D = some (lst vs) := hk₄' D _ (Ne.symm hCD) (hk₃ D _ hDw (hk₂ D _ hDw hD'))
      have hvl : vs.length ≤ sizeLine := by
        rw [strs_len2 hvs, List.length_take, sizeLine_eq]
        omega
      refine append_at (hsz := by show vs.toArray.size ≤ sizeLine; rw [List.size_toArray]; exact hvl) hD₄ fun h₅ hs₅ hD₅ => ?_
      refine ⟨ws.length + 1 - (i + 1), by omega, h₅, k', i + 1, _, vs ++ [.str (xw ++ yw) t'], rfl, hlt, rfl, ?_, (hn₄.at' fun o e => hs₅.extBut C o hCD e), ?_, ?_, ?_⟩
      · exact W.frame _ _ _ hst₄ fun b hb o e => hs₅.extBut b o (hfD b hb) e
      · refine hk'.trans fun b o hb e => ?_
        have hbw : b ∉ [z, TO, i1, i2] := fun q => hb (wsub b q)
        have hbC : b ≠ C := fun q => hb (by rw [q]; simp)
        have hbD : b ≠ D := fun q => hb (by rw [q]; simp)
        exact hs₅.extBut b o hbD (hk₄' b o hbC (hk₃ b o hbw (hk₂ b o hbw e)))
      · exact hD₅.trans (congrArg some (LCg.lst_snoc vs _))
      · have hzi : (List.zipWith (· ++ ·) ws rs)[i]? = some (xw ++ yw) := by
          rw [List.getElem?_zipWith, hxw, hyw]
        rw [List.take_add_one, hzi]
        exact strs_snoc2 hvs
    · obtain rfl : i = ws.length := Nat.le_antisymm hi (Nat.not_lt.mp hlt)
      refine W.done _ _ _ hst' fun h₂ tk₂ hk₂ => ?_
      refine ⟨m', hn'.at' fun o e => hk₂ C o hCw e, fun h₃ hs₃ => ?_⟩
      have hBn : ∀ c o, hB.get? c = some o → c ∉ [z, TO, i1, i2, C, D] := by
        intro c o e q
        simp only [List.mem_cons, List.not_mem_nil, or_false] at q
        rcases q with rfl | rfl | rfl | rfl | rfl | rfl
        · exact ne_of_new e bz rfl
        · exact ne_of_new e bTO rfl
        · exact ne_of_new e b1 rfl
        · exact ne_of_new e b2 rfl
        · exact ne_of_new (hBk _ _ e) nC rfl
        · exact ne_of_new (hBk _ _ e) nD rfl
      refine fin D vs vs.length h₃ tk₂ (fun c o e => ?_) ?_ ?_ ?_
      · have hc := hBn c o e
        have hcw : c ∉ [z, TO, i1, i2] := fun q => hc (wsub c q)
        exact hs₃.extBut c o (fun q => hc (by rw [q]; simp)) (hk₂ c o hcw (hk' c o hc (up c o (hBk c o e))))
      · cases e : hB.get? D with
        | none => rfl
        | some o => exact absurd rfl (ne_of_new (hBk _ _ e) nD)
      · exact hs₃.extBut D _ (Ne.symm hCD) (hk₂ D _ hDw hD')
      · rw [List.take_of_length_le (by omega)] at hvs
        exact hvs
  exact codeAny_compStart_list (loop _) (W.self 0 _ _ _ st₁ (loop _))
end
end Mine
end

section
open PySem PySem.W PyProof.Rows
set_option Elab.async false
set_option maxRecDepth 100000
namespace Mine

theorem own_all (h h₀ : Heap) (S : List Addr) : ∃ own : List (Addr × Obj), (∀ p ∈ own, h.get? p.1 = some p.2 ∧ p.1 ∉ S ∧ h₀.get? p.1 = none) ∧ ∀ b o, h.get? b = some o → b ∉ S → h₀.get? b = none → (b, o) ∈ own := by
  refine ⟨(List.range h.objs.size).filterMap fun (b : Addr) => match h.get? b with
    | some o => if S.contains b = false ∧ (h₀.get? b).isNone = true then some (b, o) else none
    | none => none, ?_, ?_⟩
  · intro p hp
    obtain ⟨b, _, hb⟩ := List.mem_filterMap.mp hp
    cases e : h.get? b with
    | none => rw [e] at hb; cases hb
    | some o =>
      rw [e] at hb
      dsimp only at hb
      split at hb
      · rename_i hc
        cases hb
        refine ⟨e, ?_, Option.isNone_iff_eq_none.mp hc.2⟩
        intro q
        have := List.contains_iff_mem.mpr q
        rw [hc.1] at this
        cases this
      · cases hb
  · intro b o e hS hn
    refine List.mem_filterMap.mpr ⟨b, List.mem_range.mpr (Heap.lt_size e), ?_⟩
    rw [e]
    dsimp only
    rw [if_pos ⟨by cases q : S.contains b with
      | false => rfl
      | true => exact absurd (List.contains_iff_mem.mp q) hS, by rw [hn]; rfl⟩]

def letterOf (rs ws : List Str) : Str := sAt rs 0 ++ Txt.join (Str.ofString "") (List.zipWith (· ++ ·) ws (rs.drop 1))
def CameAt (h₀ h : Heap) (S : List Addr) (cv : List Value) (kss : List (List Str)) : Prop :=
  cv.length = kss.length ∧ ∀ (j : Nat) (v : Value), cv[j]? = some v → ∃ (a : Addr) (kv : Array Value) (n : Nat) (ks : List Str), v = .ref a ∧ a ∉ S ∧ h₀.get? a = none ∧ h.get? a = some (listOf kv n) ∧ kss[j]? = some ks ∧ StrsAre kv.toList ks
def Made (rs : List Str) (k : Nat) (ts : List Str) (kss : List (List Str)) : Prop :=
  ∃ wss : List (List Str), (∀ ws ∈ wss, ws.length = k ∧ ∀ e ∈ ws, EndS e) ∧ ts = wss.map (letterOf rs) ∧ kss = wss.map (fun ws => keptN rs ws k)

abbrev nRows : Str := Str.ofString "rows"
abbrev nTexts : Str := Str.ofString "texts"
abbrev nCame : Str := Str.ofString "came"
abbrev nWord : Str := Str.ofString "word"

def LawJ (h₀ : Heap) (L I Rw Tx Cm D : Addr) (us : List Value) (nR : Nat) (uw : List Value) (nD : Nat) (rs : List Str) (k i : Nat) (m : Str → Option Value) (h : Heap) : Prop :=
  (∀ b o, h₀.get? b = some o → h.get? b = some o) ∧ m nRows = some (.ref Rw) ∧ m nTexts = some (.ref Tx) ∧ m nCame = some (.ref Cm) ∧
  h.get? Rw = some (listOf us.toArray nR) ∧ h.get? D = some (listOf uw.toArray nD) ∧ (∀ v ∈ uw, GoodWord h₀ h [L, I, Rw, Tx, Cm, D] k v) ∧
  ∃ (tv : List Value) (nt : Nat) (cv : List Value) (nc : Nat) (ts : List Str) (kss : List (List Str)), h.get? Tx = some (listOf tv.toArray nt) ∧ StrsAre tv ts ∧ h.get? Cm = some (listOf cv.toArray nc) ∧
    CameAt h₀ h [L, I, Tx, Cm] cv kss ∧ ts.length = i ∧ Made rs k ts kss

/-- what a turn of the law's loop hands on -/
def TurnA (h₀ : Heap) (L Rw Tx Cm : Addr) (tv : List Value) (nt : Nat) (cv : List Value) (nc : Nat) (own : List (Addr × Obj)) (rs ws : List Str) (k : Nat) (s : Shared) (Q : Flow → Shared → Prop) (f : Flow) (s₂ : Shared) : Prop :=
  match f with
  | .ret v => Q (.ret v) s₂
  | .brk => Q .next s₂
  | _ => ∃ (h'' : Heap) (tk'' : Nat) (m'' : Str → Option Value) (tt : Tok) (K : Addr) (kv : Array Value) (nK : Nat), s₂ = { s with heap := h'', toks := tk'' } ∧ Fr h₀ L h'' m'' ∧ m'' nRows = some (.ref Rw) ∧ m'' nTexts = some (.ref Tx) ∧ m'' nCame = some (.ref Cm) ∧
      News h₀ L h'' ((Tx, listOf (tv.toArray.push (.str (letterOf rs ws) tt)) (nt + 1)) :: (Cm, listOf (cv.toArray.push (.ref K)) (nc + 1)) :: (K, listOf kv nK) :: own) ∧ StrsAre kv.toList (keptN rs ws k) ∧ K ≠ Tx ∧ K ≠ Cm ∧ (∀ p ∈ own, p.1 ≠ K)

section
variable {prog : Program} {w : World} {A : Around} {E : Value → Shared → Prop} {s : Shared} {env : Env}

theorem law_for {h₀ : Heap} {m : Str → Option Value} {Rw Tx Cm D : Addr} {us uw : List Value} {nR nD n1 n2 k : Nat} {rs : List Str} {body : List Stmt} {Q : Flow → Shared → Prop}
    (hh : A.handled = none) (F : Fr h₀ env.locals s.heap m)
    (hm : m nRows = some (.ref Rw) ∧ m nTexts = some (.ref Tx) ∧ m nCame = some (.ref Cm))
    (N : News h₀ env.locals s.heap [(Cm, listOf #[] n2), (Tx, listOf #[] n1), (Rw, listOf us.toArray nR)]) (hTC : Tx ≠ Cm) (hRT : Rw ≠ Tx) (hRC : Rw ≠ Cm)
    (hD : s.heap.get? D = some (listOf uw.toArray nD)) (hDn : h₀.get? D = none) (hDL : D ≠ env.locals) (hDT : D ≠ Tx) (hDC : D ≠ Cm) (hDR : D ≠ Rw) (hul : uw.length ≤ 27)
    (hw : ∀ v ∈ uw, GoodWord h₀ s.heap [env.locals, Rw, Tx, Cm, D] k v)
    (turn : ∀ (aw : Addr) (wv : List Value) (nn : Nat) (ws : List Str) (tv : List Value) (nt : Nat) (cv : List Value) (nc : Nat) (ts : List Str) (own : List (Addr × Obj)) (u : Str → Option Value) (h : Heap) (tk : Nat) (E' : Value → Shared → Prop),
      Fr h₀ env.locals h (fun y => if y = nWord then some (.ref aw) else if y = nRows then some (.ref Rw) else if y = nTexts then some (.ref Tx) else if y = nCame then some (.ref Cm) else u y) →
      News h₀ env.locals h ((Tx, listOf tv.toArray nt) :: (Cm, listOf cv.toArray nc) :: own) → (∀ p ∈ own, p.1 ≠ Tx) → (∀ p ∈ own, p.1 ≠ Cm) → Tx ≠ Cm → (Rw, listOf us.toArray nR) ∈ own → (aw, listOf wv.toArray nn) ∈ own →
      StrsAre wv ws → ws.length = k → (∀ e ∈ ws, EndS e) → StrsAre tv ts → tv.length ≤ 27 → cv.length ≤ 27 →
      wpAny (model prog w) A (execs body env) (TurnA h₀ env.locals Rw Tx Cm tv nt cv nc own rs ws k s Q) E' { s with heap := h, toks := tk })
    (fin : ∀ (tv : List Value) (nt : Nat) (cv : List Value) (nc : Nat) (ts : List Str) (kss : List (List Str)) (u : Str → Option Value) (h : Heap) (tk : Nat),
      Fr h₀ env.locals h (fun y => if y = nRows then some (.ref Rw) else if y = nTexts then some (.ref Tx) else if y = nCame then some (.ref Cm) else u y) →
      h.get? Tx = some (listOf tv.toArray nt) → h₀.get? Tx = none → Tx ≠ env.locals → StrsAre tv ts → h.get? Cm = some (listOf cv.toArray nc) → CameAt h₀ h [env.locals, Tx, Cm] cv kss → ts.length = uw.length → Made rs k ts kss → Q .next { s with heap := h, toks := tk }) :
    wpAny (model prog w) A (pyIter (.ref D)) (ForAt prog w A env nWord body Q) E s := by
  obtain ⟨hmR, hmT, hmC⟩ := hm
  have nC := N _ (.head _)
  have nT := N _ (.tail _ (.head _))
  have nR' := N _ (.tail _ (.tail _ (.head _)))
  have hI₀ : s.heap.get? s.heap.objs.size = none := new_of_size
  have hIh : h₀.get? s.heap.objs.size = none := by
    cases e : h₀.get? s.heap.objs.size with
    | none => rfl
    | some o => exact absurd (Heap.lt_size (F.keep _ _ e)) (Nat.lt_irrefl _)
  have hL₀ : h₀.get? env.locals = none := by
    cases e : h₀.get? env.locals with
    | none => rfl
    | some o => exact absurd (Nat.lt_of_lt_of_le (Heap.lt_size e) F.above) (Nat.lt_irrefl _)
  obtain ⟨oL, _, _, eL, _⟩ := id F.ns
  have hIL : s.heap.objs.size ≠ env.locals := Ne.symm (ne_of_new eL hI₀)
  have hID : D ≠ s.heap.objs.size := ne_of_new hD hI₀
  have hIT : Tx ≠ s.heap.objs.size := ne_of_new nT.1 hI₀
  have hIC : Cm ≠ s.heap.objs.size := ne_of_new nC.1 hI₀
  have hIR : Rw ≠ s.heap.objs.size := ne_of_new nR'.1 hI₀
  refine wpAny_pyIter_list ⟨_, hD, rfl, _, rfl⟩ ?_
  have up : ∀ b o, s.heap.get? b = some o → (s.heap.push { cls := .type "list_iterator", data := .fields #[.ref D, .int 0 0] }).get? b = some o := fun b o e => Heap.get?_push_of_some _ e
  have W := Walks.list (prog := prog) (w := w) hh s.heap.objs.size D hID uw.toArray
  generalize hI : s.heap.objs.size = I at *
  refine ⟨I, [I, D], uw.toArray.size, _, _, m, LawJ h₀ env.locals I Rw Tx Cm D us nR uw nD rs k, rfl, W, by simp; exact ⟨Ne.symm hIL, Ne.symm hDL⟩,
    ⟨⟨_, by rw [← hI]; exact Heap.get?_push_size _ rfl, rfl, rfl⟩, ⟨_, up D _ hD, rfl, _, rfl⟩⟩, F.ns.at' (fun o e => up _ o e), ?_, ?_, (fun i h st => by obtain ⟨o, e, _⟩ := st.1; exact ⟨o, e⟩), ?_, ?_⟩
  · refine ⟨fun b o e => up b o (F.keep b o e), hmR, hmT, hmC, up _ _ nR'.1, up _ _ hD, ?_, [], n1, [], n2, [], [], up _ _ nT.1, .nil, up _ _ nC.1, ⟨rfl, fun j v hv => by simp at hv⟩, rfl, [], fun _ h => (nomatch h), rfl, rfl⟩
    intro v hv
    obtain ⟨a, wv, nn, ws, rfl, hN, haS, ea, r⟩ := hw v hv
    refine ⟨a, wv, nn, ws, rfl, hN, ?_, up a _ ea, r⟩
    intro q
    rcases List.mem_cons.mp q with q | q
    · exact haS (by rw [q]; simp)
    · rcases List.mem_cons.mp q with q | q
      · exact ne_of_new ea hI₀ q
      · exact haS (.tail _ q)
  · rintro i m h h' ⟨j1, j2, j3, j4, j5, j6, j7, tv, nt, cv, nc, ts, kss, j8, j9, j10, j11, j12, j13⟩ hK
    have hb : ∀ b o, h₀.get? b = some o → b ∉ [I, env.locals] := by
      intro b o e q
      rcases List.mem_cons.mp q with q | q
      · exact ne_of_new e hIh q
      · exact ne_of_new e hL₀ (List.mem_singleton.mp q)
    refine ⟨fun b o e => hK b o (hb b o e) (j1 b o e), j2, j3, j4, hK _ _ (by simp; exact ⟨hIR, nR'.2.1⟩) j5, hK _ _ (by simp; exact ⟨hID, hDL⟩) j6, fun v hv => (j7 v hv).keep hK ?_,
      tv, nt, cv, nc, ts, kss, hK _ _ (by simp; exact ⟨hIT, nT.2.1⟩) j8, j9, hK _ _ (by simp; exact ⟨hIC, nC.2.1⟩) j10, ⟨j11.1, fun j v hv => ?_⟩, j12, j13⟩
    · intro b hb
      rcases List.mem_cons.mp hb with rfl | hb
      · simp
      · rw [List.mem_singleton.mp hb]; simp
    · obtain ⟨a, kv, n, ks, rfl, ha, hn, ea, r⟩ := j11.2 j v hv
      refine ⟨a, kv, n, ks, rfl, ha, hn, hK a _ ?_ ea, r⟩
      intro q
      rcases List.mem_cons.mp q with q | q
      · exact ha (by rw [q]; simp)
      · exact ha (by rw [List.mem_singleton.mp q]; simp)
  · rintro i v m' h' tk E' hi hP hn ⟨oI, eI⟩ ⟨j1, j2, j3, j4, j5, j6, j7, tv, nt, cv, nc, ts, kss, j8, j9, j10, j11, j12, j13⟩
    have hvm : v ∈ uw := by simpa using Array.mem_of_getElem? hP
    obtain ⟨aw, wv, nn, ws, rfl, hN, haS, ea, hws, hwl, hwe⟩ := j7 v hvm
    obtain ⟨own, o1, o2⟩ := own_all h' h₀ [env.locals, Tx, Cm]
    obtain ⟨wss, w1, w2, w3⟩ := j13
    have hil : i < uw.length := by simpa using hi
    have htl : tv.length = i := by rw [strs_len2 j9, j12]
    have hcl : cv.length = i := by
      rw [j11.1, w3, List.length_map]
      have := j12
      rw [w2, List.length_map] at this
      exact this
    have em : (fun y => if y = nWord then some (Value.ref aw) else m' y) = fun y => if y = nWord then some (.ref aw) else if y = nRows then some (.ref Rw) else if y = nTexts then some (.ref Tx) else if y = nCame then some (.ref Cm) else m' y := by
      funext y
      by_cases q1 : y = nWord
      · rw [if_pos q1, if_pos q1]
      · rw [if_neg q1, if_neg q1]
        by_cases q2 : y = nRows
        · rw [if_pos q2, q2]; exact j2
        · rw [if_neg q2]
          by_cases q3 : y = nTexts
          · rw [if_pos q3, q3]; exact j3
          · rw [if_neg q3]
            by_cases q4 : y = nCame
            · rw [if_pos q4, q4]; exact j4
            · rw [if_neg q4]
    have hRS : Rw ∉ [env.locals, Tx, Cm] := by simp; exact ⟨nR'.2.1, hRT, hRC⟩
    have hDS : D ∉ [env.locals, Tx, Cm] := by simp; exact ⟨hDL, hDT, hDC⟩
    have hIS : I ∉ [env.locals, Tx, Cm] := by simp; exact ⟨hIL, Ne.symm hIT, Ne.symm hIC⟩
    have haS2 : aw ∉ [env.locals, Tx, Cm] := by
      intro q
      simp only [List.mem_cons, List.not_mem_nil, or_false] at q
      rcases q with q | q | q <;> exact haS (by rw [q]; simp)
    have F' : Fr h₀ env.locals h' (fun y => if y = nWord then some (Value.ref aw) else m' y) := ⟨hn, j1, F.above⟩
    rw [em] at F'
    have N' : News h₀ env.locals h' ((Tx, listOf tv.toArray nt) :: (Cm, listOf cv.toArray nc) :: own) := by
      intro p hp
      rcases List.mem_cons.mp hp with rfl | hp
      · exact ⟨j8, nT.2⟩
      · rcases List.mem_cons.mp hp with rfl | hp
        · exact ⟨j10, nC.2⟩
        · have := o1 p hp
          exact ⟨this.1, fun q => this.2.1 (by rw [q]; simp), this.2.2⟩
    have hwarr : listOf wv nn = listOf wv.toList.toArray nn := by rw [Array.toArray_toList]
    refine wpAny_mono (turn aw wv.toList nn ws tv nt cv nc ts own m' h' tk E' F' N' (fun p hp q => (o1 p hp).2.1 (by rw [q]; simp)) (fun p hp q => (o1 p hp).2.1 (by rw [q]; simp)) hTC (o2 _ _ j5 hRS nR'.2.2)
      (o2 _ _ (by rw [← hwarr]; exact ea) haS2 hN) hws hwl hwe j9 (by omega) (by omega)) (fun f s₂ q => ?_) fun _ _ e => e
    have next : (∃ (h'' : Heap) (tk'' : Nat) (m'' : Str → Option Value) (tt : Tok) (K : Addr) (kv : Array Value) (nK : Nat), s₂ = ({ s with heap := h'', toks := tk'' } : Shared) ∧ Fr h₀ env.locals h'' m'' ∧ m'' nRows = some (.ref Rw) ∧ m'' nTexts = some (.ref Tx) ∧ m'' nCame = some (.ref Cm) ∧
        News h₀ env.locals h'' ((Tx, listOf (tv.toArray.push (.str (letterOf rs ws) tt)) (nt + 1)) :: (Cm, listOf (cv.toArray.push (.ref K)) (nc + 1)) :: (K, listOf kv nK) :: own) ∧ StrsAre kv.toList (keptN rs ws k) ∧ K ≠ Tx ∧ K ≠ Cm ∧ (∀ p ∈ own, p.1 ≠ K)) →
        ∃ h'' tk'' m'', s₂ = ({ s with heap := h'', toks := tk'' } : Shared) ∧ (∀ b ∈ [I, D], ∀ o, h'.get? b = some o → h''.get? b = some o) ∧ h''.Ns env.locals m'' ∧ LawJ h₀ env.locals I Rw Tx Cm D us nR uw nD rs k (i + 1) m'' h'' := by
      rintro ⟨h'', tk'', m'', tt, K, kv, nK, rfl, F'', r1, r2, r3, N'', hkv, hKT, hKC, hKown⟩
      have keep : ∀ b o, h'.get? b = some o → b ∉ [env.locals, Tx, Cm] → h''.get? b = some o := by
        intro b o e hb
        cases e₀ : h₀.get? b with
        | some o₀ =>
          have := j1 b o₀ e₀
          rw [e] at this
          rw [Option.some.inj this]
          exact F''.keep b o₀ e₀
        | none => exact (N'' _ (.tail _ (.tail _ (.tail _ (o2 b o e hb e₀))))).1
      have hKI : K ≠ I := fun q => hKown _ (o2 I oI eI hIS hIh) q.symm
      have nK' := N'' _ (.tail _ (.tail _ (.head _)))
      refine ⟨h'', tk'', m'', rfl, ?_, F''.ns, F''.keep, r1, r2, r3, keep _ _ j5 hRS, keep _ _ j6 hDS, ?_, tv ++ [.str (letterOf rs ws) tt], nt + 1, cv ++ [.ref K], nc + 1, ts ++ [letterOf rs ws], kss ++ [keptN rs ws k], ?_, strs_snoc2 j9, ?_, ⟨?_, ?_⟩, ?_, wss ++ [ws], ?_, ?_, ?_⟩
      · intro b hb o e
        rcases List.mem_cons.mp hb with rfl | hb
        · exact keep _ o e hIS
        · rw [List.mem_singleton.mp hb] at e ⊢
          exact keep _ o e hDS
      · intro v hv
        obtain ⟨a, bv, bn, bs, rfl, bN, bS, be, r⟩ := j7 v hv
        refine ⟨a, bv, bn, bs, rfl, bN, bS, keep a _ be ?_, r⟩
        intro q
        simp only [List.mem_cons, List.not_mem_nil, or_false] at q
        rcases q with q | q | q <;> exact bS (by rw [q]; simp)
      · rw [← List.push_toArray]; exact (N'' _ (.head _)).1
      · rw [← List.push_toArray]; exact (N'' _ (.tail _ (.head _))).1
      · rw [List.length_append, List.length_append, j11.1]; rfl
      · intro j v hv
        by_cases hj : j < cv.length
        · rw [List.getElem?_append_left hj] at hv
          obtain ⟨a, bv, bn, bs, rfl, bS, bN, be, bk, r⟩ := j11.2 j v hv
          refine ⟨a, bv, bn, bs, rfl, bS, bN, keep a _ be ?_, ?_, r⟩
          · intro q
            simp only [List.mem_cons, List.not_mem_nil, or_false] at q
            rcases q with q | q | q <;> exact bS (by rw [q]; simp)
          · rw [List.getElem?_append_left (by rw [← j11.1]; exact hj)]; exact bk
        · rw [List.getElem?_append_right (Nat.le_of_not_lt hj)] at hv
          have hj0 : j - cv.length = 0 := by
            cases q : j - cv.length with
            | zero => rfl
            | succ n => rw [q] at hv; simp at hv
          rw [hj0] at hv
          refine ⟨K, kv, nK, keptN rs ws k, (Option.some.inj hv).symm, ?_, nK'.2.2, nK'.1, ?_, hkv⟩
          · intro q
            simp only [List.mem_cons, List.not_mem_nil, or_false] at q
            rcases q with q | q | q | q
            · exact nK'.2.1 q
            · exact hKI q
            · exact hKT q
            · exact hKC q
          · rw [List.getElem?_append_right (by rw [← j11.1]; exact Nat.le_of_not_lt hj), ← j11.1, hj0]; rfl
      · rw [List.length_append, j12]; rfl
      · intro x hx
        rcases List.mem_append.mp hx with hx | hx
        · exact w1 x hx
        · rw [List.mem_singleton.mp hx]; exact ⟨hwl, hwe⟩
      · rw [List.map_append, ← w2]; rfl
      · rw [List.map_append, ← w3]; rfl
    cases f with
    | ret v => exact q
    | brk => exact q
    | next => exact next q
    | cont => exact next q
  · rintro h' tk m' hn ⟨j1, j2, j3, j4, j5, j6, j7, tv, nt, cv, nc, ts, kss, j8, j9, j10, j11, j12, j13⟩
    have em : m' = fun y => if y = nRows then some (.ref Rw) else if y = nTexts then some (.ref Tx) else if y = nCame then some (.ref Cm) else m' y := by
      funext y
      by_cases q2 : y = nRows
      · rw [if_pos q2, q2]; exact j2
      · rw [if_neg q2]
        by_cases q3 : y = nTexts
        · rw [if_pos q3, q3]; exact j3
        · rw [if_neg q3]
          by_cases q4 : y = nCame
          · rw [if_pos q4, q4]; exact j4
          · rw [if_neg q4]
    have F' : Fr h₀ env.locals h' m' := ⟨hn, j1, F.above⟩
    rw [em] at F'
    refine fin tv nt cv nc ts kss m' h' tk F' j8 nT.2.2 nT.2.1 j9 j10 ⟨j11.1, fun j v hv => ?_⟩ (by rw [j12]; simp) j13
    obtain ⟨a, bv, bn, bs, rfl, bS, r⟩ := j11.2 j v hv
    refine ⟨a, bv, bn, bs, rfl, ?_, r⟩
    intro q
    simp only [List.mem_cons, List.not_mem_nil, or_false] at q
    rcases q with q | q | q <;> exact bS (by rw [q]; simp)
end
end Mine
end

section
open PySem PySem.W PyProof.Rows
set_option Elab.async false
set_option maxRecDepth 100000
namespace Mine
theorem words_K2 {w : World} {A : Around} {s : Shared} {h₀ : Heap} {L : Addr} {m : Str → Option Value} {news : List (Addr × Obj)} {mean mg mb} {Q E : Value → Shared → Prop} {v : Int} {tk : Tok} (k : Nat) (hv : v = (k : Int))
    (F : Fr h₀ L s.heap m) (N : News h₀ L s.heap news) (X : (hd.heap_39 w.params).In h₀) (T : Top hd.view_39 LS mean mg mb h₀) (hroom : A.depth + 1 < recursionLimit) (hh : A.handled = none) (hk : k ≤ 3)
    (post : ∀ D us n h' tk', Fr h₀ L h' m → News h₀ L h' news → s.heap.get? D = none → (∀ b o, s.heap.get? b = some o → h'.get? b = some o) → h'.get? D = some (listOf (List.toArray us) n) → us.length ≤ 27 → (∀ v ∈ us, GoodWord s.heap h' [D] k v) → Q (.ref D) { s with heap := h', toks := tk' }) :
    wpAny (model PG w) A (call (.ref 86) [.int v tk]) Q E s := by
  subst hv
  exact words_K F N X T hroom hh hk post
theorem rows_K2 {w : World} {A : Around} {s : Shared} {h₀ : Heap} {L : Addr} {m : Str → Option Value} {news : List (Addr × Obj)} {mean mg mb} {Q E : Value → Shared → Prop} {sa : Addr} {sv : List Value} {ns : List Int}
    (F : Fr h₀ L s.heap m) (N : News h₀ L s.heap news) (X : (hd.heap_39 w.params).In h₀) (T : Top hd.view_39 LS mean mg mb h₀) (hroom : A.depth + 5 < recursionLimit) (hh : A.handled = none) (hl : s.heap.IsList sa sv.toArray) (hi : IntsAre sv ns) (hn : ns.length ≤ 63)
    (post : ∀ D us n rs k h' tk', Fr h₀ L h' m → News h₀ L h' ((D, listOf (List.toArray us) n) :: news) → (∀ p ∈ news, p.1 ≠ D) → StrsAre us rs → rs.length = k + 1 → k ≤ 3 → us.toArray.size = k + 1 → (∀ r ∈ rs, Good r) → Q (.ref D) { s with heap := h', toks := tk' }) :
    wpAny (model PG w) A (call (.ref 81) [.ref sa]) Q E s := by
  refine rows_K F N X T hroom hh hl hi hn fun D us n h' tk' F' N' hne hg => ?_
  rcases hg with ⟨rs, h1, h2, h3⟩ | ⟨rs, h1, h2, h3⟩
  · exact post D us n rs 2 h' tk' F' N' hne h1 h2 (by omega) (by rw [List.size_toArray, StrsAre.len_eq h1, h2]) h3
  · exact post D us n rs 3 h' tk' F' N' hne h1 h2 (by omega) (by rw [List.size_toArray, StrsAre.len_eq h1, h2]) h3
theorem list_of_news {h₀ h : Heap} {L : Addr} {news : List (Addr × Obj)} {a : Addr} {xs : Array Value} {n : Nat} (N : News h₀ L h news) (hm : (a, listOf xs n) ∈ news) : h.IsList a xs := ⟨_, (N _ hm).1, rfl, _, rfl⟩
theorem kept_K2 {w : World} {A : Around} {s : Shared} {h₀ : Heap} {L : Addr} {m : Str → Option Value} {a b : Addr × Obj} {own : List (Addr × Obj)} {mean mg mb} {Q E : Value → Shared → Prop} {ra wa : Addr} {rv wv : List Value} {rs ws : List Str} {nr nw : Nat}
    (F : Fr h₀ L s.heap m) (N : News h₀ L s.heap (a :: b :: own)) (X : (hd.heap_39 w.params).In h₀) (T : Top hd.view_39 LS mean mg mb h₀) (hroom : A.depth + 1 < recursionLimit) (hh : A.handled = none) (hlr : (ra, listOf rv.toArray nr) ∈ own) (hir : StrsAre rv rs) (hlw : (wa, listOf wv.toArray nw) ∈ own) (hiw : StrsAre wv ws)
    (hlen : rs.length = ws.length + 1) (hmax : ws.length ≤ 1000)
    (post : ∀ D kv n h' tk', Fr h₀ L h' m → News h₀ L h' (a :: b :: (D, listOf kv n) :: own) → D ≠ a.1 → D ≠ b.1 → (∀ p ∈ own, p.1 ≠ D) → StrsAre kv.toList (keptN rs ws ws.length) → Q (.ref D) { s with heap := h', toks := tk' }) :
    wpAny (model PG w) A (call (.ref 93) [.ref ra, .ref wa]) Q E s := by
  refine kept_K F N X T hroom hh (list_of_news N (.tail _ (.tail _ hlr))) hir (list_of_news N (.tail _ (.tail _ hlw))) hiw hlen hmax fun D kv n h' tk' F' N' hne hS => ?_
  refine post D kv n h' tk' F' ?_ (Ne.symm (hne _ (.head _))) (Ne.symm (hne _ (.tail _ (.head _)))) (fun p hp => hne p (.tail _ (.tail _ hp))) hS
  intro p hp
  rcases List.mem_cons.mp hp with rfl | hp
  · exact N' _ (.tail _ (.head _))
  · rcases List.mem_cons.mp hp with rfl | hp
    · exact N' _ (.tail _ (.tail _ (.head _)))
    · rcases List.mem_cons.mp hp with rfl | hp
      · exact N' _ (.head _)
      · exact N' _ (.tail _ (.tail _ (.tail _ hp)))
theorem strs_drop : ∀ {vs : List Value} {ys : List Str} (n : Nat), StrsAre vs ys → StrsAre (vs.drop n) (ys.drop n)
  | _, _, 0, h => h
  | _, _, _ + 1, .nil => .nil
  | _, _, n + 1, .cons _ _ r => strs_drop n r
theorem pick_1 (l : List Value) : kms_pick l (some 1) none = l.drop 1 := by
  unfold kms_pick kms_lo kms_hi
  cases l with
  | nil => rfl
  | cons x r =>
    have e : min (1 : Int).toNat (x :: r).length = 1 := by simp
    simp only [show ¬ ((1 : Int) < 0) by decide, if_false, e]
    exact List.take_of_length_le (by simp)
theorem pick_9 (l : List Value) : kms_pick l (some (-9)) none = l.drop (l.length - 9) := by
  unfold kms_pick kms_lo kms_hi
  simp only [show ((-9 : Int) < 0) by decide, if_true, show (-(-9 : Int)).toNat = 9 from rfl]
  exact List.take_of_length_le (by simp)
theorem zipApart_of (z l1 l2 : Nat) (q1 : l1 < z) (q2 : l2 < z) : ZipApart (z + 4) (z + 2) (z + 3) z (z + 1) l1 l2 := by
  constructor <;> exact fun (q : @Eq Nat _ _) => absurd q (by omega)
theorem zip_K {prog : Program} {w : World} {A A' : Around} {s : Shared} {h₀ : Heap} {L : Addr} {m : Str → Option Value} {d : Addr × Obj} {news : List (Addr × Obj)} {Q E : Value → Shared → Prop} {l1 l2 : Addr} {xv yv : List Value} {ws rs : List Str}
    (F : Fr h₀ L s.heap m) (N : News h₀ L s.heap (d :: news)) (hl1 : s.heap.IsList l1 xv.toArray) (hl2 : s.heap.IsList l2 yv.toArray) (hx : StrsAre xv ws) (hy : StrsAre yv rs) (hh : A'.handled = none)
    (hlen : ws.length = rs.length) (h1000 : ws.length ≤ 1000) (hwl : ∀ y ∈ ws, y.length ≤ 1000) (hrl : ∀ y ∈ rs, y.length ≤ 1000)
    (post : ∀ D vs h' tk, Fr h₀ L h' m → News h₀ L h' news → h'.IsList D (List.toArray vs) → StrsAre vs (List.zipWith (· ++ ·) ws rs) → Q (.ref D) { s with heap := h', toks := tk }) :
    wpAny (model prog w) A (call (.type "zip") [.ref l1, .ref l2]) (SrcZ A' Q) E s := by
  have q1 : l1 < s.heap.objs.size := by obtain ⟨o, e, _⟩ := hl1; exact Heap.lt_size e
  have q2 : l2 < s.heap.objs.size := by obtain ⟨o, e, _⟩ := hl2; exact Heap.lt_size e
  have fresh : ∀ a, s.heap.objs.size ≤ a → s.heap.get? a = none := fun a ha => by
    cases e : s.heap.get? a with
    | none => rfl
    | some o' => exact absurd (Heap.lt_size e) (Nat.not_lt.mpr ha)
  refine call_zip_2 hl1 hl2 fun h' z1 z2 z3 z4 z5 _ hk => ?_
  refine ⟨_, _, _, _, _, l1, l2, xv, yv, ws, rs, s.heap, rfl, hh, ⟨?_, z1, z2, ⟨_, _, z3⟩, z4, z5, hl1.at fun o e => hk _ o e, hl2.at fun o e => hk _ o e⟩, hx, hy, hlen, h1000, hwl, hrl, hk, fresh _ (by omega), fresh _ (by omega), fresh _ (by omega), fresh _ (by omega), ?_⟩
  · exact zipApart_of _ _ _ q1 q2
  · intro D vs n h'' tk hk' _ hD hS
    exact post D vs h'' tk (F.grownK hk') (fun p hp => (N.grown hk') p (.tail _ hp)) ⟨_, hD, rfl, _, rfl⟩ hS
end Mine
end

section
open PySem PySem.W PyProof.Rows
set_option Elab.async false
set_option maxRecDepth 100000
namespace Mine
structure FitsP (x : Str) (ks : List Str) : Prop where
  hq : quoteS (fixS x) = Txt.join CR (ks.map dotS)
  hf : fixS x = Txt.join CR ks
  hb : quoteB (octS (Txt.join CR ks)) = octS (Txt.join CR (ks.map dotS))
  hsz : (ks.map (·.length)).sum + ks.length * 4 ≤ 100000
  hxs : x.cps.size ≤ 400000
theorem fits_K2 {w : World} {A : Around} {s : Shared} {h₀ : Heap} {L : Addr} {m : Str → Option Value} {news : List (Addr × Obj)} {mean mg mb} {Q E : Value → Shared → Prop} {x : Str} {tk : Tok} {ra : Addr} {rv : Array Value} {ks : List Str}
    (F : Fr h₀ L s.heap m) (N : News h₀ L s.heap news) (X : (hd.heap_39 w.params).In h₀) (T : Top hd.view_39 LS mean mg mb h₀) (hroom : A.depth + 5 < recursionLimit) (hh : A.handled = none) (hl : s.heap.IsList ra rv) (hi : StrsAre rv.toList ks)
    (P : FitsP x ks)
    (post : ∀ h' tk', Fr h₀ L h' m → News h₀ L h' news → Q (.bool true) { s with heap := h', toks := tk' }) :
    wpAny (model PG w) A (call (.ref 103) [.str x tk, .ref ra]) Q E s :=
  fits_K F N X T hroom hh (rv := rv.toList) (by rw [Array.toArray_toList]; exact hl) hi P.hq P.hf P.hb P.hsz P.hxs post

theorem ends_len {e : Str} (h : EndS e) : e.length ≤ 2 := by
  rcases h with rfl | rfl | rfl <;> decide
theorem sum_bound (c : Nat) : ∀ l : List Str, (∀ y ∈ l, y.length ≤ c) → (l.map (·.length)).sum ≤ l.length * c
  | [], _ => by simp
  | x :: l, h => by
    have h1 := h x (.head _)
    have h2 := sum_bound c l fun y hy => h y (.tail _ hy)
    simp only [List.map_cons, List.sum_cons, List.length_cons, Nat.succ_mul]
    omega
theorem zip_len : ∀ (ws rs : List Str), (∀ e ∈ ws, EndS e) → (∀ r ∈ rs, Good r) → ∀ y ∈ List.zipWith (· ++ ·) ws rs, y.length ≤ 5
  | [], _, _, _, _, h => by simp at h
  | _ :: _, [], _, _, _, h => by simp at h
  | w :: ws, r :: rs, hw, hr, y, h => by
    rw [List.zipWith_cons_cons] at h
    rcases List.mem_cons.mp h with rfl | h
    · have h1 := ends_len (hw w (.head _))
      have h2 := (hr r (.head _)).short
      have : (w ++ r).length = w.length + r.length := Array.size_append
      omega
    · exact zip_len ws rs (fun e he => hw e (.tail _ he)) (fun e he => hr e (.tail _ he)) y h
theorem noS_len : (Str.ofString "").length = 0 := by decide +kernel
theorem turn_join {rs ws : List Str} (hw : ∀ e ∈ ws, EndS e) (hr : ∀ r ∈ rs, Good r) (hk : ws.length ≤ 3) :
    ((List.zipWith (· ++ ·) ws (rs.drop 1)).map (·.length)).sum + (List.zipWith (· ++ ·) ws (rs.drop 1)).length * (Str.ofString "").length ≤ 100 := by
  have h1 := sum_bound 5 _ (zip_len ws (rs.drop 1) hw fun r h => hr r (List.mem_of_mem_drop h))
  have h2 : (List.zipWith (· ++ ·) ws (rs.drop 1)).length ≤ 3 := by rw [List.length_zipWith]; omega
  rw [noS_len]
  omega
theorem sAt_good {rs : List Str} (hr : ∀ r ∈ rs, Good r) (i : Nat) : (rs.getD i Str.empty).length ≤ 3 := by
  rw [List.getD_eq_getElem?_getD]
  cases e : rs[i]? with
  | none => decide
  | some x => exact (hr x (List.mem_of_getElem? e)).short
theorem turn_add {rs ws : List Str} (hw : ∀ e ∈ ws, EndS e) (hr : ∀ r ∈ rs, Good r) (hk : ws.length ≤ 3) :
    (rs.getD (0 : Int).toNat Str.empty).length + (Txt.join (Str.ofString "") (List.zipWith (· ++ ·) ws (rs.drop 1))).length ≤ sizeLine := by
  have h1 := turn_join hw hr hk
  have h2 := join_len (Str.ofString "") (List.zipWith (· ++ ·) ws (rs.drop 1))
  have h3 := sAt_good hr (0 : Int).toNat
  rw [sizeLine_eq]
  omega

def SrcL (A : Around) (Q : Value → Shared → Prop) (xv : Value) (s₁ : Shared) : Prop :=
  ∃ (ax : Addr) (items : Array Value) (parts : List (List Value)), xv = .ref ax ∧ A.handled = none ∧ s₁.heap.IsList ax items ∧ PartsAt s₁.heap items.toList parts ∧ parts.flatten.length ≤ 10000 ∧
    ∀ D h' tk, (∀ b o, s₁.heap.get? b = some o → h'.get? b = some o) → h'.get? D = some (lst parts.flatten) → Q (.ref D) { s₁ with heap := h', toks := tk }
theorem ListComp_L {prog : Program} {w : World} {A : Around} {E : Value → Shared → Prop} {s : Shared} {env : Env} {i1 : Expr} {x y : Str} {px py p1 p2 : Pos} {scope : Scope} {cl : List (Str × Addr)} {pos : Pos} {Q : Value → Shared → Prop}
    (hclos : closureFor scope env = pure cl) (hcell : ∀ y ∈ scope.names, y.2 ≠ .cell) (hkind : scope.kind = .function)
    (hnames : ∀ y ∈ scope.names, y.2 = .local → scope.names.lookup y.1 = some .local)
    (hx : scope.names.lookup x = some .local) (hy : scope.names.lookup y = some .local) (hxy : x ≠ y)
    (hdx : (x == ("__debug__" : Str)) = false) (hdy : (y == ("__debug__" : Str)) = false)
    (h : wpAny (model prog w) A (eval i1 env) (SrcL A Q) E s)
    (hs : ∀ x, foldedSetIterable i1 env x = pure x := by intro _; rfl) :
    wpAny (model prog w) A (eval (comp2 (.Name y p1) x y px py i1 (.Name x p2) scope pos) env) Q E s := by
  refine ListComp_2 hclos hcell hkind hnames (wpAny_mono h (fun xv s₁ h₁ => ?_) fun _ _ e => e) hs
  obtain ⟨ax, items, parts, rfl, hh, hl, hp, hsz, fin⟩ := h₁
  refine ⟨ax, items, rfl, hh, hl, ?_⟩
  intro I C D h₁ m tk B
  exact lines_loop hh hx hy hxy hkind hdx hdy hl hp hsz B fun h' tk hk hD => fin D h' tk hk hD

def CameOwn (own : List (Addr × Obj)) (cv : List Value) (kss : List (List Str)) : Prop :=
  cv.length = kss.length ∧ ∀ (j : Nat) (v : Value), cv[j]? = some v → ∃ (a : Addr) (kv : Array Value) (n : Nat) (ks : List Str), v = .ref a ∧ (a, listOf kv n) ∈ own ∧ kss[j]? = some ks ∧ StrsAre kv.toList ks
theorem CameOwn.drop {own : List (Addr × Obj)} {cv : List Value} {kss : List (List Str)} (c : CameOwn own cv kss) (n : Nat) : CameOwn own (cv.drop n) (kss.drop n) := by
  refine ⟨by rw [List.length_drop, List.length_drop, c.1], fun j v h => ?_⟩
  rw [List.getElem?_drop] at h ⊢
  exact c.2 _ _ h
theorem strs_app2 : ∀ {vs us : List Value} {xs ys : List Str}, StrsAre vs xs → StrsAre us ys → StrsAre (vs ++ us) (xs ++ ys)
  | _, _, _, _, .nil, h => h
  | _, _, _, _, .cons _ _ r, h => .cons _ _ (strs_app2 r h)
theorem CameOwn.parts {own : List (Addr × Obj)} : ∀ {cv : List Value} {kss : List (List Str)}, CameOwn own cv kss → ∃ parts : List (List Value), (∀ h₀ L h' news, News h₀ L h' news → (∀ p ∈ own, p ∈ news) → PartsAt h' cv parts) ∧ StrsAre parts.flatten kss.flatten
  | [], [], _ => ⟨[], fun _ _ _ _ _ _ => ⟨rfl, fun _ _ h => by simp at h⟩, .nil⟩
  | [], _ :: _, c => absurd c.1 (by simp)
  | _ :: _, [], c => absurd c.1 (by simp)
  | v :: cv, ks :: kss, c => by
    obtain ⟨parts, h1, h2⟩ := CameOwn.parts (cv := cv) (kss := kss) ⟨by simpa using c.1, fun j v h => c.2 (j + 1) v h⟩
    obtain ⟨a, kv, n, ks', rfl, hm, hk, hS⟩ := c.2 0 v rfl
    cases hk
    refine ⟨kv.toList :: parts, fun h₀ L h' news N hs => ?_, strs_app2 hS h2⟩
    have hp := h1 h₀ L h' news N hs
    refine ⟨by simpa using hp.1, fun i v hv => ?_⟩
    cases i with
    | zero => cases hv; exact ⟨a, kv.toList, rfl, rfl, by rw [Array.toArray_toList]; exact list_of_news N (hs _ hm)⟩
    | succ i => exact hp.2 i v hv
theorem turnA_mk {h₀ : Heap} {L Rw Tx Cm : Addr} {tv : List Value} {nt : Nat} {cv : List Value} {nc : Nat} {own : List (Addr × Obj)} {rs ws : List Str} {k : Nat} {s : Shared} {Q : Flow → Shared → Prop} {h'' : Heap} {tk'' : Nat} {m'' : Str → Option Value} {tt : Tok} {K : Addr} {kv : Array Value} {nK : Nat}
    (F : Fr h₀ L h'' m'') (N : News h₀ L h'' ((Tx, listOf (tv.toArray.push (.str (letterOf rs ws) tt)) (nt + 1)) :: (Cm, listOf (cv.toArray.push (.ref K)) (nc + 1)) :: (K, listOf kv nK) :: own))
    (a : m'' nRows = some (.ref Rw)) (b : m'' nTexts = some (.ref Tx)) (c : m'' nCame = some (.ref Cm)) (hS : StrsAre kv.toList (keptN rs ws ws.length)) (hk : ws.length = k) (h1 : K ≠ Tx) (h2 : K ≠ Cm) (h3 : ∀ p ∈ own, p.1 ≠ K) :
    TurnA h₀ L Rw Tx Cm tv nt cv nc own rs ws k s Q .next { s with heap := h'', toks := tk'' } := by
  subst hk
  exact ⟨h'', tk'', m'', tt, K, kv, nK, rfl, F, a, b, c, N, hS, h1, h2, h3⟩
end Mine
end

section
open PySem PySem.W PyProof.Rows
set_option Elab.async false
set_option maxRecDepth 100000
namespace Mine
abbrev tl (x : Str) : List Nat := x.cps.toList
theorem str_eq {x y : Str} (h : tl x = tl y) : x = y := by
  cases x; cases y
  congr
  exact Array.toList_inj.mp h
theorem tl_append (x y : Str) : tl (x ++ y) = tl x ++ tl y := by
  show (x.cps ++ y.cps).toList = _
  rw [Array.toList_append]

def joinL : List (List Nat) → List Nat
  | [] => []
  | [x] => x
  | x :: y :: r => x ++ 13 :: 10 :: joinL (y :: r)

theorem tl_join : ∀ ks : List Str, tl (Txt.join CR ks) = joinL (ks.map tl) := by
  intro ks
  unfold Txt.join
  rw [StrLaws.glued_eq_join]
  induction ks with
  | nil => rfl
  | cons x r ih =>
    cases r with
    | nil => rfl
    | cons y r =>
      rw [join_cons_cons, tl_append, tl_append, ih]
      show tl x ++ [13, 10] ++ _ = tl x ++ 13 :: 10 :: joinL _
      rw [List.append_assoc]; rfl

theorem joinL_snoc : ∀ (l : List (List Nat)) (x : List Nat), l ≠ [] → joinL (l ++ [x]) = joinL l ++ 13 :: 10 :: x
  | [], _, h => absurd rfl h
  | [a], x, _ => rfl
  | a :: b :: r, x, _ => by
    show a ++ 13 :: 10 :: joinL ((b :: r) ++ [x]) = (a ++ 13 :: 10 :: joinL (b :: r)) ++ _
    rw [joinL_snoc (b :: r) x (by simp), List.append_assoc]
    rfl
theorem joinL_app : ∀ (l m : List (List Nat)), l ≠ [] → m ≠ [] → joinL (l ++ m) = joinL l ++ 13 :: 10 :: joinL m
  | [], _, h, _ => absurd rfl h
  | [a], m, _, h => by
    cases m with
    | nil => exact absurd rfl h
    | cons b r => rfl
  | a :: b :: r, m, _, h => by
    show a ++ 13 :: 10 :: joinL ((b :: r) ++ m) = (a ++ 13 :: 10 :: joinL (b :: r)) ++ _
    rw [joinL_app (b :: r) m (by simp) h, List.append_assoc]
    rfl
theorem joinL_flatten : ∀ (ls : List (List (List Nat))), (∀ l ∈ ls, l ≠ []) → joinL (ls.map joinL) = joinL ls.flatten
  | [], _ => rfl
  | [l], _ => by simp [joinL]
  | l :: m :: r, h => by
    have h1 := h l (.head _)
    have h2 := h m (.tail _ (.head _))
    show joinL l ++ 13 :: 10 :: joinL ((m :: r).map joinL) = joinL (l ++ (m :: r).flatten)
    rw [joinL_flatten (m :: r) fun l hl => h l (.tail _ hl), joinL_app _ _ h1]
    intro q
    rw [List.flatten_cons] at q
    exact h2 (List.append_eq_nil_iff.mp q).1

theorem fixL_2 (c d : Nat) (r : List Nat) : fixL (c :: d :: r) = if c == 13 && d == 10 then 13 :: 10 :: fixL r else if isEnd c then 13 :: 10 :: fixL (d :: r) else c :: fixL (d :: r) := by
  conv => lhs; unfold fixL
theorem fixL_1 (c : Nat) : fixL [c] = if isEnd c then [13, 10] else [c] := by
  conv => lhs; unfold fixL
theorem fixL_A : ∀ (n : Nat) (t u : List Nat), t.length ≤ n → fixL (t ++ 13 :: u) = fixL t ++ fixL (13 :: u) := by
  intro n
  induction n with
  | zero =>
    intro t u h
    cases t with
    | nil => rfl
    | cons => simp at h
  | succ n ih =>
    intro t u h
    cases t with
    | nil => rfl
    | cons c t =>
      cases t with
      | nil =>
        show fixL (c :: 13 :: u) = _
        rw [fixL_2, fixL_1, if_neg (by simp)]
        split <;> rfl
      | cons d t =>
        show fixL (c :: d :: (t ++ 13 :: u)) = _
        rw [fixL_2, fixL_2]
        have h1 := ih t u (by simp at h; omega)
        have h2 := ih (d :: t) u (by simp at h ⊢; omega)
        split
        · rw [h1]; rfl
        · split
          · rw [show d :: (t ++ 13 :: u) = (d :: t) ++ 13 :: u from rfl, h2]; rfl
          · rw [show d :: (t ++ 13 :: u) = (d :: t) ++ 13 :: u from rfl, h2]; rfl
theorem fixL_lf (u : List Nat) : fixL (10 :: u) = 13 :: 10 :: fixL u := by
  cases u with
  | nil => rfl
  | cons d u =>
    rw [fixL_2, if_neg (by simp), if_pos (by decide)]
theorem fixL_crlf (u : List Nat) : fixL (13 :: 10 :: u) = 13 :: 10 :: fixL u := by
  rw [fixL_2, if_pos (by simp)]
theorem fixL_cr (u : List Nat) (h : u.head? ≠ some 10) : fixL (13 :: u) = 13 :: 10 :: fixL u := by
  cases u with
  | nil => rfl
  | cons d u =>
    have : d ≠ 10 := fun q => h (by rw [q]; rfl)
    rw [fixL_2, if_neg (by simp [this]), if_pos (by decide)]
theorem fixL_B : ∀ (n : Nat) (t u : List Nat), t.length ≤ n → t.getLast? ≠ some 13 → fixL (t ++ 10 :: u) = fixL t ++ 13 :: 10 :: fixL u := by
  intro n
  induction n with
  | zero =>
    intro t u h _
    cases t with
    | nil => exact fixL_lf u
    | cons => simp at h
  | succ n ih =>
    intro t u h hl
    cases t with
    | nil => exact fixL_lf u
    | cons c t =>
      cases t with
      | nil =>
        have : c ≠ 13 := fun q => hl (by rw [q]; rfl)
        show fixL (c :: 10 :: u) = _
        rw [fixL_2, fixL_1, if_neg (by simp [this]), fixL_lf]
        split <;> rfl
      | cons d t =>
        show fixL (c :: d :: (t ++ 10 :: u)) = _
        rw [fixL_2, fixL_2]
        have h2 := ih (d :: t) u (by simp at h ⊢; omega) (by rw [List.getLast?_cons_cons] at hl; exact hl)
        split
        · have h1 := ih t u (by simp at h; omega) (by
            intro q
            apply hl
            cases t with
            | nil => simp at q
            | cons e t => rw [List.getLast?_cons_cons, List.getLast?_cons_cons]; exact q)
          rw [h1]; rfl
        · split
          · rw [show d :: (t ++ 10 :: u) = (d :: t) ++ 10 :: u from rfl, h2]; rfl
          · rw [show d :: (t ++ 10 :: u) = (d :: t) ++ 10 :: u from rfl, h2]; rfl
theorem fixL_C : ∀ (r : List Nat), (∀ c ∈ r, isEnd c = false) → fixL r = r
  | [], _ => rfl
  | c :: r, h => by rw [fixL_one (h c (.head _)), fixL_C r fun d hd => h d (.tail _ hd)]
theorem fixL_cr_row (r : List Nat) (h : ∀ c ∈ r, isEnd c = false) : fixL (13 :: r) = 13 :: 10 :: r := by
  rw [fixL_cr, fixL_C r h]
  intro q
  cases r with
  | nil => simp at q
  | cons d r =>
    have := h d (.head _)
    rw [show d = 10 by simpa using q] at this
    exact absurd this (by decide)

def textN (rs ws : List Str) : Nat → List Nat
  | 0 => tl (sAt rs 0)
  | i + 1 => textN rs ws i ++ (tl (sAt ws i) ++ tl (sAt rs (i + 1)))

theorem sAt_ends {rs : List Str} (hr : ∀ r ∈ rs, Good r) (i : Nat) : ∀ c ∈ tl (sAt rs i), isEnd c = false := by
  unfold sAt
  rw [List.getD_eq_getElem?_getD]
  cases e : rs[i]? with
  | none => intro c hc; exact absurd hc (by simp [tl, NOs])
  | some x => exact (hr x (List.mem_of_getElem? e)).ends
theorem sAt_end {ws : List Str} (hw : ∀ e ∈ ws, EndS e) {i : Nat} (hi : i < ws.length) : EndS (sAt ws i) := by
  unfold sAt
  rw [List.getD_eq_getElem?_getD, List.getElem?_eq_getElem hi]
  exact hw _ (List.getElem_mem hi)

theorem last_app {t r : List Nat} (h : r ≠ []) : (t ++ r).getLast? = r.getLast? := by
  rw [List.getLast?_append, List.getLast?_eq_some_getLast h]
  rfl
theorem last_no13 {t r : List Nat} (h : ∀ c ∈ r, isEnd c = false) (hr : r ≠ []) : (t ++ r).getLast? ≠ some 13 := by
  intro q
  rw [last_app hr] at q
  have := h 13 (List.mem_of_getLast? q)
  exact absurd this (by decide)
theorem tl_no {x : Str} (h : tl x = []) : x = NOs := str_eq (h.trans rfl)

theorem fix_text {rs ws : List Str} (hr : ∀ r ∈ rs, Good r) (hw : ∀ e ∈ ws, EndS e) : ∀ i, i ≤ ws.length → fixL (textN rs ws i) = joinL ((keptN rs ws i).map tl) := by
  intro i
  induction i using Nat.strongRecOn with
  | _ i ih =>
    cases i with
    | zero => intro _; exact fixL_C _ (sAt_ends hr 0)
    | succ i =>
      intro hi
      have hrow := sAt_ends hr (i + 1)
      have ihi := ih i (Nat.lt_succ_self i) (by omega)
      have hne : (keptN rs ws i).map tl ≠ [] := by
        intro q
        have := keptN_pos rs ws i
        rw [List.map_eq_nil_iff.mp q] at this
        exact absurd this (by simp)
      show fixL (textN rs ws i ++ (tl (sAt ws i) ++ tl (sAt rs (i + 1)))) = joinL ((keptN rs ws (i + 1)).map tl)
      have plain : ¬ (i ≠ 0 ∧ sAt ws i = LFs ∧ sAt ws (i - 1) = CRs ∧ sAt rs i = NOs) → joinL ((keptN rs ws (i + 1)).map tl) = fixL (textN rs ws i) ++ 13 :: 10 :: tl (sAt rs (i + 1)) := by
        intro hc
        rw [keptN, if_neg hc, List.map_append, ihi]
        exact joinL_snoc _ _ hne
      rcases sAt_end hw (i := i) (by omega) with e | e | e
      · rw [plain (by rw [e]; exact fun q => absurd q.2.1 (by decide)), e]
        show fixL (textN rs ws i ++ 13 :: 10 :: tl (sAt rs (i + 1))) = _
        rw [fixL_A _ _ _ (Nat.le_refl _), fixL_crlf, fixL_C _ hrow]
      · rw [e]
        show fixL (textN rs ws i ++ 10 :: tl (sAt rs (i + 1))) = _
        by_cases hc : i ≠ 0 ∧ sAt ws i = LFs ∧ sAt ws (i - 1) = CRs ∧ sAt rs i = NOs
        · obtain ⟨j, rfl⟩ : ∃ j, i = j + 1 := ⟨i - 1, by omega⟩
          obtain ⟨_, _, c2, c3⟩ := id hc
          rw [show j + 1 - 1 = j from rfl] at c2
          have ihj := ih j (by omega) (by omega)
          have et : textN rs ws (j + 1) = textN rs ws j ++ [13] := by
            rw [textN, c2, c3]; rfl
          have ek : keptN rs ws (j + 1) = keptN rs ws j ++ [sAt rs (j + 1)] := by
            rw [keptN, if_neg]
            rw [c2]
            exact fun q => absurd q.2.1 (by decide)
          rw [et, List.append_assoc]
          show fixL (textN rs ws j ++ 13 :: 10 :: tl (sAt rs (j + 1 + 1))) = _
          rw [fixL_A _ _ _ (Nat.le_refl _), fixL_crlf, fixL_C _ hrow, keptN, if_pos hc, ek, List.dropLast_concat, List.map_append, ihj]
          refine (joinL_snoc _ _ ?_).symm
          intro q
          have := keptN_pos rs ws j
          rw [List.map_eq_nil_iff.mp q] at this
          exact absurd this (by simp)
        · rw [plain hc, fixL_B _ _ _ (Nat.le_refl _), fixL_C _ hrow]
          cases i with
          | zero =>
            intro q
            exact absurd (sAt_ends hr 0 13 (List.mem_of_getLast? q)) (by decide)
          | succ j =>
            rw [textN, ← List.append_assoc]
            by_cases hn : tl (sAt rs (j + 1)) = []
            · rw [hn, List.append_nil]
              have hcr : sAt ws j ≠ CRs := fun q => hc ⟨by omega, e, q, tl_no hn⟩
              intro q
              rcases sAt_end hw (i := j) (by omega) with e2 | e2 | e2
              · rw [e2] at q
                rw [last_app (by simp [tl])] at q
                simp [tl] at q
              · rw [e2] at q
                rw [last_app (by simp [tl])] at q
                simp [tl] at q
              · exact hcr e2
            · exact last_no13 (sAt_ends hr (j + 1)) hn
      · rw [plain (by rw [e]; exact fun q => absurd q.2.1 (by decide)), e]
        show fixL (textN rs ws i ++ 13 :: tl (sAt rs (i + 1))) = _
        rw [fixL_A _ _ _ (Nat.le_refl _), fixL_cr_row _ hrow]
end Mine
end

section
open PySem PySem.W PyProof.Rows
set_option Elab.async false
set_option maxRecDepth 100000
namespace Mine
def dotL (x : List Nat) : List Nat := if x.head? = some 46 then 46 :: x else x
theorem quote_run : ∀ (r t : List Nat), (∀ c ∈ r, isEnd c = false) → quoteL false (r ++ t) = r ++ quoteL false t
  | [], _, _ => rfl
  | c :: r, t, h => by
    have hc := h c (.head _)
    have h10 : (c == 10) = false := by
      unfold isEnd at hc
      exact (Bool.or_eq_false_iff.mp hc).1
    show quoteL false (c :: (r ++ t)) = _
    rw [quoteL, if_neg (by simp), h10, quote_run r t fun d hd => h d (.tail _ hd)]
    rfl
theorem quote_row (r t : List Nat) (h : ∀ c ∈ r, isEnd c = false) (hr : r ≠ []) : quoteL true (r ++ t) = dotL r ++ quoteL false t := by
  cases r with
  | nil => exact absurd rfl hr
  | cons c r =>
    have hc := h c (.head _)
    have h10 : (c == 10) = false := by
      unfold isEnd at hc
      exact (Bool.or_eq_false_iff.mp hc).1
    have hrun := quote_run r t fun d hd => h d (.tail _ hd)
    show quoteL true (c :: (r ++ t)) = _
    rw [quoteL]
    unfold dotL
    by_cases h46 : c = 46
    · rw [if_pos (by simp [h46]), if_pos (by rw [h46]; rfl), hrun, h46]; rfl
    · rw [if_neg (by simp [h46]), if_neg (by simpa using h46), h10, hrun]; rfl
theorem quote_Q1 (r t : List Nat) (h : ∀ c ∈ r, isEnd c = false) : quoteL true (r ++ 13 :: 10 :: t) = dotL r ++ 13 :: 10 :: quoteL true t := by
  by_cases hr : r = []
  · subst hr; rfl
  · rw [quote_row r _ h hr]; rfl
theorem quote_Q2 (r : List Nat) (h : ∀ c ∈ r, isEnd c = false) : quoteL true r = dotL r := by
  by_cases hr : r = []
  · subst hr; rfl
  · have := quote_row r [] h hr
    rw [List.append_nil] at this
    rw [this]
    exact List.append_nil _
theorem quote_join : ∀ ls : List (List Nat), (∀ r ∈ ls, ∀ c ∈ r, isEnd c = false) → quoteL true (joinL ls) = joinL (ls.map dotL)
  | [], _ => rfl
  | [r], h => quote_Q2 r (h r (.head _))
  | r :: q :: ls, h => by
    show quoteL true (r ++ 13 :: 10 :: joinL (q :: ls)) = dotL r ++ 13 :: 10 :: joinL ((q :: ls).map dotL)
    rw [quote_Q1 r _ (h r (.head _)), quote_join (q :: ls) fun x hx => h x (.tail _ hx)]
theorem tl_dotS (x : Str) : tl (dotS x) = dotL (tl x) := by
  unfold dotS dotL
  have e : x.cps[0]? = (tl x).head? := by
    rw [List.head?_eq_getElem?, Array.getElem?_toList]
  rw [e]
  split
  · show (#[46] ++ x.cps).toList = _
    rw [Array.toList_append]; rfl
  · rfl
theorem quoteS_join (ks : List Str) (h : ∀ r ∈ ks, Good r) : quoteS (Txt.join CR ks) = Txt.join CR (ks.map dotS) := by
  apply str_eq
  rw [tl_join]
  show quoteL true (tl (Txt.join CR ks)) = _
  rw [tl_join, quote_join, List.map_map, List.map_map]
  · congr 1
    exact List.map_congr_left fun x _ => (tl_dotS x).symm
  · intro r hr
    obtain ⟨x, hx, rfl⟩ := List.mem_map.mp hr
    exact (h x hx).ends

theorem quote_map (g : Nat → Nat) (h46 : ∀ c, g c = 46 ↔ c = 46) (h10 : ∀ c, g c = 10 ↔ c = 10) : ∀ (l : List Nat) (b : Bool), quoteL b (l.map g) = (quoteL b l).map g
  | [], _ => rfl
  | c :: l, b => by
    have e1 : (g c == 46) = (c == 46) := by rw [Bool.eq_iff_iff, beq_iff_eq, beq_iff_eq]; exact h46 c
    have e2 : (g c == 10) = (c == 10) := by rw [Bool.eq_iff_iff, beq_iff_eq, beq_iff_eq]; exact h10 c
    have e3 : g 46 = 46 := (h46 46).mpr rfl
    rw [List.map_cons, quoteL, quoteL, e1, e2]
    split
    · rw [quote_map g h46 h10 l false, List.map_cons, List.map_cons, e3]
    · rw [quote_map g h46 h10 l, List.map_cons]
theorem oct_nat (c : Nat) : ((octN c).toNat.toUInt8).toNat = (octN c).toNat := by
  have := octN_in c
  rw [Nat.toUInt8_eq, UInt8.toNat_ofNat']
  omega
theorem oct_small (c d : Nat) (hd : d < 128) : (octN c).toNat = d ↔ c = d := by
  unfold octN
  split
  · constructor <;> omega
  · have h1 := Int.fmod_nonneg_of_pos (c : Int) (b := 128) (by decide)
    constructor <;> omega
theorem quoteB_oct (x : Str) : quoteB (octS x) = octS (quoteS x) := by
  have e1 : (octS x).toList.map (·.toNat) = (tl x).map fun c => (octN c).toNat := by
    unfold octS byteArr
    rw [List.toList_toArray, List.map_map, List.map_map]
    exact List.map_congr_left fun c _ => oct_nat c
  unfold quoteB
  rw [e1, quote_map _ (fun c => oct_small c 46 (by omega)) (fun c => oct_small c 10 (by omega))]
  unfold octS byteArr quoteS
  simp only [List.map_map]
  rfl

theorem good_NOs : Good NOs := ⟨fun c hc => absurd hc (by simp [NOs]), by decide⟩
theorem sAt_Good {rs : List Str} (hr : ∀ r ∈ rs, Good r) (i : Nat) : Good (sAt rs i) := by
  unfold sAt
  rw [List.getD_eq_getElem?_getD]
  cases e : rs[i]? with
  | none => exact good_NOs
  | some x => exact hr x (List.mem_of_getElem? e)
theorem keptN_good {rs ws : List Str} (hr : ∀ r ∈ rs, Good r) : ∀ i, ∀ r ∈ keptN rs ws i, Good r
  | 0, r, h => by
    rw [keptN, List.mem_singleton] at h
    rw [h]; exact sAt_Good hr 0
  | i + 1, r, h => by
    rw [keptN] at h
    rcases List.mem_append.mp h with h | h
    · split at h
      · exact keptN_good hr i r (List.dropLast_subset _ h)
      · exact keptN_good hr i r h
    · rw [List.mem_singleton.mp h]; exact sAt_Good hr (i + 1)

theorem tl_join0 (l : List Str) : tl (Txt.join (Str.ofString "") l) = (l.map tl).flatten := by
  rw [show Str.ofString "" = ⟨#[]⟩ by decide +kernel]
  unfold Txt.join
  rw [StrLaws.glued_eq_join]
  induction l with
  | nil => rfl
  | cons x r ih => rw [PyProof.Rows.join_nil_cons, tl_append, ih]; rfl
theorem text_take (rs ws : List Str) (hl : rs.length = ws.length + 1) : ∀ i, i ≤ ws.length → textN rs ws i = tl (sAt rs 0) ++ (((List.zipWith (· ++ ·) ws (rs.drop 1)).take i).map tl).flatten
  | 0, _ => by simp [textN]
  | i + 1, hi => by
    have e : (List.zipWith (· ++ ·) ws (rs.drop 1))[i]? = some (sAt ws i ++ sAt rs (i + 1)) := by
      rw [List.getElem?_zipWith, List.getElem?_drop, List.getElem?_eq_getElem (show i < ws.length by omega), List.getElem?_eq_getElem (show 1 + i < rs.length by omega)]
      unfold sAt
      rw [List.getD_eq_getElem?_getD, List.getD_eq_getElem?_getD, List.getElem?_eq_getElem (show i < ws.length by omega), List.getElem?_eq_getElem (show i + 1 < rs.length by omega)]
      simp only [Option.getD_some, Nat.add_comm 1 i]
    rw [textN, text_take rs ws hl i (by omega), List.take_add_one, e, List.map_append, List.flatten_append]
    simp only [Option.toList_some, List.map_cons, List.map_nil, List.flatten_cons, List.flatten_nil, List.append_nil, List.append_assoc, tl_append]
theorem tl_letter (rs ws : List Str) (hl : rs.length = ws.length + 1) : tl (letterOf rs ws) = textN rs ws ws.length := by
  rw [text_take rs ws hl _ (Nat.le_refl _), List.take_of_length_le (by rw [List.length_zipWith]; omega)]
  unfold letterOf
  rw [tl_append, tl_join0]
theorem fix_letter {rs ws : List Str} (hl : rs.length = ws.length + 1) (hr : ∀ r ∈ rs, Good r) (hw : ∀ e ∈ ws, EndS e) : fixL (tl (letterOf rs ws)) = joinL ((keptN rs ws ws.length).map tl) := by
  rw [tl_letter rs ws hl]
  exact fix_text hr hw _ (Nat.le_refl _)
theorem letter_len {rs ws : List Str} (hr : ∀ r ∈ rs, Good r) (hw : ∀ e ∈ ws, EndS e) (hk : ws.length ≤ 3) : (letterOf rs ws).length ≤ 103 := by
  have h1 := turn_join (rs := rs) hw hr hk
  have h2 := join_len (Str.ofString "") (List.zipWith (· ++ ·) ws (rs.drop 1))
  have h3 := (sAt_Good hr 0).short
  have h4 : (letterOf rs ws).length = (sAt rs 0).length + (Txt.join (Str.ofString "") (List.zipWith (· ++ ·) ws (rs.drop 1))).length := Array.size_append
  omega
theorem fits_of {x : Str} {ks : List Str} (hf : fixL (tl x) = joinL (ks.map tl)) (hg : ∀ r ∈ ks, Good r) (hk : ks.length ≤ 1000) (hx : x.length ≤ 400000) : FitsP x ks := by
  have e : fixS x = Txt.join CR ks := by
    apply str_eq
    rw [tl_join, ← hf]
    rfl
  have hq := quoteS_join ks hg
  have hs := sum_bound 3 ks fun r hr => (hg r hr).short
  exact ⟨by rw [e, hq], e, by rw [quoteB_oct, hq], by omega, hx⟩
theorem turn_fits {rs ws : List Str} (hl : rs.length = ws.length + 1) (hr : ∀ r ∈ rs, Good r) (hw : ∀ e ∈ ws, EndS e) (hk : ws.length ≤ 3) : FitsP (letterOf rs ws) (keptN rs ws ws.length) :=
  fits_of (fix_letter hl hr hw) (keptN_good hr _) (by have := keptN_length rs ws ws.length; omega) (Nat.le_trans (letter_len hr hw hk) (by omega))

theorem fix_join : ∀ ls : List (List Nat), fixL (joinL ls) = joinL (ls.map fixL)
  | [] => rfl
  | [r] => rfl
  | r :: q :: ls => by
    show fixL (r ++ 13 :: 10 :: joinL (q :: ls)) = fixL r ++ 13 :: 10 :: joinL ((q :: ls).map fixL)
    rw [fixL_A _ _ _ (Nat.le_refl _), fixL_crlf, fix_join (q :: ls)]
theorem crlf_eq : Str.ofString "\r\n" = CR := by decide +kernel
theorem CR_len : CR.length = 2 := rfl
theorem kept_count {rs : List Str} {k : Nat} : ∀ wss : List (List Str), ((wss.map fun ws => keptN rs ws k).flatten).length ≤ wss.length * (k + 1)
  | [] => by simp
  | ws :: wss => by
    have h1 := keptN_length rs ws k
    have h2 := kept_count (rs := rs) (k := k) wss
    simp only [List.map_cons, List.flatten_cons, List.length_append, List.length_cons, Nat.succ_mul]
    omega
theorem nine_all {rs : List Str} {k d e : Nat} {ts : List Str} {kss : List (List Str)} (hm : Made rs k ts kss) (hl : rs.length = k + 1) (hr : ∀ r ∈ rs, Good r) (hk : k ≤ 3) (hd : d = ts.length - 9) (he : e = d) :
    ((ts.drop d).map (·.length)).sum + (ts.drop d).length * (Str.ofString "\r\n").length ≤ 16777216 ∧ (kss.drop e).flatten.length ≤ 10000 ∧ FitsP (Txt.join (Str.ofString "\r\n") (ts.drop d)) (kss.drop e).flatten := by
  subst he
  obtain ⟨wss, hw, rfl, rfl⟩ := hm
  rw [List.length_map] at hd
  rw [crlf_eq, ← List.map_drop, ← List.map_drop]
  have hw' : ∀ ws ∈ wss.drop e, ws.length = k ∧ ∀ e ∈ ws, EndS e := fun ws h => hw ws (List.mem_of_mem_drop h)
  have hn : (wss.drop e).length ≤ 9 := by rw [List.length_drop]; omega
  generalize wss.drop e = wz at hw' hn
  have hs := sum_bound 103 (wz.map (letterOf rs)) (by
    intro y hy
    obtain ⟨ws, h1, rfl⟩ := List.mem_map.mp hy
    obtain ⟨h2, h3⟩ := hw' ws h1
    exact letter_len hr h3 (by omega))
  rw [List.length_map] at hs
  have hc := kept_count (rs := rs) (k := k) wz
  have hc2 : wz.length * (k + 1) ≤ 9 * 4 := Nat.mul_le_mul hn (by omega)
  have hj := join_len CR (wz.map (letterOf rs))
  rw [List.length_map, CR_len] at hj
  refine ⟨by rw [List.length_map, CR_len]; omega, by omega, fits_of ?_ ?_ (by omega) (by omega)⟩
  · rw [tl_join, fix_join, List.map_map, List.map_map, List.map_flatten, List.map_map, ← joinL_flatten, List.map_map]
    · congr 1
      refine List.map_congr_left fun ws h => ?_
      obtain ⟨h2, h3⟩ := hw' ws h
      subst h2
      exact fix_letter hl hr h3
    · intro l hl'
      obtain ⟨ws, h, rfl⟩ := List.mem_map.mp hl'
      intro q
      have := keptN_pos rs ws k
      rw [show keptN rs ws k = [] from List.map_eq_nil_iff.mp q] at this
      exact absurd this (by simp)
  · intro r h
    obtain ⟨l, h1, h2⟩ := List.mem_flatten.mp h
    obtain ⟨ws, h3, rfl⟩ := List.mem_map.mp h1
    exact keptN_good hr k r h2
end Mine
end

section
open PySem PySem.W PyProof.Rows
set_option Elab.async false
set_option maxRecDepth 100000
namespace Mine
theorem upd_tx {Tx Cm K : Addr} {o o' oc ok : Obj} {own : List (Addr × Obj)} (hTC : Tx ≠ Cm) (hK : K ≠ Tx) (ho : ∀ p ∈ own, p.1 ≠ Tx) : Upd Tx o o' ((Tx, o) :: (Cm, oc) :: (K, ok) :: own) ((Tx, o') :: (Cm, oc) :: (K, ok) :: own) := by
  refine .head fun p hp => ?_
  rcases List.mem_cons.mp hp with rfl | hp
  · exact Ne.symm hTC
  · rcases List.mem_cons.mp hp with rfl | hp
    · exact hK
    · exact ho p hp
theorem upd_cm {Tx Cm K : Addr} {ot o o' ok : Obj} {own : List (Addr × Obj)} (hTC : Tx ≠ Cm) (hK : K ≠ Cm) (ho : ∀ p ∈ own, p.1 ≠ Cm) : Upd Cm o o' ((Tx, ot) :: (Cm, o) :: (K, ok) :: own) ((Tx, ot) :: (Cm, o') :: (K, ok) :: own) := by
  refine .tail hTC (.head fun p hp => ?_)
  rcases List.mem_cons.mp hp with rfl | hp
  · exact hK
  · exact ho p hp
local macro_rules | `(tactic| walk_at "call ref") => `(tactic| (k_here; k_dflt (first
  | (refine' fits_K2 ?k1 ?k2 ?k3 ?k4 ?k5 ?k6 ?k7 ?k8 ?k9 ?_; (case k1 => k_asm); (case k2 => k_asm); (case k3 => k_asm); (case k4 => k_asm); (case k5 => (simp only [depth_deeper]; omega)); (case k6 => assumption); (case k7 => first | assumption | exact list_of_news (by k_asm) (.tail _ (.tail _ (.head _)))); (case k8 => assumption); (case k9 => assumption); intro h' tk' F' N'; (try dsimp only))
  | (refine' kept_K2 ?k1 ?k2 ?k3 ?k4 ?k5 ?k6 ?k7 ?k8 ?k9 ?k10 ?k11 ?k12 ?_; (case k1 => k_asm); (case k2 => k_asm); (case k3 => k_asm); (case k4 => k_asm); (case k5 => (simp only [depth_deeper]; omega)); (case k6 => assumption); (case k7 => assumption); (case k8 => assumption); (case k9 => assumption); (case k10 => assumption); (case k11 => omega); (case k12 => omega); intro K' kv' nK' h' tk' F' N' hKa' hKb' hKo' hkS'; (try dsimp only))
  | (refine' words_K2 _ ?k0 ?k1 ?k2 ?k3 ?k4 ?k5 ?k6 ?k7 ?_; (case k1 => k_asm); (case k2 => k_asm); (case k3 => k_asm); (case k4 => k_asm); (case k5 => (simp only [depth_deeper]; omega)); (case k6 => assumption); (case k7 => assumption); (case k0 => omega); intro D' us' n' h' tk' F' N' hD' hk' hDD' hl' hg'; (try dsimp only))
  | (refine' rows_K2 ?k1 ?k2 ?k3 ?k4 ?k5 ?k6 ?k7 ?k8 ?k9 ?_; (case k1 => k_asm); (case k2 => k_asm); (case k3 => k_asm); (case k4 => k_asm); (case k5 => (simp only [depth_deeper]; omega)); (case k6 => assumption); (case k7 => is_list); (case k8 => assumption); (case k9 => assumption); intro D' us' n' rs' k' h' tk' F' N' hne' hrs' hrl' hk3' hus' hgood'; (try dsimp only); (try k_sweep)))))
local macro_rules | `(tactic| walk_at "exec For") => `(tactic| (k_here; k_dflt (refine for_heap (by rfl) (by rfl) ?_)))
local macro_rules | `(tactic| walk_at "exec For Name Call cons nil") => `(tactic| (k_here; k_dflt (refine for_heap (by rfl) (by rfl) ?_)))
local macro_rules | `(tactic| walk_at "subscriptTail") => `(tactic| (k_here; (with_reducible show wpAny _ _ (subscriptTail _ _ (Value.ref _) (Value.int _ _)) _ _ _); k_dflt (refine item_strsR (list_of_news (by k_asm) (.tail _ (.tail _ (.tail _ (by assumption))))) (by assumption) (by decide) (by omega) (by decide) ?_; intro _)))
local macro_rules | `(tactic| walk_at "subscriptTail Name Slice ref ref") => `(tactic| (k_here; k_dflt (refine' kms_slice_lit ?F ?N ?l ?p ?q ?e ?_ ?s ?t ?z; (case F => k_asm); (case N => k_asm); (case l => first | exact list_of_news (by k_asm) (.tail _ (.tail _ (.tail _ (by assumption)))) | exact list_of_news (by k_asm) (.head _) | exact list_of_news (by k_asm) (.tail _ (.tail _ (.head _)))); (case p => kmk_part); (case q => kmk_part); (case e => first | exact pick_1 _ | exact pick_9 _); (case s => with_unfolding_all rfl); (case t => kmk_pure); (case z => assumption)); intro D' h' F' N' l1))
local macro_rules | `(tactic| walk_at "eval ListComp") => `(tactic| (k_here; k_dflt (first | ((with_reducible show wpAny _ _ (eval (PySem.Expr.ListComp (PySem.Expr.BinOp _ _ _ _) _ _ _) _) _ _ _); refine ListComp_Z (by rfl) (by decide) (by rfl) (by decide) (by rfl) (by rfl) (by decide) (by decide) (by decide) ?_) | refine ListComp_L (by rfl) (by decide) (by rfl) (by decide) (by rfl) (by rfl) (by decide) (by decide) (by decide) ?_)))
local macro_rules | `(tactic| walk_at "call type:zip") => `(tactic| (k_here; k_dflt (refine' zip_K ?F ?N ?l1 ?l2 ?x ?y ?h ?a ?b ?c ?d ?_; (case F => k_asm); (case N => k_asm); (case l1 => exact list_of_news (by k_asm) (.tail _ (.tail _ (.tail _ (.tail _ (by assumption)))))); (case l2 => exact list_of_news (by k_asm) (.head _)); (case x => assumption); (case y => assumption); (case h => assumption); (case a => assumption); (case b => assumption); (case c => assumption); (case d => assumption); intro D' vs' h' tk' F' N' hl' hs'; (try dsimp only))))
local macro_rules | `(tactic| walk_at "call builtin:str.join") => `(tactic| (k_here; k_dflt (refine' join_list ?l ?i ?o ?_; (case l => first | assumption | exact list_of_news (by k_asm) (.head _)); (case i => assumption); (case o => assumption); intro t' k')))
local macro_rules | `(tactic| walk_at "binaryOp Add str str") => `(tactic| (k_here; k_dflt (refine' PyProof.Rows.add_str ?_ ?z; (case z => assumption); intro t' k')))
local macro_rules | `(tactic| walk_at "call builtin:list.append") => `(tactic| (k_here; k_dflt (refine' append_K ?k1 ?k2 ?k3 ?_ ?z; (case k1 => k_asm); (case k2 => k_asm); (case k3 => first | exact upd_tx (by assumption) (by assumption) (by assumption) | exact upd_cm (by assumption) (by assumption) (by assumption)); (case z => assumption); k_whole); intro h' F' N'))
set_option maxHeartbeats 8000000
theorem law_spec {w : World} {A : Around} {s : Shared} {mean mg mb} {R : Result → Shared → Prop} (X : (hd.heap_39 w.params).In s.heap) (T : Top hd.view_39 LS mean mg mb s.heap)
    (hroom : A.depth + 20 < recursionLimit) (hh : A.handled = none) {sa : Addr} {sv : List Value} {ns : List Int} (hl : s.heap.IsList sa sv.toArray) (hi : IntsAre sv ns) (hn : ns.length ≤ 63)
    (post : ∀ h' tk', (∀ b o, s.heap.get? b = some o → h'.get? b = some o) → R (.ok (.ret (.bool true))) { s with heap := h', toks := tk' }) :
    codeAny (model PG w) A (.call (.ref 108) { pos := [.ref sa] }) R s := by
  have : hd.heap_39 = hd.heap_39 ∧ PySem.Challenge.rw_om0212_01 = PySem.Challenge.rw_om0212_01 := by
    k_fill
    exact ⟨rfl, rfl⟩
  clear this
  refine' enterD X T.nolimit ?k6 ?k7 ?k8 ?k9 ?kB ?_ ?c5 ?c2 ?c3 ?c4
  (case k6 => k_is); (case k7 => k_is); (case k8 => omega)
  (case k9 => exact BindsTo.of_eq (binds := [(Str.ofString "script", .ref sa)]) rfl)
  (case c5 => decide); (case kB => exact locs rfl); (case c2 => exact rfl); (case c3 => exact rfl); (case c4 => exact rfl)
  intro L' h' F' N'
  try dsimp only
  k_fold
  w_on
  iterate 44 (all_goals (first | (k_unfold; (try dsimp only)) | walk1 | (dsimp only; walk1)))
  rename_i Rw us nR rs k h6 tk6 hne hrs hrl hk3 hus hgood h5 Tx h4 lt1 h3 Cm h2 lt2 h1 F1 N1 D uw nD hC tkC FC NC hD hkC hDC hul hgw
  dsimp only at hD hkC hgw
  have hold : ∀ b o, h1.get? b = some o → b ≠ D := fun b o e => ne_of_new e hD
  have hnone : ∀ a, h1.get? a = none → s.heap.get? a = none := by
    intro a ha
    cases e : s.heap.get? a with
    | none => rfl
    | some o => have := F1.keep a o e; rw [ha] at this; cases this
  obtain ⟨oL, _, _, eL, _⟩ := id F1.ns
  have eC := (N1 _ (.head _)).1
  have eT := (N1 _ (.tail _ (.head _))).1
  have eR := (N1 _ (.tail _ (.tail _ (.head _)))).1
  refine law_for (h₀ := s.heap) (rs := rs) (k := k) ?f1 FC ⟨?f2, ?f3, ?f4⟩ NC ?f5 ?f6 ?f7 hDC (hnone _ hD) (Ne.symm (hold _ _ eL)) (Ne.symm (hold _ _ eT)) (Ne.symm (hold _ _ eC)) (Ne.symm (hold _ _ eR)) hul ?f8 ?turn ?fin
  case f1 => exact hh
  case f2 => rfl
  case f3 => rfl
  case f4 => rfl
  case f5 => exact Nat.ne_of_lt lt2.1
  case f6 => exact Nat.ne_of_lt lt1
  case f7 => exact Nat.ne_of_lt lt2.2
  case f8 =>
    intro v hv
    obtain ⟨a, wv, nn, ws, rfl, hN, haS, ea, r⟩ := hgw v hv
    refine ⟨a, wv, nn, ws, rfl, hnone _ hN, ?_, ea, r⟩
    intro q
    simp only [List.mem_cons, List.not_mem_nil, or_false] at q
    rcases q with q | q | q | q | q
    · exact ne_of_new eL hN q.symm
    · exact ne_of_new eR hN q.symm
    · exact ne_of_new eT hN q.symm
    · exact ne_of_new eC hN q.symm
    · exact haS (by rw [q]; simp)
  case turn =>
    intro aw wv nn ws tv nt cv nc ts own u h tk E' F N o1 o2 hTC hR hW hws hwl hwe hts htl hcl
    change Fr s.heap L' h _ at F
    change News s.heap L' h _ at N
    have hroomD : A.depth + 20 < recursionLimit := hroom
    have hzu : us.toArray.size ≤ sizeLine := by rw [hus, sizeLine_eq]; omega
    have hzt : tv.toArray.size ≤ sizeLine := by rw [List.size_toArray, sizeLine_eq]; omega
    have hzc : cv.toArray.size ≤ sizeLine := by rw [List.size_toArray, sizeLine_eq]; omega
    have hrs1 := strs_drop 1 hrs
    have hwk : ws.length ≤ 3 := by omega
    have q1 : ws.length = (rs.drop 1).length := by rw [List.length_drop]; omega
    have q2 : ws.length ≤ 1000 := by omega
    have q3 : ∀ y ∈ ws, y.length ≤ 1000 := fun y hy => Nat.le_trans (ends_len (hwe y hy)) (by omega)
    have q4 : ∀ y ∈ rs.drop 1, y.length ≤ 1000 := fun y hy => Nat.le_trans (hgood y (List.mem_of_mem_drop hy)).short (by omega)
    have q5 := Nat.le_trans (turn_join (rs := rs) hwe hgood hwk) (show 100 ≤ 16777216 by omega)
    have q6 := turn_add (rs := rs) hwe hgood hwk
    have P : FitsP (rs.getD (0 : Int).toNat Str.empty ++ Txt.join (Str.ofString "") (List.zipWith (· ++ ·) ws (rs.drop 1))) (keptN rs ws ws.length) := turn_fits (by omega) hgood hwe hwk
    dsimp only
    repeat' (first | (k_unfold; (try dsimp only)) | walk1 | (dsimp only; walk1))
    refine' turnA_mk ?f ?n ?a ?b ?c ?s hwl ?x ?y ?z
    (case f => assumption)
    (case n => assumption)
    (case a => rfl)
    (case b => rfl)
    (case c => rfl)
    (case s => assumption)
    (case x => assumption)
    (case y => assumption)
    (case z => assumption)
  case fin =>
    intro tv nt cv nc ts kss u h tk F eTx nTx hTL hts eCm hca htl hmade
    change Fr s.heap L' h _ at F
    have nCm := NC _ (.head _)
    obtain ⟨own, o1, o2⟩ := own_all h s.heap [L', Tx, Cm]
    have N : News s.heap L' h ((Tx, listOf tv.toArray nt) :: (Cm, listOf cv.toArray nc) :: own) := by
      intro p hp
      rcases List.mem_cons.mp hp with rfl | hp
      · exact ⟨eTx, hTL, nTx⟩
      · rcases List.mem_cons.mp hp with rfl | hp
        · exact ⟨eCm, nCm.2⟩
        · have := o1 p hp
          exact ⟨this.1, fun q => this.2.1 (by rw [q]; simp), this.2.2⟩
    have hco : CameOwn own cv kss := by
      refine ⟨hca.1, fun j v hv => ?_⟩
      obtain ⟨a, kv, n, ks, rfl, hS, hn, ha, r⟩ := hca.2 j v hv
      exact ⟨a, kv, n, ks, rfl, o2 _ _ ha hS hn, r⟩
    obtain ⟨parts, hparts, hflat⟩ := (hco.drop (cv.length - 9)).parts
    have htv : tv.length = ts.length := strs_len2 hts
    have hcv : cv.length = ts.length := by
      obtain ⟨wss, _, e1, e2⟩ := hmade
      rw [hca.1, e1, e2, List.length_map, List.length_map]
    have hzt : tv.toArray.size ≤ sizeLine := by rw [List.size_toArray, sizeLine_eq]; omega
    have hzc : cv.toArray.size ≤ sizeLine := by rw [List.size_toArray, sizeLine_eq]; omega
    have hts9 := strs_drop (tv.length - 9) hts
    have q5 : ((ts.drop (tv.length - 9)).map (·.length)).sum + (ts.drop (tv.length - 9)).length * (Str.ofString "\r\n").length ≤ 16777216 := (nine_all (e := cv.length - 9) hmade hrl hgood hk3 (by omega) (by omega)).1
    have q6 : parts.flatten.length ≤ 10000 := by
      rw [strs_len2 hflat]
      exact (nine_all (d := tv.length - 9) hmade hrl hgood hk3 (by omega) (by omega)).2.1
    have P9 : FitsP (Txt.join (Str.ofString "\r\n") (ts.drop (tv.length - 9))) (kss.drop (cv.length - 9)).flatten := (nine_all hmade hrl hgood hk3 (by omega) (by omega)).2.2
    clear hmade hca hco o1 o2 hgw hold hnone N1 F1 NC FC
    dsimp only
    repeat' (first | (k_unfold; (try dsimp only)) | walk1 | (dsimp only; walk1))
    rename Fr _ _ _ _ => Fz
    rename News _ _ _ _ => Nz
    refine ⟨_, _, parts, rfl, hh, list_of_news Nz (.head _), hparts _ _ _ _ Nz (fun p hp => .tail _ (.tail _ (.tail _ (.tail _ hp)))), q6, ?_⟩
    intro Dz hz tkz hkz hDz
    have Fz' := Fz.grownK hkz
    have Nz' := Nz.grown hkz
    have hDl : hz.IsList Dz parts.flatten.toArray := ⟨_, hDz, rfl, _, rfl⟩
    dsimp only
    repeat' (first | (k_unfold; (try dsimp only)) | walk1 | (dsimp only; walk1))
    rename Fr _ _ _ _ => Fe
    exact post _ _ Fe.keep
end Mine
end

section
open PySem PySem.W PyProof.Rows
set_option Elab.async false
namespace Mine
set_option maxRecDepth 100000
set_option maxHeartbeats 8000000
theorem fin0 : PySem.Challenge.rw_om0212_01.Holds := hd (by
  k_fill
  intro w s₀ s₁ mg mb G Y fa o pm cd doc dV kV ho hd hcd hD hmg hg args vals as hpre hlay hrd hwl hlo
  have KX := kIn_of Y
  have X := (Ground.X G).1
  refine Ground.open G ?_
  intro T B D TE TW
  have e108 : mg (Str.ofString "law") = some (.ref 108) := mg_of KX T.g (by k_is)
  have hfa : fa = 108 := by
    have := hmg.symm.trans e108
    injection this with this
    injection this
  clear hd hcd hD ho hmg e108
  wrow_args hpre hlay hrd hwl hlo
  all_goals
    (first | refine callC_kw (enter_call ?_) | refine enter_call ?_ | refine callC_kw (enter_callW ?_) | refine enter_callW ?_)
    try refine codeAny_mono ?_ (fun _ _ g => GoodW.toG g)
    subst hfa
    refine law_spec KX T (by decide) rfl (by assumption) (by assumption) (by omega) fun h' tk' hk => ?_
    refine ⟨.inl ⟨.bool true, .bool true, [], rfl, raisesW_false ?_, .bool true, ?_, unshared_nil⟩, hk, rfl, hg⟩
    · wrow_none_raised
    · kc_post)
end Mine
end

set_option maxRecDepth 100000 in
set_option maxHeartbeats 8000000 in
theorem PySem.Challenge.cw_om0212_01_holds : PySem.Challenge.rw_om0212_01.Holds := by
  exact Mine.fin0
